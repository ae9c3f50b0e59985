import JvmDerived
import JvmDerived.Pilot.@@N@@Statement
import JvmDerived.Pilot.@@N@@Code
set_option linter.unusedVariables false
set_option linter.unusedSimpArgs false
namespace Jvm.RoadKit
open Sem ClassFile Op Lib Jvm.Stand Jvm.Free Jvm.LawKit
section New
variable {p : Program} {l : Launch} {e : Env} {R : Room} {s : State} {m : MethodId} {args : Array Value} {below : List Frame} {meth : Method} {c : Code} {T T' : State} {locs : List Loc} {cells slots : Nat}
theorem retI (X : Stand p l e R s m args below meth c T locs cells slots) (hx : p.tables.exec = Jvm.exec) {pc : Nat} {Ls : Array Slot} {z : Int32} {rest : List Value} (hret : meth.sig.returnType = some .int) (hd : decode c.code pc = .ok (.ireturn, 1)) {fs : List Frame}
    (hl : ∀ (f : JFrame) (acts : List Action), f.method = m → f.locked = none → f.entered = [] → (doReturn e (T.setTop f) acts (some (.int z))).1 = T.setFrames fs) : Steps p.tables e below (T.setTop (mkF m pc Ls (.int z :: rest))) (T.setFrames fs) := by
  have hm' : T.vm.method? m = some meth := X.method'
  have hn : narrow .int (.int z) = .int z := rfl
  show Steps p.tables e below (T.setTop { method := m, pc := pc, locals := Ls, stack := _ :: rest, locked := none }) _
  jvm_step X.here [X.here.top, hx, hd, hm', hret, hn]
  first | (intro acts; rw [hl _ acts rfl rfl rfl]) | rw [hl _ _ rfl rfl rfl]
  exact Steps.refl _
/-- from here the run comes to its return, and Q holds of what it returns, of the heap and of what it wrote -/
def Go (p : Program) (e : Env) (below : List Frame) (s : State) (Q : Option Value → Heap → List Loc → Prop) (kc ks : Nat) (T : State) (g : JFrame) : Prop :=
  ∃ s₂ o, Steps p.tables e below (T.setTop g) s₂ ∧ s₂.status = .running ∧ Ended s₂ below o ∧ ∃ v L, o = .returned v ∧ Q v s₂.heap L ∧ FrameEnd s o s₂ L kc ks
variable {Q : Option Value → Heap → List Loc → Prop} {kc ks : Nat} {g g' : JFrame}
theorem Go.step (h : ∀ t, Steps p.tables e below (T'.setTop g') t → Steps p.tables e below (T.setTop g) t) (k : Go p e below s Q kc ks T' g') : Go p e below s Q kc ks T g := by
  obtain ⟨s₂, o, h1, r⟩ := k
  exact ⟨s₂, o, h _ h1, r⟩
theorem Go.cast (q : g = g') (k : Go p e below s Q kc ks T g') : Go p e below s Q kc ks T g := q ▸ k
theorem Go.done (X : Stand p l e R s m args below meth c T locs cells slots) (hlocks : meth.locks = false) {v : Option Value} (hv : meth.sig.returnType = none → v = none)
    (hret : ∀ fs, (∀ (f : JFrame) (acts : List Action), f.method = m → f.locked = none → f.entered = [] → (doReturn e (T.setTop f) acts v).1 = T.setFrames fs) → Steps p.tables e below (T.setTop g) (T.setFrames fs))
    {h : Heap} (eT : T.heap = h) (hQ : Q v h locs) (hc : cells ≤ kc) (hs : slots ≤ ks) : Go p e below s Q kc ks T g := by
  obtain ⟨fs, hr, hrun, hended, hW, hsame⟩ := X.leave hv hlocks
  refine ⟨_, _, hret fs hr, hrun, hended, _, _, rfl, ?_, ⟨_, rfl⟩, hW, hsame.mono hc hs⟩
  show Q v T.heap locs
  rw [eT]
  exact hQ
theorem Go.retV (X : Stand p l e R s m args below meth c T locs cells slots) (hx : p.tables.exec = Jvm.exec) (hlocks : meth.locks = false) (hr : meth.sig.returnType = none) {pc : Nat} {Ls : Array Slot} (hd : decode c.code pc = .ok (.return_, 1))
    {h : Heap} (eT : T.heap = h) (hQ : Q none h locs) (hc : cells ≤ kc) (hs : slots ≤ ks) : Go p e below s Q kc ks T (mkF m pc Ls []) :=
  Go.done X hlocks (fun _ => rfl) (fun fs k => X.returnOut hx hr hd k) eT hQ hc hs
theorem Go.retN (X : Stand p l e R s m args below meth c T locs cells slots) (hx : p.tables.exec = Jvm.exec) (hlocks : meth.locks = false) {t : FieldType} (hr : meth.sig.returnType = some t) (ht : t = .boolean ∨ t = .byte ∨ t = .char ∨ t = .short) {pc : Nat} {Ls : Array Slot} {z : Int32} {st : List Value} (hd : decode c.code pc = .ok (.ireturn, 1))
    {h : Heap} (eT : T.heap = h) (hQ : Q (some (.int (nar t z))) h locs) (hc : cells ≤ kc) (hs : slots ≤ ks) : Go p e below s Q kc ks T (mkF m pc Ls (.int z :: st)) :=
  Go.done X hlocks (fun q => by rw [hr] at q; cases q) (fun fs k => Jvm.RoadKit.retN X hx hr ht hd k) eT hQ hc hs
theorem Go.retI (X : Stand p l e R s m args below meth c T locs cells slots) (hx : p.tables.exec = Jvm.exec) (hlocks : meth.locks = false) (hr : meth.sig.returnType = some .int) {pc : Nat} {Ls : Array Slot} {z : Int32} {st : List Value} (hd : decode c.code pc = .ok (.ireturn, 1))
    {h : Heap} (eT : T.heap = h) (hQ : Q (some (.int z)) h locs) (hc : cells ≤ kc) (hs : slots ≤ ks) : Go p e below s Q kc ks T (mkF m pc Ls (.int z :: st)) :=
  Go.done X hlocks (fun q => by rw [hr] at q; cases q) (fun fs k => Jvm.RoadKit.retI X hx hr hd k) eT hQ hc hs
theorem Go.retJ (X : Stand p l e R s m args below meth c T locs cells slots) (hx : p.tables.exec = Jvm.exec) (hlocks : meth.locks = false) (hr : meth.sig.returnType = some .long) {pc : Nat} {Ls : Array Slot} {z : Int64} {st : List Value} (hd : decode c.code pc = .ok (.lreturn, 1))
    {h : Heap} (eT : T.heap = h) (hQ : Q (some (.long z)) h locs) (hc : cells ≤ kc) (hs : slots ≤ ks) : Go p e below s Q kc ks T (mkF m pc Ls (.long z :: st)) :=
  Go.done X hlocks (fun q => by rw [hr] at q; cases q) (fun fs k => retOut X hx hr rfl (Or.inr (Or.inl ⟨rfl, rfl, _, rfl⟩)) hd k) eT hQ hc hs
theorem Go.retA (X : Stand p l e R s m args below meth c T locs cells slots) (hx : p.tables.exec = Jvm.exec) (hlocks : meth.locks = false) {t : FieldType} (hr : meth.sig.returnType = some t) (ht : t.isReference = true) {w : Value} (hw : w.isRef = true) {pc : Nat} {Ls : Array Slot} {st : List Value} (hd : decode c.code pc = .ok (.areturn, 1))
    {h : Heap} (eT : T.heap = h) (hQ : Q (some w) h locs) (hc : cells ≤ kc) (hs : slots ≤ ks) : Go p e below s Q kc ks T (mkF m pc Ls (w :: st)) :=
  Go.done X hlocks (fun q => by rw [hr] at q; cases q) (fun fs k => retOut X hx hr (by cases t <;> first | (cases ht; done) | (rcases ref_cases hw with rfl | ⟨a, rfl⟩ <;> rfl)) (Or.inr (Or.inr (Or.inr (Or.inr ⟨rfl, ht, hw⟩)))) hd k) eT hQ hc hs
end New
end Jvm.RoadKit
namespace Jvm.Pilot.@@N@@
open Jvm Jvm.ClassFile Sem Op Lib Jvm.Free Jvm.Stand Jvm.LawKit Jvm.RoadKit Bundle Jvm.Pilot.@@N@@.Jvm.D
theorem own_selP {s : State} {args : Array Value} {y : MethodName} {n : Nat} (wi : (Cond.instantiable y.cls n).before args s = true) (hp : s.PrivateAt y) (hinst : (Cond.instanceMethod y).before args s = true) (hy : y.cls ≠ "java/lang/invoke/MethodHandle" ∧ y.cls ≠ "java/lang/invoke/VarHandle") : (Cond.selects y.cls y y).before args s = true := by
  obtain ⟨c, k, h1, h2, -, h4, -⟩ := Cond.instantiable_spec wi
  exact Jvm.Stand.selects_self_of_private h1 h2 (by simp only [Bool.or_eq_false_iff] at h4; exact h4.1) hp hinst hy
theorem own_selQ {s : State} {args : Array Value} {y : MethodName} {C : String} (w : (Cond.selects C y y).before args s = true) (hp : s.PrivateAt y) (hinst : (Cond.instanceMethod y).before args s = true) (hy : y.cls ≠ "java/lang/invoke/MethodHandle" ∧ y.cls ≠ "java/lang/invoke/VarHandle") : (Cond.selects y.cls y y).before args s = true := by
  obtain ⟨mk, methM, hnamed, -, -, -⟩ := Cond.instanceMethod_spec hinst
  obtain ⟨kr, h1, h2⟩ := notFace_of_selects w mk hnamed
  exact Jvm.Stand.selects_self_of_private (findClass_of_methodNamed hnamed) h1 h2 hp hinst hy
theorem d9_0 : decode jdk_29_method_65_code 0 = .ok (.iload_n 0, 1) := by decide +kernel
theorem d9_1 : decode jdk_29_method_65_code 1 = .ok (.iload_n 1, 1) := by decide +kernel
theorem d9_2 : decode jdk_29_method_65_code 2 = .ok (.if_icmp .lt 7, 3) := by decide +kernel
theorem d9_5 : decode jdk_29_method_65_code 5 = .ok (.iload_n 0, 1) := by decide +kernel
theorem d9_6 : decode jdk_29_method_65_code 6 = .ok (.goto 4, 3) := by decide +kernel
theorem d9_10 : decode jdk_29_method_65_code 10 = .ok (.ireturn, 1) := by decide +kernel
theorem d10_0 : decode jdk_33_method_45_code 0 = .ok (.iload_n 0, 1) := by decide +kernel
theorem d10_1 : decode jdk_33_method_45_code 1 = .ok (.ldc 127, 2) := by decide +kernel
theorem d10_3 : decode jdk_33_method_45_code 3 = .ok (.iload_n 0, 1) := by decide +kernel
theorem d10_4 : decode jdk_33_method_45_code 4 = .ok (.invokestatic 51, 3) := by decide +kernel
theorem d10_7 : decode jdk_33_method_45_code 7 = .ok (.iushr, 1) := by decide +kernel
theorem d10_8 : decode jdk_33_method_45_code 8 = .ok (.iand, 1) := by decide +kernel
theorem d10_9 : decode jdk_33_method_45_code 9 = .ok (.ireturn, 1) := by decide +kernel
theorem d11_0 : decode jdk_33_method_47_code 0 = .ok (.iload_n 0, 1) := by decide +kernel
theorem d11_1 : decode jdk_33_method_47_code 1 = .ok (.ifCond .gt 14, 3) := by decide +kernel
theorem d11_15 : decode jdk_33_method_47_code 15 = .ok (.bipush 31, 2) := by decide +kernel
theorem d11_17 : decode jdk_33_method_47_code 17 = .ok (.istore_n 1, 1) := by decide +kernel
theorem d11_18 : decode jdk_33_method_47_code 18 = .ok (.iload_n 0, 1) := by decide +kernel
theorem d11_19 : decode jdk_33_method_47_code 19 = .ok (.ldc_w 264, 3) := by decide +kernel
theorem d11_22 : decode jdk_33_method_47_code 22 = .ok (.if_icmp .lt 11, 3) := by decide +kernel
theorem d11_33 : decode jdk_33_method_47_code 33 = .ok (.iload_n 0, 1) := by decide +kernel
theorem d11_34 : decode jdk_33_method_47_code 34 = .ok (.sipush 256, 3) := by decide +kernel
theorem d11_37 : decode jdk_33_method_47_code 37 = .ok (.if_icmp .lt 11, 3) := by decide +kernel
theorem d11_48 : decode jdk_33_method_47_code 48 = .ok (.iload_n 0, 1) := by decide +kernel
theorem d11_49 : decode jdk_33_method_47_code 49 = .ok (.bipush 16, 2) := by decide +kernel
theorem d11_51 : decode jdk_33_method_47_code 51 = .ok (.if_icmp .lt 10, 3) := by decide +kernel
theorem d11_61 : decode jdk_33_method_47_code 61 = .ok (.iload_n 0, 1) := by decide +kernel
theorem d11_62 : decode jdk_33_method_47_code 62 = .ok (.iconst 4, 1) := by decide +kernel
theorem d11_63 : decode jdk_33_method_47_code 63 = .ok (.if_icmp .lt 10, 3) := by decide +kernel
theorem d11_73 : decode jdk_33_method_47_code 73 = .ok (.iload_n 1, 1) := by decide +kernel
theorem d11_74 : decode jdk_33_method_47_code 74 = .ok (.iload_n 0, 1) := by decide +kernel
theorem d11_75 : decode jdk_33_method_47_code 75 = .ok (.iconst 1, 1) := by decide +kernel
theorem d11_76 : decode jdk_33_method_47_code 76 = .ok (.iushr, 1) := by decide +kernel
theorem d11_77 : decode jdk_33_method_47_code 77 = .ok (.isub, 1) := by decide +kernel
theorem d11_78 : decode jdk_33_method_47_code 78 = .ok (.ireturn, 1) := by decide +kernel
theorem d0_0 : decode jdk_41_method_11_code 0 = .ok (.iload_n 0, 1) := by decide +kernel
theorem d0_1 : decode jdk_41_method_11_code 1 = .ok (.ifCond .lt 8, 3) := by decide +kernel
theorem d0_4 : decode jdk_41_method_11_code 4 = .ok (.iload_n 0, 1) := by decide +kernel
theorem d0_5 : decode jdk_41_method_11_code 5 = .ok (.iload_n 1, 1) := by decide +kernel
theorem d0_6 : decode jdk_41_method_11_code 6 = .ok (.if_icmp .lt 10, 3) := by decide +kernel
theorem d0_16 : decode jdk_41_method_11_code 16 = .ok (.iload_n 0, 1) := by decide +kernel
theorem d0_17 : decode jdk_41_method_11_code 17 = .ok (.ireturn, 1) := by decide +kernel
theorem d19_0 : decode jdk_42_method_139_code 0 = .ok (.getstatic 38, 3) := by decide +kernel
theorem d19_3 : decode jdk_42_method_139_code 3 = .ok (.ifCond .eq 23, 3) := by decide +kernel
theorem d19_6 : decode jdk_42_method_139_code 6 = .ok (.iload_n 0, 1) := by decide +kernel
theorem d19_7 : decode jdk_42_method_139_code 7 = .ok (.invokestatic 1015, 3) := by decide +kernel
theorem d19_10 : decode jdk_42_method_139_code 10 = .ok (.ifCond .eq 16, 3) := by decide +kernel
theorem d19_13 : decode jdk_42_method_139_code 13 = .ok (.new 10, 3) := by decide +kernel
theorem d19_16 : decode jdk_42_method_139_code 16 = .ok (.dup, 1) := by decide +kernel
theorem d19_17 : decode jdk_42_method_139_code 17 = .ok (.iload_n 0, 1) := by decide +kernel
theorem d19_18 : decode jdk_42_method_139_code 18 = .ok (.invokestatic 1018, 3) := by decide +kernel
theorem d19_21 : decode jdk_42_method_139_code 21 = .ok (.iconst 0, 1) := by decide +kernel
theorem d19_22 : decode jdk_42_method_139_code 22 = .ok (.invokespecial 209, 3) := by decide +kernel
theorem d19_25 : decode jdk_42_method_139_code 25 = .ok (.areturn, 1) := by decide +kernel
theorem d3_0 : decode jdk_42_method_149_code 0 = .ok (.aload_n 0, 1) := by decide +kernel
theorem d3_1 : decode jdk_42_method_149_code 1 = .ok (.invokespecial 1, 3) := by decide +kernel
theorem d3_4 : decode jdk_42_method_149_code 4 = .ok (.iload_n 3, 1) := by decide +kernel
theorem d3_5 : decode jdk_42_method_149_code 5 = .ok (.ifCond .ne 22, 3) := by decide +kernel
theorem d3_27 : decode jdk_42_method_149_code 27 = .ok (.getstatic 38, 3) := by decide +kernel
theorem d3_30 : decode jdk_42_method_149_code 30 = .ok (.ifCond .eq 28, 3) := by decide +kernel
theorem d3_33 : decode jdk_42_method_149_code 33 = .ok (.aload_n 1, 1) := by decide +kernel
theorem d3_34 : decode jdk_42_method_149_code 34 = .ok (.iload_n 2, 1) := by decide +kernel
theorem d3_35 : decode jdk_42_method_149_code 35 = .ok (.iload_n 3, 1) := by decide +kernel
theorem d3_36 : decode jdk_42_method_149_code 36 = .ok (.invokestatic 177, 3) := by decide +kernel
theorem d3_39 : decode jdk_42_method_149_code 39 = .ok (.astore 5, 2) := by decide +kernel
theorem d3_41 : decode jdk_42_method_149_code 41 = .ok (.aload_n 0, 1) := by decide +kernel
theorem d3_42 : decode jdk_42_method_149_code 42 = .ok (.aload 5, 2) := by decide +kernel
theorem d3_44 : decode jdk_42_method_149_code 44 = .ok (.iload_n 3, 1) := by decide +kernel
theorem d3_45 : decode jdk_42_method_149_code 45 = .ok (.invokestatic 47, 3) := by decide +kernel
theorem d3_48 : decode jdk_42_method_149_code 48 = .ok (.putfield 15, 3) := by decide +kernel
theorem d3_51 : decode jdk_42_method_149_code 51 = .ok (.aload_n 0, 1) := by decide +kernel
theorem d3_52 : decode jdk_42_method_149_code 52 = .ok (.aload 5, 2) := by decide +kernel
theorem d3_54 : decode jdk_42_method_149_code 54 = .ok (.putfield 9, 3) := by decide +kernel
theorem d3_57 : decode jdk_42_method_149_code 57 = .ok (.return_, 1) := by decide +kernel
theorem d22_0 : decode jdk_42_method_151_code 0 = .ok (.aload_n 0, 1) := by decide +kernel
theorem d22_1 : decode jdk_42_method_151_code 1 = .ok (.invokespecial 1, 3) := by decide +kernel
theorem d22_4 : decode jdk_42_method_151_code 4 = .ok (.aload_n 0, 1) := by decide +kernel
theorem d22_5 : decode jdk_42_method_151_code 5 = .ok (.aload_n 1, 1) := by decide +kernel
theorem d22_6 : decode jdk_42_method_151_code 6 = .ok (.putfield 9, 3) := by decide +kernel
theorem d22_9 : decode jdk_42_method_151_code 9 = .ok (.aload_n 0, 1) := by decide +kernel
theorem d22_10 : decode jdk_42_method_151_code 10 = .ok (.iload_n 2, 1) := by decide +kernel
theorem d22_11 : decode jdk_42_method_151_code 11 = .ok (.putfield 15, 3) := by decide +kernel
theorem d22_14 : decode jdk_42_method_151_code 14 = .ok (.return_, 1) := by decide +kernel
theorem d29_0 : decode jdk_42_method_152_code 0 = .ok (.getstatic 38, 3) := by decide +kernel
theorem d29_3 : decode jdk_42_method_152_code 3 = .ok (.ifCond .eq 10, 3) := by decide +kernel
theorem d29_6 : decode jdk_42_method_152_code 6 = .ok (.aload_n 0, 1) := by decide +kernel
theorem d29_7 : decode jdk_42_method_152_code 7 = .ok (.getfield 15, 3) := by decide +kernel
theorem d29_10 : decode jdk_42_method_152_code 10 = .ok (.goto 4, 3) := by decide +kernel
theorem d29_14 : decode jdk_42_method_152_code 14 = .ok (.ireturn, 1) := by decide +kernel
theorem d16_0 : decode jdk_42_method_154_code 0 = .ok (.getstatic 38, 3) := by decide +kernel
theorem d16_3 : decode jdk_42_method_154_code 3 = .ok (.ifCond .eq 14, 3) := by decide +kernel
theorem d16_6 : decode jdk_42_method_154_code 6 = .ok (.aload_n 0, 1) := by decide +kernel
theorem d16_7 : decode jdk_42_method_154_code 7 = .ok (.getfield 15, 3) := by decide +kernel
theorem d16_10 : decode jdk_42_method_154_code 10 = .ok (.ifCond .ne 7, 3) := by decide +kernel
theorem d16_13 : decode jdk_42_method_154_code 13 = .ok (.iconst 1, 1) := by decide +kernel
theorem d16_14 : decode jdk_42_method_154_code 14 = .ok (.goto 4, 3) := by decide +kernel
theorem d16_18 : decode jdk_42_method_154_code 18 = .ok (.ireturn, 1) := by decide +kernel
theorem d1_0 : decode jdk_42_method_155_code 0 = .ok (.iload_n 0, 1) := by decide +kernel
theorem d1_1 : decode jdk_42_method_155_code 1 = .ok (.iload_n 1, 1) := by decide +kernel
theorem d1_2 : decode jdk_42_method_155_code 2 = .ok (.getstatic 1053, 3) := by decide +kernel
theorem d1_5 : decode jdk_42_method_155_code 5 = .ok (.invokestatic 1059, 3) := by decide +kernel
theorem d1_8 : decode jdk_42_method_155_code 8 = .ok (.pop, 1) := by decide +kernel
theorem d1_9 : decode jdk_42_method_155_code 9 = .ok (.return_, 1) := by decide +kernel
theorem d2_0 : decode jdk_42_method_3_code 0 = .ok (.aload_n 0, 1) := by decide +kernel
theorem d2_1 : decode jdk_42_method_3_code 1 = .ok (.aload_n 1, 1) := by decide +kernel
theorem d2_2 : decode jdk_42_method_3_code 2 = .ok (.iconst 0, 1) := by decide +kernel
theorem d2_3 : decode jdk_42_method_3_code 3 = .ok (.aload_n 1, 1) := by decide +kernel
theorem d2_4 : decode jdk_42_method_3_code 4 = .ok (.arraylength, 1) := by decide +kernel
theorem d2_5 : decode jdk_42_method_3_code 5 = .ok (.aconst_null, 1) := by decide +kernel
theorem d2_6 : decode jdk_42_method_3_code 6 = .ok (.invokespecial 27, 3) := by decide +kernel
theorem d2_9 : decode jdk_42_method_3_code 9 = .ok (.return_, 1) := by decide +kernel
theorem d28_0 : decode jdk_42_method_54_code 0 = .ok (.aload_n 0, 1) := by decide +kernel
theorem d28_1 : decode jdk_42_method_54_code 1 = .ok (.getfield 9, 3) := by decide +kernel
theorem d28_4 : decode jdk_42_method_54_code 4 = .ok (.arraylength, 1) := by decide +kernel
theorem d28_5 : decode jdk_42_method_54_code 5 = .ok (.aload_n 0, 1) := by decide +kernel
theorem d28_6 : decode jdk_42_method_54_code 6 = .ok (.invokevirtual 335, 3) := by decide +kernel
theorem d28_9 : decode jdk_42_method_54_code 9 = .ok (.ishr, 1) := by decide +kernel
theorem d28_10 : decode jdk_42_method_54_code 10 = .ok (.ireturn, 1) := by decide +kernel
theorem d15_0 : decode jdk_42_method_56_code 0 = .ok (.aload_n 0, 1) := by decide +kernel
theorem d15_1 : decode jdk_42_method_56_code 1 = .ok (.invokevirtual 492, 3) := by decide +kernel
theorem d15_4 : decode jdk_42_method_56_code 4 = .ok (.ifCond .eq 12, 3) := by decide +kernel
theorem d15_7 : decode jdk_42_method_56_code 7 = .ok (.aload_n 0, 1) := by decide +kernel
theorem d15_8 : decode jdk_42_method_56_code 8 = .ok (.getfield 9, 3) := by decide +kernel
theorem d15_11 : decode jdk_42_method_56_code 11 = .ok (.iload_n 1, 1) := by decide +kernel
theorem d15_12 : decode jdk_42_method_56_code 12 = .ok (.invokestatic 495, 3) := by decide +kernel
theorem d15_15 : decode jdk_42_method_56_code 15 = .ok (.ireturn, 1) := by decide +kernel
theorem d31_0 : decode jdk_42_method_73_code 0 = .ok (.iload_n 3, 1) := by decide +kernel
theorem d31_1 : decode jdk_42_method_73_code 1 = .ok (.ifCond .lt 37, 3) := by decide +kernel
theorem d31_4 : decode jdk_42_method_73_code 4 = .ok (.iload_n 1, 1) := by decide +kernel
theorem d31_5 : decode jdk_42_method_73_code 5 = .ok (.ifCond .lt 33, 3) := by decide +kernel
theorem d31_8 : decode jdk_42_method_73_code 8 = .ok (.iload_n 1, 1) := by decide +kernel
theorem d31_9 : decode jdk_42_method_73_code 9 = .ok (.i2l, 1) := by decide +kernel
theorem d31_10 : decode jdk_42_method_73_code 10 = .ok (.aload_n 0, 1) := by decide +kernel
theorem d31_11 : decode jdk_42_method_73_code 11 = .ok (.invokevirtual 505, 3) := by decide +kernel
theorem d31_14 : decode jdk_42_method_73_code 14 = .ok (.i2l, 1) := by decide +kernel
theorem d31_15 : decode jdk_42_method_73_code 15 = .ok (.iload 4, 2) := by decide +kernel
theorem d31_17 : decode jdk_42_method_73_code 17 = .ok (.i2l, 1) := by decide +kernel
theorem d31_18 : decode jdk_42_method_73_code 18 = .ok (.lsub, 1) := by decide +kernel
theorem d31_19 : decode jdk_42_method_73_code 19 = .ok (.lcmp, 1) := by decide +kernel
theorem d31_20 : decode jdk_42_method_73_code 20 = .ok (.ifCond .gt 18, 3) := by decide +kernel
theorem d31_23 : decode jdk_42_method_73_code 23 = .ok (.iload_n 3, 1) := by decide +kernel
theorem d31_24 : decode jdk_42_method_73_code 24 = .ok (.i2l, 1) := by decide +kernel
theorem d31_25 : decode jdk_42_method_73_code 25 = .ok (.aload_n 2, 1) := by decide +kernel
theorem d31_26 : decode jdk_42_method_73_code 26 = .ok (.invokevirtual 505, 3) := by decide +kernel
theorem d31_29 : decode jdk_42_method_73_code 29 = .ok (.i2l, 1) := by decide +kernel
theorem d31_30 : decode jdk_42_method_73_code 30 = .ok (.iload 4, 2) := by decide +kernel
theorem d31_32 : decode jdk_42_method_73_code 32 = .ok (.i2l, 1) := by decide +kernel
theorem d31_33 : decode jdk_42_method_73_code 33 = .ok (.lsub, 1) := by decide +kernel
theorem d31_34 : decode jdk_42_method_73_code 34 = .ok (.lcmp, 1) := by decide +kernel
theorem d31_35 : decode jdk_42_method_73_code 35 = .ok (.ifCond .le 5, 3) := by decide +kernel
theorem d31_40 : decode jdk_42_method_73_code 40 = .ok (.iload 4, 2) := by decide +kernel
theorem d31_42 : decode jdk_42_method_73_code 42 = .ok (.ifCond .gt 5, 3) := by decide +kernel
theorem d31_47 : decode jdk_42_method_73_code 47 = .ok (.aload_n 0, 1) := by decide +kernel
theorem d31_48 : decode jdk_42_method_73_code 48 = .ok (.getfield 9, 3) := by decide +kernel
theorem d31_51 : decode jdk_42_method_73_code 51 = .ok (.astore 5, 2) := by decide +kernel
theorem d31_53 : decode jdk_42_method_73_code 53 = .ok (.aload_n 2, 1) := by decide +kernel
theorem d31_54 : decode jdk_42_method_73_code 54 = .ok (.getfield 9, 3) := by decide +kernel
theorem d31_57 : decode jdk_42_method_73_code 57 = .ok (.astore 6, 2) := by decide +kernel
theorem d31_59 : decode jdk_42_method_73_code 59 = .ok (.aload_n 0, 1) := by decide +kernel
theorem d31_60 : decode jdk_42_method_73_code 60 = .ok (.invokevirtual 335, 3) := by decide +kernel
theorem d31_63 : decode jdk_42_method_73_code 63 = .ok (.istore 7, 2) := by decide +kernel
theorem d31_65 : decode jdk_42_method_73_code 65 = .ok (.iload 7, 2) := by decide +kernel
theorem d31_67 : decode jdk_42_method_73_code 67 = .ok (.aload_n 2, 1) := by decide +kernel
theorem d31_68 : decode jdk_42_method_73_code 68 = .ok (.invokevirtual 335, 3) := by decide +kernel
theorem d31_71 : decode jdk_42_method_73_code 71 = .ok (.if_icmp .ne 43, 3) := by decide +kernel
theorem d31_74 : decode jdk_42_method_73_code 74 = .ok (.iload 7, 2) := by decide +kernel
theorem d31_76 : decode jdk_42_method_73_code 76 = .ok (.iconst 1, 1) := by decide +kernel
theorem d31_77 : decode jdk_42_method_73_code 77 = .ok (.if_icmp .ne 17, 3) := by decide +kernel
theorem d31_94 : decode jdk_42_method_73_code 94 = .ok (.aload 5, 2) := by decide +kernel
theorem d31_96 : decode jdk_42_method_73_code 96 = .ok (.iload_n 1, 1) := by decide +kernel
theorem d31_97 : decode jdk_42_method_73_code 97 = .ok (.aload 6, 2) := by decide +kernel
theorem d31_99 : decode jdk_42_method_73_code 99 = .ok (.iload_n 3, 1) := by decide +kernel
theorem d31_100 : decode jdk_42_method_73_code 100 = .ok (.iload 4, 2) := by decide +kernel
theorem d31_102 : decode jdk_42_method_73_code 102 = .ok (.invokestatic 607, 3) := by decide +kernel
theorem d31_105 : decode jdk_42_method_73_code 105 = .ok (.ifCond .ge 7, 3) := by decide +kernel
theorem d31_108 : decode jdk_42_method_73_code 108 = .ok (.iconst 1, 1) := by decide +kernel
theorem d31_109 : decode jdk_42_method_73_code 109 = .ok (.goto 4, 3) := by decide +kernel
theorem d31_113 : decode jdk_42_method_73_code 113 = .ok (.ireturn, 1) := by decide +kernel
theorem d17_0 : decode jdk_43_method_2_code 0 = .ok (.iload_n 1, 1) := by decide +kernel
theorem d17_1 : decode jdk_43_method_2_code 1 = .ok (.aload_n 0, 1) := by decide +kernel
theorem d17_2 : decode jdk_43_method_2_code 2 = .ok (.arraylength, 1) := by decide +kernel
theorem d17_3 : decode jdk_43_method_2_code 3 = .ok (.invokestatic 9, 3) := by decide +kernel
theorem d17_6 : decode jdk_43_method_2_code 6 = .ok (.aload_n 0, 1) := by decide +kernel
theorem d17_7 : decode jdk_43_method_2_code 7 = .ok (.iload_n 1, 1) := by decide +kernel
theorem d17_8 : decode jdk_43_method_2_code 8 = .ok (.baload, 1) := by decide +kernel
theorem d17_9 : decode jdk_43_method_2_code 9 = .ok (.sipush 255, 3) := by decide +kernel
theorem d17_12 : decode jdk_43_method_2_code 12 = .ok (.iand, 1) := by decide +kernel
theorem d17_13 : decode jdk_43_method_2_code 13 = .ok (.i2c, 1) := by decide +kernel
theorem d17_14 : decode jdk_43_method_2_code 14 = .ok (.ireturn, 1) := by decide +kernel
theorem d20_0 : decode jdk_43_method_3_code 0 = .ok (.iload_n 0, 1) := by decide +kernel
theorem d20_1 : decode jdk_43_method_3_code 1 = .ok (.sipush 255, 3) := by decide +kernel
theorem d20_4 : decode jdk_43_method_3_code 4 = .ok (.if_icmp .gt 7, 3) := by decide +kernel
theorem d20_7 : decode jdk_43_method_3_code 7 = .ok (.iconst 1, 1) := by decide +kernel
theorem d20_8 : decode jdk_43_method_3_code 8 = .ok (.goto 4, 3) := by decide +kernel
theorem d20_12 : decode jdk_43_method_3_code 12 = .ok (.ireturn, 1) := by decide +kernel
theorem d21_0 : decode jdk_43_method_46_code 0 = .ok (.iconst 1, 1) := by decide +kernel
theorem d21_1 : decode jdk_43_method_46_code 1 = .ok (.newarray .byte, 2) := by decide +kernel
theorem d21_3 : decode jdk_43_method_46_code 3 = .ok (.dup, 1) := by decide +kernel
theorem d21_4 : decode jdk_43_method_46_code 4 = .ok (.iconst 0, 1) := by decide +kernel
theorem d21_5 : decode jdk_43_method_46_code 5 = .ok (.iload_n 0, 1) := by decide +kernel
theorem d21_6 : decode jdk_43_method_46_code 6 = .ok (.i2b, 1) := by decide +kernel
theorem d21_7 : decode jdk_43_method_46_code 7 = .ok (.bastore, 1) := by decide +kernel
theorem d21_8 : decode jdk_43_method_46_code 8 = .ok (.areturn, 1) := by decide +kernel
theorem d32_0 : decode jdk_48_method_14_code 0 = .ok (.iconst 0, 1) := by decide +kernel
theorem d32_1 : decode jdk_48_method_14_code 1 = .ok (.istore 5, 2) := by decide +kernel
theorem d32_3 : decode jdk_48_method_14_code 3 = .ok (.iload 4, 2) := by decide +kernel
theorem d32_5 : decode jdk_48_method_14_code 5 = .ok (.bipush 7, 2) := by decide +kernel
theorem d32_7 : decode jdk_48_method_14_code 7 = .ok (.if_icmp .le 63, 3) := by decide +kernel
theorem d32_70 : decode jdk_48_method_14_code 70 = .ok (.iload 5, 2) := by decide +kernel
theorem d32_72 : decode jdk_48_method_14_code 72 = .ok (.iload 4, 2) := by decide +kernel
theorem d32_74 : decode jdk_48_method_14_code 74 = .ok (.if_icmp .ge 27, 3) := by decide +kernel
theorem d32_77 : decode jdk_48_method_14_code 77 = .ok (.aload_n 0, 1) := by decide +kernel
theorem d32_78 : decode jdk_48_method_14_code 78 = .ok (.iload_n 1, 1) := by decide +kernel
theorem d32_79 : decode jdk_48_method_14_code 79 = .ok (.iload 5, 2) := by decide +kernel
theorem d32_81 : decode jdk_48_method_14_code 81 = .ok (.iadd, 1) := by decide +kernel
theorem d32_82 : decode jdk_48_method_14_code 82 = .ok (.baload, 1) := by decide +kernel
theorem d32_83 : decode jdk_48_method_14_code 83 = .ok (.aload_n 2, 1) := by decide +kernel
theorem d32_84 : decode jdk_48_method_14_code 84 = .ok (.iload_n 3, 1) := by decide +kernel
theorem d32_85 : decode jdk_48_method_14_code 85 = .ok (.iload 5, 2) := by decide +kernel
theorem d32_87 : decode jdk_48_method_14_code 87 = .ok (.iadd, 1) := by decide +kernel
theorem d32_88 : decode jdk_48_method_14_code 88 = .ok (.baload, 1) := by decide +kernel
theorem d32_89 : decode jdk_48_method_14_code 89 = .ok (.if_icmp .eq 6, 3) := by decide +kernel
theorem d32_95 : decode jdk_48_method_14_code 95 = .ok (.iinc 5 1, 3) := by decide +kernel
theorem d32_98 : decode jdk_48_method_14_code 98 = .ok (.goto (-28), 3) := by decide +kernel
theorem d32_101 : decode jdk_48_method_14_code 101 = .ok (.iconst (-1), 1) := by decide +kernel
theorem d32_102 : decode jdk_48_method_14_code 102 = .ok (.ireturn, 1) := by decide +kernel
theorem d6_0 : decode jdk_52_method_15_code 0 = .ok (.iload_n 1, 1) := by decide +kernel
theorem d6_1 : decode jdk_52_method_15_code 1 = .ok (.aload_n 0, 1) := by decide +kernel
theorem d6_2 : decode jdk_52_method_15_code 2 = .ok (.arraylength, 1) := by decide +kernel
theorem d6_3 : decode jdk_52_method_15_code 3 = .ok (.isub, 1) := by decide +kernel
theorem d6_4 : decode jdk_52_method_15_code 4 = .ok (.bipush 31, 2) := by decide +kernel
theorem d6_6 : decode jdk_52_method_15_code 6 = .ok (.iushr, 1) := by decide +kernel
theorem d6_7 : decode jdk_52_method_15_code 7 = .ok (.i2b, 1) := by decide +kernel
theorem d6_8 : decode jdk_52_method_15_code 8 = .ok (.ireturn, 1) := by decide +kernel
theorem d4_0 : decode jdk_52_method_16_code 0 = .ok (.iload_n 2, 1) := by decide +kernel
theorem d4_1 : decode jdk_52_method_16_code 1 = .ok (.newarray .byte, 2) := by decide +kernel
theorem d4_3 : decode jdk_52_method_16_code 3 = .ok (.astore_n 3, 1) := by decide +kernel
theorem d4_4 : decode jdk_52_method_16_code 4 = .ok (.aload_n 0, 1) := by decide +kernel
theorem d4_5 : decode jdk_52_method_16_code 5 = .ok (.iload_n 1, 1) := by decide +kernel
theorem d4_6 : decode jdk_52_method_16_code 6 = .ok (.aload_n 3, 1) := by decide +kernel
theorem d4_7 : decode jdk_52_method_16_code 7 = .ok (.iconst 0, 1) := by decide +kernel
theorem d4_8 : decode jdk_52_method_16_code 8 = .ok (.iload_n 2, 1) := by decide +kernel
theorem d4_9 : decode jdk_52_method_16_code 9 = .ok (.invokestatic 115, 3) := by decide +kernel
theorem d4_12 : decode jdk_52_method_16_code 12 = .ok (.istore 4, 2) := by decide +kernel
theorem d4_14 : decode jdk_52_method_16_code 14 = .ok (.iload 4, 2) := by decide +kernel
theorem d4_16 : decode jdk_52_method_16_code 16 = .ok (.iload_n 2, 1) := by decide +kernel
theorem d4_17 : decode jdk_52_method_16_code 17 = .ok (.if_icmp .eq 40, 3) := by decide +kernel
theorem d4_57 : decode jdk_52_method_16_code 57 = .ok (.aload_n 3, 1) := by decide +kernel
theorem d4_58 : decode jdk_52_method_16_code 58 = .ok (.areturn, 1) := by decide +kernel
theorem d5_0 : decode jdk_52_method_21_code 0 = .ok (.iconst 0, 1) := by decide +kernel
theorem d5_1 : decode jdk_52_method_21_code 1 = .ok (.istore 5, 2) := by decide +kernel
theorem d5_3 : decode jdk_52_method_21_code 3 = .ok (.iload 5, 2) := by decide +kernel
theorem d5_5 : decode jdk_52_method_21_code 5 = .ok (.iload 4, 2) := by decide +kernel
theorem d5_7 : decode jdk_52_method_21_code 7 = .ok (.if_icmp .ge 37, 3) := by decide +kernel
theorem d5_10 : decode jdk_52_method_21_code 10 = .ok (.aload_n 0, 1) := by decide +kernel
theorem d5_11 : decode jdk_52_method_21_code 11 = .ok (.iload_n 1, 1) := by decide +kernel
theorem d5_12 : decode jdk_52_method_21_code 12 = .ok (.caload, 1) := by decide +kernel
theorem d5_13 : decode jdk_52_method_21_code 13 = .ok (.istore 6, 2) := by decide +kernel
theorem d5_15 : decode jdk_52_method_21_code 15 = .ok (.iload 6, 2) := by decide +kernel
theorem d5_17 : decode jdk_52_method_21_code 17 = .ok (.sipush 255, 3) := by decide +kernel
theorem d5_20 : decode jdk_52_method_21_code 20 = .ok (.if_icmp .le 6, 3) := by decide +kernel
theorem d5_26 : decode jdk_52_method_21_code 26 = .ok (.aload_n 2, 1) := by decide +kernel
theorem d5_27 : decode jdk_52_method_21_code 27 = .ok (.iload_n 3, 1) := by decide +kernel
theorem d5_28 : decode jdk_52_method_21_code 28 = .ok (.iload 6, 2) := by decide +kernel
theorem d5_30 : decode jdk_52_method_21_code 30 = .ok (.i2b, 1) := by decide +kernel
theorem d5_31 : decode jdk_52_method_21_code 31 = .ok (.bastore, 1) := by decide +kernel
theorem d5_32 : decode jdk_52_method_21_code 32 = .ok (.iinc 1 1, 3) := by decide +kernel
theorem d5_35 : decode jdk_52_method_21_code 35 = .ok (.iinc 3 1, 3) := by decide +kernel
theorem d5_38 : decode jdk_52_method_21_code 38 = .ok (.iinc 5 1, 3) := by decide +kernel
theorem d5_41 : decode jdk_52_method_21_code 41 = .ok (.goto (-38), 3) := by decide +kernel
theorem d5_44 : decode jdk_52_method_21_code 44 = .ok (.iload 4, 2) := by decide +kernel
theorem d5_46 : decode jdk_52_method_21_code 46 = .ok (.ireturn, 1) := by decide +kernel
theorem d8_0 : decode jdk_71_method_1_code 0 = .ok (.aload_n 0, 1) := by decide +kernel
theorem d8_1 : decode jdk_71_method_1_code 1 = .ok (.invokespecial 1, 3) := by decide +kernel
theorem d8_4 : decode jdk_71_method_1_code 4 = .ok (.return_, 1) := by decide +kernel
theorem d27_0 : decode prog_15_method_10_code 0 = .ok (.iconst (-1), 1) := by decide +kernel
theorem d27_1 : decode prog_15_method_10_code 1 = .ok (.istore_n 2, 1) := by decide +kernel
theorem d27_2 : decode prog_15_method_10_code 2 = .ok (.aload_n 1, 1) := by decide +kernel
theorem d27_3 : decode prog_15_method_10_code 3 = .ok (.instanceof 2, 3) := by decide +kernel
theorem d27_6 : decode prog_15_method_10_code 6 = .ok (.ifCond .eq 40, 3) := by decide +kernel
theorem d27_9 : decode prog_15_method_10_code 9 = .ok (.aload_n 1, 1) := by decide +kernel
theorem d27_10 : decode prog_15_method_10_code 10 = .ok (.checkcast 2, 3) := by decide +kernel
theorem d27_13 : decode prog_15_method_10_code 13 = .ok (.astore_n 3, 1) := by decide +kernel
theorem d27_14 : decode prog_15_method_10_code 14 = .ok (.aload_n 0, 1) := by decide +kernel
theorem d27_15 : decode prog_15_method_10_code 15 = .ok (.getfield 45, 3) := by decide +kernel
theorem d27_18 : decode prog_15_method_10_code 18 = .ok (.aload_n 0, 1) := by decide +kernel
theorem d27_19 : decode prog_15_method_10_code 19 = .ok (.aload_n 3, 1) := by decide +kernel
theorem d27_20 : decode prog_15_method_10_code 20 = .ok (.iconst 0, 1) := by decide +kernel
theorem d27_21 : decode prog_15_method_10_code 21 = .ok (.aload_n 3, 1) := by decide +kernel
theorem d27_22 : decode prog_15_method_10_code 22 = .ok (.invokevirtual 1, 3) := by decide +kernel
theorem d27_25 : decode prog_15_method_10_code 25 = .ok (.aload_n 0, 1) := by decide +kernel
theorem d27_26 : decode prog_15_method_10_code 26 = .ok (.aload_n 3, 1) := by decide +kernel
theorem d27_27 : decode prog_15_method_10_code 27 = .ok (.iconst 0, 1) := by decide +kernel
theorem d27_28 : decode prog_15_method_10_code 28 = .ok (.aload_n 3, 1) := by decide +kernel
theorem d27_29 : decode prog_15_method_10_code 29 = .ok (.invokevirtual 1, 3) := by decide +kernel
theorem d27_32 : decode prog_15_method_10_code 32 = .ok (.invokevirtual 48, 3) := by decide +kernel
theorem d27_35 : decode prog_15_method_10_code 35 = .ok (.invokevirtual 52, 3) := by decide +kernel
theorem d27_38 : decode prog_15_method_10_code 38 = .ok (.iaload, 1) := by decide +kernel
theorem d27_39 : decode prog_15_method_10_code 39 = .ok (.istore 4, 2) := by decide +kernel
theorem d27_41 : decode prog_15_method_10_code 41 = .ok (.iload 4, 2) := by decide +kernel
theorem d27_43 : decode prog_15_method_10_code 43 = .ok (.iconst 1, 1) := by decide +kernel
theorem d27_44 : decode prog_15_method_10_code 44 = .ok (.isub, 1) := by decide +kernel
theorem d27_45 : decode prog_15_method_10_code 45 = .ok (.istore_n 2, 1) := by decide +kernel
theorem d27_46 : decode prog_15_method_10_code 46 = .ok (.iload_n 2, 1) := by decide +kernel
theorem d27_47 : decode prog_15_method_10_code 47 = .ok (.ireturn, 1) := by decide +kernel
theorem d18_0 : decode prog_15_method_11_code 0 = .ok (.aload_n 0, 1) := by decide +kernel
theorem d18_1 : decode prog_15_method_11_code 1 = .ok (.getfield 45, 3) := by decide +kernel
theorem d18_4 : decode prog_15_method_11_code 4 = .ok (.arraylength, 1) := by decide +kernel
theorem d18_5 : decode prog_15_method_11_code 5 = .ok (.iconst 1, 1) := by decide +kernel
theorem d18_6 : decode prog_15_method_11_code 6 = .ok (.isub, 1) := by decide +kernel
theorem d18_7 : decode prog_15_method_11_code 7 = .ok (.istore 5, 2) := by decide +kernel
theorem d18_9 : decode prog_15_method_11_code 9 = .ok (.iload 4, 2) := by decide +kernel
theorem d18_11 : decode prog_15_method_11_code 11 = .ok (.iload 5, 2) := by decide +kernel
theorem d18_13 : decode prog_15_method_11_code 13 = .ok (.iand, 1) := by decide +kernel
theorem d18_14 : decode prog_15_method_11_code 14 = .ok (.istore 6, 2) := by decide +kernel
theorem d18_16 : decode prog_15_method_11_code 16 = .ok (.aload_n 0, 1) := by decide +kernel
theorem d18_17 : decode prog_15_method_11_code 17 = .ok (.getfield 45, 3) := by decide +kernel
theorem d18_20 : decode prog_15_method_11_code 20 = .ok (.iload 6, 2) := by decide +kernel
theorem d18_22 : decode prog_15_method_11_code 22 = .ok (.iaload, 1) := by decide +kernel
theorem d18_23 : decode prog_15_method_11_code 23 = .ok (.ifCond .eq 36, 3) := by decide +kernel
theorem d18_26 : decode prog_15_method_11_code 26 = .ok (.aload_n 0, 1) := by decide +kernel
theorem d18_27 : decode prog_15_method_11_code 27 = .ok (.aload_n 0, 1) := by decide +kernel
theorem d18_28 : decode prog_15_method_11_code 28 = .ok (.getfield 45, 3) := by decide +kernel
theorem d18_31 : decode prog_15_method_11_code 31 = .ok (.iload 6, 2) := by decide +kernel
theorem d18_33 : decode prog_15_method_11_code 33 = .ok (.iaload, 1) := by decide +kernel
theorem d18_34 : decode prog_15_method_11_code 34 = .ok (.iconst 1, 1) := by decide +kernel
theorem d18_35 : decode prog_15_method_11_code 35 = .ok (.isub, 1) := by decide +kernel
theorem d18_36 : decode prog_15_method_11_code 36 = .ok (.aload_n 1, 1) := by decide +kernel
theorem d18_37 : decode prog_15_method_11_code 37 = .ok (.iload_n 2, 1) := by decide +kernel
theorem d18_38 : decode prog_15_method_11_code 38 = .ok (.iload_n 3, 1) := by decide +kernel
theorem d18_39 : decode prog_15_method_11_code 39 = .ok (.iload 4, 2) := by decide +kernel
theorem d18_41 : decode prog_15_method_11_code 41 = .ok (.invokevirtual 105, 3) := by decide +kernel
theorem d18_44 : decode prog_15_method_11_code 44 = .ok (.ifCond .ne 15, 3) := by decide +kernel
theorem d18_59 : decode prog_15_method_11_code 59 = .ok (.iload 6, 2) := by decide +kernel
theorem d18_61 : decode prog_15_method_11_code 61 = .ok (.ireturn, 1) := by decide +kernel
theorem d30_0 : decode prog_15_method_12_code 0 = .ok (.iload_n 1, 1) := by decide +kernel
theorem d30_1 : decode prog_15_method_12_code 1 = .ok (.bipush 6, 2) := by decide +kernel
theorem d30_3 : decode prog_15_method_12_code 3 = .ok (.imul, 1) := by decide +kernel
theorem d30_4 : decode prog_15_method_12_code 4 = .ok (.istore 6, 2) := by decide +kernel
theorem d30_6 : decode prog_15_method_12_code 6 = .ok (.aload_n 0, 1) := by decide +kernel
theorem d30_7 : decode prog_15_method_12_code 7 = .ok (.getfield 35, 3) := by decide +kernel
theorem d30_10 : decode prog_15_method_12_code 10 = .ok (.iload 6, 2) := by decide +kernel
theorem d30_12 : decode prog_15_method_12_code 12 = .ok (.iconst 0, 1) := by decide +kernel
theorem d30_13 : decode prog_15_method_12_code 13 = .ok (.iadd, 1) := by decide +kernel
theorem d30_14 : decode prog_15_method_12_code 14 = .ok (.iaload, 1) := by decide +kernel
theorem d30_15 : decode prog_15_method_12_code 15 = .ok (.istore 7, 2) := by decide +kernel
theorem d30_17 : decode prog_15_method_12_code 17 = .ok (.aload_n 0, 1) := by decide +kernel
theorem d30_18 : decode prog_15_method_12_code 18 = .ok (.getfield 35, 3) := by decide +kernel
theorem d30_21 : decode prog_15_method_12_code 21 = .ok (.iload 6, 2) := by decide +kernel
theorem d30_23 : decode prog_15_method_12_code 23 = .ok (.iconst 5, 1) := by decide +kernel
theorem d30_24 : decode prog_15_method_12_code 24 = .ok (.iadd, 1) := by decide +kernel
theorem d30_25 : decode prog_15_method_12_code 25 = .ok (.iaload, 1) := by decide +kernel
theorem d30_26 : decode prog_15_method_12_code 26 = .ok (.iload 5, 2) := by decide +kernel
theorem d30_28 : decode prog_15_method_12_code 28 = .ok (.if_icmp .ne 44, 3) := by decide +kernel
theorem d30_31 : decode prog_15_method_12_code 31 = .ok (.aload_n 0, 1) := by decide +kernel
theorem d30_32 : decode prog_15_method_12_code 32 = .ok (.getfield 35, 3) := by decide +kernel
theorem d30_35 : decode prog_15_method_12_code 35 = .ok (.iload 6, 2) := by decide +kernel
theorem d30_37 : decode prog_15_method_12_code 37 = .ok (.iconst 1, 1) := by decide +kernel
theorem d30_38 : decode prog_15_method_12_code 38 = .ok (.iadd, 1) := by decide +kernel
theorem d30_39 : decode prog_15_method_12_code 39 = .ok (.iaload, 1) := by decide +kernel
theorem d30_40 : decode prog_15_method_12_code 40 = .ok (.iload 7, 2) := by decide +kernel
theorem d30_42 : decode prog_15_method_12_code 42 = .ok (.isub, 1) := by decide +kernel
theorem d30_43 : decode prog_15_method_12_code 43 = .ok (.iload 4, 2) := by decide +kernel
theorem d30_45 : decode prog_15_method_12_code 45 = .ok (.iload_n 3, 1) := by decide +kernel
theorem d30_46 : decode prog_15_method_12_code 46 = .ok (.isub, 1) := by decide +kernel
theorem d30_47 : decode prog_15_method_12_code 47 = .ok (.if_icmp .ne 25, 3) := by decide +kernel
theorem d30_50 : decode prog_15_method_12_code 50 = .ok (.aload_n 0, 1) := by decide +kernel
theorem d30_51 : decode prog_15_method_12_code 51 = .ok (.getfield 24, 3) := by decide +kernel
theorem d30_54 : decode prog_15_method_12_code 54 = .ok (.iload 7, 2) := by decide +kernel
theorem d30_56 : decode prog_15_method_12_code 56 = .ok (.aload_n 2, 1) := by decide +kernel
theorem d30_57 : decode prog_15_method_12_code 57 = .ok (.iload_n 3, 1) := by decide +kernel
theorem d30_58 : decode prog_15_method_12_code 58 = .ok (.iload 4, 2) := by decide +kernel
theorem d30_60 : decode prog_15_method_12_code 60 = .ok (.iload_n 3, 1) := by decide +kernel
theorem d30_61 : decode prog_15_method_12_code 61 = .ok (.isub, 1) := by decide +kernel
theorem d30_62 : decode prog_15_method_12_code 62 = .ok (.invokevirtual 109, 3) := by decide +kernel
theorem d30_65 : decode prog_15_method_12_code 65 = .ok (.ifCond .eq 7, 3) := by decide +kernel
theorem d30_68 : decode prog_15_method_12_code 68 = .ok (.iconst 1, 1) := by decide +kernel
theorem d30_69 : decode prog_15_method_12_code 69 = .ok (.goto 4, 3) := by decide +kernel
theorem d30_73 : decode prog_15_method_12_code 73 = .ok (.ireturn, 1) := by decide +kernel
theorem d13_0 : decode prog_15_method_14_code 0 = .ok (.aload_n 0, 1) := by decide +kernel
theorem d13_1 : decode prog_15_method_14_code 1 = .ok (.getfield 56, 3) := by decide +kernel
theorem d13_4 : decode prog_15_method_14_code 4 = .ok (.ifCond .eq 12, 3) := by decide +kernel
theorem d13_16 : decode prog_15_method_14_code 16 = .ok (.aload_n 1, 1) := by decide +kernel
theorem d13_17 : decode prog_15_method_14_code 17 = .ok (.iload_n 2, 1) := by decide +kernel
theorem d13_18 : decode prog_15_method_14_code 18 = .ok (.iload_n 3, 1) := by decide +kernel
theorem d13_19 : decode prog_15_method_14_code 19 = .ok (.invokestatic 116, 3) := by decide +kernel
theorem d13_22 : decode prog_15_method_14_code 22 = .ok (.ireturn, 1) := by decide +kernel
theorem d14_0 : decode prog_15_method_15_code 0 = .ok (.iconst 0, 1) := by decide +kernel
theorem d14_1 : decode prog_15_method_15_code 1 = .ok (.istore_n 3, 1) := by decide +kernel
theorem d14_2 : decode prog_15_method_15_code 2 = .ok (.iload_n 1, 1) := by decide +kernel
theorem d14_3 : decode prog_15_method_15_code 3 = .ok (.istore 4, 2) := by decide +kernel
theorem d14_5 : decode prog_15_method_15_code 5 = .ok (.iload 4, 2) := by decide +kernel
theorem d14_7 : decode prog_15_method_15_code 7 = .ok (.iload_n 2, 1) := by decide +kernel
theorem d14_8 : decode prog_15_method_15_code 8 = .ok (.if_icmp .ge 21, 3) := by decide +kernel
theorem d14_11 : decode prog_15_method_15_code 11 = .ok (.bipush 31, 2) := by decide +kernel
theorem d14_13 : decode prog_15_method_15_code 13 = .ok (.iload_n 3, 1) := by decide +kernel
theorem d14_14 : decode prog_15_method_15_code 14 = .ok (.imul, 1) := by decide +kernel
theorem d14_15 : decode prog_15_method_15_code 15 = .ok (.aload_n 0, 1) := by decide +kernel
theorem d14_16 : decode prog_15_method_15_code 16 = .ok (.iload 4, 2) := by decide +kernel
theorem d14_18 : decode prog_15_method_15_code 18 = .ok (.invokevirtual 119, 3) := by decide +kernel
theorem d14_21 : decode prog_15_method_15_code 21 = .ok (.iadd, 1) := by decide +kernel
theorem d14_22 : decode prog_15_method_15_code 22 = .ok (.istore_n 3, 1) := by decide +kernel
theorem d14_23 : decode prog_15_method_15_code 23 = .ok (.iinc 4 1, 3) := by decide +kernel
theorem d14_26 : decode prog_15_method_15_code 26 = .ok (.goto (-21), 3) := by decide +kernel
theorem d14_29 : decode prog_15_method_15_code 29 = .ok (.iload_n 3, 1) := by decide +kernel
theorem d14_30 : decode prog_15_method_15_code 30 = .ok (.iload_n 3, 1) := by decide +kernel
theorem d14_31 : decode prog_15_method_15_code 31 = .ok (.bipush 16, 2) := by decide +kernel
theorem d14_33 : decode prog_15_method_15_code 33 = .ok (.iushr, 1) := by decide +kernel
theorem d14_34 : decode prog_15_method_15_code 34 = .ok (.ixor, 1) := by decide +kernel
theorem d14_35 : decode prog_15_method_15_code 35 = .ok (.ireturn, 1) := by decide +kernel
theorem d26_0 : decode prog_15_method_18_code 0 = .ok (.aload_n 0, 1) := by decide +kernel
theorem d26_1 : decode prog_15_method_18_code 1 = .ok (.getfield 35, 3) := by decide +kernel
theorem d26_4 : decode prog_15_method_18_code 4 = .ok (.iload_n 1, 1) := by decide +kernel
theorem d26_5 : decode prog_15_method_18_code 5 = .ok (.bipush 6, 2) := by decide +kernel
theorem d26_7 : decode prog_15_method_18_code 7 = .ok (.imul, 1) := by decide +kernel
theorem d26_8 : decode prog_15_method_18_code 8 = .ok (.iconst 4, 1) := by decide +kernel
theorem d26_9 : decode prog_15_method_18_code 9 = .ok (.iadd, 1) := by decide +kernel
theorem d26_10 : decode prog_15_method_18_code 10 = .ok (.iaload, 1) := by decide +kernel
theorem d26_11 : decode prog_15_method_18_code 11 = .ok (.ireturn, 1) := by decide +kernel
theorem d24_0 : decode prog_15_method_19_code 0 = .ok (.aload_n 0, 1) := by decide +kernel
theorem d24_1 : decode prog_15_method_19_code 1 = .ok (.getfield 35, 3) := by decide +kernel
theorem d24_4 : decode prog_15_method_19_code 4 = .ok (.iload_n 1, 1) := by decide +kernel
theorem d24_5 : decode prog_15_method_19_code 5 = .ok (.bipush 6, 2) := by decide +kernel
theorem d24_7 : decode prog_15_method_19_code 7 = .ok (.imul, 1) := by decide +kernel
theorem d24_8 : decode prog_15_method_19_code 8 = .ok (.iconst 2, 1) := by decide +kernel
theorem d24_9 : decode prog_15_method_19_code 9 = .ok (.iadd, 1) := by decide +kernel
theorem d24_10 : decode prog_15_method_19_code 10 = .ok (.iaload, 1) := by decide +kernel
theorem d24_11 : decode prog_15_method_19_code 11 = .ok (.ireturn, 1) := by decide +kernel
theorem d25_0 : decode prog_15_method_20_code 0 = .ok (.aload_n 0, 1) := by decide +kernel
theorem d25_1 : decode prog_15_method_20_code 1 = .ok (.getfield 35, 3) := by decide +kernel
theorem d25_4 : decode prog_15_method_20_code 4 = .ok (.iload_n 1, 1) := by decide +kernel
theorem d25_5 : decode prog_15_method_20_code 5 = .ok (.bipush 6, 2) := by decide +kernel
theorem d25_7 : decode prog_15_method_20_code 7 = .ok (.imul, 1) := by decide +kernel
theorem d25_8 : decode prog_15_method_20_code 8 = .ok (.iconst 3, 1) := by decide +kernel
theorem d25_9 : decode prog_15_method_20_code 9 = .ok (.iadd, 1) := by decide +kernel
theorem d25_10 : decode prog_15_method_20_code 10 = .ok (.iaload, 1) := by decide +kernel
theorem d25_11 : decode prog_15_method_20_code 11 = .ok (.ireturn, 1) := by decide +kernel
theorem d7_0 : decode prog_15_method_2_code 0 = .ok (.aload_n 0, 1) := by decide +kernel
theorem d7_1 : decode prog_15_method_2_code 1 = .ok (.invokespecial 19, 3) := by decide +kernel
theorem d7_4 : decode prog_15_method_2_code 4 = .ok (.aload_n 0, 1) := by decide +kernel
theorem d7_5 : decode prog_15_method_2_code 5 = .ok (.aload_n 1, 1) := by decide +kernel
theorem d7_6 : decode prog_15_method_2_code 6 = .ok (.putfield 24, 3) := by decide +kernel
theorem d7_9 : decode prog_15_method_2_code 9 = .ok (.aload_n 0, 1) := by decide +kernel
theorem d7_10 : decode prog_15_method_2_code 10 = .ok (.aload_n 2, 1) := by decide +kernel
theorem d7_11 : decode prog_15_method_2_code 11 = .ok (.putfield 28, 3) := by decide +kernel
theorem d7_14 : decode prog_15_method_2_code 14 = .ok (.iload_n 3, 1) := by decide +kernel
theorem d7_15 : decode prog_15_method_2_code 15 = .ok (.iconst 1, 1) := by decide +kernel
theorem d7_16 : decode prog_15_method_2_code 16 = .ok (.invokestatic 32, 3) := by decide +kernel
theorem d7_19 : decode prog_15_method_2_code 19 = .ok (.istore 4, 2) := by decide +kernel
theorem d7_21 : decode prog_15_method_2_code 21 = .ok (.aload_n 0, 1) := by decide +kernel
theorem d7_22 : decode prog_15_method_2_code 22 = .ok (.iload 4, 2) := by decide +kernel
theorem d7_24 : decode prog_15_method_2_code 24 = .ok (.bipush 6, 2) := by decide +kernel
theorem d7_26 : decode prog_15_method_2_code 26 = .ok (.imul, 1) := by decide +kernel
theorem d7_27 : decode prog_15_method_2_code 27 = .ok (.newarray .int, 2) := by decide +kernel
theorem d7_29 : decode prog_15_method_2_code 29 = .ok (.putfield 35, 3) := by decide +kernel
theorem d7_32 : decode prog_15_method_2_code 32 = .ok (.aload_n 0, 1) := by decide +kernel
theorem d7_33 : decode prog_15_method_2_code 33 = .ok (.iload 4, 2) := by decide +kernel
theorem d7_35 : decode prog_15_method_2_code 35 = .ok (.invokestatic 39, 3) := by decide +kernel
theorem d7_38 : decode prog_15_method_2_code 38 = .ok (.iconst 4, 1) := by decide +kernel
theorem d7_39 : decode prog_15_method_2_code 39 = .ok (.imul, 1) := by decide +kernel
theorem d7_40 : decode prog_15_method_2_code 40 = .ok (.newarray .int, 2) := by decide +kernel
theorem d7_42 : decode prog_15_method_2_code 42 = .ok (.putfield 45, 3) := by decide +kernel
theorem d7_45 : decode prog_15_method_2_code 45 = .ok (.return_, 1) := by decide +kernel
theorem d12_0 : decode prog_15_method_3_code 0 = .ok (.aload_n 0, 1) := by decide +kernel
theorem d12_1 : decode prog_15_method_3_code 1 = .ok (.aload_n 0, 1) := by decide +kernel
theorem d12_2 : decode prog_15_method_3_code 2 = .ok (.getfield 24, 3) := by decide +kernel
theorem d12_5 : decode prog_15_method_3_code 5 = .ok (.iload_n 1, 1) := by decide +kernel
theorem d12_6 : decode prog_15_method_3_code 6 = .ok (.iload_n 2, 1) := by decide +kernel
theorem d12_7 : decode prog_15_method_3_code 7 = .ok (.invokevirtual 48, 3) := by decide +kernel
theorem d12_10 : decode prog_15_method_3_code 10 = .ok (.istore 6, 2) := by decide +kernel
theorem d12_12 : decode prog_15_method_3_code 12 = .ok (.aload_n 0, 1) := by decide +kernel
theorem d12_13 : decode prog_15_method_3_code 13 = .ok (.aload_n 0, 1) := by decide +kernel
theorem d12_14 : decode prog_15_method_3_code 14 = .ok (.getfield 24, 3) := by decide +kernel
theorem d12_17 : decode prog_15_method_3_code 17 = .ok (.iload_n 1, 1) := by decide +kernel
theorem d12_18 : decode prog_15_method_3_code 18 = .ok (.iload_n 2, 1) := by decide +kernel
theorem d12_19 : decode prog_15_method_3_code 19 = .ok (.iload 6, 2) := by decide +kernel
theorem d12_21 : decode prog_15_method_3_code 21 = .ok (.invokevirtual 52, 3) := by decide +kernel
theorem d12_24 : decode prog_15_method_3_code 24 = .ok (.istore 7, 2) := by decide +kernel
theorem d12_26 : decode prog_15_method_3_code 26 = .ok (.aload_n 0, 1) := by decide +kernel
theorem d12_27 : decode prog_15_method_3_code 27 = .ok (.getfield 56, 3) := by decide +kernel
theorem d12_30 : decode prog_15_method_3_code 30 = .ok (.ifCond .ne 121, 3) := by decide +kernel
theorem d12_33 : decode prog_15_method_3_code 33 = .ok (.iload 7, 2) := by decide +kernel
theorem d12_35 : decode prog_15_method_3_code 35 = .ok (.iload 6, 2) := by decide +kernel
theorem d12_37 : decode prog_15_method_3_code 37 = .ok (.isub, 1) := by decide +kernel
theorem d12_38 : decode prog_15_method_3_code 38 = .ok (.aload_n 0, 1) := by decide +kernel
theorem d12_39 : decode prog_15_method_3_code 39 = .ok (.getfield 45, 3) := by decide +kernel
theorem d12_42 : decode prog_15_method_3_code 42 = .ok (.arraylength, 1) := by decide +kernel
theorem d12_43 : decode prog_15_method_3_code 43 = .ok (.iconst 1, 1) := by decide +kernel
theorem d12_44 : decode prog_15_method_3_code 44 = .ok (.isub, 1) := by decide +kernel
theorem d12_45 : decode prog_15_method_3_code 45 = .ok (.iand, 1) := by decide +kernel
theorem d12_46 : decode prog_15_method_3_code 46 = .ok (.bipush 64, 2) := by decide +kernel
theorem d12_48 : decode prog_15_method_3_code 48 = .ok (.if_icmp .le 103, 3) := by decide +kernel
theorem d12_151 : decode prog_15_method_3_code 151 = .ok (.aload_n 0, 1) := by decide +kernel
theorem d12_152 : decode prog_15_method_3_code 152 = .ok (.getfield 45, 3) := by decide +kernel
theorem d12_155 : decode prog_15_method_3_code 155 = .ok (.iload 7, 2) := by decide +kernel
theorem d12_157 : decode prog_15_method_3_code 157 = .ok (.iaload, 1) := by decide +kernel
theorem d12_158 : decode prog_15_method_3_code 158 = .ok (.ifCond .eq 13, 3) := by decide +kernel
theorem d12_171 : decode prog_15_method_3_code 171 = .ok (.aload_n 0, 1) := by decide +kernel
theorem d12_172 : decode prog_15_method_3_code 172 = .ok (.getfield 60, 3) := by decide +kernel
theorem d12_175 : decode prog_15_method_3_code 175 = .ok (.iconst 1, 1) := by decide +kernel
theorem d12_176 : decode prog_15_method_3_code 176 = .ok (.iadd, 1) := by decide +kernel
theorem d12_177 : decode prog_15_method_3_code 177 = .ok (.bipush 6, 2) := by decide +kernel
theorem d12_179 : decode prog_15_method_3_code 179 = .ok (.imul, 1) := by decide +kernel
theorem d12_180 : decode prog_15_method_3_code 180 = .ok (.aload_n 0, 1) := by decide +kernel
theorem d12_181 : decode prog_15_method_3_code 181 = .ok (.getfield 35, 3) := by decide +kernel
theorem d12_184 : decode prog_15_method_3_code 184 = .ok (.arraylength, 1) := by decide +kernel
theorem d12_185 : decode prog_15_method_3_code 185 = .ok (.if_icmp .le 21, 3) := by decide +kernel
theorem d12_206 : decode prog_15_method_3_code 206 = .ok (.aload_n 0, 1) := by decide +kernel
theorem d12_207 : decode prog_15_method_3_code 207 = .ok (.getfield 60, 3) := by decide +kernel
theorem d12_210 : decode prog_15_method_3_code 210 = .ok (.bipush 6, 2) := by decide +kernel
theorem d12_212 : decode prog_15_method_3_code 212 = .ok (.imul, 1) := by decide +kernel
theorem d12_213 : decode prog_15_method_3_code 213 = .ok (.istore 8, 2) := by decide +kernel
theorem d12_215 : decode prog_15_method_3_code 215 = .ok (.aload_n 0, 1) := by decide +kernel
theorem d12_216 : decode prog_15_method_3_code 216 = .ok (.getfield 35, 3) := by decide +kernel
theorem d12_219 : decode prog_15_method_3_code 219 = .ok (.iload 8, 2) := by decide +kernel
theorem d12_221 : decode prog_15_method_3_code 221 = .ok (.iconst 0, 1) := by decide +kernel
theorem d12_222 : decode prog_15_method_3_code 222 = .ok (.iadd, 1) := by decide +kernel
theorem d12_223 : decode prog_15_method_3_code 223 = .ok (.iload_n 1, 1) := by decide +kernel
theorem d12_224 : decode prog_15_method_3_code 224 = .ok (.iastore, 1) := by decide +kernel
theorem d12_225 : decode prog_15_method_3_code 225 = .ok (.aload_n 0, 1) := by decide +kernel
theorem d12_226 : decode prog_15_method_3_code 226 = .ok (.getfield 35, 3) := by decide +kernel
theorem d12_229 : decode prog_15_method_3_code 229 = .ok (.iload 8, 2) := by decide +kernel
theorem d12_231 : decode prog_15_method_3_code 231 = .ok (.iconst 1, 1) := by decide +kernel
theorem d12_232 : decode prog_15_method_3_code 232 = .ok (.iadd, 1) := by decide +kernel
theorem d12_233 : decode prog_15_method_3_code 233 = .ok (.iload_n 2, 1) := by decide +kernel
theorem d12_234 : decode prog_15_method_3_code 234 = .ok (.iastore, 1) := by decide +kernel
theorem d12_235 : decode prog_15_method_3_code 235 = .ok (.aload_n 0, 1) := by decide +kernel
theorem d12_236 : decode prog_15_method_3_code 236 = .ok (.getfield 35, 3) := by decide +kernel
theorem d12_239 : decode prog_15_method_3_code 239 = .ok (.iload 8, 2) := by decide +kernel
theorem d12_241 : decode prog_15_method_3_code 241 = .ok (.iconst 2, 1) := by decide +kernel
theorem d12_242 : decode prog_15_method_3_code 242 = .ok (.iadd, 1) := by decide +kernel
theorem d12_243 : decode prog_15_method_3_code 243 = .ok (.iload_n 3, 1) := by decide +kernel
theorem d12_244 : decode prog_15_method_3_code 244 = .ok (.iastore, 1) := by decide +kernel
theorem d12_245 : decode prog_15_method_3_code 245 = .ok (.aload_n 0, 1) := by decide +kernel
theorem d12_246 : decode prog_15_method_3_code 246 = .ok (.getfield 35, 3) := by decide +kernel
theorem d12_249 : decode prog_15_method_3_code 249 = .ok (.iload 8, 2) := by decide +kernel
theorem d12_251 : decode prog_15_method_3_code 251 = .ok (.iconst 3, 1) := by decide +kernel
theorem d12_252 : decode prog_15_method_3_code 252 = .ok (.iadd, 1) := by decide +kernel
theorem d12_253 : decode prog_15_method_3_code 253 = .ok (.iload 4, 2) := by decide +kernel
theorem d12_255 : decode prog_15_method_3_code 255 = .ok (.iastore, 1) := by decide +kernel
theorem d12_256 : decode prog_15_method_3_code 256 = .ok (.aload_n 0, 1) := by decide +kernel
theorem d12_257 : decode prog_15_method_3_code 257 = .ok (.getfield 35, 3) := by decide +kernel
theorem d12_260 : decode prog_15_method_3_code 260 = .ok (.iload 8, 2) := by decide +kernel
theorem d12_262 : decode prog_15_method_3_code 262 = .ok (.iconst 4, 1) := by decide +kernel
theorem d12_263 : decode prog_15_method_3_code 263 = .ok (.iadd, 1) := by decide +kernel
theorem d12_264 : decode prog_15_method_3_code 264 = .ok (.iload 5, 2) := by decide +kernel
theorem d12_266 : decode prog_15_method_3_code 266 = .ok (.iastore, 1) := by decide +kernel
theorem d12_267 : decode prog_15_method_3_code 267 = .ok (.aload_n 0, 1) := by decide +kernel
theorem d12_268 : decode prog_15_method_3_code 268 = .ok (.getfield 35, 3) := by decide +kernel
theorem d12_271 : decode prog_15_method_3_code 271 = .ok (.iload 8, 2) := by decide +kernel
theorem d12_273 : decode prog_15_method_3_code 273 = .ok (.iconst 5, 1) := by decide +kernel
theorem d12_274 : decode prog_15_method_3_code 274 = .ok (.iadd, 1) := by decide +kernel
theorem d12_275 : decode prog_15_method_3_code 275 = .ok (.iload 6, 2) := by decide +kernel
theorem d12_277 : decode prog_15_method_3_code 277 = .ok (.iastore, 1) := by decide +kernel
theorem d12_278 : decode prog_15_method_3_code 278 = .ok (.aload_n 0, 1) := by decide +kernel
theorem d12_279 : decode prog_15_method_3_code 279 = .ok (.dup, 1) := by decide +kernel
theorem d12_280 : decode prog_15_method_3_code 280 = .ok (.getfield 60, 3) := by decide +kernel
theorem d12_283 : decode prog_15_method_3_code 283 = .ok (.iconst 1, 1) := by decide +kernel
theorem d12_284 : decode prog_15_method_3_code 284 = .ok (.iadd, 1) := by decide +kernel
theorem d12_285 : decode prog_15_method_3_code 285 = .ok (.putfield 60, 3) := by decide +kernel
theorem d12_288 : decode prog_15_method_3_code 288 = .ok (.aload_n 0, 1) := by decide +kernel
theorem d12_289 : decode prog_15_method_3_code 289 = .ok (.getfield 45, 3) := by decide +kernel
theorem d12_292 : decode prog_15_method_3_code 292 = .ok (.iload 7, 2) := by decide +kernel
theorem d12_294 : decode prog_15_method_3_code 294 = .ok (.aload_n 0, 1) := by decide +kernel
theorem d12_295 : decode prog_15_method_3_code 295 = .ok (.getfield 60, 3) := by decide +kernel
theorem d12_298 : decode prog_15_method_3_code 298 = .ok (.iastore, 1) := by decide +kernel
theorem d12_299 : decode prog_15_method_3_code 299 = .ok (.aload_n 0, 1) := by decide +kernel
theorem d12_300 : decode prog_15_method_3_code 300 = .ok (.getfield 60, 3) := by decide +kernel
theorem d12_303 : decode prog_15_method_3_code 303 = .ok (.iconst 2, 1) := by decide +kernel
theorem d12_304 : decode prog_15_method_3_code 304 = .ok (.imul, 1) := by decide +kernel
theorem d12_305 : decode prog_15_method_3_code 305 = .ok (.aload_n 0, 1) := by decide +kernel
theorem d12_306 : decode prog_15_method_3_code 306 = .ok (.getfield 45, 3) := by decide +kernel
theorem d12_309 : decode prog_15_method_3_code 309 = .ok (.arraylength, 1) := by decide +kernel
theorem d12_310 : decode prog_15_method_3_code 310 = .ok (.if_icmp .le 14, 3) := by decide +kernel
theorem d12_324 : decode prog_15_method_3_code 324 = .ok (.iconst (-1), 1) := by decide +kernel
theorem d12_325 : decode prog_15_method_3_code 325 = .ok (.ireturn, 1) := by decide +kernel
theorem d23_0 : decode prog_15_method_5_code 0 = .ok (.iload_n 1, 1) := by decide +kernel
theorem d23_1 : decode prog_15_method_5_code 1 = .ok (.bipush 6, 2) := by decide +kernel
theorem d23_3 : decode prog_15_method_5_code 3 = .ok (.imul, 1) := by decide +kernel
theorem d23_4 : decode prog_15_method_5_code 4 = .ok (.istore 5, 2) := by decide +kernel
theorem d23_6 : decode prog_15_method_5_code 6 = .ok (.aload_n 0, 1) := by decide +kernel
theorem d23_7 : decode prog_15_method_5_code 7 = .ok (.getfield 35, 3) := by decide +kernel
theorem d23_10 : decode prog_15_method_5_code 10 = .ok (.iload 5, 2) := by decide +kernel
theorem d23_12 : decode prog_15_method_5_code 12 = .ok (.iconst 2, 1) := by decide +kernel
theorem d23_13 : decode prog_15_method_5_code 13 = .ok (.iadd, 1) := by decide +kernel
theorem d23_14 : decode prog_15_method_5_code 14 = .ok (.iload_n 2, 1) := by decide +kernel
theorem d23_15 : decode prog_15_method_5_code 15 = .ok (.iastore, 1) := by decide +kernel
theorem d23_16 : decode prog_15_method_5_code 16 = .ok (.aload_n 0, 1) := by decide +kernel
theorem d23_17 : decode prog_15_method_5_code 17 = .ok (.getfield 35, 3) := by decide +kernel
theorem d23_20 : decode prog_15_method_5_code 20 = .ok (.iload 5, 2) := by decide +kernel
theorem d23_22 : decode prog_15_method_5_code 22 = .ok (.iconst 3, 1) := by decide +kernel
theorem d23_23 : decode prog_15_method_5_code 23 = .ok (.iadd, 1) := by decide +kernel
theorem d23_24 : decode prog_15_method_5_code 24 = .ok (.iload_n 3, 1) := by decide +kernel
theorem d23_25 : decode prog_15_method_5_code 25 = .ok (.iastore, 1) := by decide +kernel
theorem d23_26 : decode prog_15_method_5_code 26 = .ok (.aload_n 0, 1) := by decide +kernel
theorem d23_27 : decode prog_15_method_5_code 27 = .ok (.getfield 35, 3) := by decide +kernel
theorem d23_30 : decode prog_15_method_5_code 30 = .ok (.iload 5, 2) := by decide +kernel
theorem d23_32 : decode prog_15_method_5_code 32 = .ok (.iconst 4, 1) := by decide +kernel
theorem d23_33 : decode prog_15_method_5_code 33 = .ok (.iadd, 1) := by decide +kernel
theorem d23_34 : decode prog_15_method_5_code 34 = .ok (.iload 4, 2) := by decide +kernel
theorem d23_36 : decode prog_15_method_5_code 36 = .ok (.iastore, 1) := by decide +kernel
theorem d23_37 : decode prog_15_method_5_code 37 = .ok (.return_, 1) := by decide +kernel
theorem tw0 {Z : State} {a0 : Array Value} (hw : ∀ d ∈ tables_1, d.before a0 Z = true) : (Jvm.Cond.arrayClass Jvm.ClassFile.FieldType.char).before a0 Z = true := hw _ (List.mem_of_getElem? (i := 0) rfl)
theorem tw1 {Z : State} {a0 : Array Value} (hw : ∀ d ∈ tables_1, d.before a0 Z = true) : (Jvm.Cond.classLink "com/example/vaatimus/vaatimus/io/PropertyIndexReplacePinLaw" (7 : Nat) "java/lang/String").before a0 Z = true := hw _ (List.mem_of_getElem? (i := 1) rfl)
theorem tw2 {Z : State} {a0 : Array Value} (hw : ∀ d ∈ tables_1, d.before a0 Z = true) : (Jvm.Cond.instantiable "java/lang/String" (4 : Nat)).before a0 Z = true := hw _ (List.mem_of_getElem? (i := 2) rfl)
theorem tw3 {Z : State} {a0 : Array Value} (hw : ∀ d ∈ tables_1, d.before a0 Z = true) : (Jvm.Cond.initialized "java/lang/String").before a0 Z = true := hw _ (List.mem_of_getElem? (i := 3) rfl)
theorem tw4 {Z : State} {a0 : Array Value} (hw : ∀ d ∈ tables_1, d.before a0 Z = true) : (Jvm.Cond.methodLink "com/example/vaatimus/vaatimus/io/PropertyIndexReplacePinLaw" (9 : Nat) ({ cls := "java/lang/String", name := "<init>", desc := "([C)V" } : Jvm.MethodName)).before a0 Z = true := hw _ (List.mem_of_getElem? (i := 4) rfl)
theorem tw5 {Z : State} {a0 : Array Value} (hw : ∀ d ∈ tables_1, d.before a0 Z = true) : (Jvm.Cond.instanceMethod ({ cls := "java/lang/String", name := "<init>", desc := "([C)V" } : Jvm.MethodName)).before a0 Z = true := hw _ (List.mem_of_getElem? (i := 5) rfl)
theorem tw6 {Z : State} {a0 : Array Value} (hw : ∀ d ∈ tables_1, d.before a0 Z = true) : (Jvm.Cond.code ({ cls := "java/lang/String", name := "<init>", desc := "([C)V" } : Jvm.MethodName) jdk_42_method_3_code (2 : Nat) (Option.none : Option Jvm.ClassFile.FieldType)).before a0 Z = true := hw _ (List.mem_of_getElem? (i := 6) rfl)
theorem tw7 {Z : State} {a0 : Array Value} (hw : ∀ d ∈ tables_1, d.before a0 Z = true) : (Jvm.Cond.methodLink "java/lang/String" (27 : Nat) ({ cls := "java/lang/String", name := "<init>", desc := "([CIILjava/lang/Void;)V" } : Jvm.MethodName)).before a0 Z = true := hw _ (List.mem_of_getElem? (i := 7) rfl)
theorem tw8 {Z : State} {a0 : Array Value} (hw : ∀ d ∈ tables_1, d.before a0 Z = true) : (Jvm.Cond.instanceMethod ({ cls := "java/lang/String", name := "<init>", desc := "([CIILjava/lang/Void;)V" } : Jvm.MethodName)).before a0 Z = true := hw _ (List.mem_of_getElem? (i := 8) rfl)
theorem tw10 {Z : State} {a0 : Array Value} (hw : ∀ d ∈ tables_1, d.before a0 Z = true) : (Jvm.Cond.code ({ cls := "java/lang/String", name := "<init>", desc := "([CIILjava/lang/Void;)V" } : Jvm.MethodName) jdk_42_method_149_code (6 : Nat) (Option.none : Option Jvm.ClassFile.FieldType)).before a0 Z = true := hw _ (List.mem_of_getElem? (i := 10) rfl)
theorem tw11 {Z : State} {a0 : Array Value} (hw : ∀ d ∈ tables_1, d.before a0 Z = true) : (Jvm.Cond.methodLink "java/lang/String" (1 : Nat) ({ cls := "java/lang/Object", name := "<init>", desc := "()V" } : Jvm.MethodName)).before a0 Z = true := hw _ (List.mem_of_getElem? (i := 11) rfl)
theorem tw12 {Z : State} {a0 : Array Value} (hw : ∀ d ∈ tables_1, d.before a0 Z = true) : (Jvm.Cond.instanceMethod ({ cls := "java/lang/Object", name := "<init>", desc := "()V" } : Jvm.MethodName)).before a0 Z = true := hw _ (List.mem_of_getElem? (i := 12) rfl)
theorem tw13 {Z : State} {a0 : Array Value} (hw : ∀ d ∈ tables_1, d.before a0 Z = true) : (Jvm.Cond.code ({ cls := "java/lang/Object", name := "<init>", desc := "()V" } : Jvm.MethodName) object_method_1_code (1 : Nat) (Option.none : Option Jvm.ClassFile.FieldType)).before a0 Z = true := hw _ (List.mem_of_getElem? (i := 13) rfl)
theorem tw14 {Z : State} {a0 : Array Value} (hw : ∀ d ∈ tables_1, d.before a0 Z = true) : (Jvm.Cond.fieldLink "java/lang/String" (38 : Nat) "java/lang/String" "COMPACT_STRINGS" "Z").before a0 Z = true := hw _ (List.mem_of_getElem? (i := 14) rfl)
theorem tw15 {Z : State} {a0 : Array Value} (hw : ∀ d ∈ tables_1, d.before a0 Z = true) : (Jvm.Cond.methodLink "java/lang/String" (177 : Nat) ({ cls := "java/lang/StringUTF16", name := "compress", desc := "([CII)[B" } : Jvm.MethodName)).before a0 Z = true := hw _ (List.mem_of_getElem? (i := 15) rfl)
theorem tw16 {Z : State} {a0 : Array Value} (hw : ∀ d ∈ tables_1, d.before a0 Z = true) : (Jvm.Cond.static ({ cls := "java/lang/StringUTF16", name := "compress", desc := "([CII)[B" } : Jvm.MethodName)).before a0 Z = true := hw _ (List.mem_of_getElem? (i := 16) rfl)
theorem tw17 {Z : State} {a0 : Array Value} (hw : ∀ d ∈ tables_1, d.before a0 Z = true) : (Jvm.Cond.initialized "java/lang/StringUTF16").before a0 Z = true := hw _ (List.mem_of_getElem? (i := 17) rfl)
theorem tw18 {Z : State} {a0 : Array Value} (hw : ∀ d ∈ tables_1, d.before a0 Z = true) : (Jvm.Cond.code ({ cls := "java/lang/StringUTF16", name := "compress", desc := "([CII)[B" } : Jvm.MethodName) jdk_52_method_16_code (6 : Nat) (Option.some (Jvm.ClassFile.FieldType.array Jvm.ClassFile.FieldType.byte))).before a0 Z = true := hw _ (List.mem_of_getElem? (i := 18) rfl)
theorem tw19 {Z : State} {a0 : Array Value} (hw : ∀ d ∈ tables_1, d.before a0 Z = true) : (Jvm.Cond.arrayClass Jvm.ClassFile.FieldType.byte).before a0 Z = true := hw _ (List.mem_of_getElem? (i := 19) rfl)
theorem tw20 {Z : State} {a0 : Array Value} (hw : ∀ d ∈ tables_1, d.before a0 Z = true) : (Jvm.Cond.methodLink "java/lang/StringUTF16" (115 : Nat) ({ cls := "java/lang/StringUTF16", name := "compress", desc := "([CI[BII)I" } : Jvm.MethodName)).before a0 Z = true := hw _ (List.mem_of_getElem? (i := 20) rfl)
theorem tw21 {Z : State} {a0 : Array Value} (hw : ∀ d ∈ tables_1, d.before a0 Z = true) : (Jvm.Cond.static ({ cls := "java/lang/StringUTF16", name := "compress", desc := "([CI[BII)I" } : Jvm.MethodName)).before a0 Z = true := hw _ (List.mem_of_getElem? (i := 21) rfl)
theorem tw22 {Z : State} {a0 : Array Value} (hw : ∀ d ∈ tables_1, d.before a0 Z = true) : (Jvm.Cond.code ({ cls := "java/lang/StringUTF16", name := "compress", desc := "([CI[BII)I" } : Jvm.MethodName) jdk_52_method_21_code (7 : Nat) (Option.some Jvm.ClassFile.FieldType.int)).before a0 Z = true := hw _ (List.mem_of_getElem? (i := 22) rfl)
theorem tw23 {Z : State} {a0 : Array Value} (hw : ∀ d ∈ tables_1, d.before a0 Z = true) : (Jvm.Cond.methodLink "java/lang/String" (47 : Nat) ({ cls := "java/lang/StringUTF16", name := "coderFromArrayLen", desc := "([BI)B" } : Jvm.MethodName)).before a0 Z = true := hw _ (List.mem_of_getElem? (i := 23) rfl)
theorem tw24 {Z : State} {a0 : Array Value} (hw : ∀ d ∈ tables_1, d.before a0 Z = true) : (Jvm.Cond.static ({ cls := "java/lang/StringUTF16", name := "coderFromArrayLen", desc := "([BI)B" } : Jvm.MethodName)).before a0 Z = true := hw _ (List.mem_of_getElem? (i := 24) rfl)
theorem tw25 {Z : State} {a0 : Array Value} (hw : ∀ d ∈ tables_1, d.before a0 Z = true) : (Jvm.Cond.code ({ cls := "java/lang/StringUTF16", name := "coderFromArrayLen", desc := "([BI)B" } : Jvm.MethodName) jdk_52_method_15_code (2 : Nat) (Option.some Jvm.ClassFile.FieldType.byte)).before a0 Z = true := hw _ (List.mem_of_getElem? (i := 25) rfl)
theorem tw26 {Z : State} {a0 : Array Value} (hw : ∀ d ∈ tables_1, d.before a0 Z = true) : (Jvm.Cond.fieldLink "java/lang/String" (15 : Nat) "java/lang/String" "coder" "B").before a0 Z = true := hw _ (List.mem_of_getElem? (i := 26) rfl)
theorem tw27 {Z : State} {a0 : Array Value} (hw : ∀ d ∈ tables_1, d.before a0 Z = true) : (Jvm.Cond.laysFinal "java/lang/String" "java/lang/String" "coder" "B").before a0 Z = true := hw _ (List.mem_of_getElem? (i := 27) rfl)
theorem tw28 {Z : State} {a0 : Array Value} (hw : ∀ d ∈ tables_1, d.before a0 Z = true) : (Jvm.Cond.fieldLink "java/lang/String" (9 : Nat) "java/lang/String" "value" "[B").before a0 Z = true := hw _ (List.mem_of_getElem? (i := 28) rfl)
theorem tw29 {Z : State} {a0 : Array Value} (hw : ∀ d ∈ tables_1, d.before a0 Z = true) : (Jvm.Cond.laysFinal "java/lang/String" "java/lang/String" "value" "[B").before a0 Z = true := hw _ (List.mem_of_getElem? (i := 29) rfl)
theorem tw30 {Z : State} {a0 : Array Value} (hw : ∀ d ∈ tables_1, d.before a0 Z = true) : (Jvm.Cond.classLink "com/example/vaatimus/vaatimus/io/PropertyIndexReplacePinLaw" (12 : Nat) "com/example/vaatimus/vaatimus/io/PropertyIndex").before a0 Z = true := hw _ (List.mem_of_getElem? (i := 30) rfl)
theorem tw31 {Z : State} {a0 : Array Value} (hw : ∀ d ∈ tables_1, d.before a0 Z = true) : (Jvm.Cond.instantiable "com/example/vaatimus/vaatimus/io/PropertyIndex" (8 : Nat)).before a0 Z = true := hw _ (List.mem_of_getElem? (i := 31) rfl)
theorem tw32 {Z : State} {a0 : Array Value} (hw : ∀ d ∈ tables_1, d.before a0 Z = true) : (Jvm.Cond.initialized "com/example/vaatimus/vaatimus/io/PropertyIndex").before a0 Z = true := hw _ (List.mem_of_getElem? (i := 32) rfl)
theorem tw33 {Z : State} {a0 : Array Value} (hw : ∀ d ∈ tables_1, d.before a0 Z = true) : (Jvm.Cond.methodLink "com/example/vaatimus/vaatimus/io/PropertyIndexReplacePinLaw" (14 : Nat) ({ cls := "com/example/vaatimus/vaatimus/io/PropertyIndex", name := "<init>", desc := "(Ljava/lang/String;Lcom/example/vaatimus/vaatimus/io/LineEnds;I)V" } : Jvm.MethodName)).before a0 Z = true := hw _ (List.mem_of_getElem? (i := 33) rfl)
theorem tw34 {Z : State} {a0 : Array Value} (hw : ∀ d ∈ tables_1, d.before a0 Z = true) : (Jvm.Cond.instanceMethod ({ cls := "com/example/vaatimus/vaatimus/io/PropertyIndex", name := "<init>", desc := "(Ljava/lang/String;Lcom/example/vaatimus/vaatimus/io/LineEnds;I)V" } : Jvm.MethodName)).before a0 Z = true := hw _ (List.mem_of_getElem? (i := 34) rfl)
theorem tw35 {Z : State} {a0 : Array Value} (hw : ∀ d ∈ tables_1, d.before a0 Z = true) : (Jvm.Cond.code ({ cls := "com/example/vaatimus/vaatimus/io/PropertyIndex", name := "<init>", desc := "(Ljava/lang/String;Lcom/example/vaatimus/vaatimus/io/LineEnds;I)V" } : Jvm.MethodName) prog_15_method_2_code (5 : Nat) (Option.none : Option Jvm.ClassFile.FieldType)).before a0 Z = true := hw _ (List.mem_of_getElem? (i := 35) rfl)
theorem tw36 {Z : State} {a0 : Array Value} (hw : ∀ d ∈ tables_1, d.before a0 Z = true) : (Jvm.Cond.methodLink "com/example/vaatimus/vaatimus/io/PropertyIndex" (19 : Nat) ({ cls := "java/util/AbstractMap", name := "<init>", desc := "()V" } : Jvm.MethodName)).before a0 Z = true := hw _ (List.mem_of_getElem? (i := 36) rfl)
theorem tw37 {Z : State} {a0 : Array Value} (hw : ∀ d ∈ tables_1, d.before a0 Z = true) : (Jvm.Cond.instanceMethod ({ cls := "java/util/AbstractMap", name := "<init>", desc := "()V" } : Jvm.MethodName)).before a0 Z = true := hw _ (List.mem_of_getElem? (i := 37) rfl)
theorem tw39 {Z : State} {a0 : Array Value} (hw : ∀ d ∈ tables_1, d.before a0 Z = true) : (Jvm.Cond.initialized "java/util/AbstractMap").before a0 Z = true := hw _ (List.mem_of_getElem? (i := 39) rfl)
theorem tw40 {Z : State} {a0 : Array Value} (hw : ∀ d ∈ tables_1, d.before a0 Z = true) : (Jvm.Cond.code ({ cls := "java/util/AbstractMap", name := "<init>", desc := "()V" } : Jvm.MethodName) jdk_71_method_1_code (1 : Nat) (Option.none : Option Jvm.ClassFile.FieldType)).before a0 Z = true := hw _ (List.mem_of_getElem? (i := 40) rfl)
theorem tw41 {Z : State} {a0 : Array Value} (hw : ∀ d ∈ tables_1, d.before a0 Z = true) : (Jvm.Cond.methodLink "java/util/AbstractMap" (1 : Nat) ({ cls := "java/lang/Object", name := "<init>", desc := "()V" } : Jvm.MethodName)).before a0 Z = true := hw _ (List.mem_of_getElem? (i := 41) rfl)
theorem tw42 {Z : State} {a0 : Array Value} (hw : ∀ d ∈ tables_1, d.before a0 Z = true) : (Jvm.Cond.fieldLink "com/example/vaatimus/vaatimus/io/PropertyIndex" (24 : Nat) "com/example/vaatimus/vaatimus/io/PropertyIndex" "text" "Ljava/lang/String;").before a0 Z = true := hw _ (List.mem_of_getElem? (i := 42) rfl)
theorem tw43 {Z : State} {a0 : Array Value} (hw : ∀ d ∈ tables_1, d.before a0 Z = true) : (Jvm.Cond.laysFinal "com/example/vaatimus/vaatimus/io/PropertyIndex" "com/example/vaatimus/vaatimus/io/PropertyIndex" "text" "Ljava/lang/String;").before a0 Z = true := hw _ (List.mem_of_getElem? (i := 43) rfl)
theorem tw44 {Z : State} {a0 : Array Value} (hw : ∀ d ∈ tables_1, d.before a0 Z = true) : (Jvm.Cond.fieldLink "com/example/vaatimus/vaatimus/io/PropertyIndex" (28 : Nat) "com/example/vaatimus/vaatimus/io/PropertyIndex" "lineEnds" "Lcom/example/vaatimus/vaatimus/io/LineEnds;").before a0 Z = true := hw _ (List.mem_of_getElem? (i := 44) rfl)
theorem tw45 {Z : State} {a0 : Array Value} (hw : ∀ d ∈ tables_1, d.before a0 Z = true) : (Jvm.Cond.laysFinal "com/example/vaatimus/vaatimus/io/PropertyIndex" "com/example/vaatimus/vaatimus/io/PropertyIndex" "lineEnds" "Lcom/example/vaatimus/vaatimus/io/LineEnds;").before a0 Z = true := hw _ (List.mem_of_getElem? (i := 45) rfl)
theorem tw46 {Z : State} {a0 : Array Value} (hw : ∀ d ∈ tables_1, d.before a0 Z = true) : (Jvm.Cond.methodLink "com/example/vaatimus/vaatimus/io/PropertyIndex" (32 : Nat) ({ cls := "java/lang/Math", name := "max", desc := "(II)I" } : Jvm.MethodName)).before a0 Z = true := hw _ (List.mem_of_getElem? (i := 46) rfl)
theorem tw47 {Z : State} {a0 : Array Value} (hw : ∀ d ∈ tables_1, d.before a0 Z = true) : (Jvm.Cond.static ({ cls := "java/lang/Math", name := "max", desc := "(II)I" } : Jvm.MethodName)).before a0 Z = true := hw _ (List.mem_of_getElem? (i := 47) rfl)
theorem tw48 {Z : State} {a0 : Array Value} (hw : ∀ d ∈ tables_1, d.before a0 Z = true) : (Jvm.Cond.initialized "java/lang/Math").before a0 Z = true := hw _ (List.mem_of_getElem? (i := 48) rfl)
theorem tw49 {Z : State} {a0 : Array Value} (hw : ∀ d ∈ tables_1, d.before a0 Z = true) : (Jvm.Cond.code ({ cls := "java/lang/Math", name := "max", desc := "(II)I" } : Jvm.MethodName) jdk_29_method_65_code (2 : Nat) (Option.some Jvm.ClassFile.FieldType.int)).before a0 Z = true := hw _ (List.mem_of_getElem? (i := 49) rfl)
theorem tw50 {Z : State} {a0 : Array Value} (hw : ∀ d ∈ tables_1, d.before a0 Z = true) : (Jvm.Cond.arrayClass Jvm.ClassFile.FieldType.int).before a0 Z = true := hw _ (List.mem_of_getElem? (i := 50) rfl)
theorem tw51 {Z : State} {a0 : Array Value} (hw : ∀ d ∈ tables_1, d.before a0 Z = true) : (Jvm.Cond.fieldLink "com/example/vaatimus/vaatimus/io/PropertyIndex" (35 : Nat) "com/example/vaatimus/vaatimus/io/PropertyIndex" "entries" "[I").before a0 Z = true := hw _ (List.mem_of_getElem? (i := 51) rfl)
theorem tw52 {Z : State} {a0 : Array Value} (hw : ∀ d ∈ tables_1, d.before a0 Z = true) : (Jvm.Cond.lays "com/example/vaatimus/vaatimus/io/PropertyIndex" "com/example/vaatimus/vaatimus/io/PropertyIndex" "entries" "[I").before a0 Z = true := hw _ (List.mem_of_getElem? (i := 52) rfl)
theorem tw53 {Z : State} {a0 : Array Value} (hw : ∀ d ∈ tables_1, d.before a0 Z = true) : (Jvm.Cond.methodLink "com/example/vaatimus/vaatimus/io/PropertyIndex" (39 : Nat) ({ cls := "java/lang/Integer", name := "highestOneBit", desc := "(I)I" } : Jvm.MethodName)).before a0 Z = true := hw _ (List.mem_of_getElem? (i := 53) rfl)
theorem tw54 {Z : State} {a0 : Array Value} (hw : ∀ d ∈ tables_1, d.before a0 Z = true) : (Jvm.Cond.static ({ cls := "java/lang/Integer", name := "highestOneBit", desc := "(I)I" } : Jvm.MethodName)).before a0 Z = true := hw _ (List.mem_of_getElem? (i := 54) rfl)
theorem tw55 {Z : State} {a0 : Array Value} (hw : ∀ d ∈ tables_1, d.before a0 Z = true) : (Jvm.Cond.initialized "java/lang/Integer").before a0 Z = true := hw _ (List.mem_of_getElem? (i := 55) rfl)
theorem tw56 {Z : State} {a0 : Array Value} (hw : ∀ d ∈ tables_1, d.before a0 Z = true) : (Jvm.Cond.code ({ cls := "java/lang/Integer", name := "highestOneBit", desc := "(I)I" } : Jvm.MethodName) jdk_33_method_45_code (1 : Nat) (Option.some Jvm.ClassFile.FieldType.int)).before a0 Z = true := hw _ (List.mem_of_getElem? (i := 56) rfl)
theorem tw57 {Z : State} {a0 : Array Value} (hw : ∀ d ∈ tables_1, d.before a0 Z = true) : (Jvm.Cond.constant "java/lang/Integer" (127 : Nat) (-2147483648 : Int32)).before a0 Z = true := hw _ (List.mem_of_getElem? (i := 57) rfl)
theorem tw58 {Z : State} {a0 : Array Value} (hw : ∀ d ∈ tables_1, d.before a0 Z = true) : (Jvm.Cond.methodLink "java/lang/Integer" (51 : Nat) ({ cls := "java/lang/Integer", name := "numberOfLeadingZeros", desc := "(I)I" } : Jvm.MethodName)).before a0 Z = true := hw _ (List.mem_of_getElem? (i := 58) rfl)
theorem tw59 {Z : State} {a0 : Array Value} (hw : ∀ d ∈ tables_1, d.before a0 Z = true) : (Jvm.Cond.static ({ cls := "java/lang/Integer", name := "numberOfLeadingZeros", desc := "(I)I" } : Jvm.MethodName)).before a0 Z = true := hw _ (List.mem_of_getElem? (i := 59) rfl)
theorem tw60 {Z : State} {a0 : Array Value} (hw : ∀ d ∈ tables_1, d.before a0 Z = true) : (Jvm.Cond.code ({ cls := "java/lang/Integer", name := "numberOfLeadingZeros", desc := "(I)I" } : Jvm.MethodName) jdk_33_method_47_code (2 : Nat) (Option.some Jvm.ClassFile.FieldType.int)).before a0 Z = true := hw _ (List.mem_of_getElem? (i := 60) rfl)
theorem tw61 {Z : State} {a0 : Array Value} (hw : ∀ d ∈ tables_1, d.before a0 Z = true) : (Jvm.Cond.constant "java/lang/Integer" (264 : Nat) (65536 : Int32)).before a0 Z = true := hw _ (List.mem_of_getElem? (i := 61) rfl)
theorem tw62 {Z : State} {a0 : Array Value} (hw : ∀ d ∈ tables_1, d.before a0 Z = true) : (Jvm.Cond.fieldLink "com/example/vaatimus/vaatimus/io/PropertyIndex" (45 : Nat) "com/example/vaatimus/vaatimus/io/PropertyIndex" "slots" "[I").before a0 Z = true := hw _ (List.mem_of_getElem? (i := 62) rfl)
theorem tw63 {Z : State} {a0 : Array Value} (hw : ∀ d ∈ tables_1, d.before a0 Z = true) : (Jvm.Cond.lays "com/example/vaatimus/vaatimus/io/PropertyIndex" "com/example/vaatimus/vaatimus/io/PropertyIndex" "slots" "[I").before a0 Z = true := hw _ (List.mem_of_getElem? (i := 63) rfl)
theorem tw64 {Z : State} {a0 : Array Value} (hw : ∀ d ∈ tables_1, d.before a0 Z = true) : (Jvm.Cond.methodLink "com/example/vaatimus/vaatimus/io/PropertyIndexReplacePinLaw" (17 : Nat) ({ cls := "com/example/vaatimus/vaatimus/io/PropertyIndex", name := "add", desc := "(IIIII)I" } : Jvm.MethodName)).before a0 Z = true := hw _ (List.mem_of_getElem? (i := 64) rfl)
theorem tw65 {Z : State} {a0 : Array Value} (hw : ∀ d ∈ tables_1, d.before a0 Z = true) : (Jvm.Cond.declares ({ cls := "com/example/vaatimus/vaatimus/io/PropertyIndex", name := "add", desc := "(IIIII)I" } : Jvm.MethodName)).before a0 Z = true := hw _ (List.mem_of_getElem? (i := 65) rfl)
theorem tw66 {Z : State} {a0 : Array Value} (hw : ∀ d ∈ tables_1, d.before a0 Z = true) : (Jvm.Cond.instanceMethod ({ cls := "com/example/vaatimus/vaatimus/io/PropertyIndex", name := "add", desc := "(IIIII)I" } : Jvm.MethodName)).before a0 Z = true := hw _ (List.mem_of_getElem? (i := 66) rfl)
theorem tw67 {Z : State} {a0 : Array Value} (hw : ∀ d ∈ tables_1, d.before a0 Z = true) : (Jvm.Cond.selects "com/example/vaatimus/vaatimus/io/PropertyIndex" ({ cls := "com/example/vaatimus/vaatimus/io/PropertyIndex", name := "add", desc := "(IIIII)I" } : Jvm.MethodName) ({ cls := "com/example/vaatimus/vaatimus/io/PropertyIndex", name := "add", desc := "(IIIII)I" } : Jvm.MethodName)).before a0 Z = true := hw _ (List.mem_of_getElem? (i := 67) rfl)
theorem tw68 {Z : State} {a0 : Array Value} (hw : ∀ d ∈ tables_1, d.before a0 Z = true) : (Jvm.Cond.code ({ cls := "com/example/vaatimus/vaatimus/io/PropertyIndex", name := "add", desc := "(IIIII)I" } : Jvm.MethodName) prog_15_method_3_code (10 : Nat) (Option.some Jvm.ClassFile.FieldType.int)).before a0 Z = true := hw _ (List.mem_of_getElem? (i := 68) rfl)
theorem tw69 {Z : State} {a0 : Array Value} (hw : ∀ d ∈ tables_1, d.before a0 Z = true) : (Jvm.Cond.methodLink "com/example/vaatimus/vaatimus/io/PropertyIndex" (48 : Nat) ({ cls := "com/example/vaatimus/vaatimus/io/PropertyIndex", name := "hash", desc := "(Ljava/lang/String;II)I" } : Jvm.MethodName)).before a0 Z = true := hw _ (List.mem_of_getElem? (i := 69) rfl)
theorem tw70 {Z : State} {a0 : Array Value} (hw : ∀ d ∈ tables_1, d.before a0 Z = true) : (Jvm.Cond.instanceMethod ({ cls := "com/example/vaatimus/vaatimus/io/PropertyIndex", name := "hash", desc := "(Ljava/lang/String;II)I" } : Jvm.MethodName)).before a0 Z = true := hw _ (List.mem_of_getElem? (i := 70) rfl)
theorem tw71 {Z : State} {a0 : Array Value} (hw : ∀ d ∈ tables_1, d.before a0 Z = true) : (Jvm.Cond.privateMethod ({ cls := "com/example/vaatimus/vaatimus/io/PropertyIndex", name := "hash", desc := "(Ljava/lang/String;II)I" } : Jvm.MethodName)).before a0 Z = true := hw _ (List.mem_of_getElem? (i := 71) rfl)
theorem tw72 {Z : State} {a0 : Array Value} (hw : ∀ d ∈ tables_1, d.before a0 Z = true) : (Jvm.Cond.code ({ cls := "com/example/vaatimus/vaatimus/io/PropertyIndex", name := "hash", desc := "(Ljava/lang/String;II)I" } : Jvm.MethodName) prog_15_method_14_code (4 : Nat) (Option.some Jvm.ClassFile.FieldType.int)).before a0 Z = true := hw _ (List.mem_of_getElem? (i := 72) rfl)
theorem tw73 {Z : State} {a0 : Array Value} (hw : ∀ d ∈ tables_1, d.before a0 Z = true) : (Jvm.Cond.fieldLink "com/example/vaatimus/vaatimus/io/PropertyIndex" (56 : Nat) "com/example/vaatimus/vaatimus/io/PropertyIndex" "keyed" "Z").before a0 Z = true := hw _ (List.mem_of_getElem? (i := 73) rfl)
theorem tw74 {Z : State} {a0 : Array Value} (hw : ∀ d ∈ tables_1, d.before a0 Z = true) : (Jvm.Cond.lays "com/example/vaatimus/vaatimus/io/PropertyIndex" "com/example/vaatimus/vaatimus/io/PropertyIndex" "keyed" "Z").before a0 Z = true := hw _ (List.mem_of_getElem? (i := 74) rfl)
theorem tw75 {Z : State} {a0 : Array Value} (hw : ∀ d ∈ tables_1, d.before a0 Z = true) : (Jvm.Cond.methodLink "com/example/vaatimus/vaatimus/io/PropertyIndex" (116 : Nat) ({ cls := "com/example/vaatimus/vaatimus/io/PropertyIndex", name := "plainHash", desc := "(Ljava/lang/String;II)I" } : Jvm.MethodName)).before a0 Z = true := hw _ (List.mem_of_getElem? (i := 75) rfl)
theorem tw76 {Z : State} {a0 : Array Value} (hw : ∀ d ∈ tables_1, d.before a0 Z = true) : (Jvm.Cond.static ({ cls := "com/example/vaatimus/vaatimus/io/PropertyIndex", name := "plainHash", desc := "(Ljava/lang/String;II)I" } : Jvm.MethodName)).before a0 Z = true := hw _ (List.mem_of_getElem? (i := 76) rfl)
theorem tw77 {Z : State} {a0 : Array Value} (hw : ∀ d ∈ tables_1, d.before a0 Z = true) : (Jvm.Cond.code ({ cls := "com/example/vaatimus/vaatimus/io/PropertyIndex", name := "plainHash", desc := "(Ljava/lang/String;II)I" } : Jvm.MethodName) prog_15_method_15_code (5 : Nat) (Option.some Jvm.ClassFile.FieldType.int)).before a0 Z = true := hw _ (List.mem_of_getElem? (i := 77) rfl)
theorem tw78 {Z : State} {a0 : Array Value} (hw : ∀ d ∈ tables_1, d.before a0 Z = true) : (Jvm.Cond.methodLink "com/example/vaatimus/vaatimus/io/PropertyIndex" (119 : Nat) ({ cls := "java/lang/String", name := "charAt", desc := "(I)C" } : Jvm.MethodName)).before a0 Z = true := hw _ (List.mem_of_getElem? (i := 78) rfl)
theorem tw79 {Z : State} {a0 : Array Value} (hw : ∀ d ∈ tables_1, d.before a0 Z = true) : (Jvm.Cond.declares ({ cls := "java/lang/String", name := "charAt", desc := "(I)C" } : Jvm.MethodName)).before a0 Z = true := hw _ (List.mem_of_getElem? (i := 79) rfl)
theorem tw80 {Z : State} {a0 : Array Value} (hw : ∀ d ∈ tables_1, d.before a0 Z = true) : (Jvm.Cond.instanceMethod ({ cls := "java/lang/String", name := "charAt", desc := "(I)C" } : Jvm.MethodName)).before a0 Z = true := hw _ (List.mem_of_getElem? (i := 80) rfl)
theorem tw81 {Z : State} {a0 : Array Value} (hw : ∀ d ∈ tables_1, d.before a0 Z = true) : (Jvm.Cond.selects "java/lang/String" ({ cls := "java/lang/String", name := "charAt", desc := "(I)C" } : Jvm.MethodName) ({ cls := "java/lang/String", name := "charAt", desc := "(I)C" } : Jvm.MethodName)).before a0 Z = true := hw _ (List.mem_of_getElem? (i := 81) rfl)
theorem tw82 {Z : State} {a0 : Array Value} (hw : ∀ d ∈ tables_1, d.before a0 Z = true) : (Jvm.Cond.code ({ cls := "java/lang/String", name := "charAt", desc := "(I)C" } : Jvm.MethodName) jdk_42_method_56_code (2 : Nat) (Option.some Jvm.ClassFile.FieldType.char)).before a0 Z = true := hw _ (List.mem_of_getElem? (i := 82) rfl)
theorem tw83 {Z : State} {a0 : Array Value} (hw : ∀ d ∈ tables_1, d.before a0 Z = true) : (Jvm.Cond.methodLink "java/lang/String" (492 : Nat) ({ cls := "java/lang/String", name := "isLatin1", desc := "()Z" } : Jvm.MethodName)).before a0 Z = true := hw _ (List.mem_of_getElem? (i := 83) rfl)
theorem tw84 {Z : State} {a0 : Array Value} (hw : ∀ d ∈ tables_1, d.before a0 Z = true) : (Jvm.Cond.declares ({ cls := "java/lang/String", name := "isLatin1", desc := "()Z" } : Jvm.MethodName)).before a0 Z = true := hw _ (List.mem_of_getElem? (i := 84) rfl)
theorem tw85 {Z : State} {a0 : Array Value} (hw : ∀ d ∈ tables_1, d.before a0 Z = true) : (Jvm.Cond.instanceMethod ({ cls := "java/lang/String", name := "isLatin1", desc := "()Z" } : Jvm.MethodName)).before a0 Z = true := hw _ (List.mem_of_getElem? (i := 85) rfl)
theorem tw86 {Z : State} {a0 : Array Value} (hw : ∀ d ∈ tables_1, d.before a0 Z = true) : (Jvm.Cond.selects "java/lang/String" ({ cls := "java/lang/String", name := "isLatin1", desc := "()Z" } : Jvm.MethodName) ({ cls := "java/lang/String", name := "isLatin1", desc := "()Z" } : Jvm.MethodName)).before a0 Z = true := hw _ (List.mem_of_getElem? (i := 86) rfl)
theorem tw87 {Z : State} {a0 : Array Value} (hw : ∀ d ∈ tables_1, d.before a0 Z = true) : (Jvm.Cond.code ({ cls := "java/lang/String", name := "isLatin1", desc := "()Z" } : Jvm.MethodName) jdk_42_method_154_code (1 : Nat) (Option.some Jvm.ClassFile.FieldType.boolean)).before a0 Z = true := hw _ (List.mem_of_getElem? (i := 87) rfl)
theorem tw88 {Z : State} {a0 : Array Value} (hw : ∀ d ∈ tables_1, d.before a0 Z = true) : (Jvm.Cond.methodLink "java/lang/String" (495 : Nat) ({ cls := "java/lang/StringLatin1", name := "charAt", desc := "([BI)C" } : Jvm.MethodName)).before a0 Z = true := hw _ (List.mem_of_getElem? (i := 88) rfl)
theorem tw89 {Z : State} {a0 : Array Value} (hw : ∀ d ∈ tables_1, d.before a0 Z = true) : (Jvm.Cond.static ({ cls := "java/lang/StringLatin1", name := "charAt", desc := "([BI)C" } : Jvm.MethodName)).before a0 Z = true := hw _ (List.mem_of_getElem? (i := 89) rfl)
theorem tw90 {Z : State} {a0 : Array Value} (hw : ∀ d ∈ tables_1, d.before a0 Z = true) : (Jvm.Cond.initialized "java/lang/StringLatin1").before a0 Z = true := hw _ (List.mem_of_getElem? (i := 90) rfl)
theorem tw91 {Z : State} {a0 : Array Value} (hw : ∀ d ∈ tables_1, d.before a0 Z = true) : (Jvm.Cond.code ({ cls := "java/lang/StringLatin1", name := "charAt", desc := "([BI)C" } : Jvm.MethodName) jdk_43_method_2_code (2 : Nat) (Option.some Jvm.ClassFile.FieldType.char)).before a0 Z = true := hw _ (List.mem_of_getElem? (i := 91) rfl)
theorem tw92 {Z : State} {a0 : Array Value} (hw : ∀ d ∈ tables_1, d.before a0 Z = true) : (Jvm.Cond.methodLink "java/lang/StringLatin1" (9 : Nat) ({ cls := "java/lang/String", name := "checkIndex", desc := "(II)V" } : Jvm.MethodName)).before a0 Z = true := hw _ (List.mem_of_getElem? (i := 92) rfl)
theorem tw93 {Z : State} {a0 : Array Value} (hw : ∀ d ∈ tables_1, d.before a0 Z = true) : (Jvm.Cond.static ({ cls := "java/lang/String", name := "checkIndex", desc := "(II)V" } : Jvm.MethodName)).before a0 Z = true := hw _ (List.mem_of_getElem? (i := 93) rfl)
theorem tw94 {Z : State} {a0 : Array Value} (hw : ∀ d ∈ tables_1, d.before a0 Z = true) : (Jvm.Cond.code ({ cls := "java/lang/String", name := "checkIndex", desc := "(II)V" } : Jvm.MethodName) jdk_42_method_155_code (2 : Nat) (Option.none : Option Jvm.ClassFile.FieldType)).before a0 Z = true := hw _ (List.mem_of_getElem? (i := 94) rfl)
theorem tw95 {Z : State} {a0 : Array Value} (hw : ∀ d ∈ tables_1, d.before a0 Z = true) : (Jvm.Cond.fieldLink "java/lang/String" (1053 : Nat) "jdk/internal/util/Preconditions" "SIOOBE_FORMATTER" "Ljava/util/function/BiFunction;").before a0 Z = true := hw _ (List.mem_of_getElem? (i := 95) rfl)
theorem tw96 {Z : State} {a0 : Array Value} (hw : ∀ d ∈ tables_1, d.before a0 Z = true) : (Jvm.Cond.initialized "jdk/internal/util/Preconditions").before a0 Z = true := hw _ (List.mem_of_getElem? (i := 96) rfl)
theorem tw97 {Z : State} {a0 : Array Value} (hw : ∀ d ∈ tables_1, d.before a0 Z = true) : (Jvm.Cond.methodLink "java/lang/String" (1059 : Nat) ({ cls := "jdk/internal/util/Preconditions", name := "checkIndex", desc := "(IILjava/util/function/BiFunction;)I" } : Jvm.MethodName)).before a0 Z = true := hw _ (List.mem_of_getElem? (i := 97) rfl)
theorem tw98 {Z : State} {a0 : Array Value} (hw : ∀ d ∈ tables_1, d.before a0 Z = true) : (Jvm.Cond.static ({ cls := "jdk/internal/util/Preconditions", name := "checkIndex", desc := "(IILjava/util/function/BiFunction;)I" } : Jvm.MethodName)).before a0 Z = true := hw _ (List.mem_of_getElem? (i := 98) rfl)
theorem tw99 {Z : State} {a0 : Array Value} (hw : ∀ d ∈ tables_1, d.before a0 Z = true) : (Jvm.Cond.code ({ cls := "jdk/internal/util/Preconditions", name := "checkIndex", desc := "(IILjava/util/function/BiFunction;)I" } : Jvm.MethodName) jdk_41_method_11_code (3 : Nat) (Option.some Jvm.ClassFile.FieldType.int)).before a0 Z = true := hw _ (List.mem_of_getElem? (i := 99) rfl)
theorem tw100 {Z : State} {a0 : Array Value} (hw : ∀ d ∈ tables_1, d.before a0 Z = true) : (Jvm.Cond.methodLink "com/example/vaatimus/vaatimus/io/PropertyIndex" (52 : Nat) ({ cls := "com/example/vaatimus/vaatimus/io/PropertyIndex", name := "slot", desc := "(Ljava/lang/String;III)I" } : Jvm.MethodName)).before a0 Z = true := hw _ (List.mem_of_getElem? (i := 100) rfl)
theorem tw101 {Z : State} {a0 : Array Value} (hw : ∀ d ∈ tables_1, d.before a0 Z = true) : (Jvm.Cond.instanceMethod ({ cls := "com/example/vaatimus/vaatimus/io/PropertyIndex", name := "slot", desc := "(Ljava/lang/String;III)I" } : Jvm.MethodName)).before a0 Z = true := hw _ (List.mem_of_getElem? (i := 101) rfl)
theorem tw102 {Z : State} {a0 : Array Value} (hw : ∀ d ∈ tables_1, d.before a0 Z = true) : (Jvm.Cond.privateMethod ({ cls := "com/example/vaatimus/vaatimus/io/PropertyIndex", name := "slot", desc := "(Ljava/lang/String;III)I" } : Jvm.MethodName)).before a0 Z = true := hw _ (List.mem_of_getElem? (i := 102) rfl)
theorem tw103 {Z : State} {a0 : Array Value} (hw : ∀ d ∈ tables_1, d.before a0 Z = true) : (Jvm.Cond.code ({ cls := "com/example/vaatimus/vaatimus/io/PropertyIndex", name := "slot", desc := "(Ljava/lang/String;III)I" } : Jvm.MethodName) prog_15_method_11_code (7 : Nat) (Option.some Jvm.ClassFile.FieldType.int)).before a0 Z = true := hw _ (List.mem_of_getElem? (i := 103) rfl)
theorem tw104 {Z : State} {a0 : Array Value} (hw : ∀ d ∈ tables_1, d.before a0 Z = true) : (Jvm.Cond.fieldLink "com/example/vaatimus/vaatimus/io/PropertyIndex" (60 : Nat) "com/example/vaatimus/vaatimus/io/PropertyIndex" "size" "I").before a0 Z = true := hw _ (List.mem_of_getElem? (i := 104) rfl)
theorem tw105 {Z : State} {a0 : Array Value} (hw : ∀ d ∈ tables_1, d.before a0 Z = true) : (Jvm.Cond.lays "com/example/vaatimus/vaatimus/io/PropertyIndex" "com/example/vaatimus/vaatimus/io/PropertyIndex" "size" "I").before a0 Z = true := hw _ (List.mem_of_getElem? (i := 105) rfl)
theorem tw106 {Z : State} {a0 : Array Value} (hw : ∀ d ∈ tables_1, d.before a0 Z = true) : (Jvm.Cond.methodLink "com/example/vaatimus/vaatimus/io/PropertyIndexReplacePinLaw" (21 : Nat) ({ cls := "java/lang/String", name := "valueOf", desc := "(C)Ljava/lang/String;" } : Jvm.MethodName)).before a0 Z = true := hw _ (List.mem_of_getElem? (i := 106) rfl)
theorem tw107 {Z : State} {a0 : Array Value} (hw : ∀ d ∈ tables_1, d.before a0 Z = true) : (Jvm.Cond.static ({ cls := "java/lang/String", name := "valueOf", desc := "(C)Ljava/lang/String;" } : Jvm.MethodName)).before a0 Z = true := hw _ (List.mem_of_getElem? (i := 107) rfl)
theorem tw108 {Z : State} {a0 : Array Value} (hw : ∀ d ∈ tables_1, d.before a0 Z = true) : (Jvm.Cond.code ({ cls := "java/lang/String", name := "valueOf", desc := "(C)Ljava/lang/String;" } : Jvm.MethodName) jdk_42_method_139_code (1 : Nat) (Option.some (Jvm.ClassFile.FieldType.object "java/lang/String"))).before a0 Z = true := hw _ (List.mem_of_getElem? (i := 108) rfl)
theorem tw109 {Z : State} {a0 : Array Value} (hw : ∀ d ∈ tables_1, d.before a0 Z = true) : (Jvm.Cond.methodLink "java/lang/String" (1015 : Nat) ({ cls := "java/lang/StringLatin1", name := "canEncode", desc := "(C)Z" } : Jvm.MethodName)).before a0 Z = true := hw _ (List.mem_of_getElem? (i := 109) rfl)
theorem tw110 {Z : State} {a0 : Array Value} (hw : ∀ d ∈ tables_1, d.before a0 Z = true) : (Jvm.Cond.static ({ cls := "java/lang/StringLatin1", name := "canEncode", desc := "(C)Z" } : Jvm.MethodName)).before a0 Z = true := hw _ (List.mem_of_getElem? (i := 110) rfl)
theorem tw111 {Z : State} {a0 : Array Value} (hw : ∀ d ∈ tables_1, d.before a0 Z = true) : (Jvm.Cond.code ({ cls := "java/lang/StringLatin1", name := "canEncode", desc := "(C)Z" } : Jvm.MethodName) jdk_43_method_3_code (1 : Nat) (Option.some Jvm.ClassFile.FieldType.boolean)).before a0 Z = true := hw _ (List.mem_of_getElem? (i := 111) rfl)
theorem tw112 {Z : State} {a0 : Array Value} (hw : ∀ d ∈ tables_1, d.before a0 Z = true) : (Jvm.Cond.classLink "java/lang/String" (10 : Nat) "java/lang/String").before a0 Z = true := hw _ (List.mem_of_getElem? (i := 112) rfl)
theorem tw113 {Z : State} {a0 : Array Value} (hw : ∀ d ∈ tables_1, d.before a0 Z = true) : (Jvm.Cond.methodLink "java/lang/String" (1018 : Nat) ({ cls := "java/lang/StringLatin1", name := "toBytes", desc := "(C)[B" } : Jvm.MethodName)).before a0 Z = true := hw _ (List.mem_of_getElem? (i := 113) rfl)
theorem tw114 {Z : State} {a0 : Array Value} (hw : ∀ d ∈ tables_1, d.before a0 Z = true) : (Jvm.Cond.static ({ cls := "java/lang/StringLatin1", name := "toBytes", desc := "(C)[B" } : Jvm.MethodName)).before a0 Z = true := hw _ (List.mem_of_getElem? (i := 114) rfl)
theorem tw115 {Z : State} {a0 : Array Value} (hw : ∀ d ∈ tables_1, d.before a0 Z = true) : (Jvm.Cond.code ({ cls := "java/lang/StringLatin1", name := "toBytes", desc := "(C)[B" } : Jvm.MethodName) jdk_43_method_46_code (1 : Nat) (Option.some (Jvm.ClassFile.FieldType.array Jvm.ClassFile.FieldType.byte))).before a0 Z = true := hw _ (List.mem_of_getElem? (i := 115) rfl)
theorem tw116 {Z : State} {a0 : Array Value} (hw : ∀ d ∈ tables_1, d.before a0 Z = true) : (Jvm.Cond.methodLink "java/lang/String" (209 : Nat) ({ cls := "java/lang/String", name := "<init>", desc := "([BB)V" } : Jvm.MethodName)).before a0 Z = true := hw _ (List.mem_of_getElem? (i := 116) rfl)
theorem tw117 {Z : State} {a0 : Array Value} (hw : ∀ d ∈ tables_1, d.before a0 Z = true) : (Jvm.Cond.instanceMethod ({ cls := "java/lang/String", name := "<init>", desc := "([BB)V" } : Jvm.MethodName)).before a0 Z = true := hw _ (List.mem_of_getElem? (i := 117) rfl)
theorem tw118 {Z : State} {a0 : Array Value} (hw : ∀ d ∈ tables_1, d.before a0 Z = true) : (Jvm.Cond.code ({ cls := "java/lang/String", name := "<init>", desc := "([BB)V" } : Jvm.MethodName) jdk_42_method_151_code (3 : Nat) (Option.none : Option Jvm.ClassFile.FieldType)).before a0 Z = true := hw _ (List.mem_of_getElem? (i := 118) rfl)
theorem tw119 {Z : State} {a0 : Array Value} (hw : ∀ d ∈ tables_1, d.before a0 Z = true) : (Jvm.Cond.methodLink "com/example/vaatimus/vaatimus/io/PropertyIndexReplacePinLaw" (25 : Nat) ({ cls := "com/example/vaatimus/vaatimus/io/PropertyIndex", name := "replace", desc := "(IIII)V" } : Jvm.MethodName)).before a0 Z = true := hw _ (List.mem_of_getElem? (i := 119) rfl)
theorem tw120 {Z : State} {a0 : Array Value} (hw : ∀ d ∈ tables_1, d.before a0 Z = true) : (Jvm.Cond.declares ({ cls := "com/example/vaatimus/vaatimus/io/PropertyIndex", name := "replace", desc := "(IIII)V" } : Jvm.MethodName)).before a0 Z = true := hw _ (List.mem_of_getElem? (i := 120) rfl)
theorem tw121 {Z : State} {a0 : Array Value} (hw : ∀ d ∈ tables_1, d.before a0 Z = true) : (Jvm.Cond.instanceMethod ({ cls := "com/example/vaatimus/vaatimus/io/PropertyIndex", name := "replace", desc := "(IIII)V" } : Jvm.MethodName)).before a0 Z = true := hw _ (List.mem_of_getElem? (i := 121) rfl)
theorem tw122 {Z : State} {a0 : Array Value} (hw : ∀ d ∈ tables_1, d.before a0 Z = true) : (Jvm.Cond.selects "com/example/vaatimus/vaatimus/io/PropertyIndex" ({ cls := "com/example/vaatimus/vaatimus/io/PropertyIndex", name := "replace", desc := "(IIII)V" } : Jvm.MethodName) ({ cls := "com/example/vaatimus/vaatimus/io/PropertyIndex", name := "replace", desc := "(IIII)V" } : Jvm.MethodName)).before a0 Z = true := hw _ (List.mem_of_getElem? (i := 122) rfl)
theorem tw123 {Z : State} {a0 : Array Value} (hw : ∀ d ∈ tables_1, d.before a0 Z = true) : (Jvm.Cond.code ({ cls := "com/example/vaatimus/vaatimus/io/PropertyIndex", name := "replace", desc := "(IIII)V" } : Jvm.MethodName) prog_15_method_5_code (6 : Nat) (Option.none : Option Jvm.ClassFile.FieldType)).before a0 Z = true := hw _ (List.mem_of_getElem? (i := 123) rfl)
theorem tw124 {Z : State} {a0 : Array Value} (hw : ∀ d ∈ tables_1, d.before a0 Z = true) : (Jvm.Cond.methodLink "com/example/vaatimus/vaatimus/io/PropertyIndexReplacePinLaw" (29 : Nat) ({ cls := "com/example/vaatimus/vaatimus/io/PropertyIndex", name := "valueStart", desc := "(I)I" } : Jvm.MethodName)).before a0 Z = true := hw _ (List.mem_of_getElem? (i := 124) rfl)
theorem tw125 {Z : State} {a0 : Array Value} (hw : ∀ d ∈ tables_1, d.before a0 Z = true) : (Jvm.Cond.declares ({ cls := "com/example/vaatimus/vaatimus/io/PropertyIndex", name := "valueStart", desc := "(I)I" } : Jvm.MethodName)).before a0 Z = true := hw _ (List.mem_of_getElem? (i := 125) rfl)
theorem tw126 {Z : State} {a0 : Array Value} (hw : ∀ d ∈ tables_1, d.before a0 Z = true) : (Jvm.Cond.instanceMethod ({ cls := "com/example/vaatimus/vaatimus/io/PropertyIndex", name := "valueStart", desc := "(I)I" } : Jvm.MethodName)).before a0 Z = true := hw _ (List.mem_of_getElem? (i := 126) rfl)
theorem tw127 {Z : State} {a0 : Array Value} (hw : ∀ d ∈ tables_1, d.before a0 Z = true) : (Jvm.Cond.selects "com/example/vaatimus/vaatimus/io/PropertyIndex" ({ cls := "com/example/vaatimus/vaatimus/io/PropertyIndex", name := "valueStart", desc := "(I)I" } : Jvm.MethodName) ({ cls := "com/example/vaatimus/vaatimus/io/PropertyIndex", name := "valueStart", desc := "(I)I" } : Jvm.MethodName)).before a0 Z = true := hw _ (List.mem_of_getElem? (i := 127) rfl)
theorem tw128 {Z : State} {a0 : Array Value} (hw : ∀ d ∈ tables_1, d.before a0 Z = true) : (Jvm.Cond.code ({ cls := "com/example/vaatimus/vaatimus/io/PropertyIndex", name := "valueStart", desc := "(I)I" } : Jvm.MethodName) prog_15_method_19_code (2 : Nat) (Option.some Jvm.ClassFile.FieldType.int)).before a0 Z = true := hw _ (List.mem_of_getElem? (i := 128) rfl)
theorem tw129 {Z : State} {a0 : Array Value} (hw : ∀ d ∈ tables_1, d.before a0 Z = true) : (Jvm.Cond.methodLink "com/example/vaatimus/vaatimus/io/PropertyIndexReplacePinLaw" (33 : Nat) ({ cls := "com/example/vaatimus/vaatimus/io/PropertyIndex", name := "valueEnd", desc := "(I)I" } : Jvm.MethodName)).before a0 Z = true := hw _ (List.mem_of_getElem? (i := 129) rfl)
theorem tw130 {Z : State} {a0 : Array Value} (hw : ∀ d ∈ tables_1, d.before a0 Z = true) : (Jvm.Cond.declares ({ cls := "com/example/vaatimus/vaatimus/io/PropertyIndex", name := "valueEnd", desc := "(I)I" } : Jvm.MethodName)).before a0 Z = true := hw _ (List.mem_of_getElem? (i := 130) rfl)
theorem tw131 {Z : State} {a0 : Array Value} (hw : ∀ d ∈ tables_1, d.before a0 Z = true) : (Jvm.Cond.instanceMethod ({ cls := "com/example/vaatimus/vaatimus/io/PropertyIndex", name := "valueEnd", desc := "(I)I" } : Jvm.MethodName)).before a0 Z = true := hw _ (List.mem_of_getElem? (i := 131) rfl)
theorem tw132 {Z : State} {a0 : Array Value} (hw : ∀ d ∈ tables_1, d.before a0 Z = true) : (Jvm.Cond.selects "com/example/vaatimus/vaatimus/io/PropertyIndex" ({ cls := "com/example/vaatimus/vaatimus/io/PropertyIndex", name := "valueEnd", desc := "(I)I" } : Jvm.MethodName) ({ cls := "com/example/vaatimus/vaatimus/io/PropertyIndex", name := "valueEnd", desc := "(I)I" } : Jvm.MethodName)).before a0 Z = true := hw _ (List.mem_of_getElem? (i := 132) rfl)
theorem tw133 {Z : State} {a0 : Array Value} (hw : ∀ d ∈ tables_1, d.before a0 Z = true) : (Jvm.Cond.code ({ cls := "com/example/vaatimus/vaatimus/io/PropertyIndex", name := "valueEnd", desc := "(I)I" } : Jvm.MethodName) prog_15_method_20_code (2 : Nat) (Option.some Jvm.ClassFile.FieldType.int)).before a0 Z = true := hw _ (List.mem_of_getElem? (i := 133) rfl)
theorem tw134 {Z : State} {a0 : Array Value} (hw : ∀ d ∈ tables_1, d.before a0 Z = true) : (Jvm.Cond.methodLink "com/example/vaatimus/vaatimus/io/PropertyIndexReplacePinLaw" (36 : Nat) ({ cls := "com/example/vaatimus/vaatimus/io/PropertyIndex", name := "line", desc := "(I)I" } : Jvm.MethodName)).before a0 Z = true := hw _ (List.mem_of_getElem? (i := 134) rfl)
theorem tw135 {Z : State} {a0 : Array Value} (hw : ∀ d ∈ tables_1, d.before a0 Z = true) : (Jvm.Cond.declares ({ cls := "com/example/vaatimus/vaatimus/io/PropertyIndex", name := "line", desc := "(I)I" } : Jvm.MethodName)).before a0 Z = true := hw _ (List.mem_of_getElem? (i := 135) rfl)
theorem tw136 {Z : State} {a0 : Array Value} (hw : ∀ d ∈ tables_1, d.before a0 Z = true) : (Jvm.Cond.instanceMethod ({ cls := "com/example/vaatimus/vaatimus/io/PropertyIndex", name := "line", desc := "(I)I" } : Jvm.MethodName)).before a0 Z = true := hw _ (List.mem_of_getElem? (i := 136) rfl)
theorem tw137 {Z : State} {a0 : Array Value} (hw : ∀ d ∈ tables_1, d.before a0 Z = true) : (Jvm.Cond.selects "com/example/vaatimus/vaatimus/io/PropertyIndex" ({ cls := "com/example/vaatimus/vaatimus/io/PropertyIndex", name := "line", desc := "(I)I" } : Jvm.MethodName) ({ cls := "com/example/vaatimus/vaatimus/io/PropertyIndex", name := "line", desc := "(I)I" } : Jvm.MethodName)).before a0 Z = true := hw _ (List.mem_of_getElem? (i := 137) rfl)
theorem tw138 {Z : State} {a0 : Array Value} (hw : ∀ d ∈ tables_1, d.before a0 Z = true) : (Jvm.Cond.code ({ cls := "com/example/vaatimus/vaatimus/io/PropertyIndex", name := "line", desc := "(I)I" } : Jvm.MethodName) prog_15_method_18_code (2 : Nat) (Option.some Jvm.ClassFile.FieldType.int)).before a0 Z = true := hw _ (List.mem_of_getElem? (i := 138) rfl)
theorem tw139 {Z : State} {a0 : Array Value} (hw : ∀ d ∈ tables_1, d.before a0 Z = true) : (Jvm.Cond.methodLink "com/example/vaatimus/vaatimus/io/PropertyIndexReplacePinLaw" (39 : Nat) ({ cls := "com/example/vaatimus/vaatimus/io/PropertyIndex", name := "find", desc := "(Ljava/lang/Object;)I" } : Jvm.MethodName)).before a0 Z = true := hw _ (List.mem_of_getElem? (i := 139) rfl)
theorem tw140 {Z : State} {a0 : Array Value} (hw : ∀ d ∈ tables_1, d.before a0 Z = true) : (Jvm.Cond.declares ({ cls := "com/example/vaatimus/vaatimus/io/PropertyIndex", name := "find", desc := "(Ljava/lang/Object;)I" } : Jvm.MethodName)).before a0 Z = true := hw _ (List.mem_of_getElem? (i := 140) rfl)
theorem tw141 {Z : State} {a0 : Array Value} (hw : ∀ d ∈ tables_1, d.before a0 Z = true) : (Jvm.Cond.instanceMethod ({ cls := "com/example/vaatimus/vaatimus/io/PropertyIndex", name := "find", desc := "(Ljava/lang/Object;)I" } : Jvm.MethodName)).before a0 Z = true := hw _ (List.mem_of_getElem? (i := 141) rfl)
theorem tw142 {Z : State} {a0 : Array Value} (hw : ∀ d ∈ tables_1, d.before a0 Z = true) : (Jvm.Cond.selects "com/example/vaatimus/vaatimus/io/PropertyIndex" ({ cls := "com/example/vaatimus/vaatimus/io/PropertyIndex", name := "find", desc := "(Ljava/lang/Object;)I" } : Jvm.MethodName) ({ cls := "com/example/vaatimus/vaatimus/io/PropertyIndex", name := "find", desc := "(Ljava/lang/Object;)I" } : Jvm.MethodName)).before a0 Z = true := hw _ (List.mem_of_getElem? (i := 142) rfl)
theorem tw143 {Z : State} {a0 : Array Value} (hw : ∀ d ∈ tables_1, d.before a0 Z = true) : (Jvm.Cond.code ({ cls := "com/example/vaatimus/vaatimus/io/PropertyIndex", name := "find", desc := "(Ljava/lang/Object;)I" } : Jvm.MethodName) prog_15_method_10_code (5 : Nat) (Option.some Jvm.ClassFile.FieldType.int)).before a0 Z = true := hw _ (List.mem_of_getElem? (i := 143) rfl)
theorem tw144 {Z : State} {a0 : Array Value} (hw : ∀ d ∈ tables_1, d.before a0 Z = true) : (Jvm.Cond.classLink "com/example/vaatimus/vaatimus/io/PropertyIndex" (2 : Nat) "java/lang/String").before a0 Z = true := hw _ (List.mem_of_getElem? (i := 144) rfl)
theorem tw145 {Z : State} {a0 : Array Value} (hw : ∀ d ∈ tables_1, d.before a0 Z = true) : (Jvm.Cond.methodLink "com/example/vaatimus/vaatimus/io/PropertyIndex" (1 : Nat) ({ cls := "java/lang/String", name := "length", desc := "()I" } : Jvm.MethodName)).before a0 Z = true := hw _ (List.mem_of_getElem? (i := 145) rfl)
theorem tw146 {Z : State} {a0 : Array Value} (hw : ∀ d ∈ tables_1, d.before a0 Z = true) : (Jvm.Cond.declares ({ cls := "java/lang/String", name := "length", desc := "()I" } : Jvm.MethodName)).before a0 Z = true := hw _ (List.mem_of_getElem? (i := 146) rfl)
theorem tw147 {Z : State} {a0 : Array Value} (hw : ∀ d ∈ tables_1, d.before a0 Z = true) : (Jvm.Cond.instanceMethod ({ cls := "java/lang/String", name := "length", desc := "()I" } : Jvm.MethodName)).before a0 Z = true := hw _ (List.mem_of_getElem? (i := 147) rfl)
theorem tw148 {Z : State} {a0 : Array Value} (hw : ∀ d ∈ tables_1, d.before a0 Z = true) : (Jvm.Cond.selects "java/lang/String" ({ cls := "java/lang/String", name := "length", desc := "()I" } : Jvm.MethodName) ({ cls := "java/lang/String", name := "length", desc := "()I" } : Jvm.MethodName)).before a0 Z = true := hw _ (List.mem_of_getElem? (i := 148) rfl)
theorem tw149 {Z : State} {a0 : Array Value} (hw : ∀ d ∈ tables_1, d.before a0 Z = true) : (Jvm.Cond.code ({ cls := "java/lang/String", name := "length", desc := "()I" } : Jvm.MethodName) jdk_42_method_54_code (1 : Nat) (Option.some Jvm.ClassFile.FieldType.int)).before a0 Z = true := hw _ (List.mem_of_getElem? (i := 149) rfl)
theorem tw150 {Z : State} {a0 : Array Value} (hw : ∀ d ∈ tables_1, d.before a0 Z = true) : (Jvm.Cond.methodLink "java/lang/String" (335 : Nat) ({ cls := "java/lang/String", name := "coder", desc := "()B" } : Jvm.MethodName)).before a0 Z = true := hw _ (List.mem_of_getElem? (i := 150) rfl)
theorem tw151 {Z : State} {a0 : Array Value} (hw : ∀ d ∈ tables_1, d.before a0 Z = true) : (Jvm.Cond.declares ({ cls := "java/lang/String", name := "coder", desc := "()B" } : Jvm.MethodName)).before a0 Z = true := hw _ (List.mem_of_getElem? (i := 151) rfl)
theorem tw152 {Z : State} {a0 : Array Value} (hw : ∀ d ∈ tables_1, d.before a0 Z = true) : (Jvm.Cond.instanceMethod ({ cls := "java/lang/String", name := "coder", desc := "()B" } : Jvm.MethodName)).before a0 Z = true := hw _ (List.mem_of_getElem? (i := 152) rfl)
theorem tw153 {Z : State} {a0 : Array Value} (hw : ∀ d ∈ tables_1, d.before a0 Z = true) : (Jvm.Cond.selects "java/lang/String" ({ cls := "java/lang/String", name := "coder", desc := "()B" } : Jvm.MethodName) ({ cls := "java/lang/String", name := "coder", desc := "()B" } : Jvm.MethodName)).before a0 Z = true := hw _ (List.mem_of_getElem? (i := 153) rfl)
theorem tw154 {Z : State} {a0 : Array Value} (hw : ∀ d ∈ tables_1, d.before a0 Z = true) : (Jvm.Cond.code ({ cls := "java/lang/String", name := "coder", desc := "()B" } : Jvm.MethodName) jdk_42_method_152_code (1 : Nat) (Option.some Jvm.ClassFile.FieldType.byte)).before a0 Z = true := hw _ (List.mem_of_getElem? (i := 154) rfl)
theorem tw155 {Z : State} {a0 : Array Value} (hw : ∀ d ∈ tables_1, d.before a0 Z = true) : (Jvm.Cond.methodLink "com/example/vaatimus/vaatimus/io/PropertyIndex" (105 : Nat) ({ cls := "com/example/vaatimus/vaatimus/io/PropertyIndex", name := "named", desc := "(ILjava/lang/String;III)Z" } : Jvm.MethodName)).before a0 Z = true := hw _ (List.mem_of_getElem? (i := 155) rfl)
theorem tw156 {Z : State} {a0 : Array Value} (hw : ∀ d ∈ tables_1, d.before a0 Z = true) : (Jvm.Cond.instanceMethod ({ cls := "com/example/vaatimus/vaatimus/io/PropertyIndex", name := "named", desc := "(ILjava/lang/String;III)Z" } : Jvm.MethodName)).before a0 Z = true := hw _ (List.mem_of_getElem? (i := 156) rfl)
theorem tw157 {Z : State} {a0 : Array Value} (hw : ∀ d ∈ tables_1, d.before a0 Z = true) : (Jvm.Cond.privateMethod ({ cls := "com/example/vaatimus/vaatimus/io/PropertyIndex", name := "named", desc := "(ILjava/lang/String;III)Z" } : Jvm.MethodName)).before a0 Z = true := hw _ (List.mem_of_getElem? (i := 157) rfl)
theorem tw158 {Z : State} {a0 : Array Value} (hw : ∀ d ∈ tables_1, d.before a0 Z = true) : (Jvm.Cond.code ({ cls := "com/example/vaatimus/vaatimus/io/PropertyIndex", name := "named", desc := "(ILjava/lang/String;III)Z" } : Jvm.MethodName) prog_15_method_12_code (8 : Nat) (Option.some Jvm.ClassFile.FieldType.boolean)).before a0 Z = true := hw _ (List.mem_of_getElem? (i := 158) rfl)
theorem tw159 {Z : State} {a0 : Array Value} (hw : ∀ d ∈ tables_1, d.before a0 Z = true) : (Jvm.Cond.methodLink "com/example/vaatimus/vaatimus/io/PropertyIndex" (109 : Nat) ({ cls := "java/lang/String", name := "regionMatches", desc := "(ILjava/lang/String;II)Z" } : Jvm.MethodName)).before a0 Z = true := hw _ (List.mem_of_getElem? (i := 159) rfl)
theorem tw160 {Z : State} {a0 : Array Value} (hw : ∀ d ∈ tables_1, d.before a0 Z = true) : (Jvm.Cond.declares ({ cls := "java/lang/String", name := "regionMatches", desc := "(ILjava/lang/String;II)Z" } : Jvm.MethodName)).before a0 Z = true := hw _ (List.mem_of_getElem? (i := 160) rfl)
theorem tw161 {Z : State} {a0 : Array Value} (hw : ∀ d ∈ tables_1, d.before a0 Z = true) : (Jvm.Cond.instanceMethod ({ cls := "java/lang/String", name := "regionMatches", desc := "(ILjava/lang/String;II)Z" } : Jvm.MethodName)).before a0 Z = true := hw _ (List.mem_of_getElem? (i := 161) rfl)
theorem tw162 {Z : State} {a0 : Array Value} (hw : ∀ d ∈ tables_1, d.before a0 Z = true) : (Jvm.Cond.selects "java/lang/String" ({ cls := "java/lang/String", name := "regionMatches", desc := "(ILjava/lang/String;II)Z" } : Jvm.MethodName) ({ cls := "java/lang/String", name := "regionMatches", desc := "(ILjava/lang/String;II)Z" } : Jvm.MethodName)).before a0 Z = true := hw _ (List.mem_of_getElem? (i := 162) rfl)
theorem tw163 {Z : State} {a0 : Array Value} (hw : ∀ d ∈ tables_1, d.before a0 Z = true) : (Jvm.Cond.code ({ cls := "java/lang/String", name := "regionMatches", desc := "(ILjava/lang/String;II)Z" } : Jvm.MethodName) jdk_42_method_73_code (8 : Nat) (Option.some Jvm.ClassFile.FieldType.boolean)).before a0 Z = true := hw _ (List.mem_of_getElem? (i := 163) rfl)
theorem tw164 {Z : State} {a0 : Array Value} (hw : ∀ d ∈ tables_1, d.before a0 Z = true) : (Jvm.Cond.methodLink "java/lang/String" (505 : Nat) ({ cls := "java/lang/String", name := "length", desc := "()I" } : Jvm.MethodName)).before a0 Z = true := hw _ (List.mem_of_getElem? (i := 164) rfl)
theorem tw165 {Z : State} {a0 : Array Value} (hw : ∀ d ∈ tables_1, d.before a0 Z = true) : (Jvm.Cond.methodLink "java/lang/String" (607 : Nat) ({ cls := "jdk/internal/util/ArraysSupport", name := "mismatch", desc := "([BI[BII)I" } : Jvm.MethodName)).before a0 Z = true := hw _ (List.mem_of_getElem? (i := 165) rfl)
theorem tw166 {Z : State} {a0 : Array Value} (hw : ∀ d ∈ tables_1, d.before a0 Z = true) : (Jvm.Cond.static ({ cls := "jdk/internal/util/ArraysSupport", name := "mismatch", desc := "([BI[BII)I" } : Jvm.MethodName)).before a0 Z = true := hw _ (List.mem_of_getElem? (i := 166) rfl)
theorem tw167 {Z : State} {a0 : Array Value} (hw : ∀ d ∈ tables_1, d.before a0 Z = true) : (Jvm.Cond.initialized "jdk/internal/util/ArraysSupport").before a0 Z = true := hw _ (List.mem_of_getElem? (i := 167) rfl)
theorem tw168 {Z : State} {a0 : Array Value} (hw : ∀ d ∈ tables_1, d.before a0 Z = true) : (Jvm.Cond.code ({ cls := "jdk/internal/util/ArraysSupport", name := "mismatch", desc := "([BI[BII)I" } : Jvm.MethodName) jdk_48_method_14_code (8 : Nat) (Option.some Jvm.ClassFile.FieldType.int)).before a0 Z = true := hw _ (List.mem_of_getElem? (i := 168) rfl)
theorem pd_0 : parseMethodDescriptor "(IILjava/util/function/BiFunction;)I" = some ⟨[.int, .int, (.object "java/util/function/BiFunction")], some .int⟩ := by decide +kernel
theorem pd_1 : parseMethodDescriptor "([CI[BII)I" = some ⟨[(.array .char), .int, (.array .byte), .int, .int], some .int⟩ := by decide +kernel
theorem pd_2 : parseMethodDescriptor "([CII)[B" = some ⟨[(.array .char), .int, .int], some (.array .byte)⟩ := by decide +kernel
theorem pd_3 : parseMethodDescriptor "([BI)B" = some ⟨[(.array .byte), .int], some .byte⟩ := by decide +kernel
theorem pd_4 : parseMethodDescriptor "([CIILjava/lang/Void;)V" = some ⟨[(.array .char), .int, .int, (.object "java/lang/Void")], none⟩ := by decide +kernel
theorem pd_5 : parseMethodDescriptor "([C)V" = some ⟨[(.array .char)], none⟩ := by decide +kernel
theorem pd_6 : parseMethodDescriptor "()V" = some ⟨[], none⟩ := by decide +kernel
theorem pd_7 : parseMethodDescriptor "(II)I" = some ⟨[.int, .int], some .int⟩ := by decide +kernel
theorem pd_8 : parseMethodDescriptor "(I)I" = some ⟨[.int], some .int⟩ := by decide +kernel
theorem pd_9 : parseMethodDescriptor "(Ljava/lang/String;Lcom/example/vaatimus/vaatimus/io/LineEnds;I)V" = some ⟨[(.object "java/lang/String"), (.object "com/example/vaatimus/vaatimus/io/LineEnds"), .int], none⟩ := by decide +kernel
theorem pd_10 : parseMethodDescriptor "()Z" = some ⟨[], some .boolean⟩ := by decide +kernel
theorem pd_11 : parseMethodDescriptor "(II)V" = some ⟨[.int, .int], none⟩ := by decide +kernel
theorem pd_12 : parseMethodDescriptor "([BI)C" = some ⟨[(.array .byte), .int], some .char⟩ := by decide +kernel
theorem pd_13 : parseMethodDescriptor "(I)C" = some ⟨[.int], some .char⟩ := by decide +kernel
theorem pd_14 : parseMethodDescriptor "(Ljava/lang/String;II)I" = some ⟨[(.object "java/lang/String"), .int, .int], some .int⟩ := by decide +kernel
theorem pd_15 : parseMethodDescriptor "(Ljava/lang/String;III)I" = some ⟨[(.object "java/lang/String"), .int, .int, .int], some .int⟩ := by decide +kernel
theorem pd_16 : parseMethodDescriptor "(IIIII)I" = some ⟨[.int, .int, .int, .int, .int], some .int⟩ := by decide +kernel
theorem pd_17 : parseMethodDescriptor "(C)Z" = some ⟨[.char], some .boolean⟩ := by decide +kernel
theorem pd_18 : parseMethodDescriptor "(C)[B" = some ⟨[.char], some (.array .byte)⟩ := by decide +kernel
theorem pd_19 : parseMethodDescriptor "([BB)V" = some ⟨[(.array .byte), .byte], none⟩ := by decide +kernel
theorem pd_20 : parseMethodDescriptor "(C)Ljava/lang/String;" = some ⟨[.char], some (.object "java/lang/String")⟩ := by decide +kernel
theorem pd_21 : parseMethodDescriptor "(IIII)V" = some ⟨[.int, .int, .int, .int], none⟩ := by decide +kernel
theorem pd_22 : parseMethodDescriptor "()B" = some ⟨[], some .byte⟩ := by decide +kernel
theorem pd_23 : parseMethodDescriptor "()I" = some ⟨[], some .int⟩ := by decide +kernel
theorem pd_24 : parseMethodDescriptor "([BI[BII)I" = some ⟨[(.array .byte), .int, (.array .byte), .int, .int], some .int⟩ := by decide +kernel
theorem pd_25 : parseMethodDescriptor "(ILjava/lang/String;II)Z" = some ⟨[.int, (.object "java/lang/String"), .int, .int], some .boolean⟩ := by decide +kernel
theorem pd_26 : parseMethodDescriptor "(ILjava/lang/String;III)Z" = some ⟨[.int, (.object "java/lang/String"), .int, .int, .int], some .boolean⟩ := by decide +kernel
theorem pd_27 : parseMethodDescriptor "(Ljava/lang/Object;)I" = some ⟨[(.object "java/lang/Object")], some .int⟩ := by decide +kernel
theorem pn_0 : plainName "jdk/internal/util/Preconditions" = true := by first | (simp [plainName, overriddenIn]; done) | decide +kernel
theorem pn_1 : plainName "java/lang/String" = true := by first | (simp [plainName, overriddenIn]; done) | decide +kernel
theorem pn_2 : plainName "java/lang/StringUTF16" = true := by first | (simp [plainName, overriddenIn]; done) | decide +kernel
theorem pn_3 : plainName "java/util/AbstractMap" = true := by first | (simp [plainName, overriddenIn]; done) | decide +kernel
theorem pn_4 : plainName "java/lang/Integer" = true := by first | (simp [plainName, overriddenIn]; done) | decide +kernel
theorem pn_5 : plainName "com/example/vaatimus/vaatimus/io/PropertyIndex" = true := by first | (simp [plainName, overriddenIn]; done) | decide +kernel
theorem pn_6 : plainName "java/lang/StringLatin1" = true := by first | (simp [plainName, overriddenIn]; done) | decide +kernel
theorem pn_7 : plainName "jdk/internal/util/ArraysSupport" = true := by first | (simp [plainName, overriddenIn]; done) | decide +kernel
theorem pn_8 : plainName "com/example/vaatimus/vaatimus/io/PropertyIndexReplacePinLaw" = true := by first | (simp [plainName, overriddenIn]; done) | decide +kernel
abbrev xs0 : String := "(Ljava/lang/String;Lcom/example/vaatimus/vaatimus/io/LineEnds;I)V"
abbrev xs1 : String := "com/example/vaatimus/vaatimus/io/PropertyIndex"
abbrev xs2 : String := "Lcom/example/vaatimus/vaatimus/io/LineEnds;"
abbrev xs3 : String := "com/example/vaatimus/vaatimus/io/LineEnds"
abbrev xs4 : String := "(IILjava/util/function/BiFunction;)I"
abbrev xs5 : String := "jdk/internal/util/Preconditions"
abbrev xs6 : String := "Ljava/util/function/BiFunction;"
abbrev xs7 : String := "jdk/internal/util/ArraysSupport"
abbrev xs8 : String := "(ILjava/lang/String;III)Z"
abbrev xs9 : String := "(Ljava/lang/String;III)I"
abbrev xs10 : String := "(ILjava/lang/String;II)Z"
abbrev xs11 : String := "([CIILjava/lang/Void;)V"
abbrev xs12 : String := "(Ljava/lang/String;II)I"
abbrev xs13 : String := "java/lang/StringLatin1"
abbrev xs14 : String := "java/lang/StringUTF16"
abbrev xs15 : String := "java/util/AbstractMap"
abbrev xs16 : String := "(C)Ljava/lang/String;"
abbrev xs17 : String := "(Ljava/lang/Object;)I"
abbrev xs18 : String := "numberOfLeadingZeros"
abbrev xs19 : String := "Ljava/lang/String;"
abbrev xs20 : String := "coderFromArrayLen"
abbrev xs21 : String := "java/lang/Integer"
abbrev xs22 : String := "SIOOBE_FORMATTER"
abbrev xs23 : String := "java/lang/String"
abbrev xs24 : String := "COMPACT_STRINGS"
abbrev xs25 : String := "java/lang/Math"
abbrev xm0 : MethodName := (⟨xs14, "compress", "([CI[BII)I"⟩ : MethodName)
abbrev xm1 : MethodName := (⟨xs21, "highestOneBit", "(I)I"⟩ : MethodName)
abbrev xm2 : MethodName := (⟨xs7, "mismatch", "([BI[BII)I"⟩ : MethodName)
abbrev xm3 : MethodName := (⟨xs14, "compress", "([CII)[B"⟩ : MethodName)
abbrev xm4 : MethodName := (⟨xs23, "checkIndex", "(II)V"⟩ : MethodName)
abbrev xm5 : MethodName := (⟨xs23, "regionMatches", xs10⟩ : MethodName)
abbrev xm6 : MethodName := (⟨xs13, "canEncode", "(C)Z"⟩ : MethodName)
abbrev xm7 : MethodName := (⟨xs1, "replace", "(IIII)V"⟩ : MethodName)
abbrev xm8 : MethodName := (⟨xs1, "valueStart", "(I)I"⟩ : MethodName)
abbrev xm9 : MethodName := (⟨xs13, "charAt", "([BI)C"⟩ : MethodName)
abbrev xm10 : MethodName := (⟨xs13, "toBytes", "(C)[B"⟩ : MethodName)
abbrev xm11 : MethodName := (⟨xs23, "<init>", "([BB)V"⟩ : MethodName)
abbrev xm12 : MethodName := (⟨xs23, "<init>", "([C)V"⟩ : MethodName)
abbrev xm13 : MethodName := (⟨xs23, "isLatin1", "()Z"⟩ : MethodName)
abbrev xm14 : MethodName := (⟨xs1, "valueEnd", "(I)I"⟩ : MethodName)
abbrev xm15 : MethodName := (⟨xs5, "checkIndex", xs4⟩ : MethodName)
abbrev xm16 : MethodName := (⟨xs23, "charAt", "(I)C"⟩ : MethodName)
abbrev xm17 : MethodName := (⟨xs1, "plainHash", xs12⟩ : MethodName)
abbrev xm18 : MethodName := (⟨xs1, "add", "(IIIII)I"⟩ : MethodName)
abbrev xm19 : MethodName := (⟨xs15, "<init>", "()V"⟩ : MethodName)
abbrev xm20 : MethodName := (⟨xs23, "valueOf", xs16⟩ : MethodName)
abbrev xm21 : MethodName := (⟨xs23, "length", "()I"⟩ : MethodName)
abbrev xm22 : MethodName := (⟨xs14, xs20, "([BI)B"⟩ : MethodName)
abbrev xm23 : MethodName := (⟨xs23, "<init>", xs11⟩ : MethodName)
abbrev xm24 : MethodName := (⟨xs25, "max", "(II)I"⟩ : MethodName)
abbrev xm25 : MethodName := (⟨xs23, "coder", "()B"⟩ : MethodName)
abbrev xm26 : MethodName := (⟨xs1, "line", "(I)I"⟩ : MethodName)
abbrev xm27 : MethodName := (⟨xs21, xs18, "(I)I"⟩ : MethodName)
abbrev xm28 : MethodName := (⟨xs1, "<init>", xs0⟩ : MethodName)
abbrev xm29 : MethodName := (⟨xs1, "hash", xs12⟩ : MethodName)
abbrev xm30 : MethodName := (⟨xs1, "named", xs8⟩ : MethodName)
abbrev xm31 : MethodName := (⟨xs1, "find", xs17⟩ : MethodName)
abbrev xm32 : MethodName := (⟨xs1, "slot", xs9⟩ : MethodName)
abbrev xr0 : Room := ({ frames := 2, cells := 2, slots := 20, locals := 28 } : Room)
abbrev xr1 : Room := ({ frames := 1, cells := 0, slots := 0, locals := 14 } : Room)
abbrev xr2 : Room := ({ frames := 1, cells := 1, slots := 2, locals := 18 } : Room)
abbrev xr3 : Room := ({ frames := 2, cells := 1, slots := 2, locals := 35 } : Room)
abbrev xr4 : Room := ({ frames := 3, cells := 1, slots := 2, locals := 52 } : Room)
abbrev xr5 : Room := ({ frames := 1, cells := 0, slots := 0, locals := 12 } : Room)
abbrev xr6 : Room := ({ frames := 1, cells := 0, slots := 0, locals := 15 } : Room)
abbrev xr7 : Room := ({ frames := 2, cells := 0, slots := 0, locals := 27 } : Room)
abbrev xr8 : Room := ({ frames := 3, cells := 0, slots := 0, locals := 40 } : Room)
abbrev xr9 : Room := ({ frames := 4, cells := 0, slots := 0, locals := 54 } : Room)
abbrev xr10 : Room := ({ frames := 5, cells := 0, slots := 0, locals := 70 } : Room)
abbrev xr11 : Room := ({ frames := 6, cells := 0, slots := 0, locals := 85 } : Room)
abbrev xr12 : Room := ({ frames := 2, cells := 2, slots := 5, locals := 27 } : Room)
abbrev xr13 : Room := ({ frames := 1, cells := 0, slots := 0, locals := 13 } : Room)
abbrev xr14 : Room := ({ frames := 3, cells := 0, slots := 0, locals := 46 } : Room)
abbrev xr15 : Room := ({ frames := 4, cells := 0, slots := 0, locals := 65 } : Room)
abbrev xr16 : Room := ({ frames := 6, cells := 0, slots := 0, locals := 90 } : Room)
abbrev xr17 : Room := ({ frames := 0, cells := 0, slots := 0, locals := 0 } : Room)
abbrev xr18 : Room := ({ frames := 0, cells := 1, slots := 1, locals := 0 } : Room)
theorem ef_pchk_n (m : MethodId) (x0 : Int32) (x1 : Int32) : entryFrame m #[(.int x0), (.int x1), .null] 3 = mkF m 0 #[.val (.int x0), .val (.int x1), .val .null] [] := by first | (simp [entryFrame, mkF, argsToLocals, Value.category]; done) | rfl
def Q_pchk_n (Z : State) (ix : Int32) (ln : Int32) (h0 : Heap) (n0 : Nat) (v : Option Value) (h : Heap) (L : List Loc) : Prop := v = some (.int ix) ∧ Fr n0 L ∧ h = h0
set_option maxRecDepth 65536 in
set_option maxHeartbeats 40000000 in
theorem rm_pchk_n (l : Launch) (Z : State) (a0 : Array Value) (hw : ∀ d ∈ tables_1, d.before a0 Z = true) (ws : List Jvm.Cond) (ix : Int32) (ln : Int32) (h0 : Heap) (n0 : Nat) (Z0 : n0 ≤ h0.size) (h1 : ¬ ix < (0 : Int32)) (h2 : ix < ln) :
    MetFree l xm15 (head1 (Jvm.Cond.code xm15 jdk_41_method_11_code 3 (some .int) :: ws) xr17) (fun a U => a = #[(.int ix), (.int ln), .null] ∧ Z.Warmed39 U.vm ∧ U.heap = h0) (fun _ _ _ _ _ => True) (fun _ U o U' => ∃ v L, o = .returned v ∧ Q_pchk_n Z ix ln h0 n0 v U'.heap L ∧ FrameEnd U o U' L xr17.cells xr17.slots) := by
  refine MetFree.of_bodySF (plainFor_of_name pn_0) hisR ?_
  intro p e s m args below meth c s₁ Bd hml0 hP hK
  obtain ⟨rfl, hZ, hh⟩ := hP
  have hx := Bd.exec
  have hby := Bd.bytes
  have hlk : meth.locks = false := BodyLoose.notSynchronized Bd
  have hml : c.maxLocals = 3 := hml0
  have hown : s.vm.findClass xs5 = some m.cls := findClass_of_methodNamed Bd.named
  have hnm := (name_of_methodNamed Bd.named Bd.method).1
  have X0 : Stand p l e xr17 s m #[(.int ix), (.int ln), .null] below meth c s₁ [] 0 0 := Stand.of_body Bd
  have e0 : s₁.heap = h0 := by rw [← hh, Bd.state]; rfl
  have N0 := Fr.nil n0
  show Go p e below s (Q_pchk_n Z ix ln h0 n0) xr17.cells xr17.slots s₁ (entryFrame m #[(.int ix), (.int ln), .null] 3)
  refine Go.cast (ef_pchk_n m ix ln) ?_
  show Go p e below s _ _ _ s₁ (mkF m 0 #[.val (.int ix), .val (.int ln), .val .null] [])
  refine Go.step (fun _ k => XS.iloadN X0.here hx rfl (hb hby d0_0) rfl (XS.ifNo X0.here hx rfl (hb hby d0_1) rfl ((if0 _ _).trans (flt h1).1) (XS.iloadN X0.here hx rfl (hb hby d0_4) rfl (XS.iloadN X0.here hx rfl (hb hby d0_5) rfl (XS.icmpYes X0.here hx rfl (pc0 := 6) (pc' := 16) rfl (hb hby d0_6) rfl (tlt h2).1 (by decide) (by decide) (XS.iloadN X0.here hx rfl (hb hby d0_16) rfl k)))))) ?_
  show Go p e below s _ _ _ s₁ (mkF m 17 #[.val (.int ix), .val (.int ln), .val .null] [(.int ix)])
  exact Go.retI X0 hx hlk Bd.returns (hb hby d0_17) e0 ⟨rfl, N0, rfl⟩ (by decide) (by decide)

theorem ef_pchk_r (m : MethodId) (x0 : Int32) (x1 : Int32) (x2 : Addr) : entryFrame m #[(.int x0), (.int x1), (.ref x2)] 3 = mkF m 0 #[.val (.int x0), .val (.int x1), .val (.ref x2)] [] := by first | (simp [entryFrame, mkF, argsToLocals, Value.category]; done) | rfl
def Q_pchk_r (Z : State) (ix : Int32) (ln : Int32) (fa : Addr) (h0 : Heap) (n0 : Nat) (v : Option Value) (h : Heap) (L : List Loc) : Prop := v = some (.int ix) ∧ Fr n0 L ∧ h = h0
set_option maxRecDepth 65536 in
set_option maxHeartbeats 40000000 in
theorem rm_pchk_r (l : Launch) (Z : State) (a0 : Array Value) (hw : ∀ d ∈ tables_1, d.before a0 Z = true) (ws : List Jvm.Cond) (ix : Int32) (ln : Int32) (fa : Addr) (h0 : Heap) (n0 : Nat) (Z0 : n0 ≤ h0.size) (h1 : ¬ ix < (0 : Int32)) (h2 : ix < ln) :
    MetFree l xm15 (head1 (Jvm.Cond.code xm15 jdk_41_method_11_code 3 (some .int) :: ws) xr17) (fun a U => a = #[(.int ix), (.int ln), (.ref fa)] ∧ Z.Warmed39 U.vm ∧ U.heap = h0) (fun _ _ _ _ _ => True) (fun _ U o U' => ∃ v L, o = .returned v ∧ Q_pchk_r Z ix ln fa h0 n0 v U'.heap L ∧ FrameEnd U o U' L xr17.cells xr17.slots) := by
  refine MetFree.of_bodySF (plainFor_of_name pn_0) hisR ?_
  intro p e s m args below meth c s₁ Bd hml0 hP hK
  obtain ⟨rfl, hZ, hh⟩ := hP
  have hx := Bd.exec
  have hby := Bd.bytes
  have hlk : meth.locks = false := BodyLoose.notSynchronized Bd
  have hml : c.maxLocals = 3 := hml0
  have hown : s.vm.findClass xs5 = some m.cls := findClass_of_methodNamed Bd.named
  have hnm := (name_of_methodNamed Bd.named Bd.method).1
  have X0 : Stand p l e xr17 s m #[(.int ix), (.int ln), (.ref fa)] below meth c s₁ [] 0 0 := Stand.of_body Bd
  have e0 : s₁.heap = h0 := by rw [← hh, Bd.state]; rfl
  have N0 := Fr.nil n0
  show Go p e below s (Q_pchk_r Z ix ln fa h0 n0) xr17.cells xr17.slots s₁ (entryFrame m #[(.int ix), (.int ln), (.ref fa)] 3)
  refine Go.cast (ef_pchk_r m ix ln fa) ?_
  show Go p e below s _ _ _ s₁ (mkF m 0 #[.val (.int ix), .val (.int ln), .val (.ref fa)] [])
  refine Go.step (fun _ k => XS.iloadN X0.here hx rfl (hb hby d0_0) rfl (XS.ifNo X0.here hx rfl (hb hby d0_1) rfl ((if0 _ _).trans (flt h1).1) (XS.iloadN X0.here hx rfl (hb hby d0_4) rfl (XS.iloadN X0.here hx rfl (hb hby d0_5) rfl (XS.icmpYes X0.here hx rfl (pc0 := 6) (pc' := 16) rfl (hb hby d0_6) rfl (tlt h2).1 (by decide) (by decide) (XS.iloadN X0.here hx rfl (hb hby d0_16) rfl k)))))) ?_
  show Go p e below s _ _ _ s₁ (mkF m 17 #[.val (.int ix), .val (.int ln), .val (.ref fa)] [(.int ix)])
  exact Go.retI X0 hx hlk Bd.returns (hb hby d0_17) e0 ⟨rfl, N0, rfl⟩ (by decide) (by decide)

theorem ef_schk (m : MethodId) (x0 : Int32) (x1 : Int32) : entryFrame m #[(.int x0), (.int x1)] 2 = mkF m 0 #[.val (.int x0), .val (.int x1)] [] := by first | (simp [entryFrame, mkF, argsToLocals, Value.category]; done) | rfl
def Q_schk (Z : State) (ix : Int32) (ln : Int32) (fv : Value) (h0 : Heap) (n0 : Nat) (v : Option Value) (h : Heap) (L : List Loc) : Prop := v = none ∧ Fr n0 L ∧ h = h0
set_option maxRecDepth 65536 in
set_option maxHeartbeats 40000000 in
theorem rm_schk (l : Launch) (Z : State) (a0 : Array Value) (hw : ∀ d ∈ tables_1, d.before a0 Z = true) (ws : List Jvm.Cond) (ix : Int32) (ln : Int32) (fv : Value) (h0 : Heap) (n0 : Nat) (Z0 : n0 ≤ h0.size) (O0 : Old Z n0 h0) (Z_S_SIOOBE_FORMATTER : Sta Z Z.heap xs5 xs22 xs6 fv) (hfv : fv.isRef = true) (h1 : ¬ ix < (0 : Int32)) (h2 : ix < ln) :
    MetFree l xm4 (head1 (Jvm.Cond.code xm4 jdk_42_method_155_code 2 none :: ws) xr1) (fun a U => a = #[(.int ix), (.int ln)] ∧ Z.Warmed39 U.vm ∧ U.heap = h0) (fun _ _ _ _ _ => True) (fun _ U o U' => ∃ v L, o = .returned v ∧ Q_schk Z ix ln fv h0 n0 v U'.heap L ∧ FrameEnd U o U' L xr1.cells xr1.slots) := by
  refine MetFree.of_bodySF (plainFor_of_name pn_1) hisR ?_
  intro p e s m args below meth c s₁ Bd hml0 hP hK
  obtain ⟨rfl, hZ, hh⟩ := hP
  have hx := Bd.exec
  have hby := Bd.bytes
  have hlk : meth.locks = false := BodyLoose.notSynchronized Bd
  have hml : c.maxLocals = 2 := hml0
  have hown : s.vm.findClass xs23 = some m.cls := findClass_of_methodNamed Bd.named
  have hnm := (name_of_methodNamed Bd.named Bd.method).1
  have X0 : Stand p l e xr1 s m #[(.int ix), (.int ln)] below meth c s₁ [] 0 0 := Stand.of_body Bd
  have e0 : s₁.heap = h0 := by rw [← hh, Bd.state]; rfl
  have N0 := Fr.nil n0
  show Go p e below s (Q_schk Z ix ln fv h0 n0) xr1.cells xr1.slots s₁ (entryFrame m #[(.int ix), (.int ln)] 2)
  refine Go.cast (ef_schk m ix ln) ?_
  show Go p e below s _ _ _ s₁ (mkF m 0 #[.val (.int ix), .val (.int ln)] [])
  refine Go.step (fun _ k => XS.iloadN X0.here hx rfl (hb hby d1_0) rfl (XS.iloadN X0.here hx rfl (hb hby d1_1) rfl k)) ?_
  show Go p e below s _ _ _ s₁ (mkF m 2 #[.val (.int ix), .val (.int ln)] [(.int ln), (.int ix)])
  obtain ⟨T1, X1, e1, st1⟩ := getS2 X0 hx hZ hown (host := "") (Or.inl (tw95 hw)) Via.refl e0 (Z_S_SIOOBE_FORMATTER.ext O0.2) (g := (mkF m 2 #[.val (.int ix), .val (.int ln)] [(.int ln), (.int ix)])) rfl (hb hby d1_2)
  refine Go.step (fun _ k => st1 _ k) ?_
  show Go p e below s _ _ _ T1 (mkF m 5 #[.val (.int ix), .val (.int ln)] [fv, (.int ln), (.int ix)])
  rcases ref_cases hfv with rfl | ⟨fa, rfl⟩
  · show Go p e below s _ _ _ T1 (mkF m 5 #[.val (.int ix), .val (.int ln)] [.null, (.int ln), (.int ix)])
    obtain ⟨_, _, ⟨T2, L2, k2, n2⟩, -, X2, ⟨Lc2, hQ2, l2, y2, z2⟩, st2⟩ := Jvm.LawKit.callS X1 hx (y := xm15) hown (mvT hZ (tw97 hw)) (mvT hZ (tw98 hw)) (mvT hZ (tw96 hw)) (mvT hZ (tw99 hw)) (by decide) (backOf (W := 0) (rm_pchk_n l Z a0 hw [] ix ln h0 n0 Z0 h1 h2) hZ (tw99 hw) (tw96 hw) (by decide) (by decide)) (g := (mkF m 5 #[.val (.int ix), .val (.int ln)] [.null, (.int ln), (.int ix)])) rfl (by rw [hml]; rfl) (argsL := [(.int ix), (.int ln), .null]) (rest := []) (lenOf pd_0 rfl) rfl (by show 2 * 0 + _ ≤ _; exact Nat.le_of_eq rfl) (hb hby d1_5) (fun _ _ => ⟨rfl, e1, (by decide : 0 + 0 ≤ _), (by decide : 0 + 0 ≤ _)⟩)
    dsimp only [Pt.U, Pt.locs, Pt.cells, Pt.slots] at X2 l2 y2 z2 st2 hQ2
    subst l2 y2 z2
    obtain ⟨rfl, N2q, eq2⟩ := hQ2
    have N3 := Fr.app N0 N2q
    refine Go.step (fun _ k => st2 _ (XS.pop X2.here hx rfl (hb hby d1_8) rfl rfl k)) ?_
    show Go p e below s _ _ _ T2 (mkF m 9 #[.val (.int ix), .val (.int ln)] [])
    exact Go.retV X2 hx hlk Bd.returns (hb hby d1_9) eq2 ⟨rfl, N3, rfl⟩ (by decide) (by decide)
  · show Go p e below s _ _ _ T1 (mkF m 5 #[.val (.int ix), .val (.int ln)] [(.ref fa), (.int ln), (.int ix)])
    obtain ⟨_, _, ⟨T4, L4, k4, n4⟩, -, X4, ⟨Lc4, hQ4, l4, y4, z4⟩, st4⟩ := Jvm.LawKit.callS X1 hx (y := xm15) hown (mvT hZ (tw97 hw)) (mvT hZ (tw98 hw)) (mvT hZ (tw96 hw)) (mvT hZ (tw99 hw)) (by decide) (backOf (W := 0) (rm_pchk_r l Z a0 hw [] ix ln fa h0 n0 Z0 h1 h2) hZ (tw99 hw) (tw96 hw) (by decide) (by decide)) (g := (mkF m 5 #[.val (.int ix), .val (.int ln)] [(.ref fa), (.int ln), (.int ix)])) rfl (by rw [hml]; rfl) (argsL := [(.int ix), (.int ln), (.ref fa)]) (rest := []) (lenOf pd_0 rfl) rfl (by show 2 * 0 + _ ≤ _; exact Nat.le_of_eq rfl) (hb hby d1_5) (fun _ _ => ⟨rfl, e1, (by decide : 0 + 0 ≤ _), (by decide : 0 + 0 ≤ _)⟩)
    dsimp only [Pt.U, Pt.locs, Pt.cells, Pt.slots] at X4 l4 y4 z4 st4 hQ4
    subst l4 y4 z4
    obtain ⟨rfl, N4q, eq4⟩ := hQ4
    have N5 := Fr.app N0 N4q
    refine Go.step (fun _ k => st4 _ (XS.pop X4.here hx rfl (hb hby d1_8) rfl rfl k)) ?_
    show Go p e below s _ _ _ T4 (mkF m 9 #[.val (.int ix), .val (.int ln)] [])
    exact Go.retV X4 hx hlk Bd.returns (hb hby d1_9) eq4 ⟨rfl, N5, rfl⟩ (by decide) (by decide)

theorem ef_StringUTF16_compress_1 (m : MethodId) (x0 : Addr) (x1 : Int32) (x2 : Addr) (x3 : Int32) (x4 : Int32) : entryFrame m #[(.ref x0), (.int x1), (.ref x2), (.int x3), (.int x4)] 7 = mkF m 0 #[.val (.ref x0), .val (.int x1), .val (.ref x2), .val (.int x3), .val (.int x4), .unset, .unset] [] := by first | (simp [entryFrame, mkF, argsToLocals, Value.category]; done) | rfl
def Q_StringUTF16_compress_1 (Z : State) (b6 : Addr) (b21 : Addr) (k6 : ClassId) (k21 : ClassId) (h0 : Heap) (n0 : Nat) (v : Option Value) (h : Heap) (L : List Loc) : Prop := v = some (.int (2 : Int32)) ∧ Fr n0 L ∧ Keep h0 h [b21] ∧ Arv Z h b21 k21 .byte (2 : Int32) [(.int (97 : Int32)), (.int (98 : Int32))] (.int (0 : Int32))
set_option maxRecDepth 65536 in
set_option maxHeartbeats 40000000 in
theorem rm_StringUTF16_compress_1 (l : Launch) (Z : State) (a0 : Array Value) (hw : ∀ d ∈ tables_1, d.before a0 Z = true) (ws : List Jvm.Cond) (b6 : Addr) (b21 : Addr) (k6 : ClassId) (k21 : ClassId) (h0 : Heap) (n0 : Nat) (Z0 : n0 ≤ h0.size) (V_b6 : Arv Z h0 b6 k6 .char (2 : Int32) [(.int (97 : Int32)), (.int (98 : Int32))] (.int (0 : Int32))) (V_b21 : Arv Z h0 b21 k21 .byte (2 : Int32) [(.int (0 : Int32)), (.int (0 : Int32))] (.int (0 : Int32))) (g_b21 : n0 ≤ b21) (ne_b6_b21 : b6 ≠ b21) :
    MetFree l xm0 (head1 (Jvm.Cond.code xm0 jdk_52_method_21_code 7 (some .int) :: ws) xr17) (fun a U => a = #[(.ref b6), (.int (0 : Int32)), (.ref b21), (.int (0 : Int32)), (.int (2 : Int32))] ∧ Z.Warmed39 U.vm ∧ U.heap = h0) (fun _ _ _ _ _ => True) (fun _ U o U' => ∃ v L, o = .returned v ∧ Q_StringUTF16_compress_1 Z b6 b21 k6 k21 h0 n0 v U'.heap L ∧ FrameEnd U o U' L xr17.cells xr17.slots) := by
  refine MetFree.of_bodySF (plainFor_of_name pn_2) hisR ?_
  intro p e s m args below meth c s₁ Bd hml0 hP hK
  obtain ⟨rfl, hZ, hh⟩ := hP
  have hx := Bd.exec
  have hby := Bd.bytes
  have hlk : meth.locks = false := BodyLoose.notSynchronized Bd
  have hml : c.maxLocals = 7 := hml0
  have hown : s.vm.findClass xs14 = some m.cls := findClass_of_methodNamed Bd.named
  have hnm := (name_of_methodNamed Bd.named Bd.method).1
  have X0 : Stand p l e xr17 s m #[(.ref b6), (.int (0 : Int32)), (.ref b21), (.int (0 : Int32)), (.int (2 : Int32))] below meth c s₁ [] 0 0 := Stand.of_body Bd
  have e0 : s₁.heap = h0 := by rw [← hh, Bd.state]; rfl
  have N0 := Fr.nil n0
  show Go p e below s (Q_StringUTF16_compress_1 Z b6 b21 k6 k21 h0 n0) xr17.cells xr17.slots s₁ (entryFrame m #[(.ref b6), (.int (0 : Int32)), (.ref b21), (.int (0 : Int32)), (.int (2 : Int32))] 7)
  refine Go.cast (ef_StringUTF16_compress_1 m b6 (0 : Int32) b21 (0 : Int32) (2 : Int32)) ?_
  show Go p e below s _ _ _ s₁ (mkF m 0 #[.val (.ref b6), .val (.int (0 : Int32)), .val (.ref b21), .val (.int (0 : Int32)), .val (.int (2 : Int32)), .unset, .unset] [])
  refine Go.step (fun _ k => XS.iconst X0.here hx rfl (hb hby d5_0) (XS.istore X0.here hx rfl (hb hby d5_1) rfl (l' := #[.val (.ref b6), .val (.int (0 : Int32)), .val (.ref b21), .val (.int (0 : Int32)), .val (.int (2 : Int32)), .val (.int (0 : Int32)), .unset]) rfl (XS.iload X0.here hx rfl (hb hby d5_3) rfl (XS.iload X0.here hx rfl (hb hby d5_5) rfl (XS.icmpNo X0.here hx rfl (hb hby d5_7) rfl (tlt (by decide)).2.1 (XS.aloadN X0.here hx rfl (hb hby d5_10) rfl rfl (XS.iloadN X0.here hx rfl (hb hby d5_11) rfl k))))))) ?_
  show Go p e below s _ _ _ s₁ (mkF m 12 #[.val (.ref b6), .val (.int (0 : Int32)), .val (.ref b21), .val (.int (0 : Int32)), .val (.int (2 : Int32)), .val (.int (0 : Int32)), .unset] [(.int (0 : Int32)), (.ref b6)])
  obtain ⟨cl23, Ar23, -, Sz23, Ng23, Hs23, Ft23⟩ := id V_b6
  have in23 : ¬ ((0 : Int32) < 0 ∨ cl23.slots.size ≤ ((0 : Int32)).toNatClampNeg) := (inb_of Sz23 ⟨by decide, by decide⟩)
  have at23 : cl23.slots[((0 : Int32)).toNatClampNeg]? = some (.int (97 : Int32)) := Hs23.at in23 rfl
  refine Go.step (fun _ k => X0.caload hx (j := (0 : Int32)) (v := (.int (97 : Int32))) (by rw [e0]; exact Ar23.1) (State.isArrayOf_alike hZ.alike Ar23.2.1) Ar23.2.2 in23 at23 (g := (mkF m 12 #[.val (.ref b6), .val (.int (0 : Int32)), .val (.ref b21), .val (.int (0 : Int32)), .val (.int (2 : Int32)), .val (.int (0 : Int32)), .unset] [(.int (0 : Int32)), (.ref b6)])) rfl rfl (hb hby d5_12) _ (XS.istore X0.here hx rfl (hb hby d5_13) rfl (l' := #[.val (.ref b6), .val (.int (0 : Int32)), .val (.ref b21), .val (.int (0 : Int32)), .val (.int (2 : Int32)), .val (.int (0 : Int32)), .val (.int (97 : Int32))]) rfl (XS.iload X0.here hx rfl (hb hby d5_15) rfl (XS.sipush X0.here hx rfl (hb hby d5_17) (XS.icmpYes X0.here hx rfl (pc0 := 20) (pc' := 26) rfl (hb hby d5_20) rfl (flt (by decide)).2.2.2 (by decide) (by decide) (XS.aloadN X0.here hx rfl (hb hby d5_26) rfl rfl (XS.iloadN X0.here hx rfl (hb hby d5_27) rfl (XS.iload X0.here hx rfl (hb hby d5_28) rfl (XS.i2b X0.here hx rfl (hb hby d5_30) rfl k))))))))) ?_
  show Go p e below s _ _ _ s₁ (mkF m 31 #[.val (.ref b6), .val (.int (0 : Int32)), .val (.ref b21), .val (.int (0 : Int32)), .val (.int (2 : Int32)), .val (.int (0 : Int32)), .val (.int (97 : Int32))] [(.int (97 : Int32)), (.int (0 : Int32)), (.ref b21)])
  obtain ⟨cl24, Ar24, qq24, Sz24, Ng24, Hs24, Ft24⟩ := id V_b21
  have in24 : ¬ ((0 : Int32) < 0 ∨ cl24.slots.size ≤ ((0 : Int32)).toNatClampNeg) := (inb_of Sz24 ⟨by decide, by decide⟩)
  obtain ⟨T24, h24, X24, e24, W24, st24⟩ := stB X0 hx hZ e0 Ar24 (j := (0 : Int32)) in24 (g := (mkF m 31 #[.val (.ref b6), .val (.int (0 : Int32)), .val (.ref b21), .val (.int (0 : Int32)), .val (.int (2 : Int32)), .val (.int (0 : Int32)), .val (.int (97 : Int32))] [(.int (97 : Int32)), (.int (0 : Int32)), (.ref b21)])) rfl rfl (hb hby d5_31)
  have f26 : Arv Z h24 b21 k21 .byte (2 : Int32) [(.int (97 : Int32)), (.int (0 : Int32))] (.int (0 : Int32)) := Arv.set Ar24 qq24 Sz24 Ng24 Hs24 Ft24 rfl W24 0 rfl (Nat.le_of_ble_eq_true rfl)
  have N27 := Fr.snoc X24 N0 g_b21
  refine Go.step (fun _ k => st24 _ (XS.iinc X24.here hx rfl (hb hby d5_32) rfl (l' := #[.val (.ref b6), .val (.int ((0 : Int32) + (1 : Int32))), .val (.ref b21), .val (.int (0 : Int32)), .val (.int (2 : Int32)), .val (.int (0 : Int32)), .val (.int (97 : Int32))]) rfl (XS.iinc X24.here hx rfl (hb hby d5_35) rfl (l' := #[.val (.ref b6), .val (.int (1 : Int32)), .val (.ref b21), .val (.int ((0 : Int32) + (1 : Int32))), .val (.int (2 : Int32)), .val (.int (0 : Int32)), .val (.int (97 : Int32))]) rfl (XS.iinc X24.here hx rfl (hb hby d5_38) rfl (l' := #[.val (.ref b6), .val (.int (1 : Int32)), .val (.ref b21), .val (.int (1 : Int32)), .val (.int (2 : Int32)), .val (.int ((0 : Int32) + (1 : Int32))), .val (.int (97 : Int32))]) rfl (XS.goto X24.here hx rfl (pc0 := 41) (pc' := 3) rfl (hb hby d5_41) (by decide) (by decide) (XS.iload X24.here hx rfl (hb hby d5_3) rfl (XS.iload X24.here hx rfl (hb hby d5_5) rfl (XS.icmpNo X24.here hx rfl (hb hby d5_7) rfl (tlt (by decide)).2.1 (XS.aloadN X24.here hx rfl (hb hby d5_10) rfl rfl (XS.iloadN X24.here hx rfl (hb hby d5_11) rfl k)))))))))) ?_
  show Go p e below s _ _ _ T24 (mkF m 12 #[.val (.ref b6), .val (.int (1 : Int32)), .val (.ref b21), .val (.int (1 : Int32)), .val (.int (2 : Int32)), .val (.int (1 : Int32)), .val (.int (97 : Int32))] [(.int (1 : Int32)), (.ref b6)])
  have f29 := (V_b6.other W24 ne_b6_b21)
  obtain ⟨cl30, Ar30, -, Sz30, Ng30, Hs30, Ft30⟩ := id f29
  have in30 : ¬ ((1 : Int32) < 0 ∨ cl30.slots.size ≤ ((1 : Int32)).toNatClampNeg) := (inb_of Sz30 ⟨by decide, by decide⟩)
  have at30 : cl30.slots[((1 : Int32)).toNatClampNeg]? = some (.int (98 : Int32)) := Hs30.at in30 rfl
  refine Go.step (fun _ k => X24.caload hx (j := (1 : Int32)) (v := (.int (98 : Int32))) (by rw [e24]; exact Ar30.1) (State.isArrayOf_alike hZ.alike Ar30.2.1) Ar30.2.2 in30 at30 (g := (mkF m 12 #[.val (.ref b6), .val (.int (1 : Int32)), .val (.ref b21), .val (.int (1 : Int32)), .val (.int (2 : Int32)), .val (.int (1 : Int32)), .val (.int (97 : Int32))] [(.int (1 : Int32)), (.ref b6)])) rfl rfl (hb hby d5_12) _ (XS.istore X24.here hx rfl (hb hby d5_13) rfl (l' := #[.val (.ref b6), .val (.int (1 : Int32)), .val (.ref b21), .val (.int (1 : Int32)), .val (.int (2 : Int32)), .val (.int (1 : Int32)), .val (.int (98 : Int32))]) rfl (XS.iload X24.here hx rfl (hb hby d5_15) rfl (XS.sipush X24.here hx rfl (hb hby d5_17) (XS.icmpYes X24.here hx rfl (pc0 := 20) (pc' := 26) rfl (hb hby d5_20) rfl (flt (by decide)).2.2.2 (by decide) (by decide) (XS.aloadN X24.here hx rfl (hb hby d5_26) rfl rfl (XS.iloadN X24.here hx rfl (hb hby d5_27) rfl (XS.iload X24.here hx rfl (hb hby d5_28) rfl (XS.i2b X24.here hx rfl (hb hby d5_30) rfl k))))))))) ?_
  show Go p e below s _ _ _ T24 (mkF m 31 #[.val (.ref b6), .val (.int (1 : Int32)), .val (.ref b21), .val (.int (1 : Int32)), .val (.int (2 : Int32)), .val (.int (1 : Int32)), .val (.int (98 : Int32))] [(.int (98 : Int32)), (.int (1 : Int32)), (.ref b21)])
  obtain ⟨cl31, Ar31, qq31, Sz31, Ng31, Hs31, Ft31⟩ := id f26
  have in31 : ¬ ((1 : Int32) < 0 ∨ cl31.slots.size ≤ ((1 : Int32)).toNatClampNeg) := (inb_of Sz31 ⟨by decide, by decide⟩)
  obtain ⟨T31, h31, X31, e31, W31, st31⟩ := stB X24 hx hZ e24 Ar31 (j := (1 : Int32)) in31 (g := (mkF m 31 #[.val (.ref b6), .val (.int (1 : Int32)), .val (.ref b21), .val (.int (1 : Int32)), .val (.int (2 : Int32)), .val (.int (1 : Int32)), .val (.int (98 : Int32))] [(.int (98 : Int32)), (.int (1 : Int32)), (.ref b21)])) rfl rfl (hb hby d5_31)
  have f32 : Arv Z h31 b21 k21 .byte (2 : Int32) [(.int (97 : Int32)), (.int (98 : Int32))] (.int (0 : Int32)) := Arv.set Ar31 qq31 Sz31 Ng31 Hs31 Ft31 rfl W31 1 rfl (Nat.le_of_ble_eq_true rfl)
  have N33 := Fr.snoc X31 N27 g_b21
  refine Go.step (fun _ k => st31 _ (XS.iinc X31.here hx rfl (hb hby d5_32) rfl (l' := #[.val (.ref b6), .val (.int ((1 : Int32) + (1 : Int32))), .val (.ref b21), .val (.int (1 : Int32)), .val (.int (2 : Int32)), .val (.int (1 : Int32)), .val (.int (98 : Int32))]) rfl (XS.iinc X31.here hx rfl (hb hby d5_35) rfl (l' := #[.val (.ref b6), .val (.int (2 : Int32)), .val (.ref b21), .val (.int ((1 : Int32) + (1 : Int32))), .val (.int (2 : Int32)), .val (.int (1 : Int32)), .val (.int (98 : Int32))]) rfl (XS.iinc X31.here hx rfl (hb hby d5_38) rfl (l' := #[.val (.ref b6), .val (.int (2 : Int32)), .val (.ref b21), .val (.int (2 : Int32)), .val (.int (2 : Int32)), .val (.int ((1 : Int32) + (1 : Int32))), .val (.int (98 : Int32))]) rfl (XS.goto X31.here hx rfl (pc0 := 41) (pc' := 3) rfl (hb hby d5_41) (by decide) (by decide) (XS.iload X31.here hx rfl (hb hby d5_3) rfl (XS.iload X31.here hx rfl (hb hby d5_5) rfl (XS.icmpYes X31.here hx rfl (pc0 := 7) (pc' := 44) rfl (hb hby d5_7) rfl (flt (by decide)).2.1 (by decide) (by decide) (XS.iload X31.here hx rfl (hb hby d5_44) rfl k))))))))) ?_
  show Go p e below s _ _ _ T31 (mkF m 46 #[.val (.ref b6), .val (.int (2 : Int32)), .val (.ref b21), .val (.int (2 : Int32)), .val (.int (2 : Int32)), .val (.int (2 : Int32)), .val (.int (98 : Int32))] [(.int (2 : Int32))])
  have f34 := (((Keep.refl h0 [b21]).wr W24 (Or.inl (List.mem_of_getElem? (i := 0) rfl))).wr W31 (Or.inl (List.mem_of_getElem? (i := 0) rfl)))
  exact Go.retI X31 hx hlk Bd.returns (hb hby d5_46) e31 ⟨rfl, N33, f34, f32⟩ (by decide) (by decide)

theorem ef_StringUTF16_compress_0 (m : MethodId) (x0 : Addr) (x1 : Int32) (x2 : Int32) : entryFrame m #[(.ref x0), (.int x1), (.int x2)] 6 = mkF m 0 #[.val (.ref x0), .val (.int x1), .val (.int x2), .unset, .unset, .unset] [] := by first | (simp [entryFrame, mkF, argsToLocals, Value.category]; done) | rfl
def Q_StringUTF16_compress_0 (Z : State) (b6 : Addr) (k6 : ClassId) (h0 : Heap) (n0 : Nat) (v : Option Value) (h : Heap) (L : List Loc) : Prop := ∃ (b21 : Addr) (k21 : ClassId), v = some (.ref b21) ∧ Fr n0 L ∧ Keep h0 h [] ∧ h0.size ≤ b21 ∧ Arv Z h b21 k21 .byte (2 : Int32) [(.int (97 : Int32)), (.int (98 : Int32))] (.int (0 : Int32))
set_option maxRecDepth 65536 in
set_option maxHeartbeats 40000000 in
theorem rm_StringUTF16_compress_0 (l : Launch) (Z : State) (a0 : Array Value) (hw : ∀ d ∈ tables_1, d.before a0 Z = true) (ws : List Jvm.Cond) (b6 : Addr) (k6 : ClassId) (h0 : Heap) (n0 : Nat) (Z0 : n0 ≤ h0.size) (V_b6 : Arv Z h0 b6 k6 .char (2 : Int32) [(.int (97 : Int32)), (.int (98 : Int32))] (.int (0 : Int32))) :
    MetFree l xm3 (head1 (Jvm.Cond.code xm3 jdk_52_method_16_code 6 (some (.array .byte)) :: ws) xr2) (fun a U => a = #[(.ref b6), (.int (0 : Int32)), (.int (2 : Int32))] ∧ Z.Warmed39 U.vm ∧ U.heap = h0) (fun _ _ _ _ _ => True) (fun _ U o U' => ∃ v L, o = .returned v ∧ Q_StringUTF16_compress_0 Z b6 k6 h0 n0 v U'.heap L ∧ FrameEnd U o U' L xr2.cells xr2.slots) := by
  refine MetFree.of_bodySF (plainFor_of_name pn_2) hisR ?_
  intro p e s m args below meth c s₁ Bd hml0 hP hK
  obtain ⟨rfl, hZ, hh⟩ := hP
  have hx := Bd.exec
  have hby := Bd.bytes
  have hlk : meth.locks = false := BodyLoose.notSynchronized Bd
  have hml : c.maxLocals = 6 := hml0
  have hown : s.vm.findClass xs14 = some m.cls := findClass_of_methodNamed Bd.named
  have hnm := (name_of_methodNamed Bd.named Bd.method).1
  have X0 : Stand p l e xr2 s m #[(.ref b6), (.int (0 : Int32)), (.int (2 : Int32))] below meth c s₁ [] 0 0 := Stand.of_body Bd
  have e0 : s₁.heap = h0 := by rw [← hh, Bd.state]; rfl
  have N0 := Fr.nil n0
  show Go p e below s (Q_StringUTF16_compress_0 Z b6 k6 h0 n0) xr2.cells xr2.slots s₁ (entryFrame m #[(.ref b6), (.int (0 : Int32)), (.int (2 : Int32))] 6)
  refine Go.cast (ef_StringUTF16_compress_0 m b6 (0 : Int32) (2 : Int32)) ?_
  show Go p e below s _ _ _ s₁ (mkF m 0 #[.val (.ref b6), .val (.int (0 : Int32)), .val (.int (2 : Int32)), .unset, .unset, .unset] [])
  refine Go.step (fun _ k => XS.iloadN X0.here hx rfl (hb hby d4_0) rfl k) ?_
  show Go p e below s _ _ _ s₁ (mkF m 1 #[.val (.ref b6), .val (.int (0 : Int32)), .val (.int (2 : Int32)), .unset, .unset, .unset] [(.int (2 : Int32))])
  obtain ⟨T21, h21, k21, X21, e21, E21, A21, st21⟩ := newP (aty := .byte) X0 hx hZ (tw19 hw) e0 (g := (mkF m 1 #[.val (.ref b6), .val (.int (0 : Int32)), .val (.int (2 : Int32)), .unset, .unset, .unset] [(.int (2 : Int32))])) rfl (hb hby d4_1) rfl (by decide) (cap := 2) (by decide) (by decide) (by decide) (by decide)
  obtain ⟨b21, g21⟩ : ∃ z, z = h0.size := ⟨_, rfl⟩
  rw [← g21] at A21 st21
  have f22 : Arv Z h21 b21 k21 .byte (2 : Int32) [(.int (0 : Int32)), (.int (0 : Int32))] (.int (0 : Int32)) := (Arv.new A21 (by decide)).pad (pad_rep [] (.int (0 : Int32)) 2)
  refine Go.step (fun _ k => st21 _ (XS.astoreN X21.here hx rfl (hb hby d4_3) rfl rfl (l' := #[.val (.ref b6), .val (.int (0 : Int32)), .val (.int (2 : Int32)), .val (.ref b21), .unset, .unset]) rfl (XS.aloadN X21.here hx rfl (hb hby d4_4) rfl rfl (XS.iloadN X21.here hx rfl (hb hby d4_5) rfl (XS.aloadN X21.here hx rfl (hb hby d4_6) rfl rfl (XS.iconst X21.here hx rfl (hb hby d4_7) (XS.iloadN X21.here hx rfl (hb hby d4_8) rfl k))))))) ?_
  show Go p e below s _ _ _ T21 (mkF m 9 #[.val (.ref b6), .val (.int (0 : Int32)), .val (.int (2 : Int32)), .val (.ref b21), .unset, .unset] [(.int (2 : Int32)), (.int (0 : Int32)), (.ref b21), (.int (0 : Int32)), (.ref b6)])
  have g25 := Nat.le_trans Z0 (Nat.le_of_eq g21.symm)
  have ne28 : b6 ≠ b21 := Nat.ne_of_lt (Nat.lt_of_lt_of_le V_b6.lt (Nat.le_of_eq g21.symm))
  have f35 := (Nat.le_trans Z0 E21.1)
  have f36 := (V_b6.ext E21)
  obtain ⟨_, _, ⟨T37, L37, k37, n37⟩, -, X37, ⟨Lc37, hQ37, l37, y37, z37⟩, st37⟩ := Jvm.LawKit.callS X21 hx (y := xm0) hown (mvT hZ (tw20 hw)) (mvT hZ (tw21 hw)) (mvT hZ (tw17 hw)) (mvT hZ (tw22 hw)) (by decide) (backOf (W := 0) (rm_StringUTF16_compress_1 l Z a0 hw [] b6 b21 k6 k21 h21 n0 f35 f36 f22 g25 ne28) hZ (tw22 hw) (tw17 hw) (by decide) (by decide)) (g := (mkF m 9 #[.val (.ref b6), .val (.int (0 : Int32)), .val (.int (2 : Int32)), .val (.ref b21), .unset, .unset] [(.int (2 : Int32)), (.int (0 : Int32)), (.ref b21), (.int (0 : Int32)), (.ref b6)])) rfl (by rw [hml]; rfl) (argsL := [(.ref b6), (.int (0 : Int32)), (.ref b21), (.int (0 : Int32)), (.int (2 : Int32))]) (rest := []) (lenOf pd_1 rfl) rfl (by show 2 * 0 + _ ≤ _; exact Nat.le_of_eq rfl) (hb hby d4_9) (fun _ _ => ⟨rfl, e21, (by decide : 1 + 0 ≤ _), (by decide : 2 + 0 ≤ _)⟩)
  dsimp only [Pt.U, Pt.locs, Pt.cells, Pt.slots] at X37 l37 y37 z37 st37 hQ37
  subst l37 y37 z37
  obtain ⟨rfl, N37q, K37, P37_0⟩ := hQ37
  have N38 := Fr.app N0 N37q
  refine Go.step (fun _ k => st37 _ (XS.istore X37.here hx rfl (hb hby d4_12) rfl (l' := #[.val (.ref b6), .val (.int (0 : Int32)), .val (.int (2 : Int32)), .val (.ref b21), .val (.int (2 : Int32)), .unset]) rfl (XS.iload X37.here hx rfl (hb hby d4_14) rfl (XS.iloadN X37.here hx rfl (hb hby d4_16) rfl (XS.icmpYes X37.here hx rfl (pc0 := 17) (pc' := 57) rfl (hb hby d4_17) rfl (teq (by decide)).1 (by decide) (by decide) (XS.aloadN X37.here hx rfl (hb hby d4_57) rfl rfl k)))))) ?_
  show Go p e below s _ _ _ T37 (mkF m 58 #[.val (.ref b6), .val (.int (0 : Int32)), .val (.int (2 : Int32)), .val (.ref b21), .val (.int (2 : Int32)), .unset] [(.ref b21)])
  have z39 := Nat.le_trans (Nat.le_refl _) (Nat.le_of_eq g21.symm)
  have f40 := (((Keep.refl h0 []).ext E21).trans K37 (allS (Or.inr z39) all0))
  exact Go.retA X37 hx hlk Bd.returns rfl rfl (hb hby d4_58) rfl ⟨b21, k21, rfl, N38, f40, z39, P37_0⟩ (by decide) (by decide)

theorem ef_StringUTF16_coderFromArrayLen_0 (m : MethodId) (x0 : Addr) (x1 : Int32) : entryFrame m #[(.ref x0), (.int x1)] 2 = mkF m 0 #[.val (.ref x0), .val (.int x1)] [] := by first | (simp [entryFrame, mkF, argsToLocals, Value.category]; done) | rfl
def Q_StringUTF16_coderFromArrayLen_0 (Z : State) (b21_41 : Addr) (k21_41 : ClassId) (h0 : Heap) (n0 : Nat) (v : Option Value) (h : Heap) (L : List Loc) : Prop := v = some (.int (0 : Int32)) ∧ Fr n0 L ∧ h = h0
set_option maxRecDepth 65536 in
set_option maxHeartbeats 40000000 in
theorem rm_StringUTF16_coderFromArrayLen_0 (l : Launch) (Z : State) (a0 : Array Value) (hw : ∀ d ∈ tables_1, d.before a0 Z = true) (ws : List Jvm.Cond) (b21_41 : Addr) (k21_41 : ClassId) (h0 : Heap) (n0 : Nat) (Z0 : n0 ≤ h0.size) (V_b21_41 : Arv Z h0 b21_41 k21_41 .byte (2 : Int32) [(.int (97 : Int32)), (.int (98 : Int32))] (.int (0 : Int32))) :
    MetFree l xm22 (head1 (Jvm.Cond.code xm22 jdk_52_method_15_code 2 (some .byte) :: ws) xr17) (fun a U => a = #[(.ref b21_41), (.int (2 : Int32))] ∧ Z.Warmed39 U.vm ∧ U.heap = h0) (fun _ _ _ _ _ => True) (fun _ U o U' => ∃ v L, o = .returned v ∧ Q_StringUTF16_coderFromArrayLen_0 Z b21_41 k21_41 h0 n0 v U'.heap L ∧ FrameEnd U o U' L xr17.cells xr17.slots) := by
  refine MetFree.of_bodySF (plainFor_of_name pn_2) hisR ?_
  intro p e s m args below meth c s₁ Bd hml0 hP hK
  obtain ⟨rfl, hZ, hh⟩ := hP
  have hx := Bd.exec
  have hby := Bd.bytes
  have hlk : meth.locks = false := BodyLoose.notSynchronized Bd
  have hml : c.maxLocals = 2 := hml0
  have hown : s.vm.findClass xs14 = some m.cls := findClass_of_methodNamed Bd.named
  have hnm := (name_of_methodNamed Bd.named Bd.method).1
  have X0 : Stand p l e xr17 s m #[(.ref b21_41), (.int (2 : Int32))] below meth c s₁ [] 0 0 := Stand.of_body Bd
  have e0 : s₁.heap = h0 := by rw [← hh, Bd.state]; rfl
  have N0 := Fr.nil n0
  show Go p e below s (Q_StringUTF16_coderFromArrayLen_0 Z b21_41 k21_41 h0 n0) xr17.cells xr17.slots s₁ (entryFrame m #[(.ref b21_41), (.int (2 : Int32))] 2)
  refine Go.cast (ef_StringUTF16_coderFromArrayLen_0 m b21_41 (2 : Int32)) ?_
  show Go p e below s _ _ _ s₁ (mkF m 0 #[.val (.ref b21_41), .val (.int (2 : Int32))] [])
  refine Go.step (fun _ k => XS.iloadN X0.here hx rfl (hb hby d6_0) rfl (XS.aloadN X0.here hx rfl (hb hby d6_1) rfl rfl k)) ?_
  show Go p e below s _ _ _ s₁ (mkF m 2 #[.val (.ref b21_41), .val (.int (2 : Int32))] [(.ref b21_41), (.int (2 : Int32))])
  obtain ⟨cl43, Ar43, -, Sz43, Ng43, -, -⟩ := id V_b21_41
  have aln43 := X0.arraylength hx (by rw [e0]; exact Ar43.1) (State.isArrayOf_alike hZ.alike Ar43.2.1) (g := (mkF m 2 #[.val (.ref b21_41), .val (.int (2 : Int32))] [(.ref b21_41), (.int (2 : Int32))])) rfl rfl (hb hby d6_2)
  rw [len_of Sz43 Ng43] at aln43
  refine Go.step (fun _ k => aln43 _ (XS.isub X0.here hx rfl (hb hby d6_3) rfl (XS.bipush X0.here hx rfl (hb hby d6_4) (XS.iushr X0.here hx rfl (hb hby d6_6) rfl (XS.i2b X0.here hx rfl (hb hby d6_7) rfl k))))) ?_
  show Go p e below s _ _ _ s₁ (mkF m 8 #[.val (.ref b21_41), .val (.int (2 : Int32))] [(.int (0 : Int32))])
  exact Go.retN X0 hx hlk (t := .byte) Bd.returns (by simp) (hb hby d6_8) e0 ⟨rfl, N0, rfl⟩ (by decide) (by decide)

theorem ef_String_new_1 (m : MethodId) (x0 : Addr) (x1 : Addr) (x2 : Int32) (x3 : Int32) : entryFrame m #[(.ref x0), (.ref x1), (.int x2), (.int x3), .null] 6 = mkF m 0 #[.val (.ref x0), .val (.ref x1), .val (.int x2), .val (.int x3), .val .null, .unset] [] := by first | (simp [entryFrame, mkF, argsToLocals, Value.category]; done) | rfl
def Q_String_new_1 (Z : State) (b15 : Addr) (b6 : Addr) (cs : Int32) (k6 : ClassId) (h0 : Heap) (n0 : Nat) (v : Option Value) (h : Heap) (L : List Loc) : Prop := ∃ (b21_41 : Addr) (k21_41 : ClassId), v = none ∧ Fr n0 L ∧ Keep h0 h [b15] ∧ Fld Z h b15 xs23 "coder" "B" (.int (0 : Int32)) ∧ Fld Z h b15 xs23 "value" "[B" (.ref b21_41) ∧ h0.size ≤ b21_41 ∧ Arv Z h b21_41 k21_41 .byte (2 : Int32) [(.int (97 : Int32)), (.int (98 : Int32))] (.int (0 : Int32))
set_option maxRecDepth 65536 in
set_option maxHeartbeats 40000000 in
theorem rm_String_new_1 (l : Launch) (Z : State) (a0 : Array Value) (hw : ∀ d ∈ tables_1, d.before a0 Z = true) (ws : List Jvm.Cond) (b15 : Addr) (b6 : Addr) (cs : Int32) (k6 : ClassId) (h0 : Heap) (n0 : Nat) (Z0 : n0 ≤ h0.size) (Z_S_COMPACT_STRINGS : Sta Z Z.heap xs23 xs24 "Z" (.int cs)) (O0 : Old Z n0 h0) (hcs : ¬ cs = (0 : Int32)) (V_b6 : Arv Z h0 b6 k6 .char (2 : Int32) [(.int (97 : Int32)), (.int (98 : Int32))] (.int (0 : Int32))) (E_b15 : Exa Z h0 b15 xs23) (F_coder_b15 : Fld Z h0 b15 xs23 "coder" "B" (.int (0 : Int32))) (g_b15 : n0 ≤ b15) (F_value_b15 : Fld Z h0 b15 xs23 "value" "[B" .null) :
    MetFree l xm23 (head1 (Jvm.Cond.code xm23 jdk_42_method_149_code 6 none :: ws) xr3) (fun a U => a = #[(.ref b15), (.ref b6), (.int (0 : Int32)), (.int (2 : Int32)), .null] ∧ Z.Warmed39 U.vm ∧ U.heap = h0) (fun _ _ _ _ _ => True) (fun _ U o U' => ∃ v L, o = .returned v ∧ Q_String_new_1 Z b15 b6 cs k6 h0 n0 v U'.heap L ∧ FrameEnd U o U' L xr3.cells xr3.slots) := by
  refine MetFree.of_bodySF (plainFor_of_name pn_1) hisR ?_
  intro p e s m args below meth c s₁ Bd hml0 hP hK
  obtain ⟨rfl, hZ, hh⟩ := hP
  have hx := Bd.exec
  have hby := Bd.bytes
  have hlk : meth.locks = false := BodyLoose.notSynchronized Bd
  have hml : c.maxLocals = 6 := hml0
  have hown : s.vm.findClass xs23 = some m.cls := findClass_of_methodNamed Bd.named
  have hnm := (name_of_methodNamed Bd.named Bd.method).1
  have X0 : Stand p l e xr3 s m #[(.ref b15), (.ref b6), (.int (0 : Int32)), (.int (2 : Int32)), .null] below meth c s₁ [] 0 0 := Stand.of_body Bd
  have e0 : s₁.heap = h0 := by rw [← hh, Bd.state]; rfl
  have N0 := Fr.nil n0
  show Go p e below s (Q_String_new_1 Z b15 b6 cs k6 h0 n0) xr3.cells xr3.slots s₁ (entryFrame m #[(.ref b15), (.ref b6), (.int (0 : Int32)), (.int (2 : Int32)), .null] 6)
  refine Go.cast (ef_String_new_1 m b15 b6 (0 : Int32) (2 : Int32)) ?_
  show Go p e below s _ _ _ s₁ (mkF m 0 #[.val (.ref b15), .val (.ref b6), .val (.int (0 : Int32)), .val (.int (2 : Int32)), .val .null, .unset] [])
  refine Go.step (fun _ k => XS.aloadN X0.here hx rfl (hb hby d3_0) rfl rfl k) ?_
  show Go p e below s _ _ _ s₁ (mkF m 1 #[.val (.ref b15), .val (.ref b6), .val (.int (0 : Int32)), .val (.int (2 : Int32)), .val .null, .unset] [(.ref b15)])
  obtain ⟨T19, X19, e19, st19⟩ := initO X0 hx hZ hown (tw11 hw) (tw12 hw) (tw13 hw) e0 (g := (mkF m 1 #[.val (.ref b15), .val (.ref b6), .val (.int (0 : Int32)), .val (.int (2 : Int32)), .val .null, .unset] [(.ref b15)])) rfl (by rw [hml]; rfl) rfl (hb hby d3_1) (by decide) (W := 0) (by show 2 * 0 + _ ≤ _; exact Nat.le_of_eq rfl) (by decide)
  refine Go.step (fun _ k => st19 _ (XS.iloadN X19.here hx rfl (hb hby d3_4) rfl (XS.ifYes X19.here hx rfl (pc0 := 5) (pc' := 27) rfl (hb hby d3_5) rfl ((if0 _ _).trans (feq (by decide)).2) (by decide) (by decide) k))) ?_
  show Go p e below s _ _ _ T19 (mkF m 27 #[.val (.ref b15), .val (.ref b6), .val (.int (0 : Int32)), .val (.int (2 : Int32)), .val .null, .unset] [])
  obtain ⟨T20, X20, e20, st20⟩ := getS2 X19 hx hZ hown (host := "") (Or.inl (tw14 hw)) Via.refl e19 (Z_S_COMPACT_STRINGS.ext O0.2) (g := (mkF m 27 #[.val (.ref b15), .val (.ref b6), .val (.int (0 : Int32)), .val (.int (2 : Int32)), .val .null, .unset] [])) rfl (hb hby d3_27)
  refine Go.step (fun _ k => st20 _ (XS.ifNo X20.here hx rfl (hb hby d3_30) rfl ((if0 _ _).trans (feq hcs).1) (XS.aloadN X20.here hx rfl (hb hby d3_33) rfl rfl (XS.iloadN X20.here hx rfl (hb hby d3_34) rfl (XS.iloadN X20.here hx rfl (hb hby d3_35) rfl k))))) ?_
  show Go p e below s _ _ _ T20 (mkF m 36 #[.val (.ref b15), .val (.ref b6), .val (.int (0 : Int32)), .val (.int (2 : Int32)), .val .null, .unset] [(.int (2 : Int32)), (.int (0 : Int32)), (.ref b6)])
  obtain ⟨_, _, ⟨T41, L41, k41, n41⟩, -, X41, ⟨Lc41, hQ41, l41, y41, z41⟩, st41⟩ := Jvm.LawKit.callS X20 hx (y := xm3) hown (mvT hZ (tw15 hw)) (mvT hZ (tw16 hw)) (mvT hZ (tw17 hw)) (mvT hZ (tw18 hw)) (by decide) (backOf (W := 0) (rm_StringUTF16_compress_0 l Z a0 hw [] b6 k6 h0 n0 Z0 V_b6) hZ (tw18 hw) (tw17 hw) (by decide) (by decide)) (g := (mkF m 36 #[.val (.ref b15), .val (.ref b6), .val (.int (0 : Int32)), .val (.int (2 : Int32)), .val .null, .unset] [(.int (2 : Int32)), (.int (0 : Int32)), (.ref b6)])) rfl (by rw [hml]; rfl) (argsL := [(.ref b6), (.int (0 : Int32)), (.int (2 : Int32))]) (rest := []) (lenOf pd_2 rfl) rfl (by show 2 * 0 + _ ≤ _; exact Nat.le_of_eq rfl) (hb hby d3_36) (fun _ _ => ⟨rfl, e20, (by decide : 0 + 1 ≤ _), (by decide : 0 + 2 ≤ _)⟩)
  dsimp only [Pt.U, Pt.locs, Pt.cells, Pt.slots] at X41 l41 y41 z41 st41 hQ41
  subst l41 y41 z41
  obtain ⟨b21_41, k21_41, rfl, N41q, K41, P41_0, P41_1⟩ := hQ41
  have N42 := Fr.app N0 N41q
  refine Go.step (fun _ k => st41 _ (XS.astore X41.here hx rfl (hb hby d3_39) rfl rfl (l' := #[.val (.ref b15), .val (.ref b6), .val (.int (0 : Int32)), .val (.int (2 : Int32)), .val .null, .val (.ref b21_41)]) rfl (XS.aloadN X41.here hx rfl (hb hby d3_41) rfl rfl (XS.aload X41.here hx rfl (hb hby d3_42) rfl rfl (XS.iloadN X41.here hx rfl (hb hby d3_44) rfl k))))) ?_
  show Go p e below s _ _ _ T41 (mkF m 45 #[.val (.ref b15), .val (.ref b6), .val (.int (0 : Int32)), .val (.int (2 : Int32)), .val .null, .val (.ref b21_41)] [(.int (2 : Int32)), (.ref b21_41), (.ref b15)])
  have f44 := (Nat.le_trans Z0 K41.1)
  obtain ⟨_, _, ⟨T45, L45, k45, n45⟩, -, X45, ⟨Lc45, hQ45, l45, y45, z45⟩, st45⟩ := Jvm.LawKit.callS X41 hx (y := xm22) hown (mvT hZ (tw23 hw)) (mvT hZ (tw24 hw)) (mvT hZ (tw17 hw)) (mvT hZ (tw25 hw)) (by decide) (backOf (W := 1) (rm_StringUTF16_coderFromArrayLen_0 l Z a0 hw [] b21_41 k21_41 T41.heap n0 f44 P41_1) hZ (tw25 hw) (tw17 hw) (by decide) (by decide)) (g := (mkF m 45 #[.val (.ref b15), .val (.ref b6), .val (.int (0 : Int32)), .val (.int (2 : Int32)), .val .null, .val (.ref b21_41)] [(.int (2 : Int32)), (.ref b21_41), (.ref b15)])) rfl (by rw [hml]; rfl) (argsL := [(.ref b21_41), (.int (2 : Int32))]) (rest := [(.ref b15)]) (lenOf pd_3 rfl) rfl (by show 2 * 0 + _ ≤ _; exact Nat.le_of_eq rfl) (hb hby d3_45) (fun _ _ => ⟨rfl, rfl, (by decide : 1 + 0 ≤ _), (by decide : 2 + 0 ≤ _)⟩)
  dsimp only [Pt.U, Pt.locs, Pt.cells, Pt.slots] at X45 l45 y45 z45 st45 hQ45
  subst l45 y45 z45
  obtain ⟨rfl, N45q, eq45⟩ := hQ45
  have N46 := Fr.app N42 N45q
  refine Go.step (fun _ k => st45 _ k) ?_
  show Go p e below s _ _ _ T45 (mkF m 48 #[.val (.ref b15), .val (.ref b6), .val (.int (0 : Int32)), .val (.int (2 : Int32)), .val .null, .val (.ref b21_41)] [(.int (0 : Int32)), (.ref b15)])
  have f47 := (F_coder_b15.keep K41 nin0)
  have f48 := (E_b15.keep K41)
  obtain ⟨T49, h49, X49, e49, W49, st49⟩ := putFN X45 hx hZ hown (tw26 hw) Via.refl eq45 f47 f48 (Or.inr ⟨(tw27 hw), rfl, hnm⟩) (tw2 hw) (ty := .byte) (v' := (.int (0 : Int32))) (by decide) rfl rfl (g := (mkF m 48 #[.val (.ref b15), .val (.ref b6), .val (.int (0 : Int32)), .val (.int (2 : Int32)), .val .null, .val (.ref b21_41)] [(.int (0 : Int32)), (.ref b15)])) rfl rfl (hb hby d3_48)
  have f52 := f47.same W49
  have N53 := Fr.snoc X49 N46 g_b15
  refine Go.step (fun _ k => st49 _ (XS.aloadN X49.here hx rfl (hb hby d3_51) rfl rfl (XS.aload X49.here hx rfl (hb hby d3_52) rfl rfl k))) ?_
  show Go p e below s _ _ _ T49 (mkF m 54 #[.val (.ref b15), .val (.ref b6), .val (.int (0 : Int32)), .val (.int (2 : Int32)), .val .null, .val (.ref b21_41)] [(.ref b21_41), (.ref b15)])
  have f54 := ((F_value_b15.keep K41 nin0).other W49 (Or.inr (slot_ne (Or.inr (tw29 hw)) (Or.inr (tw27 hw)) (by decide) (t := (.array .byte)) (t' := .byte) (by decide) (by decide))))
  have f55 := (f48.wr W49)
  obtain ⟨T56, h56, X56, e56, W56, st56⟩ := putF X49 hx hZ hown (host := "") (Or.inl (tw28 hw)) Via.refl e49 f54 f55 (Or.inr ⟨(tw29 hw), rfl, hnm⟩) (tw2 hw) (ty := (.array .byte)) (by decide) rfl rfl (g := (mkF m 54 #[.val (.ref b15), .val (.ref b6), .val (.int (0 : Int32)), .val (.int (2 : Int32)), .val .null, .val (.ref b21_41)] [(.ref b21_41), (.ref b15)])) rfl rfl (hb hby d3_54)
  have f57 := f54.same W56
  have N58 := Fr.snoc X56 N53 g_b15
  refine Go.step (fun _ k => st56 _ k) ?_
  show Go p e below s _ _ _ T56 (mkF m 57 #[.val (.ref b15), .val (.ref b6), .val (.int (0 : Int32)), .val (.int (2 : Int32)), .val .null, .val (.ref b21_41)] [])
  have f59 := ((((Keep.refl h0 [b15]).trans K41 all0).wr W49 (Or.inl (List.mem_of_getElem? (i := 0) rfl))).wr W56 (Or.inl (List.mem_of_getElem? (i := 0) rfl)))
  have f60 := (f52.other W56 (Or.inr (slot_ne (Or.inr (tw27 hw)) (Or.inr (tw29 hw)) (by decide) (t := .byte) (t' := (.array .byte)) (by decide) (by decide))))
  have z61 := Nat.le_trans (Nat.le_refl _) P41_0
  have ne62 : b15 ≠ b21_41 := Nat.ne_of_lt (Nat.lt_of_lt_of_le E_b15.lt P41_0)
  have f63 := ((P41_1.other W49 (Ne.symm ne62)).other W56 (Ne.symm ne62))
  exact Go.retV X56 hx hlk Bd.returns (hb hby d3_57) e56 ⟨b21_41, k21_41, rfl, N58, f59, f60, f57, z61, f63⟩ (by decide) (by decide)

theorem ef_String_new_0 (m : MethodId) (x0 : Addr) (x1 : Addr) : entryFrame m #[(.ref x0), (.ref x1)] 2 = mkF m 0 #[.val (.ref x0), .val (.ref x1)] [] := by first | (simp [entryFrame, mkF, argsToLocals, Value.category]; done) | rfl
def Q_String_new_0 (Z : State) (b15 : Addr) (b6 : Addr) (k6 : ClassId) (cs : Int32) (h0 : Heap) (n0 : Nat) (v : Option Value) (h : Heap) (L : List Loc) : Prop := ∃ (b21_41_64 : Addr) (k21_41_64 : ClassId), v = none ∧ Fr n0 L ∧ Keep h0 h [b15] ∧ Fld Z h b15 xs23 "coder" "B" (.int (0 : Int32)) ∧ Fld Z h b15 xs23 "value" "[B" (.ref b21_41_64) ∧ h0.size ≤ b21_41_64 ∧ Arv Z h b21_41_64 k21_41_64 .byte (2 : Int32) [(.int (97 : Int32)), (.int (98 : Int32))] (.int (0 : Int32))
set_option maxRecDepth 65536 in
set_option maxHeartbeats 40000000 in
theorem rm_String_new_0 (l : Launch) (Z : State) (a0 : Array Value) (hw : ∀ d ∈ tables_1, d.before a0 Z = true) (ws : List Jvm.Cond) (b15 : Addr) (b6 : Addr) (k6 : ClassId) (cs : Int32) (h0 : Heap) (n0 : Nat) (Z0 : n0 ≤ h0.size) (V_b6 : Arv Z h0 b6 k6 .char (2 : Int32) [(.int (97 : Int32)), (.int (98 : Int32))] (.int (0 : Int32))) (Z_S_COMPACT_STRINGS : Sta Z Z.heap xs23 xs24 "Z" (.int cs)) (O0 : Old Z n0 h0) (hcs : ¬ cs = (0 : Int32)) (E_b15 : Exa Z h0 b15 xs23) (F_coder_b15 : Fld Z h0 b15 xs23 "coder" "B" (.int (0 : Int32))) (g_b15 : n0 ≤ b15) (F_value_b15 : Fld Z h0 b15 xs23 "value" "[B" .null) :
    MetFree l xm12 (head1 (Jvm.Cond.code xm12 jdk_42_method_3_code 2 none :: ws) xr4) (fun a U => a = #[(.ref b15), (.ref b6)] ∧ Z.Warmed39 U.vm ∧ U.heap = h0) (fun _ _ _ _ _ => True) (fun _ U o U' => ∃ v L, o = .returned v ∧ Q_String_new_0 Z b15 b6 k6 cs h0 n0 v U'.heap L ∧ FrameEnd U o U' L xr4.cells xr4.slots) := by
  refine MetFree.of_bodySF (plainFor_of_name pn_1) hisR ?_
  intro p e s m args below meth c s₁ Bd hml0 hP hK
  obtain ⟨rfl, hZ, hh⟩ := hP
  have hx := Bd.exec
  have hby := Bd.bytes
  have hlk : meth.locks = false := BodyLoose.notSynchronized Bd
  have hml : c.maxLocals = 2 := hml0
  have hown : s.vm.findClass xs23 = some m.cls := findClass_of_methodNamed Bd.named
  have hnm := (name_of_methodNamed Bd.named Bd.method).1
  have X0 : Stand p l e xr4 s m #[(.ref b15), (.ref b6)] below meth c s₁ [] 0 0 := Stand.of_body Bd
  have e0 : s₁.heap = h0 := by rw [← hh, Bd.state]; rfl
  have N0 := Fr.nil n0
  show Go p e below s (Q_String_new_0 Z b15 b6 k6 cs h0 n0) xr4.cells xr4.slots s₁ (entryFrame m #[(.ref b15), (.ref b6)] 2)
  refine Go.cast (ef_String_new_0 m b15 b6) ?_
  show Go p e below s _ _ _ s₁ (mkF m 0 #[.val (.ref b15), .val (.ref b6)] [])
  refine Go.step (fun _ k => XS.aloadN X0.here hx rfl (hb hby d2_0) rfl rfl (XS.aloadN X0.here hx rfl (hb hby d2_1) rfl rfl (XS.iconst X0.here hx rfl (hb hby d2_2) (XS.aloadN X0.here hx rfl (hb hby d2_3) rfl rfl k)))) ?_
  show Go p e below s _ _ _ s₁ (mkF m 4 #[.val (.ref b15), .val (.ref b6)] [(.ref b6), (.int (0 : Int32)), (.ref b6), (.ref b15)])
  obtain ⟨cl18, Ar18, -, Sz18, Ng18, -, -⟩ := id V_b6
  have aln18 := X0.arraylength hx (by rw [e0]; exact Ar18.1) (State.isArrayOf_alike hZ.alike Ar18.2.1) (g := (mkF m 4 #[.val (.ref b15), .val (.ref b6)] [(.ref b6), (.int (0 : Int32)), (.ref b6), (.ref b15)])) rfl rfl (hb hby d2_4)
  rw [len_of Sz18 Ng18] at aln18
  refine Go.step (fun _ k => aln18 _ (XS.aconstNull X0.here hx rfl (hb hby d2_5) k)) ?_
  show Go p e below s _ _ _ s₁ (mkF m 6 #[.val (.ref b15), .val (.ref b6)] [.null, (.int (2 : Int32)), (.int (0 : Int32)), (.ref b6), (.ref b15)])
  obtain ⟨_, _, ⟨T64, L64, k64, n64⟩, -, X64, ⟨Lc64, hQ64, l64, y64, z64⟩, st64⟩ := X0.specialBack hx (y := xm23) rfl hown (mvT hZ (tw7 hw)) (mvT hZ (tw8 hw)) (mvT hZ (tw10 hw)) (by decide) (backOf (W := 0) (rm_String_new_1 l Z a0 hw [] b15 b6 cs k6 h0 n0 Z0 Z_S_COMPACT_STRINGS O0 hcs V_b6 E_b15 F_coder_b15 g_b15 F_value_b15) hZ (tw10 hw) (tw3 hw) (by decide) (by decide)) (g := (mkF m 6 #[.val (.ref b15), .val (.ref b6)] [.null, (.int (2 : Int32)), (.int (0 : Int32)), (.ref b6), (.ref b15)])) rfl (by rw [hml]; rfl) (Steps.refl _) (a := b15) (argsL := [(.ref b6), (.int (0 : Int32)), (.int (2 : Int32)), .null]) (rest := []) (lenOf pd_4 rfl) rfl (by show 2 * 0 + _ ≤ _; exact Nat.le_of_eq rfl) (hb hby d2_6) (fun _ _ => ⟨rfl, e0, (by decide : 0 + 1 ≤ _), (by decide : 0 + 2 ≤ _)⟩)
  dsimp only [Pt.U, Pt.locs, Pt.cells, Pt.slots] at X64 l64 y64 z64 st64 hQ64
  subst l64 y64 z64
  obtain ⟨b21_41_64, k21_41_64, rfl, N64q, K64, P64_0, P64_1, P64_2, P64_3⟩ := hQ64
  have N65 := Fr.app N0 N64q
  refine Go.step (fun _ k => st64.trans k) ?_
  show Go p e below s _ _ _ T64 (mkF m 9 #[.val (.ref b15), .val (.ref b6)] [])
  have f66 := ((Keep.refl h0 [b15]).trans K64 (allS (Or.inl (List.mem_of_getElem? (i := 0) rfl)) all0))
  have z67 := Nat.le_trans (Nat.le_refl _) P64_2
  exact Go.retV X64 hx hlk Bd.returns (hb hby d2_9) rfl ⟨b21_41_64, k21_41_64, rfl, N65, f66, P64_0, P64_1, z67, P64_3⟩ (by decide) (by decide)

theorem ef_AbstractMap_new_0 (m : MethodId) (x0 : Addr) : entryFrame m #[(.ref x0)] 1 = mkF m 0 #[.val (.ref x0)] [] := by first | (simp [entryFrame, mkF, argsToLocals, Value.category]; done) | rfl
def Q_AbstractMap_new_0 (Z : State) (b73 : Addr) (h0 : Heap) (n0 : Nat) (v : Option Value) (h : Heap) (L : List Loc) : Prop := v = none ∧ Fr n0 L ∧ h = h0
set_option maxRecDepth 65536 in
set_option maxHeartbeats 40000000 in
theorem rm_AbstractMap_new_0 (l : Launch) (Z : State) (a0 : Array Value) (hw : ∀ d ∈ tables_1, d.before a0 Z = true) (ws : List Jvm.Cond) (b73 : Addr) (h0 : Heap) (n0 : Nat) (Z0 : n0 ≤ h0.size) :
    MetFree l xm19 (head1 (Jvm.Cond.code xm19 jdk_71_method_1_code 1 none :: ws) xr5) (fun a U => a = #[(.ref b73)] ∧ Z.Warmed39 U.vm ∧ U.heap = h0) (fun _ _ _ _ _ => True) (fun _ U o U' => ∃ v L, o = .returned v ∧ Q_AbstractMap_new_0 Z b73 h0 n0 v U'.heap L ∧ FrameEnd U o U' L xr5.cells xr5.slots) := by
  refine MetFree.of_bodySF (plainFor_of_name pn_3) hisR ?_
  intro p e s m args below meth c s₁ Bd hml0 hP hK
  obtain ⟨rfl, hZ, hh⟩ := hP
  have hx := Bd.exec
  have hby := Bd.bytes
  have hlk : meth.locks = false := BodyLoose.notSynchronized Bd
  have hml : c.maxLocals = 1 := hml0
  have hown : s.vm.findClass xs15 = some m.cls := findClass_of_methodNamed Bd.named
  have hnm := (name_of_methodNamed Bd.named Bd.method).1
  have X0 : Stand p l e xr5 s m #[(.ref b73)] below meth c s₁ [] 0 0 := Stand.of_body Bd
  have e0 : s₁.heap = h0 := by rw [← hh, Bd.state]; rfl
  have N0 := Fr.nil n0
  show Go p e below s (Q_AbstractMap_new_0 Z b73 h0 n0) xr5.cells xr5.slots s₁ (entryFrame m #[(.ref b73)] 1)
  refine Go.cast (ef_AbstractMap_new_0 m b73) ?_
  show Go p e below s _ _ _ s₁ (mkF m 0 #[.val (.ref b73)] [])
  refine Go.step (fun _ k => XS.aloadN X0.here hx rfl (hb hby d8_0) rfl rfl k) ?_
  show Go p e below s _ _ _ s₁ (mkF m 1 #[.val (.ref b73)] [(.ref b73)])
  obtain ⟨T80, X80, e80, st80⟩ := initO X0 hx hZ hown (tw41 hw) (tw12 hw) (tw13 hw) e0 (g := (mkF m 1 #[.val (.ref b73)] [(.ref b73)])) rfl (by rw [hml]; rfl) rfl (hb hby d8_1) (by decide) (W := 0) (by show 2 * 0 + _ ≤ _; exact Nat.le_of_eq rfl) (by decide)
  refine Go.step (fun _ k => st80 _ k) ?_
  show Go p e below s _ _ _ T80 (mkF m 4 #[.val (.ref b73)] [])
  exact Go.retV X80 hx hlk Bd.returns (hb hby d8_4) e80 ⟨rfl, N0, rfl⟩ (by decide) (by decide)

theorem ef_Math_max_0 (m : MethodId) (x0 : Int32) (x1 : Int32) : entryFrame m #[(.int x0), (.int x1)] 2 = mkF m 0 #[.val (.int x0), .val (.int x1)] [] := by first | (simp [entryFrame, mkF, argsToLocals, Value.category]; done) | rfl
def Q_Math_max_0 (Z : State)  (h0 : Heap) (n0 : Nat) (v : Option Value) (h : Heap) (L : List Loc) : Prop := v = some (.int (2 : Int32)) ∧ Fr n0 L ∧ h = h0
set_option maxRecDepth 65536 in
set_option maxHeartbeats 40000000 in
theorem rm_Math_max_0 (l : Launch) (Z : State) (a0 : Array Value) (hw : ∀ d ∈ tables_1, d.before a0 Z = true) (ws : List Jvm.Cond)  (h0 : Heap) (n0 : Nat) (Z0 : n0 ≤ h0.size) :
    MetFree l xm24 (head1 (Jvm.Cond.code xm24 jdk_29_method_65_code 2 (some .int) :: ws) xr17) (fun a U => a = #[(.int (2 : Int32)), (.int (1 : Int32))] ∧ Z.Warmed39 U.vm ∧ U.heap = h0) (fun _ _ _ _ _ => True) (fun _ U o U' => ∃ v L, o = .returned v ∧ Q_Math_max_0 Z  h0 n0 v U'.heap L ∧ FrameEnd U o U' L xr17.cells xr17.slots) := by
  refine MetFree.of_bodySF (Jvm.Free.JP.mathPlain rfl (by decide +kernel)) hisR ?_
  intro p e s m args below meth c s₁ Bd hml0 hP hK
  obtain ⟨rfl, hZ, hh⟩ := hP
  have hx := Bd.exec
  have hby := Bd.bytes
  have hlk : meth.locks = false := BodyLoose.notSynchronized Bd
  have hml : c.maxLocals = 2 := hml0
  have hown : s.vm.findClass xs25 = some m.cls := findClass_of_methodNamed Bd.named
  have hnm := (name_of_methodNamed Bd.named Bd.method).1
  have X0 : Stand p l e xr17 s m #[(.int (2 : Int32)), (.int (1 : Int32))] below meth c s₁ [] 0 0 := Stand.of_body Bd
  have e0 : s₁.heap = h0 := by rw [← hh, Bd.state]; rfl
  have N0 := Fr.nil n0
  show Go p e below s (Q_Math_max_0 Z  h0 n0) xr17.cells xr17.slots s₁ (entryFrame m #[(.int (2 : Int32)), (.int (1 : Int32))] 2)
  refine Go.cast (ef_Math_max_0 m (2 : Int32) (1 : Int32)) ?_
  show Go p e below s _ _ _ s₁ (mkF m 0 #[.val (.int (2 : Int32)), .val (.int (1 : Int32))] [])
  refine Go.step (fun _ k => XS.iloadN X0.here hx rfl (hb hby d9_0) rfl (XS.iloadN X0.here hx rfl (hb hby d9_1) rfl (XS.icmpNo X0.here hx rfl (hb hby d9_2) rfl (flt (by decide)).1 (XS.iloadN X0.here hx rfl (hb hby d9_5) rfl (XS.goto X0.here hx rfl (pc0 := 6) (pc' := 10) rfl (hb hby d9_6) (by decide) (by decide) k))))) ?_
  show Go p e below s _ _ _ s₁ (mkF m 10 #[.val (.int (2 : Int32)), .val (.int (1 : Int32))] [(.int (2 : Int32))])
  exact Go.retI X0 hx hlk Bd.returns (hb hby d9_10) e0 ⟨rfl, N0, rfl⟩ (by decide) (by decide)

theorem ef_Integer_numberOfLeadingZeros_0 (m : MethodId) (x0 : Int32) : entryFrame m #[(.int x0)] 2 = mkF m 0 #[.val (.int x0), .unset] [] := by first | (simp [entryFrame, mkF, argsToLocals, Value.category]; done) | rfl
def Q_Integer_numberOfLeadingZeros_0 (Z : State)  (h0 : Heap) (n0 : Nat) (v : Option Value) (h : Heap) (L : List Loc) : Prop := v = some (.int (30 : Int32)) ∧ Fr n0 L ∧ h = h0
set_option maxRecDepth 65536 in
set_option maxHeartbeats 40000000 in
theorem rm_Integer_numberOfLeadingZeros_0 (l : Launch) (Z : State) (a0 : Array Value) (hw : ∀ d ∈ tables_1, d.before a0 Z = true) (ws : List Jvm.Cond)  (h0 : Heap) (n0 : Nat) (Z0 : n0 ≤ h0.size) :
    MetFree l xm27 (head1 (Jvm.Cond.code xm27 jdk_33_method_47_code 2 (some .int) :: ws) xr17) (fun a U => a = #[(.int (2 : Int32))] ∧ Z.Warmed39 U.vm ∧ U.heap = h0) (fun _ _ _ _ _ => True) (fun _ U o U' => ∃ v L, o = .returned v ∧ Q_Integer_numberOfLeadingZeros_0 Z  h0 n0 v U'.heap L ∧ FrameEnd U o U' L xr17.cells xr17.slots) := by
  refine MetFree.of_bodySF (plainFor_of_name pn_4) hisR ?_
  intro p e s m args below meth c s₁ Bd hml0 hP hK
  obtain ⟨rfl, hZ, hh⟩ := hP
  have hx := Bd.exec
  have hby := Bd.bytes
  have hlk : meth.locks = false := BodyLoose.notSynchronized Bd
  have hml : c.maxLocals = 2 := hml0
  have hown : s.vm.findClass xs21 = some m.cls := findClass_of_methodNamed Bd.named
  have hnm := (name_of_methodNamed Bd.named Bd.method).1
  have X0 : Stand p l e xr17 s m #[(.int (2 : Int32))] below meth c s₁ [] 0 0 := Stand.of_body Bd
  have e0 : s₁.heap = h0 := by rw [← hh, Bd.state]; rfl
  have N0 := Fr.nil n0
  show Go p e below s (Q_Integer_numberOfLeadingZeros_0 Z  h0 n0) xr17.cells xr17.slots s₁ (entryFrame m #[(.int (2 : Int32))] 2)
  refine Go.cast (ef_Integer_numberOfLeadingZeros_0 m (2 : Int32)) ?_
  show Go p e below s _ _ _ s₁ (mkF m 0 #[.val (.int (2 : Int32)), .unset] [])
  refine Go.step (fun _ k => XS.iloadN X0.here hx rfl (hb hby d11_0) rfl (XS.ifYes X0.here hx rfl (pc0 := 1) (pc' := 15) rfl (hb hby d11_1) rfl ((if0 _ _).trans (tlt (by decide)).2.2.1) (by decide) (by decide) (XS.bipush X0.here hx rfl (hb hby d11_15) (XS.istoreN X0.here hx rfl (hb hby d11_17) rfl (l' := #[.val (.int (2 : Int32)), .val (.int (31 : Int32))]) rfl (XS.iloadN X0.here hx rfl (hb hby d11_18) rfl (X0.ldcwInt hx hown (mvT hZ (tw61 hw)) (g := (mkF m 19 #[.val (.int (2 : Int32)), .val (.int (31 : Int32))] [(.int (2 : Int32))])) rfl (hb hby d11_19) _ (XS.icmpYes X0.here hx rfl (pc0 := 22) (pc' := 33) rfl (hb hby d11_22) rfl (tlt (by decide)).1 (by decide) (by decide) (XS.iloadN X0.here hx rfl (hb hby d11_33) rfl (XS.sipush X0.here hx rfl (hb hby d11_34) (XS.icmpYes X0.here hx rfl (pc0 := 37) (pc' := 48) rfl (hb hby d11_37) rfl (tlt (by decide)).1 (by decide) (by decide) k)))))))))) ?_
  show Go p e below s _ _ _ s₁ (mkF m 48 #[.val (.int (2 : Int32)), .val (.int (31 : Int32))] [])
  refine Go.step (fun _ k => XS.iloadN X0.here hx rfl (hb hby d11_48) rfl (XS.bipush X0.here hx rfl (hb hby d11_49) (XS.icmpYes X0.here hx rfl (pc0 := 51) (pc' := 61) rfl (hb hby d11_51) rfl (tlt (by decide)).1 (by decide) (by decide) (XS.iloadN X0.here hx rfl (hb hby d11_61) rfl (XS.iconst X0.here hx rfl (hb hby d11_62) (XS.icmpYes X0.here hx rfl (pc0 := 63) (pc' := 73) rfl (hb hby d11_63) rfl (tlt (by decide)).1 (by decide) (by decide) (XS.iloadN X0.here hx rfl (hb hby d11_73) rfl (XS.iloadN X0.here hx rfl (hb hby d11_74) rfl (XS.iconst X0.here hx rfl (hb hby d11_75) (XS.iushr X0.here hx rfl (hb hby d11_76) rfl k)))))))))) ?_
  show Go p e below s _ _ _ s₁ (mkF m 77 #[.val (.int (2 : Int32)), .val (.int (31 : Int32))] [(.int (((2 : Int32).toUInt32 >>> ((1 : Int32) &&& 31).toUInt32).toInt32)), (.int (31 : Int32))])
  refine Go.step (fun _ k => XS.isub X0.here hx rfl (hb hby d11_77) rfl k) ?_
  show Go p e below s _ _ _ s₁ (mkF m 78 #[.val (.int (2 : Int32)), .val (.int (31 : Int32))] [(.int (30 : Int32))])
  exact Go.retI X0 hx hlk Bd.returns (hb hby d11_78) e0 ⟨rfl, N0, rfl⟩ (by decide) (by decide)

theorem ef_Integer_highestOneBit_0 (m : MethodId) (x0 : Int32) : entryFrame m #[(.int x0)] 1 = mkF m 0 #[.val (.int x0)] [] := by first | (simp [entryFrame, mkF, argsToLocals, Value.category]; done) | rfl
def Q_Integer_highestOneBit_0 (Z : State)  (h0 : Heap) (n0 : Nat) (v : Option Value) (h : Heap) (L : List Loc) : Prop := v = some (.int (2 : Int32)) ∧ Fr n0 L ∧ h = h0
set_option maxRecDepth 65536 in
set_option maxHeartbeats 40000000 in
theorem rm_Integer_highestOneBit_0 (l : Launch) (Z : State) (a0 : Array Value) (hw : ∀ d ∈ tables_1, d.before a0 Z = true) (ws : List Jvm.Cond)  (h0 : Heap) (n0 : Nat) (Z0 : n0 ≤ h0.size) :
    MetFree l xm1 (head1 (Jvm.Cond.code xm1 jdk_33_method_45_code 1 (some .int) :: ws) xr6) (fun a U => a = #[(.int (2 : Int32))] ∧ Z.Warmed39 U.vm ∧ U.heap = h0) (fun _ _ _ _ _ => True) (fun _ U o U' => ∃ v L, o = .returned v ∧ Q_Integer_highestOneBit_0 Z  h0 n0 v U'.heap L ∧ FrameEnd U o U' L xr6.cells xr6.slots) := by
  refine MetFree.of_bodySF (plainFor_of_name pn_4) hisR ?_
  intro p e s m args below meth c s₁ Bd hml0 hP hK
  obtain ⟨rfl, hZ, hh⟩ := hP
  have hx := Bd.exec
  have hby := Bd.bytes
  have hlk : meth.locks = false := BodyLoose.notSynchronized Bd
  have hml : c.maxLocals = 1 := hml0
  have hown : s.vm.findClass xs21 = some m.cls := findClass_of_methodNamed Bd.named
  have hnm := (name_of_methodNamed Bd.named Bd.method).1
  have X0 : Stand p l e xr6 s m #[(.int (2 : Int32))] below meth c s₁ [] 0 0 := Stand.of_body Bd
  have e0 : s₁.heap = h0 := by rw [← hh, Bd.state]; rfl
  have N0 := Fr.nil n0
  show Go p e below s (Q_Integer_highestOneBit_0 Z  h0 n0) xr6.cells xr6.slots s₁ (entryFrame m #[(.int (2 : Int32))] 1)
  refine Go.cast (ef_Integer_highestOneBit_0 m (2 : Int32)) ?_
  show Go p e below s _ _ _ s₁ (mkF m 0 #[.val (.int (2 : Int32))] [])
  refine Go.step (fun _ k => XS.iloadN X0.here hx rfl (hb hby d10_0) rfl (X0.ldcInt hx hown (mvT hZ (tw57 hw)) (g := (mkF m 1 #[.val (.int (2 : Int32))] [(.int (2 : Int32))])) rfl (hb hby d10_1) _ (XS.iloadN X0.here hx rfl (hb hby d10_3) rfl k))) ?_
  show Go p e below s _ _ _ s₁ (mkF m 4 #[.val (.int (2 : Int32))] [(.int (2 : Int32)), (.int (-2147483648 : Int32)), (.int (2 : Int32))])
  obtain ⟨_, _, ⟨T103, L103, k103, n103⟩, -, X103, ⟨Lc103, hQ103, l103, y103, z103⟩, st103⟩ := Jvm.LawKit.callS X0 hx (y := xm27) hown (mvT hZ (tw58 hw)) (mvT hZ (tw59 hw)) (mvT hZ (tw55 hw)) (mvT hZ (tw60 hw)) (by decide) (backOf (W := 2) (rm_Integer_numberOfLeadingZeros_0 l Z a0 hw []  h0 n0 Z0) hZ (tw60 hw) (tw55 hw) (by decide) (by decide)) (g := (mkF m 4 #[.val (.int (2 : Int32))] [(.int (2 : Int32)), (.int (-2147483648 : Int32)), (.int (2 : Int32))])) rfl (by rw [hml]; rfl) (argsL := [(.int (2 : Int32))]) (rest := [(.int (-2147483648 : Int32)), (.int (2 : Int32))]) (lenOf pd_8 rfl) rfl (by show 2 * 0 + _ ≤ _; exact Nat.le_of_eq rfl) (hb hby d10_4) (fun _ _ => ⟨rfl, e0, (by decide : 0 + 0 ≤ _), (by decide : 0 + 0 ≤ _)⟩)
  dsimp only [Pt.U, Pt.locs, Pt.cells, Pt.slots] at X103 l103 y103 z103 st103 hQ103
  subst l103 y103 z103
  obtain ⟨rfl, N103q, eq103⟩ := hQ103
  have N104 := Fr.app N0 N103q
  refine Go.step (fun _ k => st103 _ (XS.iushr X103.here hx rfl (hb hby d10_7) rfl (XS.iand X103.here hx rfl (hb hby d10_8) rfl k))) ?_
  show Go p e below s _ _ _ T103 (mkF m 9 #[.val (.int (2 : Int32))] [(.int (2 : Int32))])
  exact Go.retI X103 hx hlk Bd.returns (hb hby d10_9) eq103 ⟨rfl, N104, rfl⟩ (by decide) (by decide)

theorem ef_PropertyIndex_new_0 (m : MethodId) (x0 : Addr) (x1 : Addr) (x3 : Int32) : entryFrame m #[(.ref x0), (.ref x1), .null, (.int x3)] 5 = mkF m 0 #[.val (.ref x0), .val (.ref x1), .val .null, .val (.int x3), .unset] [] := by first | (simp [entryFrame, mkF, argsToLocals, Value.category]; done) | rfl
def Q_PropertyIndex_new_0 (Z : State) (b73 : Addr) (b15 : Addr) (h0 : Heap) (n0 : Nat) (v : Option Value) (h : Heap) (L : List Loc) : Prop := ∃ (b96 : Addr) (k96 : ClassId) (b108 : Addr) (k108 : ClassId), v = none ∧ Fr n0 L ∧ Keep h0 h [b73] ∧ Fld Z h b73 xs1 "text" xs19 (.ref b15) ∧ Fld Z h b73 xs1 "lineEnds" xs2 .null ∧ Fld Z h b73 xs1 "entries" "[I" (.ref b96) ∧ Fld Z h b73 xs1 "slots" "[I" (.ref b108) ∧ Fld Z h b73 xs1 "keyed" "Z" (.int (0 : Int32)) ∧ Fld Z h b73 xs1 "size" "I" (.int (0 : Int32)) ∧ h0.size ≤ b96 ∧ Arv Z h b96 k96 .int (12 : Int32) [(.int (0 : Int32)), (.int (0 : Int32)), (.int (0 : Int32)), (.int (0 : Int32)), (.int (0 : Int32)), (.int (0 : Int32)), (.int (0 : Int32)), (.int (0 : Int32)), (.int (0 : Int32)), (.int (0 : Int32)), (.int (0 : Int32)), (.int (0 : Int32))] (.int (0 : Int32)) ∧ h0.size ≤ b108 ∧ Arv Z h b108 k108 .int (8 : Int32) [(.int (0 : Int32)), (.int (0 : Int32)), (.int (0 : Int32)), (.int (0 : Int32)), (.int (0 : Int32)), (.int (0 : Int32)), (.int (0 : Int32)), (.int (0 : Int32))] (.int (0 : Int32)) ∧ b96 ≠ b108
set_option maxRecDepth 65536 in
set_option maxHeartbeats 40000000 in
theorem rm_PropertyIndex_new_0 (l : Launch) (Z : State) (a0 : Array Value) (hw : ∀ d ∈ tables_1, d.before a0 Z = true) (ws : List Jvm.Cond) (b73 : Addr) (b15 : Addr) (h0 : Heap) (n0 : Nat) (Z0 : n0 ≤ h0.size) (E_b73 : Exa Z h0 b73 xs1) (F_text_b73 : Fld Z h0 b73 xs1 "text" xs19 .null) (g_b73 : n0 ≤ b73) (F_lineEnds_b73 : Fld Z h0 b73 xs1 "lineEnds" xs2 .null) (F_entries_b73 : Fld Z h0 b73 xs1 "entries" "[I" .null) (F_slots_b73 : Fld Z h0 b73 xs1 "slots" "[I" .null) (F_keyed_b73 : Fld Z h0 b73 xs1 "keyed" "Z" (.int (0 : Int32))) (F_size_b73 : Fld Z h0 b73 xs1 "size" "I" (.int (0 : Int32))) :
    MetFree l xm28 (head1 (Jvm.Cond.code xm28 prog_15_method_2_code 5 none :: ws) xr0) (fun a U => a = #[(.ref b73), (.ref b15), .null, (.int (2 : Int32))] ∧ Z.Warmed39 U.vm ∧ U.heap = h0) (fun _ _ _ _ _ => True) (fun _ U o U' => ∃ v L, o = .returned v ∧ Q_PropertyIndex_new_0 Z b73 b15 h0 n0 v U'.heap L ∧ FrameEnd U o U' L xr0.cells xr0.slots) := by
  refine MetFree.of_bodySF (plainFor_of_name pn_5) hisR ?_
  intro p e s m args below meth c s₁ Bd hml0 hP hK
  obtain ⟨rfl, hZ, hh⟩ := hP
  have hx := Bd.exec
  have hby := Bd.bytes
  have hlk : meth.locks = false := BodyLoose.notSynchronized Bd
  have hml : c.maxLocals = 5 := hml0
  have hown : s.vm.findClass xs1 = some m.cls := findClass_of_methodNamed Bd.named
  have hnm := (name_of_methodNamed Bd.named Bd.method).1
  have X0 : Stand p l e xr0 s m #[(.ref b73), (.ref b15), .null, (.int (2 : Int32))] below meth c s₁ [] 0 0 := Stand.of_body Bd
  have e0 : s₁.heap = h0 := by rw [← hh, Bd.state]; rfl
  have N0 := Fr.nil n0
  show Go p e below s (Q_PropertyIndex_new_0 Z b73 b15 h0 n0) xr0.cells xr0.slots s₁ (entryFrame m #[(.ref b73), (.ref b15), .null, (.int (2 : Int32))] 5)
  refine Go.cast (ef_PropertyIndex_new_0 m b73 b15 (2 : Int32)) ?_
  show Go p e below s _ _ _ s₁ (mkF m 0 #[.val (.ref b73), .val (.ref b15), .val .null, .val (.int (2 : Int32)), .unset] [])
  refine Go.step (fun _ k => XS.aloadN X0.here hx rfl (hb hby d7_0) rfl rfl k) ?_
  show Go p e below s _ _ _ s₁ (mkF m 1 #[.val (.ref b73), .val (.ref b15), .val .null, .val (.int (2 : Int32)), .unset] [(.ref b73)])
  obtain ⟨_, _, ⟨T81, L81, k81, n81⟩, -, X81, ⟨Lc81, hQ81, l81, y81, z81⟩, st81⟩ := X0.specialBack hx (y := xm19) rfl hown (mvT hZ (tw36 hw)) (mvT hZ (tw37 hw)) (mvT hZ (tw40 hw)) (by decide) (backOf (W := 0) (rm_AbstractMap_new_0 l Z a0 hw [] b73 h0 n0 Z0) hZ (tw40 hw) (tw39 hw) (by decide) (by decide)) (g := (mkF m 1 #[.val (.ref b73), .val (.ref b15), .val .null, .val (.int (2 : Int32)), .unset] [(.ref b73)])) rfl (by rw [hml]; rfl) (Steps.refl _) (a := b73) (argsL := []) (rest := []) (lenOf pd_6 rfl) rfl (by show 2 * 0 + _ ≤ _; exact Nat.le_of_eq rfl) (hb hby d7_1) (fun _ _ => ⟨rfl, e0, (by decide : 0 + 0 ≤ _), (by decide : 0 + 0 ≤ _)⟩)
  dsimp only [Pt.U, Pt.locs, Pt.cells, Pt.slots] at X81 l81 y81 z81 st81 hQ81
  subst l81 y81 z81
  obtain ⟨rfl, N81q, eq81⟩ := hQ81
  have N82 := Fr.app N0 N81q
  refine Go.step (fun _ k => st81.trans (XS.aloadN X81.here hx rfl (hb hby d7_4) rfl rfl (XS.aloadN X81.here hx rfl (hb hby d7_5) rfl rfl k))) ?_
  show Go p e below s _ _ _ T81 (mkF m 6 #[.val (.ref b73), .val (.ref b15), .val .null, .val (.int (2 : Int32)), .unset] [(.ref b15), (.ref b73)])
  obtain ⟨T83, h83, X83, e83, W83, st83⟩ := putF X81 hx hZ hown (host := "") (Or.inl (tw42 hw)) Via.refl eq81 F_text_b73 E_b73 (Or.inr ⟨(tw43 hw), rfl, hnm⟩) (tw31 hw) (ty := (.object xs23)) (by decide) rfl rfl (g := (mkF m 6 #[.val (.ref b73), .val (.ref b15), .val .null, .val (.int (2 : Int32)), .unset] [(.ref b15), (.ref b73)])) rfl rfl (hb hby d7_6)
  have f86 := F_text_b73.same W83
  have N87 := Fr.snoc X83 N82 g_b73
  refine Go.step (fun _ k => st83 _ (XS.aloadN X83.here hx rfl (hb hby d7_9) rfl rfl (XS.aloadN X83.here hx rfl (hb hby d7_10) rfl rfl k))) ?_
  show Go p e below s _ _ _ T83 (mkF m 11 #[.val (.ref b73), .val (.ref b15), .val .null, .val (.int (2 : Int32)), .unset] [.null, (.ref b73)])
  have f88 := (F_lineEnds_b73.other W83 (Or.inr (slot_ne (Or.inr (tw45 hw)) (Or.inr (tw43 hw)) (by decide) (t := (.object xs3)) (t' := (.object xs23)) (by decide) (by decide))))
  have f89 := (E_b73.wr W83)
  obtain ⟨T90, h90, X90, e90, W90, st90⟩ := putF X83 hx hZ hown (host := "") (Or.inl (tw44 hw)) Via.refl e83 f88 f89 (Or.inr ⟨(tw45 hw), rfl, hnm⟩) (tw31 hw) (ty := (.object xs3)) (by decide) rfl rfl (g := (mkF m 11 #[.val (.ref b73), .val (.ref b15), .val .null, .val (.int (2 : Int32)), .unset] [.null, (.ref b73)])) rfl rfl (hb hby d7_11)
  have f91 := f88.same W90
  have N92 := Fr.snoc X90 N87 g_b73
  refine Go.step (fun _ k => st90 _ (XS.iloadN X90.here hx rfl (hb hby d7_14) rfl (XS.iconst X90.here hx rfl (hb hby d7_15) k))) ?_
  show Go p e below s _ _ _ T90 (mkF m 16 #[.val (.ref b73), .val (.ref b15), .val .null, .val (.int (2 : Int32)), .unset] [(.int (1 : Int32)), (.int (2 : Int32))])
  have f93 := (Nat.le_trans (Nat.le_trans Z0 (Keep.of_wr W83).1) (Keep.of_wr W90).1)
  obtain ⟨_, _, ⟨T94, L94, k94, n94⟩, -, X94, ⟨Lc94, hQ94, l94, y94, z94⟩, st94⟩ := Jvm.LawKit.callS X90 hx (y := xm24) hown (mvT hZ (tw46 hw)) (mvT hZ (tw47 hw)) (mvT hZ (tw48 hw)) (mvT hZ (tw49 hw)) (by decide) (backOf (W := 0) (rm_Math_max_0 l Z a0 hw []  h90 n0 f93) hZ (tw49 hw) (tw48 hw) (by decide) (by decide)) (g := (mkF m 16 #[.val (.ref b73), .val (.ref b15), .val .null, .val (.int (2 : Int32)), .unset] [(.int (1 : Int32)), (.int (2 : Int32))])) rfl (by rw [hml]; rfl) (argsL := [(.int (2 : Int32)), (.int (1 : Int32))]) (rest := []) (lenOf pd_7 rfl) rfl (by show 2 * 0 + _ ≤ _; exact Nat.le_of_eq rfl) (hb hby d7_16) (fun _ _ => ⟨rfl, e90, (by decide : 0 + 0 ≤ _), (by decide : 0 + 0 ≤ _)⟩)
  dsimp only [Pt.U, Pt.locs, Pt.cells, Pt.slots] at X94 l94 y94 z94 st94 hQ94
  subst l94 y94 z94
  obtain ⟨rfl, N94q, eq94⟩ := hQ94
  have N95 := Fr.app N92 N94q
  refine Go.step (fun _ k => st94 _ (XS.istore X94.here hx rfl (hb hby d7_19) rfl (l' := #[.val (.ref b73), .val (.ref b15), .val .null, .val (.int (2 : Int32)), .val (.int (2 : Int32))]) rfl (XS.aloadN X94.here hx rfl (hb hby d7_21) rfl rfl (XS.iload X94.here hx rfl (hb hby d7_22) rfl (XS.bipush X94.here hx rfl (hb hby d7_24) (XS.imul X94.here hx rfl (hb hby d7_26) rfl k)))))) ?_
  show Go p e below s _ _ _ T94 (mkF m 27 #[.val (.ref b73), .val (.ref b15), .val .null, .val (.int (2 : Int32)), .val (.int (2 : Int32))] [(.int (12 : Int32)), (.ref b73)])
  obtain ⟨T96, h96, k96, X96, e96, E96, A96, st96⟩ := newP (aty := .int) X94 hx hZ (tw50 hw) eq94 (g := (mkF m 27 #[.val (.ref b73), .val (.ref b15), .val .null, .val (.int (2 : Int32)), .val (.int (2 : Int32))] [(.int (12 : Int32)), (.ref b73)])) rfl (hb hby d7_27) rfl (by decide) (cap := 12) (by decide) (by decide) (by decide) (by decide)
  obtain ⟨b96, g96⟩ : ∃ z, z = h90.size := ⟨_, rfl⟩
  rw [← g96] at A96 st96
  have f97 : Arv Z h96 b96 k96 .int (12 : Int32) [(.int (0 : Int32)), (.int (0 : Int32)), (.int (0 : Int32)), (.int (0 : Int32)), (.int (0 : Int32)), (.int (0 : Int32)), (.int (0 : Int32)), (.int (0 : Int32)), (.int (0 : Int32)), (.int (0 : Int32)), (.int (0 : Int32)), (.int (0 : Int32))] (.int (0 : Int32)) := (Arv.new A96 (by decide)).pad (pad_rep [] (.int (0 : Int32)) 12)
  refine Go.step (fun _ k => st96 _ k) ?_
  show Go p e below s _ _ _ T96 (mkF m 29 #[.val (.ref b73), .val (.ref b15), .val .null, .val (.int (2 : Int32)), .val (.int (2 : Int32))] [(.ref b96), (.ref b73)])
  have f98 := (((F_entries_b73.other W83 (Or.inr (slot_ne (Or.inl (tw52 hw)) (Or.inr (tw43 hw)) (by decide) (t := (.array .int)) (t' := (.object xs23)) (by decide) (by decide)))).other W90 (Or.inr (slot_ne (Or.inl (tw52 hw)) (Or.inr (tw45 hw)) (by decide) (t := (.array .int)) (t' := (.object xs3)) (by decide) (by decide)))).ext E96)
  have f99 := ((f89.wr W90).ext E96)
  obtain ⟨T100, h100, X100, e100, W100, st100⟩ := putF X96 hx hZ hown (host := "") (Or.inl (tw51 hw)) Via.refl e96 f98 f99 (Or.inl (tw52 hw)) (tw31 hw) (ty := (.array .int)) (by decide) rfl rfl (g := (mkF m 29 #[.val (.ref b73), .val (.ref b15), .val .null, .val (.int (2 : Int32)), .val (.int (2 : Int32))] [(.ref b96), (.ref b73)])) rfl rfl (hb hby d7_29)
  have f101 := f98.same W100
  have N102 := Fr.snoc X100 N95 g_b73
  refine Go.step (fun _ k => st100 _ (XS.aloadN X100.here hx rfl (hb hby d7_32) rfl rfl (XS.iload X100.here hx rfl (hb hby d7_33) rfl k))) ?_
  show Go p e below s _ _ _ T100 (mkF m 35 #[.val (.ref b73), .val (.ref b15), .val .null, .val (.int (2 : Int32)), .val (.int (2 : Int32))] [(.int (2 : Int32)), (.ref b73)])
  have f105 := (Nat.le_trans (Nat.le_trans f93 E96.1) (Keep.of_wr W100).1)
  obtain ⟨_, _, ⟨T106, L106, k106, n106⟩, -, X106, ⟨Lc106, hQ106, l106, y106, z106⟩, st106⟩ := Jvm.LawKit.callS X100 hx (y := xm1) hown (mvT hZ (tw53 hw)) (mvT hZ (tw54 hw)) (mvT hZ (tw55 hw)) (mvT hZ (tw56 hw)) (by decide) (backOf (W := 1) (rm_Integer_highestOneBit_0 l Z a0 hw []  h100 n0 f105) hZ (tw56 hw) (tw55 hw) (by decide) (by decide)) (g := (mkF m 35 #[.val (.ref b73), .val (.ref b15), .val .null, .val (.int (2 : Int32)), .val (.int (2 : Int32))] [(.int (2 : Int32)), (.ref b73)])) rfl (by rw [hml]; rfl) (argsL := [(.int (2 : Int32))]) (rest := [(.ref b73)]) (lenOf pd_8 rfl) rfl (by show 2 * 0 + _ ≤ _; exact Nat.le_of_eq rfl) (hb hby d7_35) (fun _ _ => ⟨rfl, e100, (by decide : 1 + 0 ≤ _), (by decide : 12 + 0 ≤ _)⟩)
  dsimp only [Pt.U, Pt.locs, Pt.cells, Pt.slots] at X106 l106 y106 z106 st106 hQ106
  subst l106 y106 z106
  obtain ⟨rfl, N106q, eq106⟩ := hQ106
  have N107 := Fr.app N102 N106q
  refine Go.step (fun _ k => st106 _ (XS.iconst X106.here hx rfl (hb hby d7_38) (XS.imul X106.here hx rfl (hb hby d7_39) rfl k))) ?_
  show Go p e below s _ _ _ T106 (mkF m 40 #[.val (.ref b73), .val (.ref b15), .val .null, .val (.int (2 : Int32)), .val (.int (2 : Int32))] [(.int (8 : Int32)), (.ref b73)])
  obtain ⟨T108, h108, k108, X108, e108, E108, A108, st108⟩ := newP (aty := .int) X106 hx hZ (tw50 hw) eq106 (g := (mkF m 40 #[.val (.ref b73), .val (.ref b15), .val .null, .val (.int (2 : Int32)), .val (.int (2 : Int32))] [(.int (8 : Int32)), (.ref b73)])) rfl (hb hby d7_40) rfl (by decide) (cap := 8) (by decide) (by decide) (by decide) (by decide)
  obtain ⟨b108, g108⟩ : ∃ z, z = h100.size := ⟨_, rfl⟩
  rw [← g108] at A108 st108
  have f109 : Arv Z h108 b108 k108 .int (8 : Int32) [(.int (0 : Int32)), (.int (0 : Int32)), (.int (0 : Int32)), (.int (0 : Int32)), (.int (0 : Int32)), (.int (0 : Int32)), (.int (0 : Int32)), (.int (0 : Int32))] (.int (0 : Int32)) := (Arv.new A108 (by decide)).pad (pad_rep [] (.int (0 : Int32)) 8)
  refine Go.step (fun _ k => st108 _ k) ?_
  show Go p e below s _ _ _ T108 (mkF m 42 #[.val (.ref b73), .val (.ref b15), .val .null, .val (.int (2 : Int32)), .val (.int (2 : Int32))] [(.ref b108), (.ref b73)])
  have f110 := (((((F_slots_b73.other W83 (Or.inr (slot_ne (Or.inl (tw63 hw)) (Or.inr (tw43 hw)) (by decide) (t := (.array .int)) (t' := (.object xs23)) (by decide) (by decide)))).other W90 (Or.inr (slot_ne (Or.inl (tw63 hw)) (Or.inr (tw45 hw)) (by decide) (t := (.array .int)) (t' := (.object xs3)) (by decide) (by decide)))).ext E96).other W100 (Or.inr (slot_ne (Or.inl (tw63 hw)) (Or.inl (tw52 hw)) (by decide) (t := (.array .int)) (t' := (.array .int)) (by decide) (by decide)))).ext E108)
  have f111 := ((f99.wr W100).ext E108)
  obtain ⟨T112, h112, X112, e112, W112, st112⟩ := putF X108 hx hZ hown (host := "") (Or.inl (tw62 hw)) Via.refl e108 f110 f111 (Or.inl (tw63 hw)) (tw31 hw) (ty := (.array .int)) (by decide) rfl rfl (g := (mkF m 42 #[.val (.ref b73), .val (.ref b15), .val .null, .val (.int (2 : Int32)), .val (.int (2 : Int32))] [(.ref b108), (.ref b73)])) rfl rfl (hb hby d7_42)
  have f113 := f110.same W112
  have N114 := Fr.snoc X112 N107 g_b73
  refine Go.step (fun _ k => st112 _ k) ?_
  show Go p e below s _ _ _ T112 (mkF m 45 #[.val (.ref b73), .val (.ref b15), .val .null, .val (.int (2 : Int32)), .val (.int (2 : Int32))] [])
  have f115 := (((((((Keep.refl h0 [b73]).wr W83 (Or.inl (List.mem_of_getElem? (i := 0) rfl))).wr W90 (Or.inl (List.mem_of_getElem? (i := 0) rfl))).ext E96).wr W100 (Or.inl (List.mem_of_getElem? (i := 0) rfl))).ext E108).wr W112 (Or.inl (List.mem_of_getElem? (i := 0) rfl)))
  have f116 := (((((f86.other W90 (Or.inr (slot_ne (Or.inr (tw43 hw)) (Or.inr (tw45 hw)) (by decide) (t := (.object xs23)) (t' := (.object xs3)) (by decide) (by decide)))).ext E96).other W100 (Or.inr (slot_ne (Or.inr (tw43 hw)) (Or.inl (tw52 hw)) (by decide) (t := (.object xs23)) (t' := (.array .int)) (by decide) (by decide)))).ext E108).other W112 (Or.inr (slot_ne (Or.inr (tw43 hw)) (Or.inl (tw63 hw)) (by decide) (t := (.object xs23)) (t' := (.array .int)) (by decide) (by decide))))
  have f117 := ((((f91.ext E96).other W100 (Or.inr (slot_ne (Or.inr (tw45 hw)) (Or.inl (tw52 hw)) (by decide) (t := (.object xs3)) (t' := (.array .int)) (by decide) (by decide)))).ext E108).other W112 (Or.inr (slot_ne (Or.inr (tw45 hw)) (Or.inl (tw63 hw)) (by decide) (t := (.object xs3)) (t' := (.array .int)) (by decide) (by decide))))
  have f118 := ((f101.ext E108).other W112 (Or.inr (slot_ne (Or.inl (tw52 hw)) (Or.inl (tw63 hw)) (by decide) (t := (.array .int)) (t' := (.array .int)) (by decide) (by decide))))
  have f119 := ((((((F_keyed_b73.other W83 (Or.inr (slot_ne (Or.inl (tw74 hw)) (Or.inr (tw43 hw)) (by decide) (t := .boolean) (t' := (.object xs23)) (by decide) (by decide)))).other W90 (Or.inr (slot_ne (Or.inl (tw74 hw)) (Or.inr (tw45 hw)) (by decide) (t := .boolean) (t' := (.object xs3)) (by decide) (by decide)))).ext E96).other W100 (Or.inr (slot_ne (Or.inl (tw74 hw)) (Or.inl (tw52 hw)) (by decide) (t := .boolean) (t' := (.array .int)) (by decide) (by decide)))).ext E108).other W112 (Or.inr (slot_ne (Or.inl (tw74 hw)) (Or.inl (tw63 hw)) (by decide) (t := .boolean) (t' := (.array .int)) (by decide) (by decide))))
  have f120 := ((((((F_size_b73.other W83 (Or.inr (slot_ne (Or.inl (tw105 hw)) (Or.inr (tw43 hw)) (by decide) (t := .int) (t' := (.object xs23)) (by decide) (by decide)))).other W90 (Or.inr (slot_ne (Or.inl (tw105 hw)) (Or.inr (tw45 hw)) (by decide) (t := .int) (t' := (.object xs3)) (by decide) (by decide)))).ext E96).other W100 (Or.inr (slot_ne (Or.inl (tw105 hw)) (Or.inl (tw52 hw)) (by decide) (t := .int) (t' := (.array .int)) (by decide) (by decide)))).ext E108).other W112 (Or.inr (slot_ne (Or.inl (tw105 hw)) (Or.inl (tw63 hw)) (by decide) (t := .int) (t' := (.array .int)) (by decide) (by decide))))
  have f121 := (Nat.le_trans (Nat.le_trans (Nat.le_refl _) (Keep.of_wr W83).1) (Keep.of_wr W90).1)
  have z122 := Nat.le_trans f121 (Nat.le_of_eq g96.symm)
  have f123 := (f89.wr W90)
  have ne124 : b73 ≠ b96 := Nat.ne_of_lt (Nat.lt_of_lt_of_le f123.lt (Nat.le_of_eq g96.symm))
  have f125 := (((f97.other W100 (Ne.symm ne124)).ext E108).other W112 (Ne.symm ne124))
  have f126 := (Nat.le_trans (Nat.le_trans f121 E96.1) (Keep.of_wr W100).1)
  have z127 := Nat.le_trans f126 (Nat.le_of_eq g108.symm)
  have f128 := (f99.wr W100)
  have ne129 : b73 ≠ b108 := Nat.ne_of_lt (Nat.lt_of_lt_of_le f128.lt (Nat.le_of_eq g108.symm))
  have f130 := (f109.other W112 (Ne.symm ne129))
  have f131 := (f97.other W100 (Ne.symm ne124))
  have ne132 : b96 ≠ b108 := Nat.ne_of_lt (Nat.lt_of_lt_of_le f131.lt (Nat.le_of_eq g108.symm))
  exact Go.retV X112 hx hlk Bd.returns (hb hby d7_45) e112 ⟨b96, k96, b108, k108, rfl, N114, f115, f116, f117, f118, f113, f119, f120, z122, f125, z127, f130, ne132⟩ (by decide) (by decide)

theorem ef_String_isLatin1_0 (m : MethodId) (x0 : Addr) : entryFrame m #[(.ref x0)] 1 = mkF m 0 #[.val (.ref x0)] [] := by first | (simp [entryFrame, mkF, argsToLocals, Value.category]; done) | rfl
def Q_String_isLatin1_0 (Z : State) (b15 : Addr) (cs : Int32) (h0 : Heap) (n0 : Nat) (v : Option Value) (h : Heap) (L : List Loc) : Prop := v = some (.int (1 : Int32)) ∧ Fr n0 L ∧ h = h0
set_option maxRecDepth 65536 in
set_option maxHeartbeats 40000000 in
theorem rm_String_isLatin1_0 (l : Launch) (Z : State) (a0 : Array Value) (hw : ∀ d ∈ tables_1, d.before a0 Z = true) (ws : List Jvm.Cond) (b15 : Addr) (cs : Int32) (h0 : Heap) (n0 : Nat) (Z0 : n0 ≤ h0.size) (Z_S_COMPACT_STRINGS : Sta Z Z.heap xs23 xs24 "Z" (.int cs)) (O0 : Old Z n0 h0) (hcs : ¬ cs = (0 : Int32)) (F_coder_b15 : Fld Z h0 b15 xs23 "coder" "B" (.int (0 : Int32))) :
    MetFree l xm13 (head1 (Jvm.Cond.code xm13 jdk_42_method_154_code 1 (some .boolean) :: ws) xr17) (fun a U => a = #[(.ref b15)] ∧ Z.Warmed39 U.vm ∧ U.heap = h0) (fun _ _ _ _ _ => True) (fun _ U o U' => ∃ v L, o = .returned v ∧ Q_String_isLatin1_0 Z b15 cs h0 n0 v U'.heap L ∧ FrameEnd U o U' L xr17.cells xr17.slots) := by
  refine MetFree.of_bodySF (plainFor_of_name pn_1) hisR ?_
  intro p e s m args below meth c s₁ Bd hml0 hP hK
  obtain ⟨rfl, hZ, hh⟩ := hP
  have hx := Bd.exec
  have hby := Bd.bytes
  have hlk : meth.locks = false := BodyLoose.notSynchronized Bd
  have hml : c.maxLocals = 1 := hml0
  have hown : s.vm.findClass xs23 = some m.cls := findClass_of_methodNamed Bd.named
  have hnm := (name_of_methodNamed Bd.named Bd.method).1
  have X0 : Stand p l e xr17 s m #[(.ref b15)] below meth c s₁ [] 0 0 := Stand.of_body Bd
  have e0 : s₁.heap = h0 := by rw [← hh, Bd.state]; rfl
  have N0 := Fr.nil n0
  show Go p e below s (Q_String_isLatin1_0 Z b15 cs h0 n0) xr17.cells xr17.slots s₁ (entryFrame m #[(.ref b15)] 1)
  refine Go.cast (ef_String_isLatin1_0 m b15) ?_
  show Go p e below s _ _ _ s₁ (mkF m 0 #[.val (.ref b15)] [])
  obtain ⟨T138, X138, e138, st138⟩ := getS2 X0 hx hZ hown (host := "") (Or.inl (tw14 hw)) Via.refl e0 (Z_S_COMPACT_STRINGS.ext O0.2) (g := (mkF m 0 #[.val (.ref b15)] [])) rfl (hb hby d16_0)
  refine Go.step (fun _ k => st138 _ (XS.ifNo X138.here hx rfl (hb hby d16_3) rfl ((if0 _ _).trans (feq hcs).1) (XS.aloadN X138.here hx rfl (hb hby d16_6) rfl rfl k))) ?_
  show Go p e below s _ _ _ T138 (mkF m 7 #[.val (.ref b15)] [(.ref b15)])
  obtain ⟨T139, X139, e139, st139⟩ := getF X138 hx hZ hown (host := "") (Or.inl (tw26 hw)) Via.refl e138 F_coder_b15 (g := (mkF m 7 #[.val (.ref b15)] [(.ref b15)])) rfl rfl (hb hby d16_7)
  refine Go.step (fun _ k => st139 _ (XS.ifNo X139.here hx rfl (hb hby d16_10) rfl ((if0 _ _).trans (teq (by decide)).2) (XS.iconst X139.here hx rfl (hb hby d16_13) (XS.goto X139.here hx rfl (pc0 := 14) (pc' := 18) rfl (hb hby d16_14) (by decide) (by decide) k)))) ?_
  show Go p e below s _ _ _ T139 (mkF m 18 #[.val (.ref b15)] [(.int (1 : Int32))])
  exact Go.retN X139 hx hlk (t := .boolean) Bd.returns (by simp) (hb hby d16_18) e139 ⟨rfl, N0, rfl⟩ (by decide) (by decide)

theorem ef_StringLatin1_charAt_0 (m : MethodId) (x0 : Addr) (x1 : Int32) : entryFrame m #[(.ref x0), (.int x1)] 2 = mkF m 0 #[.val (.ref x0), .val (.int x1)] [] := by first | (simp [entryFrame, mkF, argsToLocals, Value.category]; done) | rfl
def Q_StringLatin1_charAt_0 (Z : State) (b21_41_64_71 : Addr) (k21_41_64_71 : ClassId) (fv : Value) (h0 : Heap) (n0 : Nat) (v : Option Value) (h : Heap) (L : List Loc) : Prop := v = some (.int (97 : Int32)) ∧ Fr n0 L ∧ h = h0
set_option maxRecDepth 65536 in
set_option maxHeartbeats 40000000 in
theorem rm_StringLatin1_charAt_0 (l : Launch) (Z : State) (a0 : Array Value) (hw : ∀ d ∈ tables_1, d.before a0 Z = true) (ws : List Jvm.Cond) (b21_41_64_71 : Addr) (k21_41_64_71 : ClassId) (fv : Value) (h0 : Heap) (n0 : Nat) (Z0 : n0 ≤ h0.size) (V_b21_41_64_71 : Arv Z h0 b21_41_64_71 k21_41_64_71 .byte (2 : Int32) [(.int (97 : Int32)), (.int (98 : Int32))] (.int (0 : Int32))) (Z_S_SIOOBE_FORMATTER : Sta Z Z.heap xs5 xs22 xs6 fv) (hfv : fv.isRef = true) (O0 : Old Z n0 h0) :
    MetFree l xm9 (head1 (Jvm.Cond.code xm9 jdk_43_method_2_code 2 (some .char) :: ws) xr7) (fun a U => a = #[(.ref b21_41_64_71), (.int (0 : Int32))] ∧ Z.Warmed39 U.vm ∧ U.heap = h0) (fun _ _ _ _ _ => True) (fun _ U o U' => ∃ v L, o = .returned v ∧ Q_StringLatin1_charAt_0 Z b21_41_64_71 k21_41_64_71 fv h0 n0 v U'.heap L ∧ FrameEnd U o U' L xr7.cells xr7.slots) := by
  refine MetFree.of_bodySF (plainFor_of_name pn_6) hisR ?_
  intro p e s m args below meth c s₁ Bd hml0 hP hK
  obtain ⟨rfl, hZ, hh⟩ := hP
  have hx := Bd.exec
  have hby := Bd.bytes
  have hlk : meth.locks = false := BodyLoose.notSynchronized Bd
  have hml : c.maxLocals = 2 := hml0
  have hown : s.vm.findClass xs13 = some m.cls := findClass_of_methodNamed Bd.named
  have hnm := (name_of_methodNamed Bd.named Bd.method).1
  have X0 : Stand p l e xr7 s m #[(.ref b21_41_64_71), (.int (0 : Int32))] below meth c s₁ [] 0 0 := Stand.of_body Bd
  have e0 : s₁.heap = h0 := by rw [← hh, Bd.state]; rfl
  have N0 := Fr.nil n0
  show Go p e below s (Q_StringLatin1_charAt_0 Z b21_41_64_71 k21_41_64_71 fv h0 n0) xr7.cells xr7.slots s₁ (entryFrame m #[(.ref b21_41_64_71), (.int (0 : Int32))] 2)
  refine Go.cast (ef_StringLatin1_charAt_0 m b21_41_64_71 (0 : Int32)) ?_
  show Go p e below s _ _ _ s₁ (mkF m 0 #[.val (.ref b21_41_64_71), .val (.int (0 : Int32))] [])
  refine Go.step (fun _ k => XS.iloadN X0.here hx rfl (hb hby d17_0) rfl (XS.aloadN X0.here hx rfl (hb hby d17_1) rfl rfl k)) ?_
  show Go p e below s _ _ _ s₁ (mkF m 2 #[.val (.ref b21_41_64_71), .val (.int (0 : Int32))] [(.ref b21_41_64_71), (.int (0 : Int32))])
  obtain ⟨cl143, Ar143, -, Sz143, Ng143, -, -⟩ := id V_b21_41_64_71
  have aln143 := X0.arraylength hx (by rw [e0]; exact Ar143.1) (State.isArrayOf_alike hZ.alike Ar143.2.1) (g := (mkF m 2 #[.val (.ref b21_41_64_71), .val (.int (0 : Int32))] [(.ref b21_41_64_71), (.int (0 : Int32))])) rfl rfl (hb hby d17_2)
  rw [len_of Sz143 Ng143] at aln143
  refine Go.step (fun _ k => aln143 _ k) ?_
  show Go p e below s _ _ _ s₁ (mkF m 3 #[.val (.ref b21_41_64_71), .val (.int (0 : Int32))] [(.int (2 : Int32)), (.int (0 : Int32))])
  obtain ⟨_, _, ⟨T144, L144, k144, n144⟩, -, X144, ⟨Lc144, hQ144, l144, y144, z144⟩, st144⟩ := Jvm.LawKit.callS X0 hx (y := xm4) hown (mvT hZ (tw92 hw)) (mvT hZ (tw93 hw)) (mvT hZ (tw3 hw)) (mvT hZ (tw94 hw)) (by decide) (backOf (W := 0) (rm_schk l Z a0 hw [] (0 : Int32) (2 : Int32) fv h0 n0 Z0 O0 Z_S_SIOOBE_FORMATTER hfv (by decide) (by decide)) hZ (tw94 hw) (tw3 hw) (by decide) (by decide)) (g := (mkF m 3 #[.val (.ref b21_41_64_71), .val (.int (0 : Int32))] [(.int (2 : Int32)), (.int (0 : Int32))])) rfl (by rw [hml]; rfl) (argsL := [(.int (0 : Int32)), (.int (2 : Int32))]) (rest := []) (lenOf pd_11 rfl) rfl (by show 2 * 0 + _ ≤ _; exact Nat.le_of_eq rfl) (hb hby d17_3) (fun _ _ => ⟨rfl, e0, (by decide : 0 + 0 ≤ _), (by decide : 0 + 0 ≤ _)⟩)
  dsimp only [Pt.U, Pt.locs, Pt.cells, Pt.slots] at X144 l144 y144 z144 st144 hQ144
  subst l144 y144 z144
  obtain ⟨rfl, N144q, eq144⟩ := hQ144
  have N145 := Fr.app N0 N144q
  refine Go.step (fun _ k => st144 _ (XS.aloadN X144.here hx rfl (hb hby d17_6) rfl rfl (XS.iloadN X144.here hx rfl (hb hby d17_7) rfl k))) ?_
  show Go p e below s _ _ _ T144 (mkF m 8 #[.val (.ref b21_41_64_71), .val (.int (0 : Int32))] [(.int (0 : Int32)), (.ref b21_41_64_71)])
  obtain ⟨cl146, Ar146, -, Sz146, Ng146, Hs146, Ft146⟩ := id V_b21_41_64_71
  have in146 : ¬ ((0 : Int32) < 0 ∨ cl146.slots.size ≤ ((0 : Int32)).toNatClampNeg) := (inb_of Sz146 ⟨by decide, by decide⟩)
  have at146 : cl146.slots[((0 : Int32)).toNatClampNeg]? = some (.int (97 : Int32)) := Hs146.at in146 rfl
  refine Go.step (fun _ k => X144.baloadBytes hx (j := (0 : Int32)) (v := (.int (97 : Int32))) (by rw [eq144]; exact Ar146.1) (State.isArrayOf_alike hZ.alike Ar146.2.1) Ar146.2.2 in146 at146 (g := (mkF m 8 #[.val (.ref b21_41_64_71), .val (.int (0 : Int32))] [(.int (0 : Int32)), (.ref b21_41_64_71)])) rfl rfl (hb hby d17_8) _ (XS.sipush X144.here hx rfl (hb hby d17_9) (XS.iand X144.here hx rfl (hb hby d17_12) rfl (XS.i2c X144.here hx rfl (hb hby d17_13) rfl k)))) ?_
  show Go p e below s _ _ _ T144 (mkF m 14 #[.val (.ref b21_41_64_71), .val (.int (0 : Int32))] [(.int (97 : Int32))])
  exact Go.retN X144 hx hlk (t := .char) Bd.returns (by simp) (hb hby d17_14) eq144 ⟨rfl, N145, rfl⟩ (by decide) (by decide)

theorem ef_String_charAt_0 (m : MethodId) (x0 : Addr) (x1 : Int32) : entryFrame m #[(.ref x0), (.int x1)] 2 = mkF m 0 #[.val (.ref x0), .val (.int x1)] [] := by first | (simp [entryFrame, mkF, argsToLocals, Value.category]; done) | rfl
def Q_String_charAt_0 (Z : State) (b15 : Addr) (cs : Int32) (b21_41_64_71 : Addr) (k21_41_64_71 : ClassId) (fv : Value) (h0 : Heap) (n0 : Nat) (v : Option Value) (h : Heap) (L : List Loc) : Prop := v = some (.int (97 : Int32)) ∧ Fr n0 L ∧ h = h0
set_option maxRecDepth 65536 in
set_option maxHeartbeats 40000000 in
theorem rm_String_charAt_0 (l : Launch) (Z : State) (a0 : Array Value) (hw : ∀ d ∈ tables_1, d.before a0 Z = true) (ws : List Jvm.Cond) (b15 : Addr) (cs : Int32) (b21_41_64_71 : Addr) (k21_41_64_71 : ClassId) (fv : Value) (h0 : Heap) (n0 : Nat) (Z0 : n0 ≤ h0.size) (E_b15 : Exa Z h0 b15 xs23) (Z_S_COMPACT_STRINGS : Sta Z Z.heap xs23 xs24 "Z" (.int cs)) (O0 : Old Z n0 h0) (hcs : ¬ cs = (0 : Int32)) (F_coder_b15 : Fld Z h0 b15 xs23 "coder" "B" (.int (0 : Int32))) (F_value_b15 : Fld Z h0 b15 xs23 "value" "[B" (.ref b21_41_64_71)) (V_b21_41_64_71 : Arv Z h0 b21_41_64_71 k21_41_64_71 .byte (2 : Int32) [(.int (97 : Int32)), (.int (98 : Int32))] (.int (0 : Int32))) (Z_S_SIOOBE_FORMATTER : Sta Z Z.heap xs5 xs22 xs6 fv) (hfv : fv.isRef = true) :
    MetFree l xm16 (head1 (Jvm.Cond.code xm16 jdk_42_method_56_code 2 (some .char) :: ws) xr8) (fun a U => a = #[(.ref b15), (.int (0 : Int32))] ∧ Z.Warmed39 U.vm ∧ U.heap = h0) (fun _ _ _ _ _ => True) (fun _ U o U' => ∃ v L, o = .returned v ∧ Q_String_charAt_0 Z b15 cs b21_41_64_71 k21_41_64_71 fv h0 n0 v U'.heap L ∧ FrameEnd U o U' L xr8.cells xr8.slots) := by
  refine MetFree.of_bodySF (plainFor_of_name pn_1) hisR ?_
  intro p e s m args below meth c s₁ Bd hml0 hP hK
  obtain ⟨rfl, hZ, hh⟩ := hP
  have hx := Bd.exec
  have hby := Bd.bytes
  have hlk : meth.locks = false := BodyLoose.notSynchronized Bd
  have hml : c.maxLocals = 2 := hml0
  have hown : s.vm.findClass xs23 = some m.cls := findClass_of_methodNamed Bd.named
  have hnm := (name_of_methodNamed Bd.named Bd.method).1
  have X0 : Stand p l e xr8 s m #[(.ref b15), (.int (0 : Int32))] below meth c s₁ [] 0 0 := Stand.of_body Bd
  have e0 : s₁.heap = h0 := by rw [← hh, Bd.state]; rfl
  have N0 := Fr.nil n0
  show Go p e below s (Q_String_charAt_0 Z b15 cs b21_41_64_71 k21_41_64_71 fv h0 n0) xr8.cells xr8.slots s₁ (entryFrame m #[(.ref b15), (.int (0 : Int32))] 2)
  refine Go.cast (ef_String_charAt_0 m b15 (0 : Int32)) ?_
  show Go p e below s _ _ _ s₁ (mkF m 0 #[.val (.ref b15), .val (.int (0 : Int32))] [])
  refine Go.step (fun _ k => XS.aloadN X0.here hx rfl (hb hby d15_0) rfl rfl k) ?_
  show Go p e below s _ _ _ s₁ (mkF m 1 #[.val (.ref b15), .val (.int (0 : Int32))] [(.ref b15)])
  obtain ⟨cq140, kq140, q140a, q140b, q140c⟩ := isOf hZ e0 E_b15
  obtain ⟨_, _, ⟨T140, L140, k140, n140⟩, -, X140, ⟨Lc140, hQ140, l140, y140, z140⟩, st140⟩ := X0.virtualBack hx (y := xm13) (z := xm13) hown (mvT hZ (tw83 hw)) (mvT hZ (tw84 hw)) (notFace_of_selects (args := #[]) (mvT hZ (tw86 hw))) (mvT hZ (tw86 hw)) (mvT hZ (tw85 hw)) (by decide) (backOf (W := 0) (rm_String_isLatin1_0 l Z a0 hw [] b15 cs h0 n0 Z0 Z_S_COMPACT_STRINGS O0 hcs F_coder_b15) hZ (tw87 hw) (tw3 hw) (by decide) (by decide)) q140a q140c (g := (mkF m 1 #[.val (.ref b15), .val (.int (0 : Int32))] [(.ref b15)])) rfl (by rw [hml]; rfl) (Steps.refl _) (argsL := []) (rest := []) (lenOf pd_10 rfl) rfl (by show 2 * 0 + _ ≤ _; exact Nat.le_of_eq rfl) (hb hby d15_1) (fun _ _ => ⟨rfl, e0, (by decide : 0 + 0 ≤ _), (by decide : 0 + 0 ≤ _)⟩)
  dsimp only [Pt.U, Pt.locs, Pt.cells, Pt.slots] at X140 l140 y140 z140 st140 hQ140
  subst l140 y140 z140
  obtain ⟨rfl, N140q, eq140⟩ := hQ140
  have N141 := Fr.app N0 N140q
  refine Go.step (fun _ k => st140.trans (XS.ifNo X140.here hx rfl (hb hby d15_4) rfl ((if0 _ _).trans (feq (by decide)).1) (XS.aloadN X140.here hx rfl (hb hby d15_7) rfl rfl k))) ?_
  show Go p e below s _ _ _ T140 (mkF m 8 #[.val (.ref b15), .val (.int (0 : Int32))] [(.ref b15)])
  obtain ⟨T142, X142, e142, st142⟩ := getF X140 hx hZ hown (host := "") (Or.inl (tw28 hw)) Via.refl eq140 F_value_b15 (g := (mkF m 8 #[.val (.ref b15), .val (.int (0 : Int32))] [(.ref b15)])) rfl rfl (hb hby d15_8)
  refine Go.step (fun _ k => st142 _ (XS.iloadN X142.here hx rfl (hb hby d15_11) rfl k)) ?_
  show Go p e below s _ _ _ T142 (mkF m 12 #[.val (.ref b15), .val (.int (0 : Int32))] [(.int (0 : Int32)), (.ref b21_41_64_71)])
  obtain ⟨_, _, ⟨T147, L147, k147, n147⟩, -, X147, ⟨Lc147, hQ147, l147, y147, z147⟩, st147⟩ := Jvm.LawKit.callS X142 hx (y := xm9) hown (mvT hZ (tw88 hw)) (mvT hZ (tw89 hw)) (mvT hZ (tw90 hw)) (mvT hZ (tw91 hw)) (by decide) (backOf (W := 0) (rm_StringLatin1_charAt_0 l Z a0 hw [] b21_41_64_71 k21_41_64_71 fv h0 n0 Z0 V_b21_41_64_71 Z_S_SIOOBE_FORMATTER hfv O0) hZ (tw91 hw) (tw90 hw) (by decide) (by decide)) (g := (mkF m 12 #[.val (.ref b15), .val (.int (0 : Int32))] [(.int (0 : Int32)), (.ref b21_41_64_71)])) rfl (by rw [hml]; rfl) (argsL := [(.ref b21_41_64_71), (.int (0 : Int32))]) (rest := []) (lenOf pd_12 rfl) rfl (by show 2 * 0 + _ ≤ _; exact Nat.le_of_eq rfl) (hb hby d15_12) (fun _ _ => ⟨rfl, e142, (by decide : 0 + 0 ≤ _), (by decide : 0 + 0 ≤ _)⟩)
  dsimp only [Pt.U, Pt.locs, Pt.cells, Pt.slots] at X147 l147 y147 z147 st147 hQ147
  subst l147 y147 z147
  obtain ⟨rfl, N147q, eq147⟩ := hQ147
  have N148 := Fr.app N141 N147q
  refine Go.step (fun _ k => st147 _ k) ?_
  show Go p e below s _ _ _ T147 (mkF m 15 #[.val (.ref b15), .val (.int (0 : Int32))] [(.int (97 : Int32))])
  exact Go.retN X147 hx hlk (t := .char) Bd.returns (by simp) (hb hby d15_15) eq147 ⟨rfl, N148, rfl⟩ (by decide) (by decide)

theorem ef_PropertyIndex_plainHash_0 (m : MethodId) (x0 : Addr) (x1 : Int32) (x2 : Int32) : entryFrame m #[(.ref x0), (.int x1), (.int x2)] 5 = mkF m 0 #[.val (.ref x0), .val (.int x1), .val (.int x2), .unset, .unset] [] := by first | (simp [entryFrame, mkF, argsToLocals, Value.category]; done) | rfl
def Q_PropertyIndex_plainHash_0 (Z : State) (b15 : Addr) (cs : Int32) (b21_41_64_71 : Addr) (k21_41_64_71 : ClassId) (fv : Value) (h0 : Heap) (n0 : Nat) (v : Option Value) (h : Heap) (L : List Loc) : Prop := v = some (.int (97 : Int32)) ∧ Fr n0 L ∧ h = h0
set_option maxRecDepth 65536 in
set_option maxHeartbeats 40000000 in
theorem rm_PropertyIndex_plainHash_0 (l : Launch) (Z : State) (a0 : Array Value) (hw : ∀ d ∈ tables_1, d.before a0 Z = true) (ws : List Jvm.Cond) (b15 : Addr) (cs : Int32) (b21_41_64_71 : Addr) (k21_41_64_71 : ClassId) (fv : Value) (h0 : Heap) (n0 : Nat) (Z0 : n0 ≤ h0.size) (E_b15 : Exa Z h0 b15 xs23) (Z_S_COMPACT_STRINGS : Sta Z Z.heap xs23 xs24 "Z" (.int cs)) (O0 : Old Z n0 h0) (hcs : ¬ cs = (0 : Int32)) (F_coder_b15 : Fld Z h0 b15 xs23 "coder" "B" (.int (0 : Int32))) (F_value_b15 : Fld Z h0 b15 xs23 "value" "[B" (.ref b21_41_64_71)) (V_b21_41_64_71 : Arv Z h0 b21_41_64_71 k21_41_64_71 .byte (2 : Int32) [(.int (97 : Int32)), (.int (98 : Int32))] (.int (0 : Int32))) (Z_S_SIOOBE_FORMATTER : Sta Z Z.heap xs5 xs22 xs6 fv) (hfv : fv.isRef = true) :
    MetFree l xm17 (head1 (Jvm.Cond.code xm17 prog_15_method_15_code 5 (some .int) :: ws) xr9) (fun a U => a = #[(.ref b15), (.int (0 : Int32)), (.int (1 : Int32))] ∧ Z.Warmed39 U.vm ∧ U.heap = h0) (fun _ _ _ _ _ => True) (fun _ U o U' => ∃ v L, o = .returned v ∧ Q_PropertyIndex_plainHash_0 Z b15 cs b21_41_64_71 k21_41_64_71 fv h0 n0 v U'.heap L ∧ FrameEnd U o U' L xr9.cells xr9.slots) := by
  refine MetFree.of_bodySF (plainFor_of_name pn_5) hisR ?_
  intro p e s m args below meth c s₁ Bd hml0 hP hK
  obtain ⟨rfl, hZ, hh⟩ := hP
  have hx := Bd.exec
  have hby := Bd.bytes
  have hlk : meth.locks = false := BodyLoose.notSynchronized Bd
  have hml : c.maxLocals = 5 := hml0
  have hown : s.vm.findClass xs1 = some m.cls := findClass_of_methodNamed Bd.named
  have hnm := (name_of_methodNamed Bd.named Bd.method).1
  have X0 : Stand p l e xr9 s m #[(.ref b15), (.int (0 : Int32)), (.int (1 : Int32))] below meth c s₁ [] 0 0 := Stand.of_body Bd
  have e0 : s₁.heap = h0 := by rw [← hh, Bd.state]; rfl
  have N0 := Fr.nil n0
  show Go p e below s (Q_PropertyIndex_plainHash_0 Z b15 cs b21_41_64_71 k21_41_64_71 fv h0 n0) xr9.cells xr9.slots s₁ (entryFrame m #[(.ref b15), (.int (0 : Int32)), (.int (1 : Int32))] 5)
  refine Go.cast (ef_PropertyIndex_plainHash_0 m b15 (0 : Int32) (1 : Int32)) ?_
  show Go p e below s _ _ _ s₁ (mkF m 0 #[.val (.ref b15), .val (.int (0 : Int32)), .val (.int (1 : Int32)), .unset, .unset] [])
  refine Go.step (fun _ k => XS.iconst X0.here hx rfl (hb hby d14_0) (XS.istoreN X0.here hx rfl (hb hby d14_1) rfl (l' := #[.val (.ref b15), .val (.int (0 : Int32)), .val (.int (1 : Int32)), .val (.int (0 : Int32)), .unset]) rfl (XS.iloadN X0.here hx rfl (hb hby d14_2) rfl (XS.istore X0.here hx rfl (hb hby d14_3) rfl (l' := #[.val (.ref b15), .val (.int (0 : Int32)), .val (.int (1 : Int32)), .val (.int (0 : Int32)), .val (.int (0 : Int32))]) rfl (XS.iload X0.here hx rfl (hb hby d14_5) rfl (XS.iloadN X0.here hx rfl (hb hby d14_7) rfl (XS.icmpNo X0.here hx rfl (hb hby d14_8) rfl (tlt (by decide)).2.1 (XS.bipush X0.here hx rfl (hb hby d14_11) (XS.iloadN X0.here hx rfl (hb hby d14_13) rfl (XS.imul X0.here hx rfl (hb hby d14_14) rfl k)))))))))) ?_
  show Go p e below s _ _ _ s₁ (mkF m 15 #[.val (.ref b15), .val (.int (0 : Int32)), .val (.int (1 : Int32)), .val (.int (0 : Int32)), .val (.int (0 : Int32))] [(.int ((31 : Int32) * (0 : Int32)))])
  refine Go.step (fun _ k => XS.aloadN X0.here hx rfl (hb hby d14_15) rfl rfl (XS.iload X0.here hx rfl (hb hby d14_16) rfl k)) ?_
  show Go p e below s _ _ _ s₁ (mkF m 18 #[.val (.ref b15), .val (.int (0 : Int32)), .val (.int (1 : Int32)), .val (.int (0 : Int32)), .val (.int (0 : Int32))] [(.int (0 : Int32)), (.ref b15), (.int (0 : Int32))])
  obtain ⟨cq149, kq149, q149a, q149b, q149c⟩ := isOf hZ e0 E_b15
  obtain ⟨_, _, ⟨T149, L149, k149, n149⟩, -, X149, ⟨Lc149, hQ149, l149, y149, z149⟩, st149⟩ := X0.virtualBack hx (y := xm16) (z := xm16) hown (mvT hZ (tw78 hw)) (mvT hZ (tw79 hw)) (notFace_of_selects (args := #[]) (mvT hZ (tw81 hw))) (mvT hZ (tw81 hw)) (mvT hZ (tw80 hw)) (by decide) (backOf (W := 1) (rm_String_charAt_0 l Z a0 hw [] b15 cs b21_41_64_71 k21_41_64_71 fv h0 n0 Z0 E_b15 Z_S_COMPACT_STRINGS O0 hcs F_coder_b15 F_value_b15 V_b21_41_64_71 Z_S_SIOOBE_FORMATTER hfv) hZ (tw82 hw) (tw3 hw) (by decide) (by decide)) q149a q149c (g := (mkF m 18 #[.val (.ref b15), .val (.int (0 : Int32)), .val (.int (1 : Int32)), .val (.int (0 : Int32)), .val (.int (0 : Int32))] [(.int (0 : Int32)), (.ref b15), (.int (0 : Int32))])) rfl (by rw [hml]; rfl) (Steps.refl _) (argsL := [(.int (0 : Int32))]) (rest := [(.int (0 : Int32))]) (lenOf pd_13 rfl) rfl (by show 2 * 0 + _ ≤ _; exact Nat.le_of_eq rfl) (hb hby d14_18) (fun _ _ => ⟨rfl, e0, (by decide : 0 + 0 ≤ _), (by decide : 0 + 0 ≤ _)⟩)
  dsimp only [Pt.U, Pt.locs, Pt.cells, Pt.slots] at X149 l149 y149 z149 st149 hQ149
  subst l149 y149 z149
  obtain ⟨rfl, N149q, eq149⟩ := hQ149
  have N150 := Fr.app N0 N149q
  refine Go.step (fun _ k => st149.trans (XS.iadd X149.here hx rfl (hb hby d14_21) rfl (XS.istoreN X149.here hx rfl (hb hby d14_22) rfl (l' := #[.val (.ref b15), .val (.int (0 : Int32)), .val (.int (1 : Int32)), .val (.int (97 : Int32)), .val (.int (0 : Int32))]) rfl (XS.iinc X149.here hx rfl (hb hby d14_23) rfl (l' := #[.val (.ref b15), .val (.int (0 : Int32)), .val (.int (1 : Int32)), .val (.int (97 : Int32)), .val (.int ((0 : Int32) + (1 : Int32)))]) rfl (XS.goto X149.here hx rfl (pc0 := 26) (pc' := 5) rfl (hb hby d14_26) (by decide) (by decide) (XS.iload X149.here hx rfl (hb hby d14_5) rfl (XS.iloadN X149.here hx rfl (hb hby d14_7) rfl (XS.icmpYes X149.here hx rfl (pc0 := 8) (pc' := 29) rfl (hb hby d14_8) rfl (flt (by decide)).2.1 (by decide) (by decide) (XS.iloadN X149.here hx rfl (hb hby d14_29) rfl (XS.iloadN X149.here hx rfl (hb hby d14_30) rfl k)))))))))) ?_
  show Go p e below s _ _ _ T149 (mkF m 31 #[.val (.ref b15), .val (.int (0 : Int32)), .val (.int (1 : Int32)), .val (.int (97 : Int32)), .val (.int (1 : Int32))] [(.int (97 : Int32)), (.int (97 : Int32))])
  refine Go.step (fun _ k => XS.bipush X149.here hx rfl (hb hby d14_31) (XS.iushr X149.here hx rfl (hb hby d14_33) rfl (XS.ixor X149.here hx rfl (hb hby d14_34) rfl k))) ?_
  show Go p e below s _ _ _ T149 (mkF m 35 #[.val (.ref b15), .val (.int (0 : Int32)), .val (.int (1 : Int32)), .val (.int (97 : Int32)), .val (.int (1 : Int32))] [(.int (97 : Int32))])
  exact Go.retI X149 hx hlk Bd.returns (hb hby d14_35) eq149 ⟨rfl, N150, rfl⟩ (by decide) (by decide)

theorem ef_PropertyIndex_hash_0 (m : MethodId) (x0 : Addr) (x1 : Addr) (x2 : Int32) (x3 : Int32) : entryFrame m #[(.ref x0), (.ref x1), (.int x2), (.int x3)] 4 = mkF m 0 #[.val (.ref x0), .val (.ref x1), .val (.int x2), .val (.int x3)] [] := by first | (simp [entryFrame, mkF, argsToLocals, Value.category]; done) | rfl
def Q_PropertyIndex_hash_0 (Z : State) (b73 : Addr) (b15 : Addr) (cs : Int32) (b21_41_64_71 : Addr) (k21_41_64_71 : ClassId) (fv : Value) (h0 : Heap) (n0 : Nat) (v : Option Value) (h : Heap) (L : List Loc) : Prop := v = some (.int (97 : Int32)) ∧ Fr n0 L ∧ h = h0
set_option maxRecDepth 65536 in
set_option maxHeartbeats 40000000 in
theorem rm_PropertyIndex_hash_0 (l : Launch) (Z : State) (a0 : Array Value) (hw : ∀ d ∈ tables_1, d.before a0 Z = true) (ws : List Jvm.Cond) (b73 : Addr) (b15 : Addr) (cs : Int32) (b21_41_64_71 : Addr) (k21_41_64_71 : ClassId) (fv : Value) (h0 : Heap) (n0 : Nat) (Z0 : n0 ≤ h0.size) (F_keyed_b73 : Fld Z h0 b73 xs1 "keyed" "Z" (.int (0 : Int32))) (E_b15 : Exa Z h0 b15 xs23) (Z_S_COMPACT_STRINGS : Sta Z Z.heap xs23 xs24 "Z" (.int cs)) (O0 : Old Z n0 h0) (hcs : ¬ cs = (0 : Int32)) (F_coder_b15 : Fld Z h0 b15 xs23 "coder" "B" (.int (0 : Int32))) (F_value_b15 : Fld Z h0 b15 xs23 "value" "[B" (.ref b21_41_64_71)) (V_b21_41_64_71 : Arv Z h0 b21_41_64_71 k21_41_64_71 .byte (2 : Int32) [(.int (97 : Int32)), (.int (98 : Int32))] (.int (0 : Int32))) (Z_S_SIOOBE_FORMATTER : Sta Z Z.heap xs5 xs22 xs6 fv) (hfv : fv.isRef = true) :
    MetFree l xm29 (head1 (Jvm.Cond.code xm29 prog_15_method_14_code 4 (some .int) :: ws) xr10) (fun a U => a = #[(.ref b73), (.ref b15), (.int (0 : Int32)), (.int (1 : Int32))] ∧ Z.Warmed39 U.vm ∧ U.heap = h0) (fun _ _ _ _ _ => True) (fun _ U o U' => ∃ v L, o = .returned v ∧ Q_PropertyIndex_hash_0 Z b73 b15 cs b21_41_64_71 k21_41_64_71 fv h0 n0 v U'.heap L ∧ FrameEnd U o U' L xr10.cells xr10.slots) := by
  refine MetFree.of_bodySF (plainFor_of_name pn_5) hisR ?_
  intro p e s m args below meth c s₁ Bd hml0 hP hK
  obtain ⟨rfl, hZ, hh⟩ := hP
  have hx := Bd.exec
  have hby := Bd.bytes
  have hlk : meth.locks = false := BodyLoose.notSynchronized Bd
  have hml : c.maxLocals = 4 := hml0
  have hown : s.vm.findClass xs1 = some m.cls := findClass_of_methodNamed Bd.named
  have hnm := (name_of_methodNamed Bd.named Bd.method).1
  have X0 : Stand p l e xr10 s m #[(.ref b73), (.ref b15), (.int (0 : Int32)), (.int (1 : Int32))] below meth c s₁ [] 0 0 := Stand.of_body Bd
  have e0 : s₁.heap = h0 := by rw [← hh, Bd.state]; rfl
  have N0 := Fr.nil n0
  show Go p e below s (Q_PropertyIndex_hash_0 Z b73 b15 cs b21_41_64_71 k21_41_64_71 fv h0 n0) xr10.cells xr10.slots s₁ (entryFrame m #[(.ref b73), (.ref b15), (.int (0 : Int32)), (.int (1 : Int32))] 4)
  refine Go.cast (ef_PropertyIndex_hash_0 m b73 b15 (0 : Int32) (1 : Int32)) ?_
  show Go p e below s _ _ _ s₁ (mkF m 0 #[.val (.ref b73), .val (.ref b15), .val (.int (0 : Int32)), .val (.int (1 : Int32))] [])
  refine Go.step (fun _ k => XS.aloadN X0.here hx rfl (hb hby d13_0) rfl rfl k) ?_
  show Go p e below s _ _ _ s₁ (mkF m 1 #[.val (.ref b73), .val (.ref b15), .val (.int (0 : Int32)), .val (.int (1 : Int32))] [(.ref b73)])
  obtain ⟨T137, X137, e137, st137⟩ := getF X0 hx hZ hown (host := "") (Or.inl (tw73 hw)) Via.refl e0 F_keyed_b73 (g := (mkF m 1 #[.val (.ref b73), .val (.ref b15), .val (.int (0 : Int32)), .val (.int (1 : Int32))] [(.ref b73)])) rfl rfl (hb hby d13_1)
  refine Go.step (fun _ k => st137 _ (XS.ifYes X137.here hx rfl (pc0 := 4) (pc' := 16) rfl (hb hby d13_4) rfl ((if0 _ _).trans (teq (by decide)).1) (by decide) (by decide) (XS.aloadN X137.here hx rfl (hb hby d13_16) rfl rfl (XS.iloadN X137.here hx rfl (hb hby d13_17) rfl (XS.iloadN X137.here hx rfl (hb hby d13_18) rfl k))))) ?_
  show Go p e below s _ _ _ T137 (mkF m 19 #[.val (.ref b73), .val (.ref b15), .val (.int (0 : Int32)), .val (.int (1 : Int32))] [(.int (1 : Int32)), (.int (0 : Int32)), (.ref b15)])
  obtain ⟨_, _, ⟨T151, L151, k151, n151⟩, -, X151, ⟨Lc151, hQ151, l151, y151, z151⟩, st151⟩ := Jvm.LawKit.callS X137 hx (y := xm17) hown (mvT hZ (tw75 hw)) (mvT hZ (tw76 hw)) (mvT hZ (tw32 hw)) (mvT hZ (tw77 hw)) (by decide) (backOf (W := 0) (rm_PropertyIndex_plainHash_0 l Z a0 hw [] b15 cs b21_41_64_71 k21_41_64_71 fv h0 n0 Z0 E_b15 Z_S_COMPACT_STRINGS O0 hcs F_coder_b15 F_value_b15 V_b21_41_64_71 Z_S_SIOOBE_FORMATTER hfv) hZ (tw77 hw) (tw32 hw) (by decide) (by decide)) (g := (mkF m 19 #[.val (.ref b73), .val (.ref b15), .val (.int (0 : Int32)), .val (.int (1 : Int32))] [(.int (1 : Int32)), (.int (0 : Int32)), (.ref b15)])) rfl (by rw [hml]; rfl) (argsL := [(.ref b15), (.int (0 : Int32)), (.int (1 : Int32))]) (rest := []) (lenOf pd_14 rfl) rfl (by show 2 * 0 + _ ≤ _; exact Nat.le_of_eq rfl) (hb hby d13_19) (fun _ _ => ⟨rfl, e137, (by decide : 0 + 0 ≤ _), (by decide : 0 + 0 ≤ _)⟩)
  dsimp only [Pt.U, Pt.locs, Pt.cells, Pt.slots] at X151 l151 y151 z151 st151 hQ151
  subst l151 y151 z151
  obtain ⟨rfl, N151q, eq151⟩ := hQ151
  have N152 := Fr.app N0 N151q
  refine Go.step (fun _ k => st151 _ k) ?_
  show Go p e below s _ _ _ T151 (mkF m 22 #[.val (.ref b73), .val (.ref b15), .val (.int (0 : Int32)), .val (.int (1 : Int32))] [(.int (97 : Int32))])
  exact Go.retI X151 hx hlk Bd.returns (hb hby d13_22) eq151 ⟨rfl, N152, rfl⟩ (by decide) (by decide)

theorem ef_PropertyIndex_slot_0 (m : MethodId) (x0 : Addr) (x1 : Addr) (x2 : Int32) (x3 : Int32) (x4 : Int32) : entryFrame m #[(.ref x0), (.ref x1), (.int x2), (.int x3), (.int x4)] 7 = mkF m 0 #[.val (.ref x0), .val (.ref x1), .val (.int x2), .val (.int x3), .val (.int x4), .unset, .unset] [] := by first | (simp [entryFrame, mkF, argsToLocals, Value.category]; done) | rfl
def Q_PropertyIndex_slot_0 (Z : State) (b73 : Addr) (b15 : Addr) (b108_134 : Addr) (k108_134 : ClassId) (h0 : Heap) (n0 : Nat) (v : Option Value) (h : Heap) (L : List Loc) : Prop := v = some (.int (1 : Int32)) ∧ Fr n0 L ∧ h = h0
set_option maxRecDepth 65536 in
set_option maxHeartbeats 40000000 in
theorem rm_PropertyIndex_slot_0 (l : Launch) (Z : State) (a0 : Array Value) (hw : ∀ d ∈ tables_1, d.before a0 Z = true) (ws : List Jvm.Cond) (b73 : Addr) (b15 : Addr) (b108_134 : Addr) (k108_134 : ClassId) (h0 : Heap) (n0 : Nat) (Z0 : n0 ≤ h0.size) (F_slots_b73 : Fld Z h0 b73 xs1 "slots" "[I" (.ref b108_134)) (V_b108_134 : Arv Z h0 b108_134 k108_134 .int (8 : Int32) [(.int (0 : Int32)), (.int (0 : Int32)), (.int (0 : Int32)), (.int (0 : Int32)), (.int (0 : Int32)), (.int (0 : Int32)), (.int (0 : Int32)), (.int (0 : Int32))] (.int (0 : Int32))) :
    MetFree l xm32 (head1 (Jvm.Cond.code xm32 prog_15_method_11_code 7 (some .int) :: ws) xr17) (fun a U => a = #[(.ref b73), (.ref b15), (.int (0 : Int32)), (.int (1 : Int32)), (.int (97 : Int32))] ∧ Z.Warmed39 U.vm ∧ U.heap = h0) (fun _ _ _ _ _ => True) (fun _ U o U' => ∃ v L, o = .returned v ∧ Q_PropertyIndex_slot_0 Z b73 b15 b108_134 k108_134 h0 n0 v U'.heap L ∧ FrameEnd U o U' L xr17.cells xr17.slots) := by
  refine MetFree.of_bodySF (plainFor_of_name pn_5) hisR ?_
  intro p e s m args below meth c s₁ Bd hml0 hP hK
  obtain ⟨rfl, hZ, hh⟩ := hP
  have hx := Bd.exec
  have hby := Bd.bytes
  have hlk : meth.locks = false := BodyLoose.notSynchronized Bd
  have hml : c.maxLocals = 7 := hml0
  have hown : s.vm.findClass xs1 = some m.cls := findClass_of_methodNamed Bd.named
  have hnm := (name_of_methodNamed Bd.named Bd.method).1
  have X0 : Stand p l e xr17 s m #[(.ref b73), (.ref b15), (.int (0 : Int32)), (.int (1 : Int32)), (.int (97 : Int32))] below meth c s₁ [] 0 0 := Stand.of_body Bd
  have e0 : s₁.heap = h0 := by rw [← hh, Bd.state]; rfl
  have N0 := Fr.nil n0
  show Go p e below s (Q_PropertyIndex_slot_0 Z b73 b15 b108_134 k108_134 h0 n0) xr17.cells xr17.slots s₁ (entryFrame m #[(.ref b73), (.ref b15), (.int (0 : Int32)), (.int (1 : Int32)), (.int (97 : Int32))] 7)
  refine Go.cast (ef_PropertyIndex_slot_0 m b73 b15 (0 : Int32) (1 : Int32) (97 : Int32)) ?_
  show Go p e below s _ _ _ s₁ (mkF m 0 #[.val (.ref b73), .val (.ref b15), .val (.int (0 : Int32)), .val (.int (1 : Int32)), .val (.int (97 : Int32)), .unset, .unset] [])
  refine Go.step (fun _ k => XS.aloadN X0.here hx rfl (hb hby d18_0) rfl rfl k) ?_
  show Go p e below s _ _ _ s₁ (mkF m 1 #[.val (.ref b73), .val (.ref b15), .val (.int (0 : Int32)), .val (.int (1 : Int32)), .val (.int (97 : Int32)), .unset, .unset] [(.ref b73)])
  obtain ⟨T156, X156, e156, st156⟩ := getF X0 hx hZ hown (host := "") (Or.inl (tw62 hw)) Via.refl e0 F_slots_b73 (g := (mkF m 1 #[.val (.ref b73), .val (.ref b15), .val (.int (0 : Int32)), .val (.int (1 : Int32)), .val (.int (97 : Int32)), .unset, .unset] [(.ref b73)])) rfl rfl (hb hby d18_1)
  refine Go.step (fun _ k => st156 _ k) ?_
  show Go p e below s _ _ _ T156 (mkF m 4 #[.val (.ref b73), .val (.ref b15), .val (.int (0 : Int32)), .val (.int (1 : Int32)), .val (.int (97 : Int32)), .unset, .unset] [(.ref b108_134)])
  obtain ⟨cl157, Ar157, -, Sz157, Ng157, -, -⟩ := id V_b108_134
  have aln157 := X156.arraylength hx (by rw [e156]; exact Ar157.1) (State.isArrayOf_alike hZ.alike Ar157.2.1) (g := (mkF m 4 #[.val (.ref b73), .val (.ref b15), .val (.int (0 : Int32)), .val (.int (1 : Int32)), .val (.int (97 : Int32)), .unset, .unset] [(.ref b108_134)])) rfl rfl (hb hby d18_4)
  rw [len_of Sz157 Ng157] at aln157
  refine Go.step (fun _ k => aln157 _ (XS.iconst X156.here hx rfl (hb hby d18_5) (XS.isub X156.here hx rfl (hb hby d18_6) rfl (XS.istore X156.here hx rfl (hb hby d18_7) rfl (l' := #[.val (.ref b73), .val (.ref b15), .val (.int (0 : Int32)), .val (.int (1 : Int32)), .val (.int (97 : Int32)), .val (.int (7 : Int32)), .unset]) rfl (XS.iload X156.here hx rfl (hb hby d18_9) rfl (XS.iload X156.here hx rfl (hb hby d18_11) rfl (XS.iand X156.here hx rfl (hb hby d18_13) rfl (XS.istore X156.here hx rfl (hb hby d18_14) rfl (l' := #[.val (.ref b73), .val (.ref b15), .val (.int (0 : Int32)), .val (.int (1 : Int32)), .val (.int (97 : Int32)), .val (.int (7 : Int32)), .val (.int (1 : Int32))]) rfl (XS.aloadN X156.here hx rfl (hb hby d18_16) rfl rfl k))))))))) ?_
  show Go p e below s _ _ _ T156 (mkF m 17 #[.val (.ref b73), .val (.ref b15), .val (.int (0 : Int32)), .val (.int (1 : Int32)), .val (.int (97 : Int32)), .val (.int (7 : Int32)), .val (.int (1 : Int32))] [(.ref b73)])
  obtain ⟨T158, X158, e158, st158⟩ := getF X156 hx hZ hown (host := "") (Or.inl (tw62 hw)) Via.refl e156 F_slots_b73 (g := (mkF m 17 #[.val (.ref b73), .val (.ref b15), .val (.int (0 : Int32)), .val (.int (1 : Int32)), .val (.int (97 : Int32)), .val (.int (7 : Int32)), .val (.int (1 : Int32))] [(.ref b73)])) rfl rfl (hb hby d18_17)
  refine Go.step (fun _ k => st158 _ (XS.iload X158.here hx rfl (hb hby d18_20) rfl k)) ?_
  show Go p e below s _ _ _ T158 (mkF m 22 #[.val (.ref b73), .val (.ref b15), .val (.int (0 : Int32)), .val (.int (1 : Int32)), .val (.int (97 : Int32)), .val (.int (7 : Int32)), .val (.int (1 : Int32))] [(.int (1 : Int32)), (.ref b108_134)])
  obtain ⟨cl159, Ar159, -, Sz159, Ng159, Hs159, Ft159⟩ := id V_b108_134
  have in159 : ¬ ((1 : Int32) < 0 ∨ cl159.slots.size ≤ ((1 : Int32)).toNatClampNeg) := (inb_of Sz159 ⟨by decide, by decide⟩)
  have at159 : cl159.slots[((1 : Int32)).toNatClampNeg]? = some (.int (0 : Int32)) := Hs159.at in159 rfl
  refine Go.step (fun _ k => X158.iaload hx (j := (1 : Int32)) (v := (.int (0 : Int32))) (by rw [e158]; exact Ar159.1) (State.isArrayOf_alike hZ.alike Ar159.2.1) Ar159.2.2 in159 at159 (g := (mkF m 22 #[.val (.ref b73), .val (.ref b15), .val (.int (0 : Int32)), .val (.int (1 : Int32)), .val (.int (97 : Int32)), .val (.int (7 : Int32)), .val (.int (1 : Int32))] [(.int (1 : Int32)), (.ref b108_134)])) rfl rfl (hb hby d18_22) _ (XS.ifYes X158.here hx rfl (pc0 := 23) (pc' := 59) rfl (hb hby d18_23) rfl ((if0 _ _).trans (teq (by decide)).1) (by decide) (by decide) (XS.iload X158.here hx rfl (hb hby d18_59) rfl k))) ?_
  show Go p e below s _ _ _ T158 (mkF m 61 #[.val (.ref b73), .val (.ref b15), .val (.int (0 : Int32)), .val (.int (1 : Int32)), .val (.int (97 : Int32)), .val (.int (7 : Int32)), .val (.int (1 : Int32))] [(.int (1 : Int32))])
  exact Go.retI X158 hx hlk Bd.returns (hb hby d18_61) e158 ⟨rfl, N0, rfl⟩ (by decide) (by decide)

theorem ef_PropertyIndex_add_0 (m : MethodId) (x0 : Addr) (x1 : Int32) (x2 : Int32) (x3 : Int32) (x4 : Int32) (x5 : Int32) : entryFrame m #[(.ref x0), (.int x1), (.int x2), (.int x3), (.int x4), (.int x5)] 10 = mkF m 0 #[.val (.ref x0), .val (.int x1), .val (.int x2), .val (.int x3), .val (.int x4), .val (.int x5), .unset, .unset, .unset, .unset] [] := by first | (simp [entryFrame, mkF, argsToLocals, Value.category]; done) | rfl
def Q_PropertyIndex_add_0 (Z : State) (b73 : Addr) (p5 : Int32) (p6 : Int32) (b15 : Addr) (cs : Int32) (b21_41_64_71 : Addr) (k21_41_64_71 : ClassId) (fv : Value) (b108_134 : Addr) (k108_134 : ClassId) (b96_134 : Addr) (k96_134 : ClassId) (h0 : Heap) (n0 : Nat) (v : Option Value) (h : Heap) (L : List Loc) : Prop := v = some (.int (-1 : Int32)) ∧ Fr n0 L ∧ Keep h0 h [b96_134, b73, b108_134] ∧ Arv Z h b96_134 k96_134 .int (12 : Int32) [(.int (0 : Int32)), (.int (1 : Int32)), (.int p5), (.int p6), (.int p5), (.int (97 : Int32)), (.int (0 : Int32)), (.int (0 : Int32)), (.int (0 : Int32)), (.int (0 : Int32)), (.int (0 : Int32)), (.int (0 : Int32))] (.int (0 : Int32)) ∧ Fld Z h b73 xs1 "text" xs19 (.ref b15) ∧ Fld Z h b73 xs1 "keyed" "Z" (.int (0 : Int32)) ∧ Fld Z h b73 xs1 "slots" "[I" (.ref b108_134) ∧ Fld Z h b73 xs1 "size" "I" (.int (1 : Int32)) ∧ Fld Z h b73 xs1 "entries" "[I" (.ref b96_134) ∧ Fld Z h b73 xs1 "lineEnds" xs2 .null ∧ Arv Z h b108_134 k108_134 .int (8 : Int32) [(.int (0 : Int32)), (.int (1 : Int32)), (.int (0 : Int32)), (.int (0 : Int32)), (.int (0 : Int32)), (.int (0 : Int32)), (.int (0 : Int32)), (.int (0 : Int32))] (.int (0 : Int32))
set_option maxRecDepth 65536 in
set_option maxHeartbeats 40000000 in
theorem rm_PropertyIndex_add_0 (l : Launch) (Z : State) (a0 : Array Value) (hw : ∀ d ∈ tables_1, d.before a0 Z = true) (ws : List Jvm.Cond) (b73 : Addr) (p5 : Int32) (p6 : Int32) (b15 : Addr) (cs : Int32) (b21_41_64_71 : Addr) (k21_41_64_71 : ClassId) (fv : Value) (b108_134 : Addr) (k108_134 : ClassId) (b96_134 : Addr) (k96_134 : ClassId) (h0 : Heap) (n0 : Nat) (Z0 : n0 ≤ h0.size) (F_text_b73 : Fld Z h0 b73 xs1 "text" xs19 (.ref b15)) (F_keyed_b73 : Fld Z h0 b73 xs1 "keyed" "Z" (.int (0 : Int32))) (E_b15 : Exa Z h0 b15 xs23) (Z_S_COMPACT_STRINGS : Sta Z Z.heap xs23 xs24 "Z" (.int cs)) (O0 : Old Z n0 h0) (hcs : ¬ cs = (0 : Int32)) (F_coder_b15 : Fld Z h0 b15 xs23 "coder" "B" (.int (0 : Int32))) (F_value_b15 : Fld Z h0 b15 xs23 "value" "[B" (.ref b21_41_64_71)) (V_b21_41_64_71 : Arv Z h0 b21_41_64_71 k21_41_64_71 .byte (2 : Int32) [(.int (97 : Int32)), (.int (98 : Int32))] (.int (0 : Int32))) (Z_S_SIOOBE_FORMATTER : Sta Z Z.heap xs5 xs22 xs6 fv) (hfv : fv.isRef = true) (E_b73 : Exa Z h0 b73 xs1) (F_slots_b73 : Fld Z h0 b73 xs1 "slots" "[I" (.ref b108_134)) (V_b108_134 : Arv Z h0 b108_134 k108_134 .int (8 : Int32) [(.int (0 : Int32)), (.int (0 : Int32)), (.int (0 : Int32)), (.int (0 : Int32)), (.int (0 : Int32)), (.int (0 : Int32)), (.int (0 : Int32)), (.int (0 : Int32))] (.int (0 : Int32))) (F_size_b73 : Fld Z h0 b73 xs1 "size" "I" (.int (0 : Int32))) (F_entries_b73 : Fld Z h0 b73 xs1 "entries" "[I" (.ref b96_134)) (V_b96_134 : Arv Z h0 b96_134 k96_134 .int (12 : Int32) [(.int (0 : Int32)), (.int (0 : Int32)), (.int (0 : Int32)), (.int (0 : Int32)), (.int (0 : Int32)), (.int (0 : Int32)), (.int (0 : Int32)), (.int (0 : Int32)), (.int (0 : Int32)), (.int (0 : Int32)), (.int (0 : Int32)), (.int (0 : Int32))] (.int (0 : Int32))) (g_b96_134 : n0 ≤ b96_134) (ne_b73_b96_134 : b73 ≠ b96_134) (g_b73 : n0 ≤ b73) (ne_b108_134_b96_134 : b108_134 ≠ b96_134) (ne_b108_134_b73 : b108_134 ≠ b73) (g_b108_134 : n0 ≤ b108_134) (F_lineEnds_b73 : Fld Z h0 b73 xs1 "lineEnds" xs2 .null) :
    MetFree l xm18 (head1 (Jvm.Cond.code xm18 prog_15_method_3_code 10 (some .int) :: ws) xr11) (fun a U => a = #[(.ref b73), (.int (0 : Int32)), (.int (1 : Int32)), (.int p5), (.int p6), (.int p5)] ∧ Z.Warmed39 U.vm ∧ U.heap = h0) (fun _ _ _ _ _ => True) (fun _ U o U' => ∃ v L, o = .returned v ∧ Q_PropertyIndex_add_0 Z b73 p5 p6 b15 cs b21_41_64_71 k21_41_64_71 fv b108_134 k108_134 b96_134 k96_134 h0 n0 v U'.heap L ∧ FrameEnd U o U' L xr11.cells xr11.slots) := by
  refine MetFree.of_bodySF (plainFor_of_name pn_5) hisR ?_
  intro p e s m args below meth c s₁ Bd hml0 hP hK
  obtain ⟨rfl, hZ, hh⟩ := hP
  have hx := Bd.exec
  have hby := Bd.bytes
  have hlk : meth.locks = false := BodyLoose.notSynchronized Bd
  have hml : c.maxLocals = 10 := hml0
  have hown : s.vm.findClass xs1 = some m.cls := findClass_of_methodNamed Bd.named
  have hnm := (name_of_methodNamed Bd.named Bd.method).1
  have X0 : Stand p l e xr11 s m #[(.ref b73), (.int (0 : Int32)), (.int (1 : Int32)), (.int p5), (.int p6), (.int p5)] below meth c s₁ [] 0 0 := Stand.of_body Bd
  have e0 : s₁.heap = h0 := by rw [← hh, Bd.state]; rfl
  have N0 := Fr.nil n0
  show Go p e below s (Q_PropertyIndex_add_0 Z b73 p5 p6 b15 cs b21_41_64_71 k21_41_64_71 fv b108_134 k108_134 b96_134 k96_134 h0 n0) xr11.cells xr11.slots s₁ (entryFrame m #[(.ref b73), (.int (0 : Int32)), (.int (1 : Int32)), (.int p5), (.int p6), (.int p5)] 10)
  refine Go.cast (ef_PropertyIndex_add_0 m b73 (0 : Int32) (1 : Int32) p5 p6 p5) ?_
  show Go p e below s _ _ _ s₁ (mkF m 0 #[.val (.ref b73), .val (.int (0 : Int32)), .val (.int (1 : Int32)), .val (.int p5), .val (.int p6), .val (.int p5), .unset, .unset, .unset, .unset] [])
  refine Go.step (fun _ k => XS.aloadN X0.here hx rfl (hb hby d12_0) rfl rfl (XS.aloadN X0.here hx rfl (hb hby d12_1) rfl rfl k)) ?_
  show Go p e below s _ _ _ s₁ (mkF m 2 #[.val (.ref b73), .val (.int (0 : Int32)), .val (.int (1 : Int32)), .val (.int p5), .val (.int p6), .val (.int p5), .unset, .unset, .unset, .unset] [(.ref b73), (.ref b73)])
  obtain ⟨T136, X136, e136, st136⟩ := getF X0 hx hZ hown (host := "") (Or.inl (tw42 hw)) Via.refl e0 F_text_b73 (g := (mkF m 2 #[.val (.ref b73), .val (.int (0 : Int32)), .val (.int (1 : Int32)), .val (.int p5), .val (.int p6), .val (.int p5), .unset, .unset, .unset, .unset] [(.ref b73), (.ref b73)])) rfl rfl (hb hby d12_2)
  refine Go.step (fun _ k => st136 _ (XS.iloadN X136.here hx rfl (hb hby d12_5) rfl (XS.iloadN X136.here hx rfl (hb hby d12_6) rfl k))) ?_
  show Go p e below s _ _ _ T136 (mkF m 7 #[.val (.ref b73), .val (.int (0 : Int32)), .val (.int (1 : Int32)), .val (.int p5), .val (.int p6), .val (.int p5), .unset, .unset, .unset, .unset] [(.int (1 : Int32)), (.int (0 : Int32)), (.ref b15), (.ref b73)])
  obtain ⟨cq153, q153, q153'⟩ := E_b73.cell
  obtain ⟨_, _, ⟨T153, L153, k153, n153⟩, -, X153, ⟨Lc153, hQ153, l153, y153, z153⟩, st153⟩ := X136.privateBack hx (y := xm29) hown (mvT hZ (tw69 hw)) (mvT hZ (tw70 hw)) (own_selP (mvT hZ (tw31 hw)) (Cond.privateMethod_at (mvP hZ (tw71 hw) (args := #[]))) (mvT hZ (tw70 hw)) (by decide)) (Cond.privateMethod_at (mvP hZ (tw71 hw) (args := #[]))) (mvT hZ (tw72 hw)) (by decide) (backOf (W := 0) (rm_PropertyIndex_hash_0 l Z a0 hw [] b73 b15 cs b21_41_64_71 k21_41_64_71 fv h0 n0 Z0 F_keyed_b73 E_b15 Z_S_COMPACT_STRINGS O0 hcs F_coder_b15 F_value_b15 V_b21_41_64_71 Z_S_SIOOBE_FORMATTER hfv) hZ (tw72 hw) (tw32 hw) (by decide) (by decide)) (g := (mkF m 7 #[.val (.ref b73), .val (.int (0 : Int32)), .val (.int (1 : Int32)), .val (.int p5), .val (.int p6), .val (.int p5), .unset, .unset, .unset, .unset] [(.int (1 : Int32)), (.int (0 : Int32)), (.ref b15), (.ref b73)])) rfl (by rw [hml]; rfl) (Steps.refl _) (a := b73) (by rw [e136]; exact q153) q153' (argsL := [(.ref b15), (.int (0 : Int32)), (.int (1 : Int32))]) (rest := []) (lenOf pd_14 rfl) rfl (by show 2 * 0 + _ ≤ _; exact Nat.le_of_eq rfl) (hb hby d12_7) (fun _ _ => ⟨rfl, e136, (by decide : 0 + 0 ≤ _), (by decide : 0 + 0 ≤ _)⟩)
  dsimp only [Pt.U, Pt.locs, Pt.cells, Pt.slots] at X153 l153 y153 z153 st153 hQ153
  subst l153 y153 z153
  obtain ⟨rfl, N153q, eq153⟩ := hQ153
  have N154 := Fr.app N0 N153q
  refine Go.step (fun _ k => st153.trans (XS.istore X153.here hx rfl (hb hby d12_10) rfl (l' := #[.val (.ref b73), .val (.int (0 : Int32)), .val (.int (1 : Int32)), .val (.int p5), .val (.int p6), .val (.int p5), .val (.int (97 : Int32)), .unset, .unset, .unset]) rfl (XS.aloadN X153.here hx rfl (hb hby d12_12) rfl rfl (XS.aloadN X153.here hx rfl (hb hby d12_13) rfl rfl k)))) ?_
  show Go p e below s _ _ _ T153 (mkF m 14 #[.val (.ref b73), .val (.int (0 : Int32)), .val (.int (1 : Int32)), .val (.int p5), .val (.int p6), .val (.int p5), .val (.int (97 : Int32)), .unset, .unset, .unset] [(.ref b73), (.ref b73)])
  obtain ⟨T155, X155, e155, st155⟩ := getF X153 hx hZ hown (host := "") (Or.inl (tw42 hw)) Via.refl eq153 F_text_b73 (g := (mkF m 14 #[.val (.ref b73), .val (.int (0 : Int32)), .val (.int (1 : Int32)), .val (.int p5), .val (.int p6), .val (.int p5), .val (.int (97 : Int32)), .unset, .unset, .unset] [(.ref b73), (.ref b73)])) rfl rfl (hb hby d12_14)
  refine Go.step (fun _ k => st155 _ (XS.iloadN X155.here hx rfl (hb hby d12_17) rfl (XS.iloadN X155.here hx rfl (hb hby d12_18) rfl (XS.iload X155.here hx rfl (hb hby d12_19) rfl k)))) ?_
  show Go p e below s _ _ _ T155 (mkF m 21 #[.val (.ref b73), .val (.int (0 : Int32)), .val (.int (1 : Int32)), .val (.int p5), .val (.int p6), .val (.int p5), .val (.int (97 : Int32)), .unset, .unset, .unset] [(.int (97 : Int32)), (.int (1 : Int32)), (.int (0 : Int32)), (.ref b15), (.ref b73)])
  obtain ⟨cq160, q160, q160'⟩ := E_b73.cell
  obtain ⟨_, _, ⟨T160, L160, k160, n160⟩, -, X160, ⟨Lc160, hQ160, l160, y160, z160⟩, st160⟩ := X155.privateBack hx (y := xm32) hown (mvT hZ (tw100 hw)) (mvT hZ (tw101 hw)) (own_selP (mvT hZ (tw31 hw)) (Cond.privateMethod_at (mvP hZ (tw102 hw) (args := #[]))) (mvT hZ (tw101 hw)) (by decide)) (Cond.privateMethod_at (mvP hZ (tw102 hw) (args := #[]))) (mvT hZ (tw103 hw)) (by decide) (backOf (W := 0) (rm_PropertyIndex_slot_0 l Z a0 hw [] b73 b15 b108_134 k108_134 h0 n0 Z0 F_slots_b73 V_b108_134) hZ (tw103 hw) (tw32 hw) (by decide) (by decide)) (g := (mkF m 21 #[.val (.ref b73), .val (.int (0 : Int32)), .val (.int (1 : Int32)), .val (.int p5), .val (.int p6), .val (.int p5), .val (.int (97 : Int32)), .unset, .unset, .unset] [(.int (97 : Int32)), (.int (1 : Int32)), (.int (0 : Int32)), (.ref b15), (.ref b73)])) rfl (by rw [hml]; rfl) (Steps.refl _) (a := b73) (by rw [e155]; exact q160) q160' (argsL := [(.ref b15), (.int (0 : Int32)), (.int (1 : Int32)), (.int (97 : Int32))]) (rest := []) (lenOf pd_15 rfl) rfl (by show 2 * 0 + _ ≤ _; exact Nat.le_of_eq rfl) (hb hby d12_21) (fun _ _ => ⟨rfl, e155, (by decide : 0 + 0 ≤ _), (by decide : 0 + 0 ≤ _)⟩)
  dsimp only [Pt.U, Pt.locs, Pt.cells, Pt.slots] at X160 l160 y160 z160 st160 hQ160
  subst l160 y160 z160
  obtain ⟨rfl, N160q, eq160⟩ := hQ160
  have N161 := Fr.app N154 N160q
  refine Go.step (fun _ k => st160.trans (XS.istore X160.here hx rfl (hb hby d12_24) rfl (l' := #[.val (.ref b73), .val (.int (0 : Int32)), .val (.int (1 : Int32)), .val (.int p5), .val (.int p6), .val (.int p5), .val (.int (97 : Int32)), .val (.int (1 : Int32)), .unset, .unset]) rfl (XS.aloadN X160.here hx rfl (hb hby d12_26) rfl rfl k))) ?_
  show Go p e below s _ _ _ T160 (mkF m 27 #[.val (.ref b73), .val (.int (0 : Int32)), .val (.int (1 : Int32)), .val (.int p5), .val (.int p6), .val (.int p5), .val (.int (97 : Int32)), .val (.int (1 : Int32)), .unset, .unset] [(.ref b73)])
  obtain ⟨T162, X162, e162, st162⟩ := getF X160 hx hZ hown (host := "") (Or.inl (tw73 hw)) Via.refl eq160 F_keyed_b73 (g := (mkF m 27 #[.val (.ref b73), .val (.int (0 : Int32)), .val (.int (1 : Int32)), .val (.int p5), .val (.int p6), .val (.int p5), .val (.int (97 : Int32)), .val (.int (1 : Int32)), .unset, .unset] [(.ref b73)])) rfl rfl (hb hby d12_27)
  refine Go.step (fun _ k => st162 _ (XS.ifNo X162.here hx rfl (hb hby d12_30) rfl ((if0 _ _).trans (teq (by decide)).2) (XS.iload X162.here hx rfl (hb hby d12_33) rfl (XS.iload X162.here hx rfl (hb hby d12_35) rfl (XS.isub X162.here hx rfl (hb hby d12_37) rfl (XS.aloadN X162.here hx rfl (hb hby d12_38) rfl rfl k)))))) ?_
  show Go p e below s _ _ _ T162 (mkF m 39 #[.val (.ref b73), .val (.int (0 : Int32)), .val (.int (1 : Int32)), .val (.int p5), .val (.int p6), .val (.int p5), .val (.int (97 : Int32)), .val (.int (1 : Int32)), .unset, .unset] [(.ref b73), (.int (-96 : Int32))])
  obtain ⟨T163, X163, e163, st163⟩ := getF X162 hx hZ hown (host := "") (Or.inl (tw62 hw)) Via.refl e162 F_slots_b73 (g := (mkF m 39 #[.val (.ref b73), .val (.int (0 : Int32)), .val (.int (1 : Int32)), .val (.int p5), .val (.int p6), .val (.int p5), .val (.int (97 : Int32)), .val (.int (1 : Int32)), .unset, .unset] [(.ref b73), (.int (-96 : Int32))])) rfl rfl (hb hby d12_39)
  refine Go.step (fun _ k => st163 _ k) ?_
  show Go p e below s _ _ _ T163 (mkF m 42 #[.val (.ref b73), .val (.int (0 : Int32)), .val (.int (1 : Int32)), .val (.int p5), .val (.int p6), .val (.int p5), .val (.int (97 : Int32)), .val (.int (1 : Int32)), .unset, .unset] [(.ref b108_134), (.int (-96 : Int32))])
  obtain ⟨cl164, Ar164, -, Sz164, Ng164, -, -⟩ := id V_b108_134
  have aln164 := X163.arraylength hx (by rw [e163]; exact Ar164.1) (State.isArrayOf_alike hZ.alike Ar164.2.1) (g := (mkF m 42 #[.val (.ref b73), .val (.int (0 : Int32)), .val (.int (1 : Int32)), .val (.int p5), .val (.int p6), .val (.int p5), .val (.int (97 : Int32)), .val (.int (1 : Int32)), .unset, .unset] [(.ref b108_134), (.int (-96 : Int32))])) rfl rfl (hb hby d12_42)
  rw [len_of Sz164 Ng164] at aln164
  refine Go.step (fun _ k => aln164 _ (XS.iconst X163.here hx rfl (hb hby d12_43) (XS.isub X163.here hx rfl (hb hby d12_44) rfl (XS.iand X163.here hx rfl (hb hby d12_45) rfl (XS.bipush X163.here hx rfl (hb hby d12_46) (XS.icmpYes X163.here hx rfl (pc0 := 48) (pc' := 151) rfl (hb hby d12_48) rfl (flt (by decide)).2.2.2 (by decide) (by decide) (XS.aloadN X163.here hx rfl (hb hby d12_151) rfl rfl k))))))) ?_
  show Go p e below s _ _ _ T163 (mkF m 152 #[.val (.ref b73), .val (.int (0 : Int32)), .val (.int (1 : Int32)), .val (.int p5), .val (.int p6), .val (.int p5), .val (.int (97 : Int32)), .val (.int (1 : Int32)), .unset, .unset] [(.ref b73)])
  obtain ⟨T165, X165, e165, st165⟩ := getF X163 hx hZ hown (host := "") (Or.inl (tw62 hw)) Via.refl e163 F_slots_b73 (g := (mkF m 152 #[.val (.ref b73), .val (.int (0 : Int32)), .val (.int (1 : Int32)), .val (.int p5), .val (.int p6), .val (.int p5), .val (.int (97 : Int32)), .val (.int (1 : Int32)), .unset, .unset] [(.ref b73)])) rfl rfl (hb hby d12_152)
  refine Go.step (fun _ k => st165 _ (XS.iload X165.here hx rfl (hb hby d12_155) rfl k)) ?_
  show Go p e below s _ _ _ T165 (mkF m 157 #[.val (.ref b73), .val (.int (0 : Int32)), .val (.int (1 : Int32)), .val (.int p5), .val (.int p6), .val (.int p5), .val (.int (97 : Int32)), .val (.int (1 : Int32)), .unset, .unset] [(.int (1 : Int32)), (.ref b108_134)])
  obtain ⟨cl166, Ar166, -, Sz166, Ng166, Hs166, Ft166⟩ := id V_b108_134
  have in166 : ¬ ((1 : Int32) < 0 ∨ cl166.slots.size ≤ ((1 : Int32)).toNatClampNeg) := (inb_of Sz166 ⟨by decide, by decide⟩)
  have at166 : cl166.slots[((1 : Int32)).toNatClampNeg]? = some (.int (0 : Int32)) := Hs166.at in166 rfl
  refine Go.step (fun _ k => X165.iaload hx (j := (1 : Int32)) (v := (.int (0 : Int32))) (by rw [e165]; exact Ar166.1) (State.isArrayOf_alike hZ.alike Ar166.2.1) Ar166.2.2 in166 at166 (g := (mkF m 157 #[.val (.ref b73), .val (.int (0 : Int32)), .val (.int (1 : Int32)), .val (.int p5), .val (.int p6), .val (.int p5), .val (.int (97 : Int32)), .val (.int (1 : Int32)), .unset, .unset] [(.int (1 : Int32)), (.ref b108_134)])) rfl rfl (hb hby d12_157) _ (XS.ifYes X165.here hx rfl (pc0 := 158) (pc' := 171) rfl (hb hby d12_158) rfl ((if0 _ _).trans (teq (by decide)).1) (by decide) (by decide) (XS.aloadN X165.here hx rfl (hb hby d12_171) rfl rfl k))) ?_
  show Go p e below s _ _ _ T165 (mkF m 172 #[.val (.ref b73), .val (.int (0 : Int32)), .val (.int (1 : Int32)), .val (.int p5), .val (.int p6), .val (.int p5), .val (.int (97 : Int32)), .val (.int (1 : Int32)), .unset, .unset] [(.ref b73)])
  obtain ⟨T167, X167, e167, st167⟩ := getF X165 hx hZ hown (host := "") (Or.inl (tw104 hw)) Via.refl e165 F_size_b73 (g := (mkF m 172 #[.val (.ref b73), .val (.int (0 : Int32)), .val (.int (1 : Int32)), .val (.int p5), .val (.int p6), .val (.int p5), .val (.int (97 : Int32)), .val (.int (1 : Int32)), .unset, .unset] [(.ref b73)])) rfl rfl (hb hby d12_172)
  refine Go.step (fun _ k => st167 _ (XS.iconst X167.here hx rfl (hb hby d12_175) (XS.iadd X167.here hx rfl (hb hby d12_176) rfl (XS.bipush X167.here hx rfl (hb hby d12_177) (XS.imul X167.here hx rfl (hb hby d12_179) rfl (XS.aloadN X167.here hx rfl (hb hby d12_180) rfl rfl k)))))) ?_
  show Go p e below s _ _ _ T167 (mkF m 181 #[.val (.ref b73), .val (.int (0 : Int32)), .val (.int (1 : Int32)), .val (.int p5), .val (.int p6), .val (.int p5), .val (.int (97 : Int32)), .val (.int (1 : Int32)), .unset, .unset] [(.ref b73), (.int (6 : Int32))])
  obtain ⟨T168, X168, e168, st168⟩ := getF X167 hx hZ hown (host := "") (Or.inl (tw51 hw)) Via.refl e167 F_entries_b73 (g := (mkF m 181 #[.val (.ref b73), .val (.int (0 : Int32)), .val (.int (1 : Int32)), .val (.int p5), .val (.int p6), .val (.int p5), .val (.int (97 : Int32)), .val (.int (1 : Int32)), .unset, .unset] [(.ref b73), (.int (6 : Int32))])) rfl rfl (hb hby d12_181)
  refine Go.step (fun _ k => st168 _ k) ?_
  show Go p e below s _ _ _ T168 (mkF m 184 #[.val (.ref b73), .val (.int (0 : Int32)), .val (.int (1 : Int32)), .val (.int p5), .val (.int p6), .val (.int p5), .val (.int (97 : Int32)), .val (.int (1 : Int32)), .unset, .unset] [(.ref b96_134), (.int (6 : Int32))])
  obtain ⟨cl169, Ar169, -, Sz169, Ng169, -, -⟩ := id V_b96_134
  have aln169 := X168.arraylength hx (by rw [e168]; exact Ar169.1) (State.isArrayOf_alike hZ.alike Ar169.2.1) (g := (mkF m 184 #[.val (.ref b73), .val (.int (0 : Int32)), .val (.int (1 : Int32)), .val (.int p5), .val (.int p6), .val (.int p5), .val (.int (97 : Int32)), .val (.int (1 : Int32)), .unset, .unset] [(.ref b96_134), (.int (6 : Int32))])) rfl rfl (hb hby d12_184)
  rw [len_of Sz169 Ng169] at aln169
  refine Go.step (fun _ k => aln169 _ (XS.icmpYes X168.here hx rfl (pc0 := 185) (pc' := 206) rfl (hb hby d12_185) rfl (flt (by decide)).2.2.2 (by decide) (by decide) (XS.aloadN X168.here hx rfl (hb hby d12_206) rfl rfl k))) ?_
  show Go p e below s _ _ _ T168 (mkF m 207 #[.val (.ref b73), .val (.int (0 : Int32)), .val (.int (1 : Int32)), .val (.int p5), .val (.int p6), .val (.int p5), .val (.int (97 : Int32)), .val (.int (1 : Int32)), .unset, .unset] [(.ref b73)])
  obtain ⟨T170, X170, e170, st170⟩ := getF X168 hx hZ hown (host := "") (Or.inl (tw104 hw)) Via.refl e168 F_size_b73 (g := (mkF m 207 #[.val (.ref b73), .val (.int (0 : Int32)), .val (.int (1 : Int32)), .val (.int p5), .val (.int p6), .val (.int p5), .val (.int (97 : Int32)), .val (.int (1 : Int32)), .unset, .unset] [(.ref b73)])) rfl rfl (hb hby d12_207)
  refine Go.step (fun _ k => st170 _ (XS.bipush X170.here hx rfl (hb hby d12_210) (XS.imul X170.here hx rfl (hb hby d12_212) rfl (XS.istore X170.here hx rfl (hb hby d12_213) rfl (l' := #[.val (.ref b73), .val (.int (0 : Int32)), .val (.int (1 : Int32)), .val (.int p5), .val (.int p6), .val (.int p5), .val (.int (97 : Int32)), .val (.int (1 : Int32)), .val (.int (0 : Int32)), .unset]) rfl (XS.aloadN X170.here hx rfl (hb hby d12_215) rfl rfl k))))) ?_
  show Go p e below s _ _ _ T170 (mkF m 216 #[.val (.ref b73), .val (.int (0 : Int32)), .val (.int (1 : Int32)), .val (.int p5), .val (.int p6), .val (.int p5), .val (.int (97 : Int32)), .val (.int (1 : Int32)), .val (.int (0 : Int32)), .unset] [(.ref b73)])
  obtain ⟨T171, X171, e171, st171⟩ := getF X170 hx hZ hown (host := "") (Or.inl (tw51 hw)) Via.refl e170 F_entries_b73 (g := (mkF m 216 #[.val (.ref b73), .val (.int (0 : Int32)), .val (.int (1 : Int32)), .val (.int p5), .val (.int p6), .val (.int p5), .val (.int (97 : Int32)), .val (.int (1 : Int32)), .val (.int (0 : Int32)), .unset] [(.ref b73)])) rfl rfl (hb hby d12_216)
  refine Go.step (fun _ k => st171 _ (XS.iload X171.here hx rfl (hb hby d12_219) rfl (XS.iconst X171.here hx rfl (hb hby d12_221) (XS.iadd X171.here hx rfl (hb hby d12_222) rfl (XS.iloadN X171.here hx rfl (hb hby d12_223) rfl k))))) ?_
  show Go p e below s _ _ _ T171 (mkF m 224 #[.val (.ref b73), .val (.int (0 : Int32)), .val (.int (1 : Int32)), .val (.int p5), .val (.int p6), .val (.int p5), .val (.int (97 : Int32)), .val (.int (1 : Int32)), .val (.int (0 : Int32)), .unset] [(.int (0 : Int32)), (.int (0 : Int32)), (.ref b96_134)])
  obtain ⟨cl172, Ar172, qq172, Sz172, Ng172, Hs172, Ft172⟩ := id V_b96_134
  have in172 : ¬ ((0 : Int32) < 0 ∨ cl172.slots.size ≤ ((0 : Int32)).toNatClampNeg) := (inb_of Sz172 ⟨by decide, by decide⟩)
  obtain ⟨T172, h172, X172, e172, W172, st172⟩ := stI X171 hx hZ e171 Ar172 (j := (0 : Int32)) in172 (g := (mkF m 224 #[.val (.ref b73), .val (.int (0 : Int32)), .val (.int (1 : Int32)), .val (.int p5), .val (.int p6), .val (.int p5), .val (.int (97 : Int32)), .val (.int (1 : Int32)), .val (.int (0 : Int32)), .unset] [(.int (0 : Int32)), (.int (0 : Int32)), (.ref b96_134)])) rfl rfl (hb hby d12_224)
  have f174 : Arv Z h172 b96_134 k96_134 .int (12 : Int32) [(.int (0 : Int32)), (.int (0 : Int32)), (.int (0 : Int32)), (.int (0 : Int32)), (.int (0 : Int32)), (.int (0 : Int32)), (.int (0 : Int32)), (.int (0 : Int32)), (.int (0 : Int32)), (.int (0 : Int32)), (.int (0 : Int32)), (.int (0 : Int32))] (.int (0 : Int32)) := Arv.set Ar172 qq172 Sz172 Ng172 Hs172 Ft172 rfl W172 0 rfl (Nat.le_of_ble_eq_true rfl)
  have N175 := Fr.snoc X172 N161 g_b96_134
  refine Go.step (fun _ k => st172 _ (XS.aloadN X172.here hx rfl (hb hby d12_225) rfl rfl k)) ?_
  show Go p e below s _ _ _ T172 (mkF m 226 #[.val (.ref b73), .val (.int (0 : Int32)), .val (.int (1 : Int32)), .val (.int p5), .val (.int p6), .val (.int p5), .val (.int (97 : Int32)), .val (.int (1 : Int32)), .val (.int (0 : Int32)), .unset] [(.ref b73)])
  have f177 := (F_entries_b73.other W172 (Or.inl ne_b73_b96_134))
  obtain ⟨T178, X178, e178, st178⟩ := getF X172 hx hZ hown (host := "") (Or.inl (tw51 hw)) Via.refl e172 f177 (g := (mkF m 226 #[.val (.ref b73), .val (.int (0 : Int32)), .val (.int (1 : Int32)), .val (.int p5), .val (.int p6), .val (.int p5), .val (.int (97 : Int32)), .val (.int (1 : Int32)), .val (.int (0 : Int32)), .unset] [(.ref b73)])) rfl rfl (hb hby d12_226)
  refine Go.step (fun _ k => st178 _ (XS.iload X178.here hx rfl (hb hby d12_229) rfl (XS.iconst X178.here hx rfl (hb hby d12_231) (XS.iadd X178.here hx rfl (hb hby d12_232) rfl (XS.iloadN X178.here hx rfl (hb hby d12_233) rfl k))))) ?_
  show Go p e below s _ _ _ T178 (mkF m 234 #[.val (.ref b73), .val (.int (0 : Int32)), .val (.int (1 : Int32)), .val (.int p5), .val (.int p6), .val (.int p5), .val (.int (97 : Int32)), .val (.int (1 : Int32)), .val (.int (0 : Int32)), .unset] [(.int (1 : Int32)), (.int (1 : Int32)), (.ref b96_134)])
  obtain ⟨cl179, Ar179, qq179, Sz179, Ng179, Hs179, Ft179⟩ := id f174
  have in179 : ¬ ((1 : Int32) < 0 ∨ cl179.slots.size ≤ ((1 : Int32)).toNatClampNeg) := (inb_of Sz179 ⟨by decide, by decide⟩)
  obtain ⟨T179, h179, X179, e179, W179, st179⟩ := stI X178 hx hZ e178 Ar179 (j := (1 : Int32)) in179 (g := (mkF m 234 #[.val (.ref b73), .val (.int (0 : Int32)), .val (.int (1 : Int32)), .val (.int p5), .val (.int p6), .val (.int p5), .val (.int (97 : Int32)), .val (.int (1 : Int32)), .val (.int (0 : Int32)), .unset] [(.int (1 : Int32)), (.int (1 : Int32)), (.ref b96_134)])) rfl rfl (hb hby d12_234)
  have f180 : Arv Z h179 b96_134 k96_134 .int (12 : Int32) [(.int (0 : Int32)), (.int (1 : Int32)), (.int (0 : Int32)), (.int (0 : Int32)), (.int (0 : Int32)), (.int (0 : Int32)), (.int (0 : Int32)), (.int (0 : Int32)), (.int (0 : Int32)), (.int (0 : Int32)), (.int (0 : Int32)), (.int (0 : Int32))] (.int (0 : Int32)) := Arv.set Ar179 qq179 Sz179 Ng179 Hs179 Ft179 rfl W179 1 rfl (Nat.le_of_ble_eq_true rfl)
  have N181 := Fr.snoc X179 N175 g_b96_134
  refine Go.step (fun _ k => st179 _ (XS.aloadN X179.here hx rfl (hb hby d12_235) rfl rfl k)) ?_
  show Go p e below s _ _ _ T179 (mkF m 236 #[.val (.ref b73), .val (.int (0 : Int32)), .val (.int (1 : Int32)), .val (.int p5), .val (.int p6), .val (.int p5), .val (.int (97 : Int32)), .val (.int (1 : Int32)), .val (.int (0 : Int32)), .unset] [(.ref b73)])
  have f182 := (f177.other W179 (Or.inl ne_b73_b96_134))
  obtain ⟨T183, X183, e183, st183⟩ := getF X179 hx hZ hown (host := "") (Or.inl (tw51 hw)) Via.refl e179 f182 (g := (mkF m 236 #[.val (.ref b73), .val (.int (0 : Int32)), .val (.int (1 : Int32)), .val (.int p5), .val (.int p6), .val (.int p5), .val (.int (97 : Int32)), .val (.int (1 : Int32)), .val (.int (0 : Int32)), .unset] [(.ref b73)])) rfl rfl (hb hby d12_236)
  refine Go.step (fun _ k => st183 _ (XS.iload X183.here hx rfl (hb hby d12_239) rfl (XS.iconst X183.here hx rfl (hb hby d12_241) (XS.iadd X183.here hx rfl (hb hby d12_242) rfl (XS.iloadN X183.here hx rfl (hb hby d12_243) rfl k))))) ?_
  show Go p e below s _ _ _ T183 (mkF m 244 #[.val (.ref b73), .val (.int (0 : Int32)), .val (.int (1 : Int32)), .val (.int p5), .val (.int p6), .val (.int p5), .val (.int (97 : Int32)), .val (.int (1 : Int32)), .val (.int (0 : Int32)), .unset] [(.int p5), (.int (2 : Int32)), (.ref b96_134)])
  obtain ⟨cl184, Ar184, qq184, Sz184, Ng184, Hs184, Ft184⟩ := id f180
  have in184 : ¬ ((2 : Int32) < 0 ∨ cl184.slots.size ≤ ((2 : Int32)).toNatClampNeg) := (inb_of Sz184 ⟨by decide, by decide⟩)
  obtain ⟨T184, h184, X184, e184, W184, st184⟩ := stI X183 hx hZ e183 Ar184 (j := (2 : Int32)) in184 (g := (mkF m 244 #[.val (.ref b73), .val (.int (0 : Int32)), .val (.int (1 : Int32)), .val (.int p5), .val (.int p6), .val (.int p5), .val (.int (97 : Int32)), .val (.int (1 : Int32)), .val (.int (0 : Int32)), .unset] [(.int p5), (.int (2 : Int32)), (.ref b96_134)])) rfl rfl (hb hby d12_244)
  have f185 : Arv Z h184 b96_134 k96_134 .int (12 : Int32) [(.int (0 : Int32)), (.int (1 : Int32)), (.int p5), (.int (0 : Int32)), (.int (0 : Int32)), (.int (0 : Int32)), (.int (0 : Int32)), (.int (0 : Int32)), (.int (0 : Int32)), (.int (0 : Int32)), (.int (0 : Int32)), (.int (0 : Int32))] (.int (0 : Int32)) := Arv.set Ar184 qq184 Sz184 Ng184 Hs184 Ft184 rfl W184 2 rfl (Nat.le_of_ble_eq_true rfl)
  have N186 := Fr.snoc X184 N181 g_b96_134
  refine Go.step (fun _ k => st184 _ (XS.aloadN X184.here hx rfl (hb hby d12_245) rfl rfl k)) ?_
  show Go p e below s _ _ _ T184 (mkF m 246 #[.val (.ref b73), .val (.int (0 : Int32)), .val (.int (1 : Int32)), .val (.int p5), .val (.int p6), .val (.int p5), .val (.int (97 : Int32)), .val (.int (1 : Int32)), .val (.int (0 : Int32)), .unset] [(.ref b73)])
  have f187 := (f182.other W184 (Or.inl ne_b73_b96_134))
  obtain ⟨T188, X188, e188, st188⟩ := getF X184 hx hZ hown (host := "") (Or.inl (tw51 hw)) Via.refl e184 f187 (g := (mkF m 246 #[.val (.ref b73), .val (.int (0 : Int32)), .val (.int (1 : Int32)), .val (.int p5), .val (.int p6), .val (.int p5), .val (.int (97 : Int32)), .val (.int (1 : Int32)), .val (.int (0 : Int32)), .unset] [(.ref b73)])) rfl rfl (hb hby d12_246)
  refine Go.step (fun _ k => st188 _ (XS.iload X188.here hx rfl (hb hby d12_249) rfl (XS.iconst X188.here hx rfl (hb hby d12_251) (XS.iadd X188.here hx rfl (hb hby d12_252) rfl (XS.iload X188.here hx rfl (hb hby d12_253) rfl k))))) ?_
  show Go p e below s _ _ _ T188 (mkF m 255 #[.val (.ref b73), .val (.int (0 : Int32)), .val (.int (1 : Int32)), .val (.int p5), .val (.int p6), .val (.int p5), .val (.int (97 : Int32)), .val (.int (1 : Int32)), .val (.int (0 : Int32)), .unset] [(.int p6), (.int (3 : Int32)), (.ref b96_134)])
  obtain ⟨cl189, Ar189, qq189, Sz189, Ng189, Hs189, Ft189⟩ := id f185
  have in189 : ¬ ((3 : Int32) < 0 ∨ cl189.slots.size ≤ ((3 : Int32)).toNatClampNeg) := (inb_of Sz189 ⟨by decide, by decide⟩)
  obtain ⟨T189, h189, X189, e189, W189, st189⟩ := stI X188 hx hZ e188 Ar189 (j := (3 : Int32)) in189 (g := (mkF m 255 #[.val (.ref b73), .val (.int (0 : Int32)), .val (.int (1 : Int32)), .val (.int p5), .val (.int p6), .val (.int p5), .val (.int (97 : Int32)), .val (.int (1 : Int32)), .val (.int (0 : Int32)), .unset] [(.int p6), (.int (3 : Int32)), (.ref b96_134)])) rfl rfl (hb hby d12_255)
  have f190 : Arv Z h189 b96_134 k96_134 .int (12 : Int32) [(.int (0 : Int32)), (.int (1 : Int32)), (.int p5), (.int p6), (.int (0 : Int32)), (.int (0 : Int32)), (.int (0 : Int32)), (.int (0 : Int32)), (.int (0 : Int32)), (.int (0 : Int32)), (.int (0 : Int32)), (.int (0 : Int32))] (.int (0 : Int32)) := Arv.set Ar189 qq189 Sz189 Ng189 Hs189 Ft189 rfl W189 3 rfl (Nat.le_of_ble_eq_true rfl)
  have N191 := Fr.snoc X189 N186 g_b96_134
  refine Go.step (fun _ k => st189 _ (XS.aloadN X189.here hx rfl (hb hby d12_256) rfl rfl k)) ?_
  show Go p e below s _ _ _ T189 (mkF m 257 #[.val (.ref b73), .val (.int (0 : Int32)), .val (.int (1 : Int32)), .val (.int p5), .val (.int p6), .val (.int p5), .val (.int (97 : Int32)), .val (.int (1 : Int32)), .val (.int (0 : Int32)), .unset] [(.ref b73)])
  have f192 := (f187.other W189 (Or.inl ne_b73_b96_134))
  obtain ⟨T193, X193, e193, st193⟩ := getF X189 hx hZ hown (host := "") (Or.inl (tw51 hw)) Via.refl e189 f192 (g := (mkF m 257 #[.val (.ref b73), .val (.int (0 : Int32)), .val (.int (1 : Int32)), .val (.int p5), .val (.int p6), .val (.int p5), .val (.int (97 : Int32)), .val (.int (1 : Int32)), .val (.int (0 : Int32)), .unset] [(.ref b73)])) rfl rfl (hb hby d12_257)
  refine Go.step (fun _ k => st193 _ (XS.iload X193.here hx rfl (hb hby d12_260) rfl (XS.iconst X193.here hx rfl (hb hby d12_262) (XS.iadd X193.here hx rfl (hb hby d12_263) rfl (XS.iload X193.here hx rfl (hb hby d12_264) rfl k))))) ?_
  show Go p e below s _ _ _ T193 (mkF m 266 #[.val (.ref b73), .val (.int (0 : Int32)), .val (.int (1 : Int32)), .val (.int p5), .val (.int p6), .val (.int p5), .val (.int (97 : Int32)), .val (.int (1 : Int32)), .val (.int (0 : Int32)), .unset] [(.int p5), (.int (4 : Int32)), (.ref b96_134)])
  obtain ⟨cl194, Ar194, qq194, Sz194, Ng194, Hs194, Ft194⟩ := id f190
  have in194 : ¬ ((4 : Int32) < 0 ∨ cl194.slots.size ≤ ((4 : Int32)).toNatClampNeg) := (inb_of Sz194 ⟨by decide, by decide⟩)
  obtain ⟨T194, h194, X194, e194, W194, st194⟩ := stI X193 hx hZ e193 Ar194 (j := (4 : Int32)) in194 (g := (mkF m 266 #[.val (.ref b73), .val (.int (0 : Int32)), .val (.int (1 : Int32)), .val (.int p5), .val (.int p6), .val (.int p5), .val (.int (97 : Int32)), .val (.int (1 : Int32)), .val (.int (0 : Int32)), .unset] [(.int p5), (.int (4 : Int32)), (.ref b96_134)])) rfl rfl (hb hby d12_266)
  have f195 : Arv Z h194 b96_134 k96_134 .int (12 : Int32) [(.int (0 : Int32)), (.int (1 : Int32)), (.int p5), (.int p6), (.int p5), (.int (0 : Int32)), (.int (0 : Int32)), (.int (0 : Int32)), (.int (0 : Int32)), (.int (0 : Int32)), (.int (0 : Int32)), (.int (0 : Int32))] (.int (0 : Int32)) := Arv.set Ar194 qq194 Sz194 Ng194 Hs194 Ft194 rfl W194 4 rfl (Nat.le_of_ble_eq_true rfl)
  have N196 := Fr.snoc X194 N191 g_b96_134
  refine Go.step (fun _ k => st194 _ (XS.aloadN X194.here hx rfl (hb hby d12_267) rfl rfl k)) ?_
  show Go p e below s _ _ _ T194 (mkF m 268 #[.val (.ref b73), .val (.int (0 : Int32)), .val (.int (1 : Int32)), .val (.int p5), .val (.int p6), .val (.int p5), .val (.int (97 : Int32)), .val (.int (1 : Int32)), .val (.int (0 : Int32)), .unset] [(.ref b73)])
  have f197 := (f192.other W194 (Or.inl ne_b73_b96_134))
  obtain ⟨T198, X198, e198, st198⟩ := getF X194 hx hZ hown (host := "") (Or.inl (tw51 hw)) Via.refl e194 f197 (g := (mkF m 268 #[.val (.ref b73), .val (.int (0 : Int32)), .val (.int (1 : Int32)), .val (.int p5), .val (.int p6), .val (.int p5), .val (.int (97 : Int32)), .val (.int (1 : Int32)), .val (.int (0 : Int32)), .unset] [(.ref b73)])) rfl rfl (hb hby d12_268)
  refine Go.step (fun _ k => st198 _ (XS.iload X198.here hx rfl (hb hby d12_271) rfl (XS.iconst X198.here hx rfl (hb hby d12_273) (XS.iadd X198.here hx rfl (hb hby d12_274) rfl (XS.iload X198.here hx rfl (hb hby d12_275) rfl k))))) ?_
  show Go p e below s _ _ _ T198 (mkF m 277 #[.val (.ref b73), .val (.int (0 : Int32)), .val (.int (1 : Int32)), .val (.int p5), .val (.int p6), .val (.int p5), .val (.int (97 : Int32)), .val (.int (1 : Int32)), .val (.int (0 : Int32)), .unset] [(.int (97 : Int32)), (.int (5 : Int32)), (.ref b96_134)])
  obtain ⟨cl199, Ar199, qq199, Sz199, Ng199, Hs199, Ft199⟩ := id f195
  have in199 : ¬ ((5 : Int32) < 0 ∨ cl199.slots.size ≤ ((5 : Int32)).toNatClampNeg) := (inb_of Sz199 ⟨by decide, by decide⟩)
  obtain ⟨T199, h199, X199, e199, W199, st199⟩ := stI X198 hx hZ e198 Ar199 (j := (5 : Int32)) in199 (g := (mkF m 277 #[.val (.ref b73), .val (.int (0 : Int32)), .val (.int (1 : Int32)), .val (.int p5), .val (.int p6), .val (.int p5), .val (.int (97 : Int32)), .val (.int (1 : Int32)), .val (.int (0 : Int32)), .unset] [(.int (97 : Int32)), (.int (5 : Int32)), (.ref b96_134)])) rfl rfl (hb hby d12_277)
  have f200 : Arv Z h199 b96_134 k96_134 .int (12 : Int32) [(.int (0 : Int32)), (.int (1 : Int32)), (.int p5), (.int p6), (.int p5), (.int (97 : Int32)), (.int (0 : Int32)), (.int (0 : Int32)), (.int (0 : Int32)), (.int (0 : Int32)), (.int (0 : Int32)), (.int (0 : Int32))] (.int (0 : Int32)) := Arv.set Ar199 qq199 Sz199 Ng199 Hs199 Ft199 rfl W199 5 rfl (Nat.le_of_ble_eq_true rfl)
  have N201 := Fr.snoc X199 N196 g_b96_134
  refine Go.step (fun _ k => st199 _ (XS.aloadN X199.here hx rfl (hb hby d12_278) rfl rfl (XS.dup X199.here hx rfl (hb hby d12_279) rfl rfl k))) ?_
  show Go p e below s _ _ _ T199 (mkF m 280 #[.val (.ref b73), .val (.int (0 : Int32)), .val (.int (1 : Int32)), .val (.int p5), .val (.int p6), .val (.int p5), .val (.int (97 : Int32)), .val (.int (1 : Int32)), .val (.int (0 : Int32)), .unset] [(.ref b73), (.ref b73)])
  have f202 := ((((((F_size_b73.other W172 (Or.inl ne_b73_b96_134)).other W179 (Or.inl ne_b73_b96_134)).other W184 (Or.inl ne_b73_b96_134)).other W189 (Or.inl ne_b73_b96_134)).other W194 (Or.inl ne_b73_b96_134)).other W199 (Or.inl ne_b73_b96_134))
  obtain ⟨T203, X203, e203, st203⟩ := getF X199 hx hZ hown (host := "") (Or.inl (tw104 hw)) Via.refl e199 f202 (g := (mkF m 280 #[.val (.ref b73), .val (.int (0 : Int32)), .val (.int (1 : Int32)), .val (.int p5), .val (.int p6), .val (.int p5), .val (.int (97 : Int32)), .val (.int (1 : Int32)), .val (.int (0 : Int32)), .unset] [(.ref b73), (.ref b73)])) rfl rfl (hb hby d12_280)
  refine Go.step (fun _ k => st203 _ (XS.iconst X203.here hx rfl (hb hby d12_283) (XS.iadd X203.here hx rfl (hb hby d12_284) rfl k))) ?_
  show Go p e below s _ _ _ T203 (mkF m 285 #[.val (.ref b73), .val (.int (0 : Int32)), .val (.int (1 : Int32)), .val (.int p5), .val (.int p6), .val (.int p5), .val (.int (97 : Int32)), .val (.int (1 : Int32)), .val (.int (0 : Int32)), .unset] [(.int (1 : Int32)), (.ref b73)])
  have f204 := ((((((E_b73.wr W172).wr W179).wr W184).wr W189).wr W194).wr W199)
  obtain ⟨T205, h205, X205, e205, W205, st205⟩ := putF X203 hx hZ hown (host := "") (Or.inl (tw104 hw)) Via.refl e203 f202 f204 (Or.inl (tw105 hw)) (tw31 hw) (ty := .int) (by decide) rfl rfl (g := (mkF m 285 #[.val (.ref b73), .val (.int (0 : Int32)), .val (.int (1 : Int32)), .val (.int p5), .val (.int p6), .val (.int p5), .val (.int (97 : Int32)), .val (.int (1 : Int32)), .val (.int (0 : Int32)), .unset] [(.int (1 : Int32)), (.ref b73)])) rfl rfl (hb hby d12_285)
  have f206 := f202.same W205
  have N207 := Fr.snoc X205 N201 g_b73
  refine Go.step (fun _ k => st205 _ (XS.aloadN X205.here hx rfl (hb hby d12_288) rfl rfl k)) ?_
  show Go p e below s _ _ _ T205 (mkF m 289 #[.val (.ref b73), .val (.int (0 : Int32)), .val (.int (1 : Int32)), .val (.int p5), .val (.int p6), .val (.int p5), .val (.int (97 : Int32)), .val (.int (1 : Int32)), .val (.int (0 : Int32)), .unset] [(.ref b73)])
  have f208 := (((((((F_slots_b73.other W172 (Or.inl ne_b73_b96_134)).other W179 (Or.inl ne_b73_b96_134)).other W184 (Or.inl ne_b73_b96_134)).other W189 (Or.inl ne_b73_b96_134)).other W194 (Or.inl ne_b73_b96_134)).other W199 (Or.inl ne_b73_b96_134)).other W205 (Or.inr (slot_ne (Or.inl (tw63 hw)) (Or.inl (tw105 hw)) (by decide) (t := (.array .int)) (t' := .int) (by decide) (by decide))))
  obtain ⟨T209, X209, e209, st209⟩ := getF X205 hx hZ hown (host := "") (Or.inl (tw62 hw)) Via.refl e205 f208 (g := (mkF m 289 #[.val (.ref b73), .val (.int (0 : Int32)), .val (.int (1 : Int32)), .val (.int p5), .val (.int p6), .val (.int p5), .val (.int (97 : Int32)), .val (.int (1 : Int32)), .val (.int (0 : Int32)), .unset] [(.ref b73)])) rfl rfl (hb hby d12_289)
  refine Go.step (fun _ k => st209 _ (XS.iload X209.here hx rfl (hb hby d12_292) rfl (XS.aloadN X209.here hx rfl (hb hby d12_294) rfl rfl k))) ?_
  show Go p e below s _ _ _ T209 (mkF m 295 #[.val (.ref b73), .val (.int (0 : Int32)), .val (.int (1 : Int32)), .val (.int p5), .val (.int p6), .val (.int p5), .val (.int (97 : Int32)), .val (.int (1 : Int32)), .val (.int (0 : Int32)), .unset] [(.ref b73), (.int (1 : Int32)), (.ref b108_134)])
  obtain ⟨T210, X210, e210, st210⟩ := getF X209 hx hZ hown (host := "") (Or.inl (tw104 hw)) Via.refl e209 f206 (g := (mkF m 295 #[.val (.ref b73), .val (.int (0 : Int32)), .val (.int (1 : Int32)), .val (.int p5), .val (.int p6), .val (.int p5), .val (.int (97 : Int32)), .val (.int (1 : Int32)), .val (.int (0 : Int32)), .unset] [(.ref b73), (.int (1 : Int32)), (.ref b108_134)])) rfl rfl (hb hby d12_295)
  refine Go.step (fun _ k => st210 _ k) ?_
  show Go p e below s _ _ _ T210 (mkF m 298 #[.val (.ref b73), .val (.int (0 : Int32)), .val (.int (1 : Int32)), .val (.int p5), .val (.int p6), .val (.int p5), .val (.int (97 : Int32)), .val (.int (1 : Int32)), .val (.int (0 : Int32)), .unset] [(.int (1 : Int32)), (.int (1 : Int32)), (.ref b108_134)])
  have f212 := (((((((V_b108_134.other W172 ne_b108_134_b96_134).other W179 ne_b108_134_b96_134).other W184 ne_b108_134_b96_134).other W189 ne_b108_134_b96_134).other W194 ne_b108_134_b96_134).other W199 ne_b108_134_b96_134).other W205 ne_b108_134_b73)
  obtain ⟨cl213, Ar213, qq213, Sz213, Ng213, Hs213, Ft213⟩ := id f212
  have in213 : ¬ ((1 : Int32) < 0 ∨ cl213.slots.size ≤ ((1 : Int32)).toNatClampNeg) := (inb_of Sz213 ⟨by decide, by decide⟩)
  obtain ⟨T213, h213, X213, e213, W213, st213⟩ := stI X210 hx hZ e210 Ar213 (j := (1 : Int32)) in213 (g := (mkF m 298 #[.val (.ref b73), .val (.int (0 : Int32)), .val (.int (1 : Int32)), .val (.int p5), .val (.int p6), .val (.int p5), .val (.int (97 : Int32)), .val (.int (1 : Int32)), .val (.int (0 : Int32)), .unset] [(.int (1 : Int32)), (.int (1 : Int32)), (.ref b108_134)])) rfl rfl (hb hby d12_298)
  have f215 : Arv Z h213 b108_134 k108_134 .int (8 : Int32) [(.int (0 : Int32)), (.int (1 : Int32)), (.int (0 : Int32)), (.int (0 : Int32)), (.int (0 : Int32)), (.int (0 : Int32)), (.int (0 : Int32)), (.int (0 : Int32))] (.int (0 : Int32)) := Arv.set Ar213 qq213 Sz213 Ng213 Hs213 Ft213 rfl W213 1 rfl (Nat.le_of_ble_eq_true rfl)
  have N216 := Fr.snoc X213 N207 g_b108_134
  refine Go.step (fun _ k => st213 _ (XS.aloadN X213.here hx rfl (hb hby d12_299) rfl rfl k)) ?_
  show Go p e below s _ _ _ T213 (mkF m 300 #[.val (.ref b73), .val (.int (0 : Int32)), .val (.int (1 : Int32)), .val (.int p5), .val (.int p6), .val (.int p5), .val (.int (97 : Int32)), .val (.int (1 : Int32)), .val (.int (0 : Int32)), .unset] [(.ref b73)])
  have f217 := (f206.other W213 (Or.inl (Ne.symm ne_b108_134_b73)))
  obtain ⟨T218, X218, e218, st218⟩ := getF X213 hx hZ hown (host := "") (Or.inl (tw104 hw)) Via.refl e213 f217 (g := (mkF m 300 #[.val (.ref b73), .val (.int (0 : Int32)), .val (.int (1 : Int32)), .val (.int p5), .val (.int p6), .val (.int p5), .val (.int (97 : Int32)), .val (.int (1 : Int32)), .val (.int (0 : Int32)), .unset] [(.ref b73)])) rfl rfl (hb hby d12_300)
  refine Go.step (fun _ k => st218 _ (XS.iconst X218.here hx rfl (hb hby d12_303) (XS.imul X218.here hx rfl (hb hby d12_304) rfl (XS.aloadN X218.here hx rfl (hb hby d12_305) rfl rfl k)))) ?_
  show Go p e below s _ _ _ T218 (mkF m 306 #[.val (.ref b73), .val (.int (0 : Int32)), .val (.int (1 : Int32)), .val (.int p5), .val (.int p6), .val (.int p5), .val (.int (97 : Int32)), .val (.int (1 : Int32)), .val (.int (0 : Int32)), .unset] [(.ref b73), (.int (2 : Int32))])
  have f219 := (f208.other W213 (Or.inl (Ne.symm ne_b108_134_b73)))
  obtain ⟨T220, X220, e220, st220⟩ := getF X218 hx hZ hown (host := "") (Or.inl (tw62 hw)) Via.refl e218 f219 (g := (mkF m 306 #[.val (.ref b73), .val (.int (0 : Int32)), .val (.int (1 : Int32)), .val (.int p5), .val (.int p6), .val (.int p5), .val (.int (97 : Int32)), .val (.int (1 : Int32)), .val (.int (0 : Int32)), .unset] [(.ref b73), (.int (2 : Int32))])) rfl rfl (hb hby d12_306)
  refine Go.step (fun _ k => st220 _ k) ?_
  show Go p e below s _ _ _ T220 (mkF m 309 #[.val (.ref b73), .val (.int (0 : Int32)), .val (.int (1 : Int32)), .val (.int p5), .val (.int p6), .val (.int p5), .val (.int (97 : Int32)), .val (.int (1 : Int32)), .val (.int (0 : Int32)), .unset] [(.ref b108_134), (.int (2 : Int32))])
  obtain ⟨cl221, Ar221, -, Sz221, Ng221, -, -⟩ := id f215
  have aln221 := X220.arraylength hx (by rw [e220]; exact Ar221.1) (State.isArrayOf_alike hZ.alike Ar221.2.1) (g := (mkF m 309 #[.val (.ref b73), .val (.int (0 : Int32)), .val (.int (1 : Int32)), .val (.int p5), .val (.int p6), .val (.int p5), .val (.int (97 : Int32)), .val (.int (1 : Int32)), .val (.int (0 : Int32)), .unset] [(.ref b108_134), (.int (2 : Int32))])) rfl rfl (hb hby d12_309)
  rw [len_of Sz221 Ng221] at aln221
  refine Go.step (fun _ k => aln221 _ (XS.icmpYes X220.here hx rfl (pc0 := 310) (pc' := 324) rfl (hb hby d12_310) rfl (flt (by decide)).2.2.2 (by decide) (by decide) (XS.iconst X220.here hx rfl (hb hby d12_324) k))) ?_
  show Go p e below s _ _ _ T220 (mkF m 325 #[.val (.ref b73), .val (.int (0 : Int32)), .val (.int (1 : Int32)), .val (.int p5), .val (.int p6), .val (.int p5), .val (.int (97 : Int32)), .val (.int (1 : Int32)), .val (.int (0 : Int32)), .unset] [(.int (-1 : Int32))])
  have f222 := (((((((((Keep.refl h0 [b96_134, b73, b108_134]).wr W172 (Or.inl (List.mem_of_getElem? (i := 0) rfl))).wr W179 (Or.inl (List.mem_of_getElem? (i := 0) rfl))).wr W184 (Or.inl (List.mem_of_getElem? (i := 0) rfl))).wr W189 (Or.inl (List.mem_of_getElem? (i := 0) rfl))).wr W194 (Or.inl (List.mem_of_getElem? (i := 0) rfl))).wr W199 (Or.inl (List.mem_of_getElem? (i := 0) rfl))).wr W205 (Or.inl (List.mem_of_getElem? (i := 1) rfl))).wr W213 (Or.inl (List.mem_of_getElem? (i := 2) rfl)))
  have f223 := ((f200.other W205 (Ne.symm ne_b73_b96_134)).other W213 (Ne.symm ne_b108_134_b96_134))
  have f224 := ((((((((F_text_b73.other W172 (Or.inl ne_b73_b96_134)).other W179 (Or.inl ne_b73_b96_134)).other W184 (Or.inl ne_b73_b96_134)).other W189 (Or.inl ne_b73_b96_134)).other W194 (Or.inl ne_b73_b96_134)).other W199 (Or.inl ne_b73_b96_134)).other W205 (Or.inr (slot_ne (Or.inr (tw43 hw)) (Or.inl (tw105 hw)) (by decide) (t := (.object xs23)) (t' := .int) (by decide) (by decide)))).other W213 (Or.inl (Ne.symm ne_b108_134_b73)))
  have f225 := ((((((((F_keyed_b73.other W172 (Or.inl ne_b73_b96_134)).other W179 (Or.inl ne_b73_b96_134)).other W184 (Or.inl ne_b73_b96_134)).other W189 (Or.inl ne_b73_b96_134)).other W194 (Or.inl ne_b73_b96_134)).other W199 (Or.inl ne_b73_b96_134)).other W205 (Or.inr (slot_ne (Or.inl (tw74 hw)) (Or.inl (tw105 hw)) (by decide) (t := .boolean) (t' := .int) (by decide) (by decide)))).other W213 (Or.inl (Ne.symm ne_b108_134_b73)))
  have f226 := (((f197.other W199 (Or.inl ne_b73_b96_134)).other W205 (Or.inr (slot_ne (Or.inl (tw52 hw)) (Or.inl (tw105 hw)) (by decide) (t := (.array .int)) (t' := .int) (by decide) (by decide)))).other W213 (Or.inl (Ne.symm ne_b108_134_b73)))
  have f227 := ((((((((F_lineEnds_b73.other W172 (Or.inl ne_b73_b96_134)).other W179 (Or.inl ne_b73_b96_134)).other W184 (Or.inl ne_b73_b96_134)).other W189 (Or.inl ne_b73_b96_134)).other W194 (Or.inl ne_b73_b96_134)).other W199 (Or.inl ne_b73_b96_134)).other W205 (Or.inr (slot_ne (Or.inr (tw45 hw)) (Or.inl (tw105 hw)) (by decide) (t := (.object xs3)) (t' := .int) (by decide) (by decide)))).other W213 (Or.inl (Ne.symm ne_b108_134_b73)))
  exact Go.retI X220 hx hlk Bd.returns (hb hby d12_325) e220 ⟨rfl, N216, f222, f223, f224, f225, f219, f217, f226, f227, f215⟩ (by decide) (by decide)

theorem ef_StringLatin1_charAt_1 (m : MethodId) (x0 : Addr) (x1 : Int32) : entryFrame m #[(.ref x0), (.int x1)] 2 = mkF m 0 #[.val (.ref x0), .val (.int x1)] [] := by first | (simp [entryFrame, mkF, argsToLocals, Value.category]; done) | rfl
def Q_StringLatin1_charAt_1 (Z : State) (b21_41_64_71 : Addr) (k21_41_64_71 : ClassId) (fv : Value) (h0 : Heap) (n0 : Nat) (v : Option Value) (h : Heap) (L : List Loc) : Prop := v = some (.int (98 : Int32)) ∧ Fr n0 L ∧ h = h0
set_option maxRecDepth 65536 in
set_option maxHeartbeats 40000000 in
theorem rm_StringLatin1_charAt_1 (l : Launch) (Z : State) (a0 : Array Value) (hw : ∀ d ∈ tables_1, d.before a0 Z = true) (ws : List Jvm.Cond) (b21_41_64_71 : Addr) (k21_41_64_71 : ClassId) (fv : Value) (h0 : Heap) (n0 : Nat) (Z0 : n0 ≤ h0.size) (V_b21_41_64_71 : Arv Z h0 b21_41_64_71 k21_41_64_71 .byte (2 : Int32) [(.int (97 : Int32)), (.int (98 : Int32))] (.int (0 : Int32))) (Z_S_SIOOBE_FORMATTER : Sta Z Z.heap xs5 xs22 xs6 fv) (hfv : fv.isRef = true) (O0 : Old Z n0 h0) :
    MetFree l xm9 (head1 (Jvm.Cond.code xm9 jdk_43_method_2_code 2 (some .char) :: ws) xr7) (fun a U => a = #[(.ref b21_41_64_71), (.int (1 : Int32))] ∧ Z.Warmed39 U.vm ∧ U.heap = h0) (fun _ _ _ _ _ => True) (fun _ U o U' => ∃ v L, o = .returned v ∧ Q_StringLatin1_charAt_1 Z b21_41_64_71 k21_41_64_71 fv h0 n0 v U'.heap L ∧ FrameEnd U o U' L xr7.cells xr7.slots) := by
  refine MetFree.of_bodySF (plainFor_of_name pn_6) hisR ?_
  intro p e s m args below meth c s₁ Bd hml0 hP hK
  obtain ⟨rfl, hZ, hh⟩ := hP
  have hx := Bd.exec
  have hby := Bd.bytes
  have hlk : meth.locks = false := BodyLoose.notSynchronized Bd
  have hml : c.maxLocals = 2 := hml0
  have hown : s.vm.findClass xs13 = some m.cls := findClass_of_methodNamed Bd.named
  have hnm := (name_of_methodNamed Bd.named Bd.method).1
  have X0 : Stand p l e xr7 s m #[(.ref b21_41_64_71), (.int (1 : Int32))] below meth c s₁ [] 0 0 := Stand.of_body Bd
  have e0 : s₁.heap = h0 := by rw [← hh, Bd.state]; rfl
  have N0 := Fr.nil n0
  show Go p e below s (Q_StringLatin1_charAt_1 Z b21_41_64_71 k21_41_64_71 fv h0 n0) xr7.cells xr7.slots s₁ (entryFrame m #[(.ref b21_41_64_71), (.int (1 : Int32))] 2)
  refine Go.cast (ef_StringLatin1_charAt_1 m b21_41_64_71 (1 : Int32)) ?_
  show Go p e below s _ _ _ s₁ (mkF m 0 #[.val (.ref b21_41_64_71), .val (.int (1 : Int32))] [])
  refine Go.step (fun _ k => XS.iloadN X0.here hx rfl (hb hby d17_0) rfl (XS.aloadN X0.here hx rfl (hb hby d17_1) rfl rfl k)) ?_
  show Go p e below s _ _ _ s₁ (mkF m 2 #[.val (.ref b21_41_64_71), .val (.int (1 : Int32))] [(.ref b21_41_64_71), (.int (1 : Int32))])
  obtain ⟨cl245, Ar245, -, Sz245, Ng245, -, -⟩ := id V_b21_41_64_71
  have aln245 := X0.arraylength hx (by rw [e0]; exact Ar245.1) (State.isArrayOf_alike hZ.alike Ar245.2.1) (g := (mkF m 2 #[.val (.ref b21_41_64_71), .val (.int (1 : Int32))] [(.ref b21_41_64_71), (.int (1 : Int32))])) rfl rfl (hb hby d17_2)
  rw [len_of Sz245 Ng245] at aln245
  refine Go.step (fun _ k => aln245 _ k) ?_
  show Go p e below s _ _ _ s₁ (mkF m 3 #[.val (.ref b21_41_64_71), .val (.int (1 : Int32))] [(.int (2 : Int32)), (.int (1 : Int32))])
  obtain ⟨_, _, ⟨T246, L246, k246, n246⟩, -, X246, ⟨Lc246, hQ246, l246, y246, z246⟩, st246⟩ := Jvm.LawKit.callS X0 hx (y := xm4) hown (mvT hZ (tw92 hw)) (mvT hZ (tw93 hw)) (mvT hZ (tw3 hw)) (mvT hZ (tw94 hw)) (by decide) (backOf (W := 0) (rm_schk l Z a0 hw [] (1 : Int32) (2 : Int32) fv h0 n0 Z0 O0 Z_S_SIOOBE_FORMATTER hfv (by decide) (by decide)) hZ (tw94 hw) (tw3 hw) (by decide) (by decide)) (g := (mkF m 3 #[.val (.ref b21_41_64_71), .val (.int (1 : Int32))] [(.int (2 : Int32)), (.int (1 : Int32))])) rfl (by rw [hml]; rfl) (argsL := [(.int (1 : Int32)), (.int (2 : Int32))]) (rest := []) (lenOf pd_11 rfl) rfl (by show 2 * 0 + _ ≤ _; exact Nat.le_of_eq rfl) (hb hby d17_3) (fun _ _ => ⟨rfl, e0, (by decide : 0 + 0 ≤ _), (by decide : 0 + 0 ≤ _)⟩)
  dsimp only [Pt.U, Pt.locs, Pt.cells, Pt.slots] at X246 l246 y246 z246 st246 hQ246
  subst l246 y246 z246
  obtain ⟨rfl, N246q, eq246⟩ := hQ246
  have N247 := Fr.app N0 N246q
  refine Go.step (fun _ k => st246 _ (XS.aloadN X246.here hx rfl (hb hby d17_6) rfl rfl (XS.iloadN X246.here hx rfl (hb hby d17_7) rfl k))) ?_
  show Go p e below s _ _ _ T246 (mkF m 8 #[.val (.ref b21_41_64_71), .val (.int (1 : Int32))] [(.int (1 : Int32)), (.ref b21_41_64_71)])
  obtain ⟨cl248, Ar248, -, Sz248, Ng248, Hs248, Ft248⟩ := id V_b21_41_64_71
  have in248 : ¬ ((1 : Int32) < 0 ∨ cl248.slots.size ≤ ((1 : Int32)).toNatClampNeg) := (inb_of Sz248 ⟨by decide, by decide⟩)
  have at248 : cl248.slots[((1 : Int32)).toNatClampNeg]? = some (.int (98 : Int32)) := Hs248.at in248 rfl
  refine Go.step (fun _ k => X246.baloadBytes hx (j := (1 : Int32)) (v := (.int (98 : Int32))) (by rw [eq246]; exact Ar248.1) (State.isArrayOf_alike hZ.alike Ar248.2.1) Ar248.2.2 in248 at248 (g := (mkF m 8 #[.val (.ref b21_41_64_71), .val (.int (1 : Int32))] [(.int (1 : Int32)), (.ref b21_41_64_71)])) rfl rfl (hb hby d17_8) _ (XS.sipush X246.here hx rfl (hb hby d17_9) (XS.iand X246.here hx rfl (hb hby d17_12) rfl (XS.i2c X246.here hx rfl (hb hby d17_13) rfl k)))) ?_
  show Go p e below s _ _ _ T246 (mkF m 14 #[.val (.ref b21_41_64_71), .val (.int (1 : Int32))] [(.int (98 : Int32))])
  exact Go.retN X246 hx hlk (t := .char) Bd.returns (by simp) (hb hby d17_14) eq246 ⟨rfl, N247, rfl⟩ (by decide) (by decide)

theorem ef_String_charAt_1 (m : MethodId) (x0 : Addr) (x1 : Int32) : entryFrame m #[(.ref x0), (.int x1)] 2 = mkF m 0 #[.val (.ref x0), .val (.int x1)] [] := by first | (simp [entryFrame, mkF, argsToLocals, Value.category]; done) | rfl
def Q_String_charAt_1 (Z : State) (b15 : Addr) (cs : Int32) (b21_41_64_71 : Addr) (k21_41_64_71 : ClassId) (fv : Value) (h0 : Heap) (n0 : Nat) (v : Option Value) (h : Heap) (L : List Loc) : Prop := v = some (.int (98 : Int32)) ∧ Fr n0 L ∧ h = h0
set_option maxRecDepth 65536 in
set_option maxHeartbeats 40000000 in
theorem rm_String_charAt_1 (l : Launch) (Z : State) (a0 : Array Value) (hw : ∀ d ∈ tables_1, d.before a0 Z = true) (ws : List Jvm.Cond) (b15 : Addr) (cs : Int32) (b21_41_64_71 : Addr) (k21_41_64_71 : ClassId) (fv : Value) (h0 : Heap) (n0 : Nat) (Z0 : n0 ≤ h0.size) (E_b15 : Exa Z h0 b15 xs23) (F_coder_b15 : Fld Z h0 b15 xs23 "coder" "B" (.int (0 : Int32))) (Z_S_COMPACT_STRINGS : Sta Z Z.heap xs23 xs24 "Z" (.int cs)) (O0 : Old Z n0 h0) (hcs : ¬ cs = (0 : Int32)) (F_value_b15 : Fld Z h0 b15 xs23 "value" "[B" (.ref b21_41_64_71)) (V_b21_41_64_71 : Arv Z h0 b21_41_64_71 k21_41_64_71 .byte (2 : Int32) [(.int (97 : Int32)), (.int (98 : Int32))] (.int (0 : Int32))) (Z_S_SIOOBE_FORMATTER : Sta Z Z.heap xs5 xs22 xs6 fv) (hfv : fv.isRef = true) :
    MetFree l xm16 (head1 (Jvm.Cond.code xm16 jdk_42_method_56_code 2 (some .char) :: ws) xr8) (fun a U => a = #[(.ref b15), (.int (1 : Int32))] ∧ Z.Warmed39 U.vm ∧ U.heap = h0) (fun _ _ _ _ _ => True) (fun _ U o U' => ∃ v L, o = .returned v ∧ Q_String_charAt_1 Z b15 cs b21_41_64_71 k21_41_64_71 fv h0 n0 v U'.heap L ∧ FrameEnd U o U' L xr8.cells xr8.slots) := by
  refine MetFree.of_bodySF (plainFor_of_name pn_1) hisR ?_
  intro p e s m args below meth c s₁ Bd hml0 hP hK
  obtain ⟨rfl, hZ, hh⟩ := hP
  have hx := Bd.exec
  have hby := Bd.bytes
  have hlk : meth.locks = false := BodyLoose.notSynchronized Bd
  have hml : c.maxLocals = 2 := hml0
  have hown : s.vm.findClass xs23 = some m.cls := findClass_of_methodNamed Bd.named
  have hnm := (name_of_methodNamed Bd.named Bd.method).1
  have X0 : Stand p l e xr8 s m #[(.ref b15), (.int (1 : Int32))] below meth c s₁ [] 0 0 := Stand.of_body Bd
  have e0 : s₁.heap = h0 := by rw [← hh, Bd.state]; rfl
  have N0 := Fr.nil n0
  show Go p e below s (Q_String_charAt_1 Z b15 cs b21_41_64_71 k21_41_64_71 fv h0 n0) xr8.cells xr8.slots s₁ (entryFrame m #[(.ref b15), (.int (1 : Int32))] 2)
  refine Go.cast (ef_String_charAt_1 m b15 (1 : Int32)) ?_
  show Go p e below s _ _ _ s₁ (mkF m 0 #[.val (.ref b15), .val (.int (1 : Int32))] [])
  refine Go.step (fun _ k => XS.aloadN X0.here hx rfl (hb hby d15_0) rfl rfl k) ?_
  show Go p e below s _ _ _ s₁ (mkF m 1 #[.val (.ref b15), .val (.int (1 : Int32))] [(.ref b15)])
  obtain ⟨cq242, kq242, q242a, q242b, q242c⟩ := isOf hZ e0 E_b15
  obtain ⟨_, _, ⟨T242, L242, k242, n242⟩, -, X242, ⟨Lc242, hQ242, l242, y242, z242⟩, st242⟩ := X0.virtualBack hx (y := xm13) (z := xm13) hown (mvT hZ (tw83 hw)) (mvT hZ (tw84 hw)) (notFace_of_selects (args := #[]) (mvT hZ (tw86 hw))) (mvT hZ (tw86 hw)) (mvT hZ (tw85 hw)) (by decide) (backOf (W := 0) (rm_String_isLatin1_0 l Z a0 hw [] b15 cs h0 n0 Z0 Z_S_COMPACT_STRINGS O0 hcs F_coder_b15) hZ (tw87 hw) (tw3 hw) (by decide) (by decide)) q242a q242c (g := (mkF m 1 #[.val (.ref b15), .val (.int (1 : Int32))] [(.ref b15)])) rfl (by rw [hml]; rfl) (Steps.refl _) (argsL := []) (rest := []) (lenOf pd_10 rfl) rfl (by show 2 * 0 + _ ≤ _; exact Nat.le_of_eq rfl) (hb hby d15_1) (fun _ _ => ⟨rfl, e0, (by decide : 0 + 0 ≤ _), (by decide : 0 + 0 ≤ _)⟩)
  dsimp only [Pt.U, Pt.locs, Pt.cells, Pt.slots] at X242 l242 y242 z242 st242 hQ242
  subst l242 y242 z242
  obtain ⟨rfl, N242q, eq242⟩ := hQ242
  have N243 := Fr.app N0 N242q
  refine Go.step (fun _ k => st242.trans (XS.ifNo X242.here hx rfl (hb hby d15_4) rfl ((if0 _ _).trans (feq (by decide)).1) (XS.aloadN X242.here hx rfl (hb hby d15_7) rfl rfl k))) ?_
  show Go p e below s _ _ _ T242 (mkF m 8 #[.val (.ref b15), .val (.int (1 : Int32))] [(.ref b15)])
  obtain ⟨T244, X244, e244, st244⟩ := getF X242 hx hZ hown (host := "") (Or.inl (tw28 hw)) Via.refl eq242 F_value_b15 (g := (mkF m 8 #[.val (.ref b15), .val (.int (1 : Int32))] [(.ref b15)])) rfl rfl (hb hby d15_8)
  refine Go.step (fun _ k => st244 _ (XS.iloadN X244.here hx rfl (hb hby d15_11) rfl k)) ?_
  show Go p e below s _ _ _ T244 (mkF m 12 #[.val (.ref b15), .val (.int (1 : Int32))] [(.int (1 : Int32)), (.ref b21_41_64_71)])
  obtain ⟨_, _, ⟨T249, L249, k249, n249⟩, -, X249, ⟨Lc249, hQ249, l249, y249, z249⟩, st249⟩ := Jvm.LawKit.callS X244 hx (y := xm9) hown (mvT hZ (tw88 hw)) (mvT hZ (tw89 hw)) (mvT hZ (tw90 hw)) (mvT hZ (tw91 hw)) (by decide) (backOf (W := 0) (rm_StringLatin1_charAt_1 l Z a0 hw [] b21_41_64_71 k21_41_64_71 fv h0 n0 Z0 V_b21_41_64_71 Z_S_SIOOBE_FORMATTER hfv O0) hZ (tw91 hw) (tw90 hw) (by decide) (by decide)) (g := (mkF m 12 #[.val (.ref b15), .val (.int (1 : Int32))] [(.int (1 : Int32)), (.ref b21_41_64_71)])) rfl (by rw [hml]; rfl) (argsL := [(.ref b21_41_64_71), (.int (1 : Int32))]) (rest := []) (lenOf pd_12 rfl) rfl (by show 2 * 0 + _ ≤ _; exact Nat.le_of_eq rfl) (hb hby d15_12) (fun _ _ => ⟨rfl, e244, (by decide : 0 + 0 ≤ _), (by decide : 0 + 0 ≤ _)⟩)
  dsimp only [Pt.U, Pt.locs, Pt.cells, Pt.slots] at X249 l249 y249 z249 st249 hQ249
  subst l249 y249 z249
  obtain ⟨rfl, N249q, eq249⟩ := hQ249
  have N250 := Fr.app N243 N249q
  refine Go.step (fun _ k => st249 _ k) ?_
  show Go p e below s _ _ _ T249 (mkF m 15 #[.val (.ref b15), .val (.int (1 : Int32))] [(.int (98 : Int32))])
  exact Go.retN X249 hx hlk (t := .char) Bd.returns (by simp) (hb hby d15_15) eq249 ⟨rfl, N250, rfl⟩ (by decide) (by decide)

theorem ef_PropertyIndex_plainHash_1 (m : MethodId) (x0 : Addr) (x1 : Int32) (x2 : Int32) : entryFrame m #[(.ref x0), (.int x1), (.int x2)] 5 = mkF m 0 #[.val (.ref x0), .val (.int x1), .val (.int x2), .unset, .unset] [] := by first | (simp [entryFrame, mkF, argsToLocals, Value.category]; done) | rfl
def Q_PropertyIndex_plainHash_1 (Z : State) (b15 : Addr) (cs : Int32) (b21_41_64_71 : Addr) (k21_41_64_71 : ClassId) (fv : Value) (h0 : Heap) (n0 : Nat) (v : Option Value) (h : Heap) (L : List Loc) : Prop := v = some (.int (98 : Int32)) ∧ Fr n0 L ∧ h = h0
set_option maxRecDepth 65536 in
set_option maxHeartbeats 40000000 in
theorem rm_PropertyIndex_plainHash_1 (l : Launch) (Z : State) (a0 : Array Value) (hw : ∀ d ∈ tables_1, d.before a0 Z = true) (ws : List Jvm.Cond) (b15 : Addr) (cs : Int32) (b21_41_64_71 : Addr) (k21_41_64_71 : ClassId) (fv : Value) (h0 : Heap) (n0 : Nat) (Z0 : n0 ≤ h0.size) (E_b15 : Exa Z h0 b15 xs23) (F_coder_b15 : Fld Z h0 b15 xs23 "coder" "B" (.int (0 : Int32))) (Z_S_COMPACT_STRINGS : Sta Z Z.heap xs23 xs24 "Z" (.int cs)) (O0 : Old Z n0 h0) (hcs : ¬ cs = (0 : Int32)) (F_value_b15 : Fld Z h0 b15 xs23 "value" "[B" (.ref b21_41_64_71)) (V_b21_41_64_71 : Arv Z h0 b21_41_64_71 k21_41_64_71 .byte (2 : Int32) [(.int (97 : Int32)), (.int (98 : Int32))] (.int (0 : Int32))) (Z_S_SIOOBE_FORMATTER : Sta Z Z.heap xs5 xs22 xs6 fv) (hfv : fv.isRef = true) :
    MetFree l xm17 (head1 (Jvm.Cond.code xm17 prog_15_method_15_code 5 (some .int) :: ws) xr9) (fun a U => a = #[(.ref b15), (.int (1 : Int32)), (.int (2 : Int32))] ∧ Z.Warmed39 U.vm ∧ U.heap = h0) (fun _ _ _ _ _ => True) (fun _ U o U' => ∃ v L, o = .returned v ∧ Q_PropertyIndex_plainHash_1 Z b15 cs b21_41_64_71 k21_41_64_71 fv h0 n0 v U'.heap L ∧ FrameEnd U o U' L xr9.cells xr9.slots) := by
  refine MetFree.of_bodySF (plainFor_of_name pn_5) hisR ?_
  intro p e s m args below meth c s₁ Bd hml0 hP hK
  obtain ⟨rfl, hZ, hh⟩ := hP
  have hx := Bd.exec
  have hby := Bd.bytes
  have hlk : meth.locks = false := BodyLoose.notSynchronized Bd
  have hml : c.maxLocals = 5 := hml0
  have hown : s.vm.findClass xs1 = some m.cls := findClass_of_methodNamed Bd.named
  have hnm := (name_of_methodNamed Bd.named Bd.method).1
  have X0 : Stand p l e xr9 s m #[(.ref b15), (.int (1 : Int32)), (.int (2 : Int32))] below meth c s₁ [] 0 0 := Stand.of_body Bd
  have e0 : s₁.heap = h0 := by rw [← hh, Bd.state]; rfl
  have N0 := Fr.nil n0
  show Go p e below s (Q_PropertyIndex_plainHash_1 Z b15 cs b21_41_64_71 k21_41_64_71 fv h0 n0) xr9.cells xr9.slots s₁ (entryFrame m #[(.ref b15), (.int (1 : Int32)), (.int (2 : Int32))] 5)
  refine Go.cast (ef_PropertyIndex_plainHash_1 m b15 (1 : Int32) (2 : Int32)) ?_
  show Go p e below s _ _ _ s₁ (mkF m 0 #[.val (.ref b15), .val (.int (1 : Int32)), .val (.int (2 : Int32)), .unset, .unset] [])
  refine Go.step (fun _ k => XS.iconst X0.here hx rfl (hb hby d14_0) (XS.istoreN X0.here hx rfl (hb hby d14_1) rfl (l' := #[.val (.ref b15), .val (.int (1 : Int32)), .val (.int (2 : Int32)), .val (.int (0 : Int32)), .unset]) rfl (XS.iloadN X0.here hx rfl (hb hby d14_2) rfl (XS.istore X0.here hx rfl (hb hby d14_3) rfl (l' := #[.val (.ref b15), .val (.int (1 : Int32)), .val (.int (2 : Int32)), .val (.int (0 : Int32)), .val (.int (1 : Int32))]) rfl (XS.iload X0.here hx rfl (hb hby d14_5) rfl (XS.iloadN X0.here hx rfl (hb hby d14_7) rfl (XS.icmpNo X0.here hx rfl (hb hby d14_8) rfl (tlt (by decide)).2.1 (XS.bipush X0.here hx rfl (hb hby d14_11) (XS.iloadN X0.here hx rfl (hb hby d14_13) rfl (XS.imul X0.here hx rfl (hb hby d14_14) rfl k)))))))))) ?_
  show Go p e below s _ _ _ s₁ (mkF m 15 #[.val (.ref b15), .val (.int (1 : Int32)), .val (.int (2 : Int32)), .val (.int (0 : Int32)), .val (.int (1 : Int32))] [(.int ((31 : Int32) * (0 : Int32)))])
  refine Go.step (fun _ k => XS.aloadN X0.here hx rfl (hb hby d14_15) rfl rfl (XS.iload X0.here hx rfl (hb hby d14_16) rfl k)) ?_
  show Go p e below s _ _ _ s₁ (mkF m 18 #[.val (.ref b15), .val (.int (1 : Int32)), .val (.int (2 : Int32)), .val (.int (0 : Int32)), .val (.int (1 : Int32))] [(.int (1 : Int32)), (.ref b15), (.int (0 : Int32))])
  obtain ⟨cq251, kq251, q251a, q251b, q251c⟩ := isOf hZ e0 E_b15
  obtain ⟨_, _, ⟨T251, L251, k251, n251⟩, -, X251, ⟨Lc251, hQ251, l251, y251, z251⟩, st251⟩ := X0.virtualBack hx (y := xm16) (z := xm16) hown (mvT hZ (tw78 hw)) (mvT hZ (tw79 hw)) (notFace_of_selects (args := #[]) (mvT hZ (tw81 hw))) (mvT hZ (tw81 hw)) (mvT hZ (tw80 hw)) (by decide) (backOf (W := 1) (rm_String_charAt_1 l Z a0 hw [] b15 cs b21_41_64_71 k21_41_64_71 fv h0 n0 Z0 E_b15 F_coder_b15 Z_S_COMPACT_STRINGS O0 hcs F_value_b15 V_b21_41_64_71 Z_S_SIOOBE_FORMATTER hfv) hZ (tw82 hw) (tw3 hw) (by decide) (by decide)) q251a q251c (g := (mkF m 18 #[.val (.ref b15), .val (.int (1 : Int32)), .val (.int (2 : Int32)), .val (.int (0 : Int32)), .val (.int (1 : Int32))] [(.int (1 : Int32)), (.ref b15), (.int (0 : Int32))])) rfl (by rw [hml]; rfl) (Steps.refl _) (argsL := [(.int (1 : Int32))]) (rest := [(.int (0 : Int32))]) (lenOf pd_13 rfl) rfl (by show 2 * 0 + _ ≤ _; exact Nat.le_of_eq rfl) (hb hby d14_18) (fun _ _ => ⟨rfl, e0, (by decide : 0 + 0 ≤ _), (by decide : 0 + 0 ≤ _)⟩)
  dsimp only [Pt.U, Pt.locs, Pt.cells, Pt.slots] at X251 l251 y251 z251 st251 hQ251
  subst l251 y251 z251
  obtain ⟨rfl, N251q, eq251⟩ := hQ251
  have N252 := Fr.app N0 N251q
  refine Go.step (fun _ k => st251.trans (XS.iadd X251.here hx rfl (hb hby d14_21) rfl (XS.istoreN X251.here hx rfl (hb hby d14_22) rfl (l' := #[.val (.ref b15), .val (.int (1 : Int32)), .val (.int (2 : Int32)), .val (.int (98 : Int32)), .val (.int (1 : Int32))]) rfl (XS.iinc X251.here hx rfl (hb hby d14_23) rfl (l' := #[.val (.ref b15), .val (.int (1 : Int32)), .val (.int (2 : Int32)), .val (.int (98 : Int32)), .val (.int ((1 : Int32) + (1 : Int32)))]) rfl (XS.goto X251.here hx rfl (pc0 := 26) (pc' := 5) rfl (hb hby d14_26) (by decide) (by decide) (XS.iload X251.here hx rfl (hb hby d14_5) rfl (XS.iloadN X251.here hx rfl (hb hby d14_7) rfl (XS.icmpYes X251.here hx rfl (pc0 := 8) (pc' := 29) rfl (hb hby d14_8) rfl (flt (by decide)).2.1 (by decide) (by decide) (XS.iloadN X251.here hx rfl (hb hby d14_29) rfl (XS.iloadN X251.here hx rfl (hb hby d14_30) rfl k)))))))))) ?_
  show Go p e below s _ _ _ T251 (mkF m 31 #[.val (.ref b15), .val (.int (1 : Int32)), .val (.int (2 : Int32)), .val (.int (98 : Int32)), .val (.int (2 : Int32))] [(.int (98 : Int32)), (.int (98 : Int32))])
  refine Go.step (fun _ k => XS.bipush X251.here hx rfl (hb hby d14_31) (XS.iushr X251.here hx rfl (hb hby d14_33) rfl (XS.ixor X251.here hx rfl (hb hby d14_34) rfl k))) ?_
  show Go p e below s _ _ _ T251 (mkF m 35 #[.val (.ref b15), .val (.int (1 : Int32)), .val (.int (2 : Int32)), .val (.int (98 : Int32)), .val (.int (2 : Int32))] [(.int (98 : Int32))])
  exact Go.retI X251 hx hlk Bd.returns (hb hby d14_35) eq251 ⟨rfl, N252, rfl⟩ (by decide) (by decide)

theorem ef_PropertyIndex_hash_1 (m : MethodId) (x0 : Addr) (x1 : Addr) (x2 : Int32) (x3 : Int32) : entryFrame m #[(.ref x0), (.ref x1), (.int x2), (.int x3)] 4 = mkF m 0 #[.val (.ref x0), .val (.ref x1), .val (.int x2), .val (.int x3)] [] := by first | (simp [entryFrame, mkF, argsToLocals, Value.category]; done) | rfl
def Q_PropertyIndex_hash_1 (Z : State) (b73 : Addr) (b15 : Addr) (cs : Int32) (b21_41_64_71 : Addr) (k21_41_64_71 : ClassId) (fv : Value) (h0 : Heap) (n0 : Nat) (v : Option Value) (h : Heap) (L : List Loc) : Prop := v = some (.int (98 : Int32)) ∧ Fr n0 L ∧ h = h0
set_option maxRecDepth 65536 in
set_option maxHeartbeats 40000000 in
theorem rm_PropertyIndex_hash_1 (l : Launch) (Z : State) (a0 : Array Value) (hw : ∀ d ∈ tables_1, d.before a0 Z = true) (ws : List Jvm.Cond) (b73 : Addr) (b15 : Addr) (cs : Int32) (b21_41_64_71 : Addr) (k21_41_64_71 : ClassId) (fv : Value) (h0 : Heap) (n0 : Nat) (Z0 : n0 ≤ h0.size) (F_keyed_b73 : Fld Z h0 b73 xs1 "keyed" "Z" (.int (0 : Int32))) (E_b15 : Exa Z h0 b15 xs23) (F_coder_b15 : Fld Z h0 b15 xs23 "coder" "B" (.int (0 : Int32))) (Z_S_COMPACT_STRINGS : Sta Z Z.heap xs23 xs24 "Z" (.int cs)) (O0 : Old Z n0 h0) (hcs : ¬ cs = (0 : Int32)) (F_value_b15 : Fld Z h0 b15 xs23 "value" "[B" (.ref b21_41_64_71)) (V_b21_41_64_71 : Arv Z h0 b21_41_64_71 k21_41_64_71 .byte (2 : Int32) [(.int (97 : Int32)), (.int (98 : Int32))] (.int (0 : Int32))) (Z_S_SIOOBE_FORMATTER : Sta Z Z.heap xs5 xs22 xs6 fv) (hfv : fv.isRef = true) :
    MetFree l xm29 (head1 (Jvm.Cond.code xm29 prog_15_method_14_code 4 (some .int) :: ws) xr10) (fun a U => a = #[(.ref b73), (.ref b15), (.int (1 : Int32)), (.int (2 : Int32))] ∧ Z.Warmed39 U.vm ∧ U.heap = h0) (fun _ _ _ _ _ => True) (fun _ U o U' => ∃ v L, o = .returned v ∧ Q_PropertyIndex_hash_1 Z b73 b15 cs b21_41_64_71 k21_41_64_71 fv h0 n0 v U'.heap L ∧ FrameEnd U o U' L xr10.cells xr10.slots) := by
  refine MetFree.of_bodySF (plainFor_of_name pn_5) hisR ?_
  intro p e s m args below meth c s₁ Bd hml0 hP hK
  obtain ⟨rfl, hZ, hh⟩ := hP
  have hx := Bd.exec
  have hby := Bd.bytes
  have hlk : meth.locks = false := BodyLoose.notSynchronized Bd
  have hml : c.maxLocals = 4 := hml0
  have hown : s.vm.findClass xs1 = some m.cls := findClass_of_methodNamed Bd.named
  have hnm := (name_of_methodNamed Bd.named Bd.method).1
  have X0 : Stand p l e xr10 s m #[(.ref b73), (.ref b15), (.int (1 : Int32)), (.int (2 : Int32))] below meth c s₁ [] 0 0 := Stand.of_body Bd
  have e0 : s₁.heap = h0 := by rw [← hh, Bd.state]; rfl
  have N0 := Fr.nil n0
  show Go p e below s (Q_PropertyIndex_hash_1 Z b73 b15 cs b21_41_64_71 k21_41_64_71 fv h0 n0) xr10.cells xr10.slots s₁ (entryFrame m #[(.ref b73), (.ref b15), (.int (1 : Int32)), (.int (2 : Int32))] 4)
  refine Go.cast (ef_PropertyIndex_hash_1 m b73 b15 (1 : Int32) (2 : Int32)) ?_
  show Go p e below s _ _ _ s₁ (mkF m 0 #[.val (.ref b73), .val (.ref b15), .val (.int (1 : Int32)), .val (.int (2 : Int32))] [])
  refine Go.step (fun _ k => XS.aloadN X0.here hx rfl (hb hby d13_0) rfl rfl k) ?_
  show Go p e below s _ _ _ s₁ (mkF m 1 #[.val (.ref b73), .val (.ref b15), .val (.int (1 : Int32)), .val (.int (2 : Int32))] [(.ref b73)])
  obtain ⟨T241, X241, e241, st241⟩ := getF X0 hx hZ hown (host := "") (Or.inl (tw73 hw)) Via.refl e0 F_keyed_b73 (g := (mkF m 1 #[.val (.ref b73), .val (.ref b15), .val (.int (1 : Int32)), .val (.int (2 : Int32))] [(.ref b73)])) rfl rfl (hb hby d13_1)
  refine Go.step (fun _ k => st241 _ (XS.ifYes X241.here hx rfl (pc0 := 4) (pc' := 16) rfl (hb hby d13_4) rfl ((if0 _ _).trans (teq (by decide)).1) (by decide) (by decide) (XS.aloadN X241.here hx rfl (hb hby d13_16) rfl rfl (XS.iloadN X241.here hx rfl (hb hby d13_17) rfl (XS.iloadN X241.here hx rfl (hb hby d13_18) rfl k))))) ?_
  show Go p e below s _ _ _ T241 (mkF m 19 #[.val (.ref b73), .val (.ref b15), .val (.int (1 : Int32)), .val (.int (2 : Int32))] [(.int (2 : Int32)), (.int (1 : Int32)), (.ref b15)])
  obtain ⟨_, _, ⟨T253, L253, k253, n253⟩, -, X253, ⟨Lc253, hQ253, l253, y253, z253⟩, st253⟩ := Jvm.LawKit.callS X241 hx (y := xm17) hown (mvT hZ (tw75 hw)) (mvT hZ (tw76 hw)) (mvT hZ (tw32 hw)) (mvT hZ (tw77 hw)) (by decide) (backOf (W := 0) (rm_PropertyIndex_plainHash_1 l Z a0 hw [] b15 cs b21_41_64_71 k21_41_64_71 fv h0 n0 Z0 E_b15 F_coder_b15 Z_S_COMPACT_STRINGS O0 hcs F_value_b15 V_b21_41_64_71 Z_S_SIOOBE_FORMATTER hfv) hZ (tw77 hw) (tw32 hw) (by decide) (by decide)) (g := (mkF m 19 #[.val (.ref b73), .val (.ref b15), .val (.int (1 : Int32)), .val (.int (2 : Int32))] [(.int (2 : Int32)), (.int (1 : Int32)), (.ref b15)])) rfl (by rw [hml]; rfl) (argsL := [(.ref b15), (.int (1 : Int32)), (.int (2 : Int32))]) (rest := []) (lenOf pd_14 rfl) rfl (by show 2 * 0 + _ ≤ _; exact Nat.le_of_eq rfl) (hb hby d13_19) (fun _ _ => ⟨rfl, e241, (by decide : 0 + 0 ≤ _), (by decide : 0 + 0 ≤ _)⟩)
  dsimp only [Pt.U, Pt.locs, Pt.cells, Pt.slots] at X253 l253 y253 z253 st253 hQ253
  subst l253 y253 z253
  obtain ⟨rfl, N253q, eq253⟩ := hQ253
  have N254 := Fr.app N0 N253q
  refine Go.step (fun _ k => st253 _ k) ?_
  show Go p e below s _ _ _ T253 (mkF m 22 #[.val (.ref b73), .val (.ref b15), .val (.int (1 : Int32)), .val (.int (2 : Int32))] [(.int (98 : Int32))])
  exact Go.retI X253 hx hlk Bd.returns (hb hby d13_22) eq253 ⟨rfl, N254, rfl⟩ (by decide) (by decide)

theorem ef_PropertyIndex_slot_1 (m : MethodId) (x0 : Addr) (x1 : Addr) (x2 : Int32) (x3 : Int32) (x4 : Int32) : entryFrame m #[(.ref x0), (.ref x1), (.int x2), (.int x3), (.int x4)] 7 = mkF m 0 #[.val (.ref x0), .val (.ref x1), .val (.int x2), .val (.int x3), .val (.int x4), .unset, .unset] [] := by first | (simp [entryFrame, mkF, argsToLocals, Value.category]; done) | rfl
def Q_PropertyIndex_slot_1 (Z : State) (b73 : Addr) (b15 : Addr) (b108_134 : Addr) (k108_134 : ClassId) (h0 : Heap) (n0 : Nat) (v : Option Value) (h : Heap) (L : List Loc) : Prop := v = some (.int (2 : Int32)) ∧ Fr n0 L ∧ h = h0
set_option maxRecDepth 65536 in
set_option maxHeartbeats 40000000 in
theorem rm_PropertyIndex_slot_1 (l : Launch) (Z : State) (a0 : Array Value) (hw : ∀ d ∈ tables_1, d.before a0 Z = true) (ws : List Jvm.Cond) (b73 : Addr) (b15 : Addr) (b108_134 : Addr) (k108_134 : ClassId) (h0 : Heap) (n0 : Nat) (Z0 : n0 ≤ h0.size) (F_slots_b73 : Fld Z h0 b73 xs1 "slots" "[I" (.ref b108_134)) (V_b108_134 : Arv Z h0 b108_134 k108_134 .int (8 : Int32) [(.int (0 : Int32)), (.int (1 : Int32)), (.int (0 : Int32)), (.int (0 : Int32)), (.int (0 : Int32)), (.int (0 : Int32)), (.int (0 : Int32)), (.int (0 : Int32))] (.int (0 : Int32))) :
    MetFree l xm32 (head1 (Jvm.Cond.code xm32 prog_15_method_11_code 7 (some .int) :: ws) xr17) (fun a U => a = #[(.ref b73), (.ref b15), (.int (1 : Int32)), (.int (2 : Int32)), (.int (98 : Int32))] ∧ Z.Warmed39 U.vm ∧ U.heap = h0) (fun _ _ _ _ _ => True) (fun _ U o U' => ∃ v L, o = .returned v ∧ Q_PropertyIndex_slot_1 Z b73 b15 b108_134 k108_134 h0 n0 v U'.heap L ∧ FrameEnd U o U' L xr17.cells xr17.slots) := by
  refine MetFree.of_bodySF (plainFor_of_name pn_5) hisR ?_
  intro p e s m args below meth c s₁ Bd hml0 hP hK
  obtain ⟨rfl, hZ, hh⟩ := hP
  have hx := Bd.exec
  have hby := Bd.bytes
  have hlk : meth.locks = false := BodyLoose.notSynchronized Bd
  have hml : c.maxLocals = 7 := hml0
  have hown : s.vm.findClass xs1 = some m.cls := findClass_of_methodNamed Bd.named
  have hnm := (name_of_methodNamed Bd.named Bd.method).1
  have X0 : Stand p l e xr17 s m #[(.ref b73), (.ref b15), (.int (1 : Int32)), (.int (2 : Int32)), (.int (98 : Int32))] below meth c s₁ [] 0 0 := Stand.of_body Bd
  have e0 : s₁.heap = h0 := by rw [← hh, Bd.state]; rfl
  have N0 := Fr.nil n0
  show Go p e below s (Q_PropertyIndex_slot_1 Z b73 b15 b108_134 k108_134 h0 n0) xr17.cells xr17.slots s₁ (entryFrame m #[(.ref b73), (.ref b15), (.int (1 : Int32)), (.int (2 : Int32)), (.int (98 : Int32))] 7)
  refine Go.cast (ef_PropertyIndex_slot_1 m b73 b15 (1 : Int32) (2 : Int32) (98 : Int32)) ?_
  show Go p e below s _ _ _ s₁ (mkF m 0 #[.val (.ref b73), .val (.ref b15), .val (.int (1 : Int32)), .val (.int (2 : Int32)), .val (.int (98 : Int32)), .unset, .unset] [])
  refine Go.step (fun _ k => XS.aloadN X0.here hx rfl (hb hby d18_0) rfl rfl k) ?_
  show Go p e below s _ _ _ s₁ (mkF m 1 #[.val (.ref b73), .val (.ref b15), .val (.int (1 : Int32)), .val (.int (2 : Int32)), .val (.int (98 : Int32)), .unset, .unset] [(.ref b73)])
  obtain ⟨T258, X258, e258, st258⟩ := getF X0 hx hZ hown (host := "") (Or.inl (tw62 hw)) Via.refl e0 F_slots_b73 (g := (mkF m 1 #[.val (.ref b73), .val (.ref b15), .val (.int (1 : Int32)), .val (.int (2 : Int32)), .val (.int (98 : Int32)), .unset, .unset] [(.ref b73)])) rfl rfl (hb hby d18_1)
  refine Go.step (fun _ k => st258 _ k) ?_
  show Go p e below s _ _ _ T258 (mkF m 4 #[.val (.ref b73), .val (.ref b15), .val (.int (1 : Int32)), .val (.int (2 : Int32)), .val (.int (98 : Int32)), .unset, .unset] [(.ref b108_134)])
  obtain ⟨cl259, Ar259, -, Sz259, Ng259, -, -⟩ := id V_b108_134
  have aln259 := X258.arraylength hx (by rw [e258]; exact Ar259.1) (State.isArrayOf_alike hZ.alike Ar259.2.1) (g := (mkF m 4 #[.val (.ref b73), .val (.ref b15), .val (.int (1 : Int32)), .val (.int (2 : Int32)), .val (.int (98 : Int32)), .unset, .unset] [(.ref b108_134)])) rfl rfl (hb hby d18_4)
  rw [len_of Sz259 Ng259] at aln259
  refine Go.step (fun _ k => aln259 _ (XS.iconst X258.here hx rfl (hb hby d18_5) (XS.isub X258.here hx rfl (hb hby d18_6) rfl (XS.istore X258.here hx rfl (hb hby d18_7) rfl (l' := #[.val (.ref b73), .val (.ref b15), .val (.int (1 : Int32)), .val (.int (2 : Int32)), .val (.int (98 : Int32)), .val (.int (7 : Int32)), .unset]) rfl (XS.iload X258.here hx rfl (hb hby d18_9) rfl (XS.iload X258.here hx rfl (hb hby d18_11) rfl (XS.iand X258.here hx rfl (hb hby d18_13) rfl (XS.istore X258.here hx rfl (hb hby d18_14) rfl (l' := #[.val (.ref b73), .val (.ref b15), .val (.int (1 : Int32)), .val (.int (2 : Int32)), .val (.int (98 : Int32)), .val (.int (7 : Int32)), .val (.int (2 : Int32))]) rfl (XS.aloadN X258.here hx rfl (hb hby d18_16) rfl rfl k))))))))) ?_
  show Go p e below s _ _ _ T258 (mkF m 17 #[.val (.ref b73), .val (.ref b15), .val (.int (1 : Int32)), .val (.int (2 : Int32)), .val (.int (98 : Int32)), .val (.int (7 : Int32)), .val (.int (2 : Int32))] [(.ref b73)])
  obtain ⟨T260, X260, e260, st260⟩ := getF X258 hx hZ hown (host := "") (Or.inl (tw62 hw)) Via.refl e258 F_slots_b73 (g := (mkF m 17 #[.val (.ref b73), .val (.ref b15), .val (.int (1 : Int32)), .val (.int (2 : Int32)), .val (.int (98 : Int32)), .val (.int (7 : Int32)), .val (.int (2 : Int32))] [(.ref b73)])) rfl rfl (hb hby d18_17)
  refine Go.step (fun _ k => st260 _ (XS.iload X260.here hx rfl (hb hby d18_20) rfl k)) ?_
  show Go p e below s _ _ _ T260 (mkF m 22 #[.val (.ref b73), .val (.ref b15), .val (.int (1 : Int32)), .val (.int (2 : Int32)), .val (.int (98 : Int32)), .val (.int (7 : Int32)), .val (.int (2 : Int32))] [(.int (2 : Int32)), (.ref b108_134)])
  obtain ⟨cl261, Ar261, -, Sz261, Ng261, Hs261, Ft261⟩ := id V_b108_134
  have in261 : ¬ ((2 : Int32) < 0 ∨ cl261.slots.size ≤ ((2 : Int32)).toNatClampNeg) := (inb_of Sz261 ⟨by decide, by decide⟩)
  have at261 : cl261.slots[((2 : Int32)).toNatClampNeg]? = some (.int (0 : Int32)) := Hs261.at in261 rfl
  refine Go.step (fun _ k => X260.iaload hx (j := (2 : Int32)) (v := (.int (0 : Int32))) (by rw [e260]; exact Ar261.1) (State.isArrayOf_alike hZ.alike Ar261.2.1) Ar261.2.2 in261 at261 (g := (mkF m 22 #[.val (.ref b73), .val (.ref b15), .val (.int (1 : Int32)), .val (.int (2 : Int32)), .val (.int (98 : Int32)), .val (.int (7 : Int32)), .val (.int (2 : Int32))] [(.int (2 : Int32)), (.ref b108_134)])) rfl rfl (hb hby d18_22) _ (XS.ifYes X260.here hx rfl (pc0 := 23) (pc' := 59) rfl (hb hby d18_23) rfl ((if0 _ _).trans (teq (by decide)).1) (by decide) (by decide) (XS.iload X260.here hx rfl (hb hby d18_59) rfl k))) ?_
  show Go p e below s _ _ _ T260 (mkF m 61 #[.val (.ref b73), .val (.ref b15), .val (.int (1 : Int32)), .val (.int (2 : Int32)), .val (.int (98 : Int32)), .val (.int (7 : Int32)), .val (.int (2 : Int32))] [(.int (2 : Int32))])
  exact Go.retI X260 hx hlk Bd.returns (hb hby d18_61) e260 ⟨rfl, N0, rfl⟩ (by decide) (by decide)

theorem ef_PropertyIndex_add_1 (m : MethodId) (x0 : Addr) (x1 : Int32) (x2 : Int32) (x3 : Int32) (x4 : Int32) (x5 : Int32) : entryFrame m #[(.ref x0), (.int x1), (.int x2), (.int x3), (.int x4), (.int x5)] 10 = mkF m 0 #[.val (.ref x0), .val (.int x1), .val (.int x2), .val (.int x3), .val (.int x4), .val (.int x5), .unset, .unset, .unset, .unset] [] := by first | (simp [entryFrame, mkF, argsToLocals, Value.category]; done) | rfl
def Q_PropertyIndex_add_1 (Z : State) (b73 : Addr) (p6 : Int32) (p5 : Int32) (b15 : Addr) (cs : Int32) (b21_41_64_71 : Addr) (k21_41_64_71 : ClassId) (fv : Value) (b108_134 : Addr) (k108_134 : ClassId) (b96_134 : Addr) (k96_134 : ClassId) (h0 : Heap) (n0 : Nat) (v : Option Value) (h : Heap) (L : List Loc) : Prop := v = some (.int (-1 : Int32)) ∧ Fr n0 L ∧ Keep h0 h [b96_134, b73, b108_134] ∧ Arv Z h b96_134 k96_134 .int (12 : Int32) [(.int (0 : Int32)), (.int (1 : Int32)), (.int p5), (.int p6), (.int p5), (.int (97 : Int32)), (.int (1 : Int32)), (.int (2 : Int32)), (.int p6), (.int p5), (.int p6), (.int (98 : Int32))] (.int (0 : Int32)) ∧ Fld Z h b73 xs1 "text" xs19 (.ref b15) ∧ Fld Z h b73 xs1 "keyed" "Z" (.int (0 : Int32)) ∧ Fld Z h b73 xs1 "slots" "[I" (.ref b108_134) ∧ Fld Z h b73 xs1 "size" "I" (.int (2 : Int32)) ∧ Fld Z h b73 xs1 "entries" "[I" (.ref b96_134) ∧ Fld Z h b73 xs1 "lineEnds" xs2 .null ∧ Arv Z h b108_134 k108_134 .int (8 : Int32) [(.int (0 : Int32)), (.int (1 : Int32)), (.int (2 : Int32)), (.int (0 : Int32)), (.int (0 : Int32)), (.int (0 : Int32)), (.int (0 : Int32)), (.int (0 : Int32))] (.int (0 : Int32))
set_option maxRecDepth 65536 in
set_option maxHeartbeats 40000000 in
theorem rm_PropertyIndex_add_1 (l : Launch) (Z : State) (a0 : Array Value) (hw : ∀ d ∈ tables_1, d.before a0 Z = true) (ws : List Jvm.Cond) (b73 : Addr) (p6 : Int32) (p5 : Int32) (b15 : Addr) (cs : Int32) (b21_41_64_71 : Addr) (k21_41_64_71 : ClassId) (fv : Value) (b108_134 : Addr) (k108_134 : ClassId) (b96_134 : Addr) (k96_134 : ClassId) (h0 : Heap) (n0 : Nat) (Z0 : n0 ≤ h0.size) (F_text_b73 : Fld Z h0 b73 xs1 "text" xs19 (.ref b15)) (F_keyed_b73 : Fld Z h0 b73 xs1 "keyed" "Z" (.int (0 : Int32))) (E_b15 : Exa Z h0 b15 xs23) (F_coder_b15 : Fld Z h0 b15 xs23 "coder" "B" (.int (0 : Int32))) (Z_S_COMPACT_STRINGS : Sta Z Z.heap xs23 xs24 "Z" (.int cs)) (O0 : Old Z n0 h0) (hcs : ¬ cs = (0 : Int32)) (F_value_b15 : Fld Z h0 b15 xs23 "value" "[B" (.ref b21_41_64_71)) (V_b21_41_64_71 : Arv Z h0 b21_41_64_71 k21_41_64_71 .byte (2 : Int32) [(.int (97 : Int32)), (.int (98 : Int32))] (.int (0 : Int32))) (Z_S_SIOOBE_FORMATTER : Sta Z Z.heap xs5 xs22 xs6 fv) (hfv : fv.isRef = true) (E_b73 : Exa Z h0 b73 xs1) (F_slots_b73 : Fld Z h0 b73 xs1 "slots" "[I" (.ref b108_134)) (V_b108_134 : Arv Z h0 b108_134 k108_134 .int (8 : Int32) [(.int (0 : Int32)), (.int (1 : Int32)), (.int (0 : Int32)), (.int (0 : Int32)), (.int (0 : Int32)), (.int (0 : Int32)), (.int (0 : Int32)), (.int (0 : Int32))] (.int (0 : Int32))) (F_size_b73 : Fld Z h0 b73 xs1 "size" "I" (.int (1 : Int32))) (F_entries_b73 : Fld Z h0 b73 xs1 "entries" "[I" (.ref b96_134)) (V_b96_134 : Arv Z h0 b96_134 k96_134 .int (12 : Int32) [(.int (0 : Int32)), (.int (1 : Int32)), (.int p5), (.int p6), (.int p5), (.int (97 : Int32)), (.int (0 : Int32)), (.int (0 : Int32)), (.int (0 : Int32)), (.int (0 : Int32)), (.int (0 : Int32)), (.int (0 : Int32))] (.int (0 : Int32))) (g_b96_134 : n0 ≤ b96_134) (ne_b73_b96_134 : b73 ≠ b96_134) (g_b73 : n0 ≤ b73) (ne_b108_134_b96_134 : b108_134 ≠ b96_134) (ne_b108_134_b73 : b108_134 ≠ b73) (g_b108_134 : n0 ≤ b108_134) (F_lineEnds_b73 : Fld Z h0 b73 xs1 "lineEnds" xs2 .null) :
    MetFree l xm18 (head1 (Jvm.Cond.code xm18 prog_15_method_3_code 10 (some .int) :: ws) xr11) (fun a U => a = #[(.ref b73), (.int (1 : Int32)), (.int (2 : Int32)), (.int p6), (.int p5), (.int p6)] ∧ Z.Warmed39 U.vm ∧ U.heap = h0) (fun _ _ _ _ _ => True) (fun _ U o U' => ∃ v L, o = .returned v ∧ Q_PropertyIndex_add_1 Z b73 p6 p5 b15 cs b21_41_64_71 k21_41_64_71 fv b108_134 k108_134 b96_134 k96_134 h0 n0 v U'.heap L ∧ FrameEnd U o U' L xr11.cells xr11.slots) := by
  refine MetFree.of_bodySF (plainFor_of_name pn_5) hisR ?_
  intro p e s m args below meth c s₁ Bd hml0 hP hK
  obtain ⟨rfl, hZ, hh⟩ := hP
  have hx := Bd.exec
  have hby := Bd.bytes
  have hlk : meth.locks = false := BodyLoose.notSynchronized Bd
  have hml : c.maxLocals = 10 := hml0
  have hown : s.vm.findClass xs1 = some m.cls := findClass_of_methodNamed Bd.named
  have hnm := (name_of_methodNamed Bd.named Bd.method).1
  have X0 : Stand p l e xr11 s m #[(.ref b73), (.int (1 : Int32)), (.int (2 : Int32)), (.int p6), (.int p5), (.int p6)] below meth c s₁ [] 0 0 := Stand.of_body Bd
  have e0 : s₁.heap = h0 := by rw [← hh, Bd.state]; rfl
  have N0 := Fr.nil n0
  show Go p e below s (Q_PropertyIndex_add_1 Z b73 p6 p5 b15 cs b21_41_64_71 k21_41_64_71 fv b108_134 k108_134 b96_134 k96_134 h0 n0) xr11.cells xr11.slots s₁ (entryFrame m #[(.ref b73), (.int (1 : Int32)), (.int (2 : Int32)), (.int p6), (.int p5), (.int p6)] 10)
  refine Go.cast (ef_PropertyIndex_add_1 m b73 (1 : Int32) (2 : Int32) p6 p5 p6) ?_
  show Go p e below s _ _ _ s₁ (mkF m 0 #[.val (.ref b73), .val (.int (1 : Int32)), .val (.int (2 : Int32)), .val (.int p6), .val (.int p5), .val (.int p6), .unset, .unset, .unset, .unset] [])
  refine Go.step (fun _ k => XS.aloadN X0.here hx rfl (hb hby d12_0) rfl rfl (XS.aloadN X0.here hx rfl (hb hby d12_1) rfl rfl k)) ?_
  show Go p e below s _ _ _ s₁ (mkF m 2 #[.val (.ref b73), .val (.int (1 : Int32)), .val (.int (2 : Int32)), .val (.int p6), .val (.int p5), .val (.int p6), .unset, .unset, .unset, .unset] [(.ref b73), (.ref b73)])
  obtain ⟨T240, X240, e240, st240⟩ := getF X0 hx hZ hown (host := "") (Or.inl (tw42 hw)) Via.refl e0 F_text_b73 (g := (mkF m 2 #[.val (.ref b73), .val (.int (1 : Int32)), .val (.int (2 : Int32)), .val (.int p6), .val (.int p5), .val (.int p6), .unset, .unset, .unset, .unset] [(.ref b73), (.ref b73)])) rfl rfl (hb hby d12_2)
  refine Go.step (fun _ k => st240 _ (XS.iloadN X240.here hx rfl (hb hby d12_5) rfl (XS.iloadN X240.here hx rfl (hb hby d12_6) rfl k))) ?_
  show Go p e below s _ _ _ T240 (mkF m 7 #[.val (.ref b73), .val (.int (1 : Int32)), .val (.int (2 : Int32)), .val (.int p6), .val (.int p5), .val (.int p6), .unset, .unset, .unset, .unset] [(.int (2 : Int32)), (.int (1 : Int32)), (.ref b15), (.ref b73)])
  obtain ⟨cq255, q255, q255'⟩ := E_b73.cell
  obtain ⟨_, _, ⟨T255, L255, k255, n255⟩, -, X255, ⟨Lc255, hQ255, l255, y255, z255⟩, st255⟩ := X240.privateBack hx (y := xm29) hown (mvT hZ (tw69 hw)) (mvT hZ (tw70 hw)) (own_selP (mvT hZ (tw31 hw)) (Cond.privateMethod_at (mvP hZ (tw71 hw) (args := #[]))) (mvT hZ (tw70 hw)) (by decide)) (Cond.privateMethod_at (mvP hZ (tw71 hw) (args := #[]))) (mvT hZ (tw72 hw)) (by decide) (backOf (W := 0) (rm_PropertyIndex_hash_1 l Z a0 hw [] b73 b15 cs b21_41_64_71 k21_41_64_71 fv h0 n0 Z0 F_keyed_b73 E_b15 F_coder_b15 Z_S_COMPACT_STRINGS O0 hcs F_value_b15 V_b21_41_64_71 Z_S_SIOOBE_FORMATTER hfv) hZ (tw72 hw) (tw32 hw) (by decide) (by decide)) (g := (mkF m 7 #[.val (.ref b73), .val (.int (1 : Int32)), .val (.int (2 : Int32)), .val (.int p6), .val (.int p5), .val (.int p6), .unset, .unset, .unset, .unset] [(.int (2 : Int32)), (.int (1 : Int32)), (.ref b15), (.ref b73)])) rfl (by rw [hml]; rfl) (Steps.refl _) (a := b73) (by rw [e240]; exact q255) q255' (argsL := [(.ref b15), (.int (1 : Int32)), (.int (2 : Int32))]) (rest := []) (lenOf pd_14 rfl) rfl (by show 2 * 0 + _ ≤ _; exact Nat.le_of_eq rfl) (hb hby d12_7) (fun _ _ => ⟨rfl, e240, (by decide : 0 + 0 ≤ _), (by decide : 0 + 0 ≤ _)⟩)
  dsimp only [Pt.U, Pt.locs, Pt.cells, Pt.slots] at X255 l255 y255 z255 st255 hQ255
  subst l255 y255 z255
  obtain ⟨rfl, N255q, eq255⟩ := hQ255
  have N256 := Fr.app N0 N255q
  refine Go.step (fun _ k => st255.trans (XS.istore X255.here hx rfl (hb hby d12_10) rfl (l' := #[.val (.ref b73), .val (.int (1 : Int32)), .val (.int (2 : Int32)), .val (.int p6), .val (.int p5), .val (.int p6), .val (.int (98 : Int32)), .unset, .unset, .unset]) rfl (XS.aloadN X255.here hx rfl (hb hby d12_12) rfl rfl (XS.aloadN X255.here hx rfl (hb hby d12_13) rfl rfl k)))) ?_
  show Go p e below s _ _ _ T255 (mkF m 14 #[.val (.ref b73), .val (.int (1 : Int32)), .val (.int (2 : Int32)), .val (.int p6), .val (.int p5), .val (.int p6), .val (.int (98 : Int32)), .unset, .unset, .unset] [(.ref b73), (.ref b73)])
  obtain ⟨T257, X257, e257, st257⟩ := getF X255 hx hZ hown (host := "") (Or.inl (tw42 hw)) Via.refl eq255 F_text_b73 (g := (mkF m 14 #[.val (.ref b73), .val (.int (1 : Int32)), .val (.int (2 : Int32)), .val (.int p6), .val (.int p5), .val (.int p6), .val (.int (98 : Int32)), .unset, .unset, .unset] [(.ref b73), (.ref b73)])) rfl rfl (hb hby d12_14)
  refine Go.step (fun _ k => st257 _ (XS.iloadN X257.here hx rfl (hb hby d12_17) rfl (XS.iloadN X257.here hx rfl (hb hby d12_18) rfl (XS.iload X257.here hx rfl (hb hby d12_19) rfl k)))) ?_
  show Go p e below s _ _ _ T257 (mkF m 21 #[.val (.ref b73), .val (.int (1 : Int32)), .val (.int (2 : Int32)), .val (.int p6), .val (.int p5), .val (.int p6), .val (.int (98 : Int32)), .unset, .unset, .unset] [(.int (98 : Int32)), (.int (2 : Int32)), (.int (1 : Int32)), (.ref b15), (.ref b73)])
  obtain ⟨cq262, q262, q262'⟩ := E_b73.cell
  obtain ⟨_, _, ⟨T262, L262, k262, n262⟩, -, X262, ⟨Lc262, hQ262, l262, y262, z262⟩, st262⟩ := X257.privateBack hx (y := xm32) hown (mvT hZ (tw100 hw)) (mvT hZ (tw101 hw)) (own_selP (mvT hZ (tw31 hw)) (Cond.privateMethod_at (mvP hZ (tw102 hw) (args := #[]))) (mvT hZ (tw101 hw)) (by decide)) (Cond.privateMethod_at (mvP hZ (tw102 hw) (args := #[]))) (mvT hZ (tw103 hw)) (by decide) (backOf (W := 0) (rm_PropertyIndex_slot_1 l Z a0 hw [] b73 b15 b108_134 k108_134 h0 n0 Z0 F_slots_b73 V_b108_134) hZ (tw103 hw) (tw32 hw) (by decide) (by decide)) (g := (mkF m 21 #[.val (.ref b73), .val (.int (1 : Int32)), .val (.int (2 : Int32)), .val (.int p6), .val (.int p5), .val (.int p6), .val (.int (98 : Int32)), .unset, .unset, .unset] [(.int (98 : Int32)), (.int (2 : Int32)), (.int (1 : Int32)), (.ref b15), (.ref b73)])) rfl (by rw [hml]; rfl) (Steps.refl _) (a := b73) (by rw [e257]; exact q262) q262' (argsL := [(.ref b15), (.int (1 : Int32)), (.int (2 : Int32)), (.int (98 : Int32))]) (rest := []) (lenOf pd_15 rfl) rfl (by show 2 * 0 + _ ≤ _; exact Nat.le_of_eq rfl) (hb hby d12_21) (fun _ _ => ⟨rfl, e257, (by decide : 0 + 0 ≤ _), (by decide : 0 + 0 ≤ _)⟩)
  dsimp only [Pt.U, Pt.locs, Pt.cells, Pt.slots] at X262 l262 y262 z262 st262 hQ262
  subst l262 y262 z262
  obtain ⟨rfl, N262q, eq262⟩ := hQ262
  have N263 := Fr.app N256 N262q
  refine Go.step (fun _ k => st262.trans (XS.istore X262.here hx rfl (hb hby d12_24) rfl (l' := #[.val (.ref b73), .val (.int (1 : Int32)), .val (.int (2 : Int32)), .val (.int p6), .val (.int p5), .val (.int p6), .val (.int (98 : Int32)), .val (.int (2 : Int32)), .unset, .unset]) rfl (XS.aloadN X262.here hx rfl (hb hby d12_26) rfl rfl k))) ?_
  show Go p e below s _ _ _ T262 (mkF m 27 #[.val (.ref b73), .val (.int (1 : Int32)), .val (.int (2 : Int32)), .val (.int p6), .val (.int p5), .val (.int p6), .val (.int (98 : Int32)), .val (.int (2 : Int32)), .unset, .unset] [(.ref b73)])
  obtain ⟨T264, X264, e264, st264⟩ := getF X262 hx hZ hown (host := "") (Or.inl (tw73 hw)) Via.refl eq262 F_keyed_b73 (g := (mkF m 27 #[.val (.ref b73), .val (.int (1 : Int32)), .val (.int (2 : Int32)), .val (.int p6), .val (.int p5), .val (.int p6), .val (.int (98 : Int32)), .val (.int (2 : Int32)), .unset, .unset] [(.ref b73)])) rfl rfl (hb hby d12_27)
  refine Go.step (fun _ k => st264 _ (XS.ifNo X264.here hx rfl (hb hby d12_30) rfl ((if0 _ _).trans (teq (by decide)).2) (XS.iload X264.here hx rfl (hb hby d12_33) rfl (XS.iload X264.here hx rfl (hb hby d12_35) rfl (XS.isub X264.here hx rfl (hb hby d12_37) rfl (XS.aloadN X264.here hx rfl (hb hby d12_38) rfl rfl k)))))) ?_
  show Go p e below s _ _ _ T264 (mkF m 39 #[.val (.ref b73), .val (.int (1 : Int32)), .val (.int (2 : Int32)), .val (.int p6), .val (.int p5), .val (.int p6), .val (.int (98 : Int32)), .val (.int (2 : Int32)), .unset, .unset] [(.ref b73), (.int (-96 : Int32))])
  obtain ⟨T265, X265, e265, st265⟩ := getF X264 hx hZ hown (host := "") (Or.inl (tw62 hw)) Via.refl e264 F_slots_b73 (g := (mkF m 39 #[.val (.ref b73), .val (.int (1 : Int32)), .val (.int (2 : Int32)), .val (.int p6), .val (.int p5), .val (.int p6), .val (.int (98 : Int32)), .val (.int (2 : Int32)), .unset, .unset] [(.ref b73), (.int (-96 : Int32))])) rfl rfl (hb hby d12_39)
  refine Go.step (fun _ k => st265 _ k) ?_
  show Go p e below s _ _ _ T265 (mkF m 42 #[.val (.ref b73), .val (.int (1 : Int32)), .val (.int (2 : Int32)), .val (.int p6), .val (.int p5), .val (.int p6), .val (.int (98 : Int32)), .val (.int (2 : Int32)), .unset, .unset] [(.ref b108_134), (.int (-96 : Int32))])
  obtain ⟨cl266, Ar266, -, Sz266, Ng266, -, -⟩ := id V_b108_134
  have aln266 := X265.arraylength hx (by rw [e265]; exact Ar266.1) (State.isArrayOf_alike hZ.alike Ar266.2.1) (g := (mkF m 42 #[.val (.ref b73), .val (.int (1 : Int32)), .val (.int (2 : Int32)), .val (.int p6), .val (.int p5), .val (.int p6), .val (.int (98 : Int32)), .val (.int (2 : Int32)), .unset, .unset] [(.ref b108_134), (.int (-96 : Int32))])) rfl rfl (hb hby d12_42)
  rw [len_of Sz266 Ng266] at aln266
  refine Go.step (fun _ k => aln266 _ (XS.iconst X265.here hx rfl (hb hby d12_43) (XS.isub X265.here hx rfl (hb hby d12_44) rfl (XS.iand X265.here hx rfl (hb hby d12_45) rfl (XS.bipush X265.here hx rfl (hb hby d12_46) (XS.icmpYes X265.here hx rfl (pc0 := 48) (pc' := 151) rfl (hb hby d12_48) rfl (flt (by decide)).2.2.2 (by decide) (by decide) (XS.aloadN X265.here hx rfl (hb hby d12_151) rfl rfl k))))))) ?_
  show Go p e below s _ _ _ T265 (mkF m 152 #[.val (.ref b73), .val (.int (1 : Int32)), .val (.int (2 : Int32)), .val (.int p6), .val (.int p5), .val (.int p6), .val (.int (98 : Int32)), .val (.int (2 : Int32)), .unset, .unset] [(.ref b73)])
  obtain ⟨T267, X267, e267, st267⟩ := getF X265 hx hZ hown (host := "") (Or.inl (tw62 hw)) Via.refl e265 F_slots_b73 (g := (mkF m 152 #[.val (.ref b73), .val (.int (1 : Int32)), .val (.int (2 : Int32)), .val (.int p6), .val (.int p5), .val (.int p6), .val (.int (98 : Int32)), .val (.int (2 : Int32)), .unset, .unset] [(.ref b73)])) rfl rfl (hb hby d12_152)
  refine Go.step (fun _ k => st267 _ (XS.iload X267.here hx rfl (hb hby d12_155) rfl k)) ?_
  show Go p e below s _ _ _ T267 (mkF m 157 #[.val (.ref b73), .val (.int (1 : Int32)), .val (.int (2 : Int32)), .val (.int p6), .val (.int p5), .val (.int p6), .val (.int (98 : Int32)), .val (.int (2 : Int32)), .unset, .unset] [(.int (2 : Int32)), (.ref b108_134)])
  obtain ⟨cl268, Ar268, -, Sz268, Ng268, Hs268, Ft268⟩ := id V_b108_134
  have in268 : ¬ ((2 : Int32) < 0 ∨ cl268.slots.size ≤ ((2 : Int32)).toNatClampNeg) := (inb_of Sz268 ⟨by decide, by decide⟩)
  have at268 : cl268.slots[((2 : Int32)).toNatClampNeg]? = some (.int (0 : Int32)) := Hs268.at in268 rfl
  refine Go.step (fun _ k => X267.iaload hx (j := (2 : Int32)) (v := (.int (0 : Int32))) (by rw [e267]; exact Ar268.1) (State.isArrayOf_alike hZ.alike Ar268.2.1) Ar268.2.2 in268 at268 (g := (mkF m 157 #[.val (.ref b73), .val (.int (1 : Int32)), .val (.int (2 : Int32)), .val (.int p6), .val (.int p5), .val (.int p6), .val (.int (98 : Int32)), .val (.int (2 : Int32)), .unset, .unset] [(.int (2 : Int32)), (.ref b108_134)])) rfl rfl (hb hby d12_157) _ (XS.ifYes X267.here hx rfl (pc0 := 158) (pc' := 171) rfl (hb hby d12_158) rfl ((if0 _ _).trans (teq (by decide)).1) (by decide) (by decide) (XS.aloadN X267.here hx rfl (hb hby d12_171) rfl rfl k))) ?_
  show Go p e below s _ _ _ T267 (mkF m 172 #[.val (.ref b73), .val (.int (1 : Int32)), .val (.int (2 : Int32)), .val (.int p6), .val (.int p5), .val (.int p6), .val (.int (98 : Int32)), .val (.int (2 : Int32)), .unset, .unset] [(.ref b73)])
  obtain ⟨T269, X269, e269, st269⟩ := getF X267 hx hZ hown (host := "") (Or.inl (tw104 hw)) Via.refl e267 F_size_b73 (g := (mkF m 172 #[.val (.ref b73), .val (.int (1 : Int32)), .val (.int (2 : Int32)), .val (.int p6), .val (.int p5), .val (.int p6), .val (.int (98 : Int32)), .val (.int (2 : Int32)), .unset, .unset] [(.ref b73)])) rfl rfl (hb hby d12_172)
  refine Go.step (fun _ k => st269 _ (XS.iconst X269.here hx rfl (hb hby d12_175) (XS.iadd X269.here hx rfl (hb hby d12_176) rfl (XS.bipush X269.here hx rfl (hb hby d12_177) (XS.imul X269.here hx rfl (hb hby d12_179) rfl (XS.aloadN X269.here hx rfl (hb hby d12_180) rfl rfl k)))))) ?_
  show Go p e below s _ _ _ T269 (mkF m 181 #[.val (.ref b73), .val (.int (1 : Int32)), .val (.int (2 : Int32)), .val (.int p6), .val (.int p5), .val (.int p6), .val (.int (98 : Int32)), .val (.int (2 : Int32)), .unset, .unset] [(.ref b73), (.int (12 : Int32))])
  obtain ⟨T270, X270, e270, st270⟩ := getF X269 hx hZ hown (host := "") (Or.inl (tw51 hw)) Via.refl e269 F_entries_b73 (g := (mkF m 181 #[.val (.ref b73), .val (.int (1 : Int32)), .val (.int (2 : Int32)), .val (.int p6), .val (.int p5), .val (.int p6), .val (.int (98 : Int32)), .val (.int (2 : Int32)), .unset, .unset] [(.ref b73), (.int (12 : Int32))])) rfl rfl (hb hby d12_181)
  refine Go.step (fun _ k => st270 _ k) ?_
  show Go p e below s _ _ _ T270 (mkF m 184 #[.val (.ref b73), .val (.int (1 : Int32)), .val (.int (2 : Int32)), .val (.int p6), .val (.int p5), .val (.int p6), .val (.int (98 : Int32)), .val (.int (2 : Int32)), .unset, .unset] [(.ref b96_134), (.int (12 : Int32))])
  obtain ⟨cl271, Ar271, -, Sz271, Ng271, -, -⟩ := id V_b96_134
  have aln271 := X270.arraylength hx (by rw [e270]; exact Ar271.1) (State.isArrayOf_alike hZ.alike Ar271.2.1) (g := (mkF m 184 #[.val (.ref b73), .val (.int (1 : Int32)), .val (.int (2 : Int32)), .val (.int p6), .val (.int p5), .val (.int p6), .val (.int (98 : Int32)), .val (.int (2 : Int32)), .unset, .unset] [(.ref b96_134), (.int (12 : Int32))])) rfl rfl (hb hby d12_184)
  rw [len_of Sz271 Ng271] at aln271
  refine Go.step (fun _ k => aln271 _ (XS.icmpYes X270.here hx rfl (pc0 := 185) (pc' := 206) rfl (hb hby d12_185) rfl (flt (by decide)).2.2.2 (by decide) (by decide) (XS.aloadN X270.here hx rfl (hb hby d12_206) rfl rfl k))) ?_
  show Go p e below s _ _ _ T270 (mkF m 207 #[.val (.ref b73), .val (.int (1 : Int32)), .val (.int (2 : Int32)), .val (.int p6), .val (.int p5), .val (.int p6), .val (.int (98 : Int32)), .val (.int (2 : Int32)), .unset, .unset] [(.ref b73)])
  obtain ⟨T272, X272, e272, st272⟩ := getF X270 hx hZ hown (host := "") (Or.inl (tw104 hw)) Via.refl e270 F_size_b73 (g := (mkF m 207 #[.val (.ref b73), .val (.int (1 : Int32)), .val (.int (2 : Int32)), .val (.int p6), .val (.int p5), .val (.int p6), .val (.int (98 : Int32)), .val (.int (2 : Int32)), .unset, .unset] [(.ref b73)])) rfl rfl (hb hby d12_207)
  refine Go.step (fun _ k => st272 _ (XS.bipush X272.here hx rfl (hb hby d12_210) (XS.imul X272.here hx rfl (hb hby d12_212) rfl (XS.istore X272.here hx rfl (hb hby d12_213) rfl (l' := #[.val (.ref b73), .val (.int (1 : Int32)), .val (.int (2 : Int32)), .val (.int p6), .val (.int p5), .val (.int p6), .val (.int (98 : Int32)), .val (.int (2 : Int32)), .val (.int (6 : Int32)), .unset]) rfl (XS.aloadN X272.here hx rfl (hb hby d12_215) rfl rfl k))))) ?_
  show Go p e below s _ _ _ T272 (mkF m 216 #[.val (.ref b73), .val (.int (1 : Int32)), .val (.int (2 : Int32)), .val (.int p6), .val (.int p5), .val (.int p6), .val (.int (98 : Int32)), .val (.int (2 : Int32)), .val (.int (6 : Int32)), .unset] [(.ref b73)])
  obtain ⟨T273, X273, e273, st273⟩ := getF X272 hx hZ hown (host := "") (Or.inl (tw51 hw)) Via.refl e272 F_entries_b73 (g := (mkF m 216 #[.val (.ref b73), .val (.int (1 : Int32)), .val (.int (2 : Int32)), .val (.int p6), .val (.int p5), .val (.int p6), .val (.int (98 : Int32)), .val (.int (2 : Int32)), .val (.int (6 : Int32)), .unset] [(.ref b73)])) rfl rfl (hb hby d12_216)
  refine Go.step (fun _ k => st273 _ (XS.iload X273.here hx rfl (hb hby d12_219) rfl (XS.iconst X273.here hx rfl (hb hby d12_221) (XS.iadd X273.here hx rfl (hb hby d12_222) rfl (XS.iloadN X273.here hx rfl (hb hby d12_223) rfl k))))) ?_
  show Go p e below s _ _ _ T273 (mkF m 224 #[.val (.ref b73), .val (.int (1 : Int32)), .val (.int (2 : Int32)), .val (.int p6), .val (.int p5), .val (.int p6), .val (.int (98 : Int32)), .val (.int (2 : Int32)), .val (.int (6 : Int32)), .unset] [(.int (1 : Int32)), (.int (6 : Int32)), (.ref b96_134)])
  obtain ⟨cl274, Ar274, qq274, Sz274, Ng274, Hs274, Ft274⟩ := id V_b96_134
  have in274 : ¬ ((6 : Int32) < 0 ∨ cl274.slots.size ≤ ((6 : Int32)).toNatClampNeg) := (inb_of Sz274 ⟨by decide, by decide⟩)
  obtain ⟨T274, h274, X274, e274, W274, st274⟩ := stI X273 hx hZ e273 Ar274 (j := (6 : Int32)) in274 (g := (mkF m 224 #[.val (.ref b73), .val (.int (1 : Int32)), .val (.int (2 : Int32)), .val (.int p6), .val (.int p5), .val (.int p6), .val (.int (98 : Int32)), .val (.int (2 : Int32)), .val (.int (6 : Int32)), .unset] [(.int (1 : Int32)), (.int (6 : Int32)), (.ref b96_134)])) rfl rfl (hb hby d12_224)
  have f275 : Arv Z h274 b96_134 k96_134 .int (12 : Int32) [(.int (0 : Int32)), (.int (1 : Int32)), (.int p5), (.int p6), (.int p5), (.int (97 : Int32)), (.int (1 : Int32)), (.int (0 : Int32)), (.int (0 : Int32)), (.int (0 : Int32)), (.int (0 : Int32)), (.int (0 : Int32))] (.int (0 : Int32)) := Arv.set Ar274 qq274 Sz274 Ng274 Hs274 Ft274 rfl W274 6 rfl (Nat.le_of_ble_eq_true rfl)
  have N276 := Fr.snoc X274 N263 g_b96_134
  refine Go.step (fun _ k => st274 _ (XS.aloadN X274.here hx rfl (hb hby d12_225) rfl rfl k)) ?_
  show Go p e below s _ _ _ T274 (mkF m 226 #[.val (.ref b73), .val (.int (1 : Int32)), .val (.int (2 : Int32)), .val (.int p6), .val (.int p5), .val (.int p6), .val (.int (98 : Int32)), .val (.int (2 : Int32)), .val (.int (6 : Int32)), .unset] [(.ref b73)])
  have f277 := (F_entries_b73.other W274 (Or.inl ne_b73_b96_134))
  obtain ⟨T278, X278, e278, st278⟩ := getF X274 hx hZ hown (host := "") (Or.inl (tw51 hw)) Via.refl e274 f277 (g := (mkF m 226 #[.val (.ref b73), .val (.int (1 : Int32)), .val (.int (2 : Int32)), .val (.int p6), .val (.int p5), .val (.int p6), .val (.int (98 : Int32)), .val (.int (2 : Int32)), .val (.int (6 : Int32)), .unset] [(.ref b73)])) rfl rfl (hb hby d12_226)
  refine Go.step (fun _ k => st278 _ (XS.iload X278.here hx rfl (hb hby d12_229) rfl (XS.iconst X278.here hx rfl (hb hby d12_231) (XS.iadd X278.here hx rfl (hb hby d12_232) rfl (XS.iloadN X278.here hx rfl (hb hby d12_233) rfl k))))) ?_
  show Go p e below s _ _ _ T278 (mkF m 234 #[.val (.ref b73), .val (.int (1 : Int32)), .val (.int (2 : Int32)), .val (.int p6), .val (.int p5), .val (.int p6), .val (.int (98 : Int32)), .val (.int (2 : Int32)), .val (.int (6 : Int32)), .unset] [(.int (2 : Int32)), (.int (7 : Int32)), (.ref b96_134)])
  obtain ⟨cl279, Ar279, qq279, Sz279, Ng279, Hs279, Ft279⟩ := id f275
  have in279 : ¬ ((7 : Int32) < 0 ∨ cl279.slots.size ≤ ((7 : Int32)).toNatClampNeg) := (inb_of Sz279 ⟨by decide, by decide⟩)
  obtain ⟨T279, h279, X279, e279, W279, st279⟩ := stI X278 hx hZ e278 Ar279 (j := (7 : Int32)) in279 (g := (mkF m 234 #[.val (.ref b73), .val (.int (1 : Int32)), .val (.int (2 : Int32)), .val (.int p6), .val (.int p5), .val (.int p6), .val (.int (98 : Int32)), .val (.int (2 : Int32)), .val (.int (6 : Int32)), .unset] [(.int (2 : Int32)), (.int (7 : Int32)), (.ref b96_134)])) rfl rfl (hb hby d12_234)
  have f280 : Arv Z h279 b96_134 k96_134 .int (12 : Int32) [(.int (0 : Int32)), (.int (1 : Int32)), (.int p5), (.int p6), (.int p5), (.int (97 : Int32)), (.int (1 : Int32)), (.int (2 : Int32)), (.int (0 : Int32)), (.int (0 : Int32)), (.int (0 : Int32)), (.int (0 : Int32))] (.int (0 : Int32)) := Arv.set Ar279 qq279 Sz279 Ng279 Hs279 Ft279 rfl W279 7 rfl (Nat.le_of_ble_eq_true rfl)
  have N281 := Fr.snoc X279 N276 g_b96_134
  refine Go.step (fun _ k => st279 _ (XS.aloadN X279.here hx rfl (hb hby d12_235) rfl rfl k)) ?_
  show Go p e below s _ _ _ T279 (mkF m 236 #[.val (.ref b73), .val (.int (1 : Int32)), .val (.int (2 : Int32)), .val (.int p6), .val (.int p5), .val (.int p6), .val (.int (98 : Int32)), .val (.int (2 : Int32)), .val (.int (6 : Int32)), .unset] [(.ref b73)])
  have f282 := (f277.other W279 (Or.inl ne_b73_b96_134))
  obtain ⟨T283, X283, e283, st283⟩ := getF X279 hx hZ hown (host := "") (Or.inl (tw51 hw)) Via.refl e279 f282 (g := (mkF m 236 #[.val (.ref b73), .val (.int (1 : Int32)), .val (.int (2 : Int32)), .val (.int p6), .val (.int p5), .val (.int p6), .val (.int (98 : Int32)), .val (.int (2 : Int32)), .val (.int (6 : Int32)), .unset] [(.ref b73)])) rfl rfl (hb hby d12_236)
  refine Go.step (fun _ k => st283 _ (XS.iload X283.here hx rfl (hb hby d12_239) rfl (XS.iconst X283.here hx rfl (hb hby d12_241) (XS.iadd X283.here hx rfl (hb hby d12_242) rfl (XS.iloadN X283.here hx rfl (hb hby d12_243) rfl k))))) ?_
  show Go p e below s _ _ _ T283 (mkF m 244 #[.val (.ref b73), .val (.int (1 : Int32)), .val (.int (2 : Int32)), .val (.int p6), .val (.int p5), .val (.int p6), .val (.int (98 : Int32)), .val (.int (2 : Int32)), .val (.int (6 : Int32)), .unset] [(.int p6), (.int (8 : Int32)), (.ref b96_134)])
  obtain ⟨cl284, Ar284, qq284, Sz284, Ng284, Hs284, Ft284⟩ := id f280
  have in284 : ¬ ((8 : Int32) < 0 ∨ cl284.slots.size ≤ ((8 : Int32)).toNatClampNeg) := (inb_of Sz284 ⟨by decide, by decide⟩)
  obtain ⟨T284, h284, X284, e284, W284, st284⟩ := stI X283 hx hZ e283 Ar284 (j := (8 : Int32)) in284 (g := (mkF m 244 #[.val (.ref b73), .val (.int (1 : Int32)), .val (.int (2 : Int32)), .val (.int p6), .val (.int p5), .val (.int p6), .val (.int (98 : Int32)), .val (.int (2 : Int32)), .val (.int (6 : Int32)), .unset] [(.int p6), (.int (8 : Int32)), (.ref b96_134)])) rfl rfl (hb hby d12_244)
  have f285 : Arv Z h284 b96_134 k96_134 .int (12 : Int32) [(.int (0 : Int32)), (.int (1 : Int32)), (.int p5), (.int p6), (.int p5), (.int (97 : Int32)), (.int (1 : Int32)), (.int (2 : Int32)), (.int p6), (.int (0 : Int32)), (.int (0 : Int32)), (.int (0 : Int32))] (.int (0 : Int32)) := Arv.set Ar284 qq284 Sz284 Ng284 Hs284 Ft284 rfl W284 8 rfl (Nat.le_of_ble_eq_true rfl)
  have N286 := Fr.snoc X284 N281 g_b96_134
  refine Go.step (fun _ k => st284 _ (XS.aloadN X284.here hx rfl (hb hby d12_245) rfl rfl k)) ?_
  show Go p e below s _ _ _ T284 (mkF m 246 #[.val (.ref b73), .val (.int (1 : Int32)), .val (.int (2 : Int32)), .val (.int p6), .val (.int p5), .val (.int p6), .val (.int (98 : Int32)), .val (.int (2 : Int32)), .val (.int (6 : Int32)), .unset] [(.ref b73)])
  have f287 := (f282.other W284 (Or.inl ne_b73_b96_134))
  obtain ⟨T288, X288, e288, st288⟩ := getF X284 hx hZ hown (host := "") (Or.inl (tw51 hw)) Via.refl e284 f287 (g := (mkF m 246 #[.val (.ref b73), .val (.int (1 : Int32)), .val (.int (2 : Int32)), .val (.int p6), .val (.int p5), .val (.int p6), .val (.int (98 : Int32)), .val (.int (2 : Int32)), .val (.int (6 : Int32)), .unset] [(.ref b73)])) rfl rfl (hb hby d12_246)
  refine Go.step (fun _ k => st288 _ (XS.iload X288.here hx rfl (hb hby d12_249) rfl (XS.iconst X288.here hx rfl (hb hby d12_251) (XS.iadd X288.here hx rfl (hb hby d12_252) rfl (XS.iload X288.here hx rfl (hb hby d12_253) rfl k))))) ?_
  show Go p e below s _ _ _ T288 (mkF m 255 #[.val (.ref b73), .val (.int (1 : Int32)), .val (.int (2 : Int32)), .val (.int p6), .val (.int p5), .val (.int p6), .val (.int (98 : Int32)), .val (.int (2 : Int32)), .val (.int (6 : Int32)), .unset] [(.int p5), (.int (9 : Int32)), (.ref b96_134)])
  obtain ⟨cl289, Ar289, qq289, Sz289, Ng289, Hs289, Ft289⟩ := id f285
  have in289 : ¬ ((9 : Int32) < 0 ∨ cl289.slots.size ≤ ((9 : Int32)).toNatClampNeg) := (inb_of Sz289 ⟨by decide, by decide⟩)
  obtain ⟨T289, h289, X289, e289, W289, st289⟩ := stI X288 hx hZ e288 Ar289 (j := (9 : Int32)) in289 (g := (mkF m 255 #[.val (.ref b73), .val (.int (1 : Int32)), .val (.int (2 : Int32)), .val (.int p6), .val (.int p5), .val (.int p6), .val (.int (98 : Int32)), .val (.int (2 : Int32)), .val (.int (6 : Int32)), .unset] [(.int p5), (.int (9 : Int32)), (.ref b96_134)])) rfl rfl (hb hby d12_255)
  have f290 : Arv Z h289 b96_134 k96_134 .int (12 : Int32) [(.int (0 : Int32)), (.int (1 : Int32)), (.int p5), (.int p6), (.int p5), (.int (97 : Int32)), (.int (1 : Int32)), (.int (2 : Int32)), (.int p6), (.int p5), (.int (0 : Int32)), (.int (0 : Int32))] (.int (0 : Int32)) := Arv.set Ar289 qq289 Sz289 Ng289 Hs289 Ft289 rfl W289 9 rfl (Nat.le_of_ble_eq_true rfl)
  have N291 := Fr.snoc X289 N286 g_b96_134
  refine Go.step (fun _ k => st289 _ (XS.aloadN X289.here hx rfl (hb hby d12_256) rfl rfl k)) ?_
  show Go p e below s _ _ _ T289 (mkF m 257 #[.val (.ref b73), .val (.int (1 : Int32)), .val (.int (2 : Int32)), .val (.int p6), .val (.int p5), .val (.int p6), .val (.int (98 : Int32)), .val (.int (2 : Int32)), .val (.int (6 : Int32)), .unset] [(.ref b73)])
  have f292 := (f287.other W289 (Or.inl ne_b73_b96_134))
  obtain ⟨T293, X293, e293, st293⟩ := getF X289 hx hZ hown (host := "") (Or.inl (tw51 hw)) Via.refl e289 f292 (g := (mkF m 257 #[.val (.ref b73), .val (.int (1 : Int32)), .val (.int (2 : Int32)), .val (.int p6), .val (.int p5), .val (.int p6), .val (.int (98 : Int32)), .val (.int (2 : Int32)), .val (.int (6 : Int32)), .unset] [(.ref b73)])) rfl rfl (hb hby d12_257)
  refine Go.step (fun _ k => st293 _ (XS.iload X293.here hx rfl (hb hby d12_260) rfl (XS.iconst X293.here hx rfl (hb hby d12_262) (XS.iadd X293.here hx rfl (hb hby d12_263) rfl (XS.iload X293.here hx rfl (hb hby d12_264) rfl k))))) ?_
  show Go p e below s _ _ _ T293 (mkF m 266 #[.val (.ref b73), .val (.int (1 : Int32)), .val (.int (2 : Int32)), .val (.int p6), .val (.int p5), .val (.int p6), .val (.int (98 : Int32)), .val (.int (2 : Int32)), .val (.int (6 : Int32)), .unset] [(.int p6), (.int (10 : Int32)), (.ref b96_134)])
  obtain ⟨cl294, Ar294, qq294, Sz294, Ng294, Hs294, Ft294⟩ := id f290
  have in294 : ¬ ((10 : Int32) < 0 ∨ cl294.slots.size ≤ ((10 : Int32)).toNatClampNeg) := (inb_of Sz294 ⟨by decide, by decide⟩)
  obtain ⟨T294, h294, X294, e294, W294, st294⟩ := stI X293 hx hZ e293 Ar294 (j := (10 : Int32)) in294 (g := (mkF m 266 #[.val (.ref b73), .val (.int (1 : Int32)), .val (.int (2 : Int32)), .val (.int p6), .val (.int p5), .val (.int p6), .val (.int (98 : Int32)), .val (.int (2 : Int32)), .val (.int (6 : Int32)), .unset] [(.int p6), (.int (10 : Int32)), (.ref b96_134)])) rfl rfl (hb hby d12_266)
  have f295 : Arv Z h294 b96_134 k96_134 .int (12 : Int32) [(.int (0 : Int32)), (.int (1 : Int32)), (.int p5), (.int p6), (.int p5), (.int (97 : Int32)), (.int (1 : Int32)), (.int (2 : Int32)), (.int p6), (.int p5), (.int p6), (.int (0 : Int32))] (.int (0 : Int32)) := Arv.set Ar294 qq294 Sz294 Ng294 Hs294 Ft294 rfl W294 10 rfl (Nat.le_of_ble_eq_true rfl)
  have N296 := Fr.snoc X294 N291 g_b96_134
  refine Go.step (fun _ k => st294 _ (XS.aloadN X294.here hx rfl (hb hby d12_267) rfl rfl k)) ?_
  show Go p e below s _ _ _ T294 (mkF m 268 #[.val (.ref b73), .val (.int (1 : Int32)), .val (.int (2 : Int32)), .val (.int p6), .val (.int p5), .val (.int p6), .val (.int (98 : Int32)), .val (.int (2 : Int32)), .val (.int (6 : Int32)), .unset] [(.ref b73)])
  have f297 := (f292.other W294 (Or.inl ne_b73_b96_134))
  obtain ⟨T298, X298, e298, st298⟩ := getF X294 hx hZ hown (host := "") (Or.inl (tw51 hw)) Via.refl e294 f297 (g := (mkF m 268 #[.val (.ref b73), .val (.int (1 : Int32)), .val (.int (2 : Int32)), .val (.int p6), .val (.int p5), .val (.int p6), .val (.int (98 : Int32)), .val (.int (2 : Int32)), .val (.int (6 : Int32)), .unset] [(.ref b73)])) rfl rfl (hb hby d12_268)
  refine Go.step (fun _ k => st298 _ (XS.iload X298.here hx rfl (hb hby d12_271) rfl (XS.iconst X298.here hx rfl (hb hby d12_273) (XS.iadd X298.here hx rfl (hb hby d12_274) rfl (XS.iload X298.here hx rfl (hb hby d12_275) rfl k))))) ?_
  show Go p e below s _ _ _ T298 (mkF m 277 #[.val (.ref b73), .val (.int (1 : Int32)), .val (.int (2 : Int32)), .val (.int p6), .val (.int p5), .val (.int p6), .val (.int (98 : Int32)), .val (.int (2 : Int32)), .val (.int (6 : Int32)), .unset] [(.int (98 : Int32)), (.int (11 : Int32)), (.ref b96_134)])
  obtain ⟨cl299, Ar299, qq299, Sz299, Ng299, Hs299, Ft299⟩ := id f295
  have in299 : ¬ ((11 : Int32) < 0 ∨ cl299.slots.size ≤ ((11 : Int32)).toNatClampNeg) := (inb_of Sz299 ⟨by decide, by decide⟩)
  obtain ⟨T299, h299, X299, e299, W299, st299⟩ := stI X298 hx hZ e298 Ar299 (j := (11 : Int32)) in299 (g := (mkF m 277 #[.val (.ref b73), .val (.int (1 : Int32)), .val (.int (2 : Int32)), .val (.int p6), .val (.int p5), .val (.int p6), .val (.int (98 : Int32)), .val (.int (2 : Int32)), .val (.int (6 : Int32)), .unset] [(.int (98 : Int32)), (.int (11 : Int32)), (.ref b96_134)])) rfl rfl (hb hby d12_277)
  have f300 : Arv Z h299 b96_134 k96_134 .int (12 : Int32) [(.int (0 : Int32)), (.int (1 : Int32)), (.int p5), (.int p6), (.int p5), (.int (97 : Int32)), (.int (1 : Int32)), (.int (2 : Int32)), (.int p6), (.int p5), (.int p6), (.int (98 : Int32))] (.int (0 : Int32)) := Arv.set Ar299 qq299 Sz299 Ng299 Hs299 Ft299 rfl W299 11 rfl (Nat.le_of_ble_eq_true rfl)
  have N301 := Fr.snoc X299 N296 g_b96_134
  refine Go.step (fun _ k => st299 _ (XS.aloadN X299.here hx rfl (hb hby d12_278) rfl rfl (XS.dup X299.here hx rfl (hb hby d12_279) rfl rfl k))) ?_
  show Go p e below s _ _ _ T299 (mkF m 280 #[.val (.ref b73), .val (.int (1 : Int32)), .val (.int (2 : Int32)), .val (.int p6), .val (.int p5), .val (.int p6), .val (.int (98 : Int32)), .val (.int (2 : Int32)), .val (.int (6 : Int32)), .unset] [(.ref b73), (.ref b73)])
  have f302 := ((((((F_size_b73.other W274 (Or.inl ne_b73_b96_134)).other W279 (Or.inl ne_b73_b96_134)).other W284 (Or.inl ne_b73_b96_134)).other W289 (Or.inl ne_b73_b96_134)).other W294 (Or.inl ne_b73_b96_134)).other W299 (Or.inl ne_b73_b96_134))
  obtain ⟨T303, X303, e303, st303⟩ := getF X299 hx hZ hown (host := "") (Or.inl (tw104 hw)) Via.refl e299 f302 (g := (mkF m 280 #[.val (.ref b73), .val (.int (1 : Int32)), .val (.int (2 : Int32)), .val (.int p6), .val (.int p5), .val (.int p6), .val (.int (98 : Int32)), .val (.int (2 : Int32)), .val (.int (6 : Int32)), .unset] [(.ref b73), (.ref b73)])) rfl rfl (hb hby d12_280)
  refine Go.step (fun _ k => st303 _ (XS.iconst X303.here hx rfl (hb hby d12_283) (XS.iadd X303.here hx rfl (hb hby d12_284) rfl k))) ?_
  show Go p e below s _ _ _ T303 (mkF m 285 #[.val (.ref b73), .val (.int (1 : Int32)), .val (.int (2 : Int32)), .val (.int p6), .val (.int p5), .val (.int p6), .val (.int (98 : Int32)), .val (.int (2 : Int32)), .val (.int (6 : Int32)), .unset] [(.int (2 : Int32)), (.ref b73)])
  have f304 := ((((((E_b73.wr W274).wr W279).wr W284).wr W289).wr W294).wr W299)
  obtain ⟨T305, h305, X305, e305, W305, st305⟩ := putF X303 hx hZ hown (host := "") (Or.inl (tw104 hw)) Via.refl e303 f302 f304 (Or.inl (tw105 hw)) (tw31 hw) (ty := .int) (by decide) rfl rfl (g := (mkF m 285 #[.val (.ref b73), .val (.int (1 : Int32)), .val (.int (2 : Int32)), .val (.int p6), .val (.int p5), .val (.int p6), .val (.int (98 : Int32)), .val (.int (2 : Int32)), .val (.int (6 : Int32)), .unset] [(.int (2 : Int32)), (.ref b73)])) rfl rfl (hb hby d12_285)
  have f306 := f302.same W305
  have N307 := Fr.snoc X305 N301 g_b73
  refine Go.step (fun _ k => st305 _ (XS.aloadN X305.here hx rfl (hb hby d12_288) rfl rfl k)) ?_
  show Go p e below s _ _ _ T305 (mkF m 289 #[.val (.ref b73), .val (.int (1 : Int32)), .val (.int (2 : Int32)), .val (.int p6), .val (.int p5), .val (.int p6), .val (.int (98 : Int32)), .val (.int (2 : Int32)), .val (.int (6 : Int32)), .unset] [(.ref b73)])
  have f308 := (((((((F_slots_b73.other W274 (Or.inl ne_b73_b96_134)).other W279 (Or.inl ne_b73_b96_134)).other W284 (Or.inl ne_b73_b96_134)).other W289 (Or.inl ne_b73_b96_134)).other W294 (Or.inl ne_b73_b96_134)).other W299 (Or.inl ne_b73_b96_134)).other W305 (Or.inr (slot_ne (Or.inl (tw63 hw)) (Or.inl (tw105 hw)) (by decide) (t := (.array .int)) (t' := .int) (by decide) (by decide))))
  obtain ⟨T309, X309, e309, st309⟩ := getF X305 hx hZ hown (host := "") (Or.inl (tw62 hw)) Via.refl e305 f308 (g := (mkF m 289 #[.val (.ref b73), .val (.int (1 : Int32)), .val (.int (2 : Int32)), .val (.int p6), .val (.int p5), .val (.int p6), .val (.int (98 : Int32)), .val (.int (2 : Int32)), .val (.int (6 : Int32)), .unset] [(.ref b73)])) rfl rfl (hb hby d12_289)
  refine Go.step (fun _ k => st309 _ (XS.iload X309.here hx rfl (hb hby d12_292) rfl (XS.aloadN X309.here hx rfl (hb hby d12_294) rfl rfl k))) ?_
  show Go p e below s _ _ _ T309 (mkF m 295 #[.val (.ref b73), .val (.int (1 : Int32)), .val (.int (2 : Int32)), .val (.int p6), .val (.int p5), .val (.int p6), .val (.int (98 : Int32)), .val (.int (2 : Int32)), .val (.int (6 : Int32)), .unset] [(.ref b73), (.int (2 : Int32)), (.ref b108_134)])
  obtain ⟨T310, X310, e310, st310⟩ := getF X309 hx hZ hown (host := "") (Or.inl (tw104 hw)) Via.refl e309 f306 (g := (mkF m 295 #[.val (.ref b73), .val (.int (1 : Int32)), .val (.int (2 : Int32)), .val (.int p6), .val (.int p5), .val (.int p6), .val (.int (98 : Int32)), .val (.int (2 : Int32)), .val (.int (6 : Int32)), .unset] [(.ref b73), (.int (2 : Int32)), (.ref b108_134)])) rfl rfl (hb hby d12_295)
  refine Go.step (fun _ k => st310 _ k) ?_
  show Go p e below s _ _ _ T310 (mkF m 298 #[.val (.ref b73), .val (.int (1 : Int32)), .val (.int (2 : Int32)), .val (.int p6), .val (.int p5), .val (.int p6), .val (.int (98 : Int32)), .val (.int (2 : Int32)), .val (.int (6 : Int32)), .unset] [(.int (2 : Int32)), (.int (2 : Int32)), (.ref b108_134)])
  have f311 := (((((((V_b108_134.other W274 ne_b108_134_b96_134).other W279 ne_b108_134_b96_134).other W284 ne_b108_134_b96_134).other W289 ne_b108_134_b96_134).other W294 ne_b108_134_b96_134).other W299 ne_b108_134_b96_134).other W305 ne_b108_134_b73)
  obtain ⟨cl312, Ar312, qq312, Sz312, Ng312, Hs312, Ft312⟩ := id f311
  have in312 : ¬ ((2 : Int32) < 0 ∨ cl312.slots.size ≤ ((2 : Int32)).toNatClampNeg) := (inb_of Sz312 ⟨by decide, by decide⟩)
  obtain ⟨T312, h312, X312, e312, W312, st312⟩ := stI X310 hx hZ e310 Ar312 (j := (2 : Int32)) in312 (g := (mkF m 298 #[.val (.ref b73), .val (.int (1 : Int32)), .val (.int (2 : Int32)), .val (.int p6), .val (.int p5), .val (.int p6), .val (.int (98 : Int32)), .val (.int (2 : Int32)), .val (.int (6 : Int32)), .unset] [(.int (2 : Int32)), (.int (2 : Int32)), (.ref b108_134)])) rfl rfl (hb hby d12_298)
  have f313 : Arv Z h312 b108_134 k108_134 .int (8 : Int32) [(.int (0 : Int32)), (.int (1 : Int32)), (.int (2 : Int32)), (.int (0 : Int32)), (.int (0 : Int32)), (.int (0 : Int32)), (.int (0 : Int32)), (.int (0 : Int32))] (.int (0 : Int32)) := Arv.set Ar312 qq312 Sz312 Ng312 Hs312 Ft312 rfl W312 2 rfl (Nat.le_of_ble_eq_true rfl)
  have N314 := Fr.snoc X312 N307 g_b108_134
  refine Go.step (fun _ k => st312 _ (XS.aloadN X312.here hx rfl (hb hby d12_299) rfl rfl k)) ?_
  show Go p e below s _ _ _ T312 (mkF m 300 #[.val (.ref b73), .val (.int (1 : Int32)), .val (.int (2 : Int32)), .val (.int p6), .val (.int p5), .val (.int p6), .val (.int (98 : Int32)), .val (.int (2 : Int32)), .val (.int (6 : Int32)), .unset] [(.ref b73)])
  have f315 := (f306.other W312 (Or.inl (Ne.symm ne_b108_134_b73)))
  obtain ⟨T316, X316, e316, st316⟩ := getF X312 hx hZ hown (host := "") (Or.inl (tw104 hw)) Via.refl e312 f315 (g := (mkF m 300 #[.val (.ref b73), .val (.int (1 : Int32)), .val (.int (2 : Int32)), .val (.int p6), .val (.int p5), .val (.int p6), .val (.int (98 : Int32)), .val (.int (2 : Int32)), .val (.int (6 : Int32)), .unset] [(.ref b73)])) rfl rfl (hb hby d12_300)
  refine Go.step (fun _ k => st316 _ (XS.iconst X316.here hx rfl (hb hby d12_303) (XS.imul X316.here hx rfl (hb hby d12_304) rfl (XS.aloadN X316.here hx rfl (hb hby d12_305) rfl rfl k)))) ?_
  show Go p e below s _ _ _ T316 (mkF m 306 #[.val (.ref b73), .val (.int (1 : Int32)), .val (.int (2 : Int32)), .val (.int p6), .val (.int p5), .val (.int p6), .val (.int (98 : Int32)), .val (.int (2 : Int32)), .val (.int (6 : Int32)), .unset] [(.ref b73), (.int (4 : Int32))])
  have f317 := (f308.other W312 (Or.inl (Ne.symm ne_b108_134_b73)))
  obtain ⟨T318, X318, e318, st318⟩ := getF X316 hx hZ hown (host := "") (Or.inl (tw62 hw)) Via.refl e316 f317 (g := (mkF m 306 #[.val (.ref b73), .val (.int (1 : Int32)), .val (.int (2 : Int32)), .val (.int p6), .val (.int p5), .val (.int p6), .val (.int (98 : Int32)), .val (.int (2 : Int32)), .val (.int (6 : Int32)), .unset] [(.ref b73), (.int (4 : Int32))])) rfl rfl (hb hby d12_306)
  refine Go.step (fun _ k => st318 _ k) ?_
  show Go p e below s _ _ _ T318 (mkF m 309 #[.val (.ref b73), .val (.int (1 : Int32)), .val (.int (2 : Int32)), .val (.int p6), .val (.int p5), .val (.int p6), .val (.int (98 : Int32)), .val (.int (2 : Int32)), .val (.int (6 : Int32)), .unset] [(.ref b108_134), (.int (4 : Int32))])
  obtain ⟨cl319, Ar319, -, Sz319, Ng319, -, -⟩ := id f313
  have aln319 := X318.arraylength hx (by rw [e318]; exact Ar319.1) (State.isArrayOf_alike hZ.alike Ar319.2.1) (g := (mkF m 309 #[.val (.ref b73), .val (.int (1 : Int32)), .val (.int (2 : Int32)), .val (.int p6), .val (.int p5), .val (.int p6), .val (.int (98 : Int32)), .val (.int (2 : Int32)), .val (.int (6 : Int32)), .unset] [(.ref b108_134), (.int (4 : Int32))])) rfl rfl (hb hby d12_309)
  rw [len_of Sz319 Ng319] at aln319
  refine Go.step (fun _ k => aln319 _ (XS.icmpYes X318.here hx rfl (pc0 := 310) (pc' := 324) rfl (hb hby d12_310) rfl (flt (by decide)).2.2.2 (by decide) (by decide) (XS.iconst X318.here hx rfl (hb hby d12_324) k))) ?_
  show Go p e below s _ _ _ T318 (mkF m 325 #[.val (.ref b73), .val (.int (1 : Int32)), .val (.int (2 : Int32)), .val (.int p6), .val (.int p5), .val (.int p6), .val (.int (98 : Int32)), .val (.int (2 : Int32)), .val (.int (6 : Int32)), .unset] [(.int (-1 : Int32))])
  have f320 := (((((((((Keep.refl h0 [b96_134, b73, b108_134]).wr W274 (Or.inl (List.mem_of_getElem? (i := 0) rfl))).wr W279 (Or.inl (List.mem_of_getElem? (i := 0) rfl))).wr W284 (Or.inl (List.mem_of_getElem? (i := 0) rfl))).wr W289 (Or.inl (List.mem_of_getElem? (i := 0) rfl))).wr W294 (Or.inl (List.mem_of_getElem? (i := 0) rfl))).wr W299 (Or.inl (List.mem_of_getElem? (i := 0) rfl))).wr W305 (Or.inl (List.mem_of_getElem? (i := 1) rfl))).wr W312 (Or.inl (List.mem_of_getElem? (i := 2) rfl)))
  have f321 := ((f300.other W305 (Ne.symm ne_b73_b96_134)).other W312 (Ne.symm ne_b108_134_b96_134))
  have f322 := ((((((((F_text_b73.other W274 (Or.inl ne_b73_b96_134)).other W279 (Or.inl ne_b73_b96_134)).other W284 (Or.inl ne_b73_b96_134)).other W289 (Or.inl ne_b73_b96_134)).other W294 (Or.inl ne_b73_b96_134)).other W299 (Or.inl ne_b73_b96_134)).other W305 (Or.inr (slot_ne (Or.inr (tw43 hw)) (Or.inl (tw105 hw)) (by decide) (t := (.object xs23)) (t' := .int) (by decide) (by decide)))).other W312 (Or.inl (Ne.symm ne_b108_134_b73)))
  have f323 := ((((((((F_keyed_b73.other W274 (Or.inl ne_b73_b96_134)).other W279 (Or.inl ne_b73_b96_134)).other W284 (Or.inl ne_b73_b96_134)).other W289 (Or.inl ne_b73_b96_134)).other W294 (Or.inl ne_b73_b96_134)).other W299 (Or.inl ne_b73_b96_134)).other W305 (Or.inr (slot_ne (Or.inl (tw74 hw)) (Or.inl (tw105 hw)) (by decide) (t := .boolean) (t' := .int) (by decide) (by decide)))).other W312 (Or.inl (Ne.symm ne_b108_134_b73)))
  have f324 := (((f297.other W299 (Or.inl ne_b73_b96_134)).other W305 (Or.inr (slot_ne (Or.inl (tw52 hw)) (Or.inl (tw105 hw)) (by decide) (t := (.array .int)) (t' := .int) (by decide) (by decide)))).other W312 (Or.inl (Ne.symm ne_b108_134_b73)))
  have f325 := ((((((((F_lineEnds_b73.other W274 (Or.inl ne_b73_b96_134)).other W279 (Or.inl ne_b73_b96_134)).other W284 (Or.inl ne_b73_b96_134)).other W289 (Or.inl ne_b73_b96_134)).other W294 (Or.inl ne_b73_b96_134)).other W299 (Or.inl ne_b73_b96_134)).other W305 (Or.inr (slot_ne (Or.inr (tw45 hw)) (Or.inl (tw105 hw)) (by decide) (t := (.object xs3)) (t' := .int) (by decide) (by decide)))).other W312 (Or.inl (Ne.symm ne_b108_134_b73)))
  exact Go.retI X318 hx hlk Bd.returns (hb hby d12_325) e318 ⟨rfl, N314, f320, f321, f322, f323, f317, f315, f324, f325, f313⟩ (by decide) (by decide)

theorem ef_StringLatin1_canEncode_0 (m : MethodId) (x0 : Int32) : entryFrame m #[(.int x0)] 1 = mkF m 0 #[.val (.int x0)] [] := by first | (simp [entryFrame, mkF, argsToLocals, Value.category]; done) | rfl
def Q_StringLatin1_canEncode_0 (Z : State)  (h0 : Heap) (n0 : Nat) (v : Option Value) (h : Heap) (L : List Loc) : Prop := v = some (.int (1 : Int32)) ∧ Fr n0 L ∧ h = h0
set_option maxRecDepth 65536 in
set_option maxHeartbeats 40000000 in
theorem rm_StringLatin1_canEncode_0 (l : Launch) (Z : State) (a0 : Array Value) (hw : ∀ d ∈ tables_1, d.before a0 Z = true) (ws : List Jvm.Cond)  (h0 : Heap) (n0 : Nat) (Z0 : n0 ≤ h0.size) :
    MetFree l xm6 (head1 (Jvm.Cond.code xm6 jdk_43_method_3_code 1 (some .boolean) :: ws) xr17) (fun a U => a = #[(.int (97 : Int32))] ∧ Z.Warmed39 U.vm ∧ U.heap = h0) (fun _ _ _ _ _ => True) (fun _ U o U' => ∃ v L, o = .returned v ∧ Q_StringLatin1_canEncode_0 Z  h0 n0 v U'.heap L ∧ FrameEnd U o U' L xr17.cells xr17.slots) := by
  refine MetFree.of_bodySF (plainFor_of_name pn_6) hisR ?_
  intro p e s m args below meth c s₁ Bd hml0 hP hK
  obtain ⟨rfl, hZ, hh⟩ := hP
  have hx := Bd.exec
  have hby := Bd.bytes
  have hlk : meth.locks = false := BodyLoose.notSynchronized Bd
  have hml : c.maxLocals = 1 := hml0
  have hown : s.vm.findClass xs13 = some m.cls := findClass_of_methodNamed Bd.named
  have hnm := (name_of_methodNamed Bd.named Bd.method).1
  have X0 : Stand p l e xr17 s m #[(.int (97 : Int32))] below meth c s₁ [] 0 0 := Stand.of_body Bd
  have e0 : s₁.heap = h0 := by rw [← hh, Bd.state]; rfl
  have N0 := Fr.nil n0
  show Go p e below s (Q_StringLatin1_canEncode_0 Z  h0 n0) xr17.cells xr17.slots s₁ (entryFrame m #[(.int (97 : Int32))] 1)
  refine Go.cast (ef_StringLatin1_canEncode_0 m (97 : Int32)) ?_
  show Go p e below s _ _ _ s₁ (mkF m 0 #[.val (.int (97 : Int32))] [])
  refine Go.step (fun _ k => XS.iloadN X0.here hx rfl (hb hby d20_0) rfl (XS.sipush X0.here hx rfl (hb hby d20_1) (XS.icmpNo X0.here hx rfl (hb hby d20_4) rfl (flt (by decide)).2.2.1 (XS.iconst X0.here hx rfl (hb hby d20_7) (XS.goto X0.here hx rfl (pc0 := 8) (pc' := 12) rfl (hb hby d20_8) (by decide) (by decide) k))))) ?_
  show Go p e below s _ _ _ s₁ (mkF m 12 #[.val (.int (97 : Int32))] [(.int (1 : Int32))])
  exact Go.retN X0 hx hlk (t := .boolean) Bd.returns (by simp) (hb hby d20_12) e0 ⟨rfl, N0, rfl⟩ (by decide) (by decide)

theorem ef_StringLatin1_toBytes_0 (m : MethodId) (x0 : Int32) : entryFrame m #[(.int x0)] 1 = mkF m 0 #[.val (.int x0)] [] := by first | (simp [entryFrame, mkF, argsToLocals, Value.category]; done) | rfl
def Q_StringLatin1_toBytes_0 (Z : State)  (h0 : Heap) (n0 : Nat) (v : Option Value) (h : Heap) (L : List Loc) : Prop := ∃ (b347 : Addr) (k347 : ClassId), v = some (.ref b347) ∧ Fr n0 L ∧ Keep h0 h [] ∧ h0.size ≤ b347 ∧ Arv Z h b347 k347 .byte (1 : Int32) [(.int (97 : Int32))] (.int (0 : Int32))
set_option maxRecDepth 65536 in
set_option maxHeartbeats 40000000 in
theorem rm_StringLatin1_toBytes_0 (l : Launch) (Z : State) (a0 : Array Value) (hw : ∀ d ∈ tables_1, d.before a0 Z = true) (ws : List Jvm.Cond)  (h0 : Heap) (n0 : Nat) (Z0 : n0 ≤ h0.size) :
    MetFree l xm10 (head1 (Jvm.Cond.code xm10 jdk_43_method_46_code 1 (some (.array .byte)) :: ws) xr18) (fun a U => a = #[(.int (97 : Int32))] ∧ Z.Warmed39 U.vm ∧ U.heap = h0) (fun _ _ _ _ _ => True) (fun _ U o U' => ∃ v L, o = .returned v ∧ Q_StringLatin1_toBytes_0 Z  h0 n0 v U'.heap L ∧ FrameEnd U o U' L xr18.cells xr18.slots) := by
  refine MetFree.of_bodySF (plainFor_of_name pn_6) hisR ?_
  intro p e s m args below meth c s₁ Bd hml0 hP hK
  obtain ⟨rfl, hZ, hh⟩ := hP
  have hx := Bd.exec
  have hby := Bd.bytes
  have hlk : meth.locks = false := BodyLoose.notSynchronized Bd
  have hml : c.maxLocals = 1 := hml0
  have hown : s.vm.findClass xs13 = some m.cls := findClass_of_methodNamed Bd.named
  have hnm := (name_of_methodNamed Bd.named Bd.method).1
  have X0 : Stand p l e xr18 s m #[(.int (97 : Int32))] below meth c s₁ [] 0 0 := Stand.of_body Bd
  have e0 : s₁.heap = h0 := by rw [← hh, Bd.state]; rfl
  have N0 := Fr.nil n0
  show Go p e below s (Q_StringLatin1_toBytes_0 Z  h0 n0) xr18.cells xr18.slots s₁ (entryFrame m #[(.int (97 : Int32))] 1)
  refine Go.cast (ef_StringLatin1_toBytes_0 m (97 : Int32)) ?_
  show Go p e below s _ _ _ s₁ (mkF m 0 #[.val (.int (97 : Int32))] [])
  refine Go.step (fun _ k => XS.iconst X0.here hx rfl (hb hby d21_0) k) ?_
  show Go p e below s _ _ _ s₁ (mkF m 1 #[.val (.int (97 : Int32))] [(.int (1 : Int32))])
  obtain ⟨T347, h347, k347, X347, e347, E347, A347, st347⟩ := newP (aty := .byte) X0 hx hZ (tw19 hw) e0 (g := (mkF m 1 #[.val (.int (97 : Int32))] [(.int (1 : Int32))])) rfl (hb hby d21_1) rfl (by decide) (cap := 1) (by decide) (by decide) (by decide) (by decide)
  obtain ⟨b347, g347⟩ : ∃ z, z = h0.size := ⟨_, rfl⟩
  rw [← g347] at A347 st347
  have f348 : Arv Z h347 b347 k347 .byte (1 : Int32) [(.int (0 : Int32))] (.int (0 : Int32)) := (Arv.new A347 (by decide)).pad (pad_rep [] (.int (0 : Int32)) 1)
  refine Go.step (fun _ k => st347 _ (XS.dup X347.here hx rfl (hb hby d21_3) rfl rfl (XS.iconst X347.here hx rfl (hb hby d21_4) (XS.iloadN X347.here hx rfl (hb hby d21_5) rfl (XS.i2b X347.here hx rfl (hb hby d21_6) rfl k))))) ?_
  show Go p e below s _ _ _ T347 (mkF m 7 #[.val (.int (97 : Int32))] [(.int (97 : Int32)), (.int (0 : Int32)), (.ref b347), (.ref b347)])
  obtain ⟨cl349, Ar349, qq349, Sz349, Ng349, Hs349, Ft349⟩ := id f348
  have in349 : ¬ ((0 : Int32) < 0 ∨ cl349.slots.size ≤ ((0 : Int32)).toNatClampNeg) := (inb_of Sz349 ⟨by decide, by decide⟩)
  obtain ⟨T349, h349, X349, e349, W349, st349⟩ := stB X347 hx hZ e347 Ar349 (j := (0 : Int32)) in349 (g := (mkF m 7 #[.val (.int (97 : Int32))] [(.int (97 : Int32)), (.int (0 : Int32)), (.ref b347), (.ref b347)])) rfl rfl (hb hby d21_7)
  have g350 := Nat.le_trans Z0 (Nat.le_of_eq g347.symm)
  have f351 : Arv Z h349 b347 k347 .byte (1 : Int32) [(.int (97 : Int32))] (.int (0 : Int32)) := Arv.set Ar349 qq349 Sz349 Ng349 Hs349 Ft349 rfl W349 0 rfl (Nat.le_of_ble_eq_true rfl)
  have N352 := Fr.snoc X349 N0 g350
  refine Go.step (fun _ k => st349 _ k) ?_
  show Go p e below s _ _ _ T349 (mkF m 8 #[.val (.int (97 : Int32))] [(.ref b347)])
  have z353 := Nat.le_trans (Nat.le_refl _) (Nat.le_of_eq g347.symm)
  have f354 := (((Keep.refl h0 []).ext E347).wr W349 (Or.inr z353))
  exact Go.retA X349 hx hlk Bd.returns rfl rfl (hb hby d21_8) e349 ⟨b347, k347, rfl, N352, f354, z353, f351⟩ (by decide) (by decide)

theorem ef_String_new_2 (m : MethodId) (x0 : Addr) (x1 : Addr) (x2 : Int32) : entryFrame m #[(.ref x0), (.ref x1), (.int x2)] 3 = mkF m 0 #[.val (.ref x0), .val (.ref x1), .val (.int x2)] [] := by first | (simp [entryFrame, mkF, argsToLocals, Value.category]; done) | rfl
def Q_String_new_2 (Z : State) (b344 : Addr) (b347_356 : Addr) (h0 : Heap) (n0 : Nat) (v : Option Value) (h : Heap) (L : List Loc) : Prop := v = none ∧ Fr n0 L ∧ Keep h0 h [b344] ∧ Fld Z h b344 xs23 "value" "[B" (.ref b347_356) ∧ Fld Z h b344 xs23 "coder" "B" (.int (0 : Int32))
set_option maxRecDepth 65536 in
set_option maxHeartbeats 40000000 in
theorem rm_String_new_2 (l : Launch) (Z : State) (a0 : Array Value) (hw : ∀ d ∈ tables_1, d.before a0 Z = true) (ws : List Jvm.Cond) (b344 : Addr) (b347_356 : Addr) (h0 : Heap) (n0 : Nat) (Z0 : n0 ≤ h0.size) (E_b344 : Exa Z h0 b344 xs23) (F_value_b344 : Fld Z h0 b344 xs23 "value" "[B" .null) (g_b344 : n0 ≤ b344) (F_coder_b344 : Fld Z h0 b344 xs23 "coder" "B" (.int (0 : Int32))) :
    MetFree l xm11 (head1 (Jvm.Cond.code xm11 jdk_42_method_151_code 3 none :: ws) xr5) (fun a U => a = #[(.ref b344), (.ref b347_356), (.int (0 : Int32))] ∧ Z.Warmed39 U.vm ∧ U.heap = h0) (fun _ _ _ _ _ => True) (fun _ U o U' => ∃ v L, o = .returned v ∧ Q_String_new_2 Z b344 b347_356 h0 n0 v U'.heap L ∧ FrameEnd U o U' L xr5.cells xr5.slots) := by
  refine MetFree.of_bodySF (plainFor_of_name pn_1) hisR ?_
  intro p e s m args below meth c s₁ Bd hml0 hP hK
  obtain ⟨rfl, hZ, hh⟩ := hP
  have hx := Bd.exec
  have hby := Bd.bytes
  have hlk : meth.locks = false := BodyLoose.notSynchronized Bd
  have hml : c.maxLocals = 3 := hml0
  have hown : s.vm.findClass xs23 = some m.cls := findClass_of_methodNamed Bd.named
  have hnm := (name_of_methodNamed Bd.named Bd.method).1
  have X0 : Stand p l e xr5 s m #[(.ref b344), (.ref b347_356), (.int (0 : Int32))] below meth c s₁ [] 0 0 := Stand.of_body Bd
  have e0 : s₁.heap = h0 := by rw [← hh, Bd.state]; rfl
  have N0 := Fr.nil n0
  show Go p e below s (Q_String_new_2 Z b344 b347_356 h0 n0) xr5.cells xr5.slots s₁ (entryFrame m #[(.ref b344), (.ref b347_356), (.int (0 : Int32))] 3)
  refine Go.cast (ef_String_new_2 m b344 b347_356 (0 : Int32)) ?_
  show Go p e below s _ _ _ s₁ (mkF m 0 #[.val (.ref b344), .val (.ref b347_356), .val (.int (0 : Int32))] [])
  refine Go.step (fun _ k => XS.aloadN X0.here hx rfl (hb hby d22_0) rfl rfl k) ?_
  show Go p e below s _ _ _ s₁ (mkF m 1 #[.val (.ref b344), .val (.ref b347_356), .val (.int (0 : Int32))] [(.ref b344)])
  obtain ⟨T358, X358, e358, st358⟩ := initO X0 hx hZ hown (tw11 hw) (tw12 hw) (tw13 hw) e0 (g := (mkF m 1 #[.val (.ref b344), .val (.ref b347_356), .val (.int (0 : Int32))] [(.ref b344)])) rfl (by rw [hml]; rfl) rfl (hb hby d22_1) (by decide) (W := 0) (by show 2 * 0 + _ ≤ _; exact Nat.le_of_eq rfl) (by decide)
  refine Go.step (fun _ k => st358 _ (XS.aloadN X358.here hx rfl (hb hby d22_4) rfl rfl (XS.aloadN X358.here hx rfl (hb hby d22_5) rfl rfl k))) ?_
  show Go p e below s _ _ _ T358 (mkF m 6 #[.val (.ref b344), .val (.ref b347_356), .val (.int (0 : Int32))] [(.ref b347_356), (.ref b344)])
  obtain ⟨T359, h359, X359, e359, W359, st359⟩ := putF X358 hx hZ hown (host := "") (Or.inl (tw28 hw)) Via.refl e358 F_value_b344 E_b344 (Or.inr ⟨(tw29 hw), rfl, hnm⟩) (tw2 hw) (ty := (.array .byte)) (by decide) rfl rfl (g := (mkF m 6 #[.val (.ref b344), .val (.ref b347_356), .val (.int (0 : Int32))] [(.ref b347_356), (.ref b344)])) rfl rfl (hb hby d22_6)
  have f361 := F_value_b344.same W359
  have N362 := Fr.snoc X359 N0 g_b344
  refine Go.step (fun _ k => st359 _ (XS.aloadN X359.here hx rfl (hb hby d22_9) rfl rfl (XS.iloadN X359.here hx rfl (hb hby d22_10) rfl k))) ?_
  show Go p e below s _ _ _ T359 (mkF m 11 #[.val (.ref b344), .val (.ref b347_356), .val (.int (0 : Int32))] [(.int (0 : Int32)), (.ref b344)])
  have f363 := (F_coder_b344.other W359 (Or.inr (slot_ne (Or.inr (tw27 hw)) (Or.inr (tw29 hw)) (by decide) (t := .byte) (t' := (.array .byte)) (by decide) (by decide))))
  have f364 := (E_b344.wr W359)
  obtain ⟨T365, h365, X365, e365, W365, st365⟩ := putFN X359 hx hZ hown (tw26 hw) Via.refl e359 f363 f364 (Or.inr ⟨(tw27 hw), rfl, hnm⟩) (tw2 hw) (ty := .byte) (v' := (.int (0 : Int32))) (by decide) rfl rfl (g := (mkF m 11 #[.val (.ref b344), .val (.ref b347_356), .val (.int (0 : Int32))] [(.int (0 : Int32)), (.ref b344)])) rfl rfl (hb hby d22_11)
  have f366 := f363.same W365
  have N367 := Fr.snoc X365 N362 g_b344
  refine Go.step (fun _ k => st365 _ k) ?_
  show Go p e below s _ _ _ T365 (mkF m 14 #[.val (.ref b344), .val (.ref b347_356), .val (.int (0 : Int32))] [])
  have f368 := (((Keep.refl h0 [b344]).wr W359 (Or.inl (List.mem_of_getElem? (i := 0) rfl))).wr W365 (Or.inl (List.mem_of_getElem? (i := 0) rfl)))
  have f369 := (f361.other W365 (Or.inr (slot_ne (Or.inr (tw29 hw)) (Or.inr (tw27 hw)) (by decide) (t := (.array .byte)) (t' := .byte) (by decide) (by decide))))
  exact Go.retV X365 hx hlk Bd.returns (hb hby d22_14) e365 ⟨rfl, N367, f368, f369, f366⟩ (by decide) (by decide)

theorem ef_String_valueOf_0 (m : MethodId) (x0 : Int32) : entryFrame m #[(.int x0)] 1 = mkF m 0 #[.val (.int x0)] [] := by first | (simp [entryFrame, mkF, argsToLocals, Value.category]; done) | rfl
def Q_String_valueOf_0 (Z : State) (cs : Int32) (h0 : Heap) (n0 : Nat) (v : Option Value) (h : Heap) (L : List Loc) : Prop := ∃ (b344 : Addr) (b347_356 : Addr) (k347_356 : ClassId), v = some (.ref b344) ∧ Fr n0 L ∧ Keep h0 h [] ∧ h0.size ≤ b344 ∧ Exa Z h b344 xs23 ∧ Fld Z h b344 xs23 "coder" "B" (.int (0 : Int32)) ∧ Fld Z h b344 xs23 "value" "[B" (.ref b347_356) ∧ h0.size ≤ b347_356 ∧ Arv Z h b347_356 k347_356 .byte (1 : Int32) [(.int (97 : Int32))] (.int (0 : Int32)) ∧ b344 ≠ b347_356
set_option maxRecDepth 65536 in
set_option maxHeartbeats 40000000 in
theorem rm_String_valueOf_0 (l : Launch) (Z : State) (a0 : Array Value) (hw : ∀ d ∈ tables_1, d.before a0 Z = true) (ws : List Jvm.Cond) (cs : Int32) (h0 : Heap) (n0 : Nat) (Z0 : n0 ≤ h0.size) (Z_S_COMPACT_STRINGS : Sta Z Z.heap xs23 xs24 "Z" (.int cs)) (O0 : Old Z n0 h0) (hcs : ¬ cs = (0 : Int32)) :
    MetFree l xm20 (head1 (Jvm.Cond.code xm20 jdk_42_method_139_code 1 (some (.object xs23)) :: ws) xr12) (fun a U => a = #[(.int (97 : Int32))] ∧ Z.Warmed39 U.vm ∧ U.heap = h0) (fun _ _ _ _ _ => True) (fun _ U o U' => ∃ v L, o = .returned v ∧ Q_String_valueOf_0 Z cs h0 n0 v U'.heap L ∧ FrameEnd U o U' L xr12.cells xr12.slots) := by
  refine MetFree.of_bodySF (plainFor_of_name pn_1) hisR ?_
  intro p e s m args below meth c s₁ Bd hml0 hP hK
  obtain ⟨rfl, hZ, hh⟩ := hP
  have hx := Bd.exec
  have hby := Bd.bytes
  have hlk : meth.locks = false := BodyLoose.notSynchronized Bd
  have hml : c.maxLocals = 1 := hml0
  have hown : s.vm.findClass xs23 = some m.cls := findClass_of_methodNamed Bd.named
  have hnm := (name_of_methodNamed Bd.named Bd.method).1
  have X0 : Stand p l e xr12 s m #[(.int (97 : Int32))] below meth c s₁ [] 0 0 := Stand.of_body Bd
  have e0 : s₁.heap = h0 := by rw [← hh, Bd.state]; rfl
  have N0 := Fr.nil n0
  show Go p e below s (Q_String_valueOf_0 Z cs h0 n0) xr12.cells xr12.slots s₁ (entryFrame m #[(.int (97 : Int32))] 1)
  refine Go.cast (ef_String_valueOf_0 m (97 : Int32)) ?_
  show Go p e below s _ _ _ s₁ (mkF m 0 #[.val (.int (97 : Int32))] [])
  obtain ⟨T341, X341, e341, st341⟩ := getS2 X0 hx hZ hown (host := "") (Or.inl (tw14 hw)) Via.refl e0 (Z_S_COMPACT_STRINGS.ext O0.2) (g := (mkF m 0 #[.val (.int (97 : Int32))] [])) rfl (hb hby d19_0)
  refine Go.step (fun _ k => st341 _ (XS.ifNo X341.here hx rfl (hb hby d19_3) rfl ((if0 _ _).trans (feq hcs).1) (XS.iloadN X341.here hx rfl (hb hby d19_6) rfl k))) ?_
  show Go p e below s _ _ _ T341 (mkF m 7 #[.val (.int (97 : Int32))] [(.int (97 : Int32))])
  obtain ⟨_, _, ⟨T342, L342, k342, n342⟩, -, X342, ⟨Lc342, hQ342, l342, y342, z342⟩, st342⟩ := Jvm.LawKit.callS X341 hx (y := xm6) hown (mvT hZ (tw109 hw)) (mvT hZ (tw110 hw)) (mvT hZ (tw90 hw)) (mvT hZ (tw111 hw)) (by decide) (backOf (W := 0) (rm_StringLatin1_canEncode_0 l Z a0 hw []  h0 n0 Z0) hZ (tw111 hw) (tw90 hw) (by decide) (by decide)) (g := (mkF m 7 #[.val (.int (97 : Int32))] [(.int (97 : Int32))])) rfl (by rw [hml]; rfl) (argsL := [(.int (97 : Int32))]) (rest := []) (lenOf pd_17 rfl) rfl (by show 2 * 0 + _ ≤ _; exact Nat.le_of_eq rfl) (hb hby d19_7) (fun _ _ => ⟨rfl, e341, (by decide : 0 + 0 ≤ _), (by decide : 0 + 0 ≤ _)⟩)
  dsimp only [Pt.U, Pt.locs, Pt.cells, Pt.slots] at X342 l342 y342 z342 st342 hQ342
  subst l342 y342 z342
  obtain ⟨rfl, N342q, eq342⟩ := hQ342
  have N343 := Fr.app N0 N342q
  refine Go.step (fun _ k => st342 _ (XS.ifNo X342.here hx rfl (hb hby d19_10) rfl ((if0 _ _).trans (feq (by decide)).1) k)) ?_
  show Go p e below s _ _ _ T342 (mkF m 13 #[.val (.int (97 : Int32))] [])
  obtain ⟨T344, h344, X344, e344, E344, A344, D344, -, st344⟩ := newO X342 hx hZ hown (tw112 hw) (tw2 hw) (tw3 hw) eq342 (g := (mkF m 13 #[.val (.int (97 : Int32))] [])) rfl (hb hby d19_13) (by decide) (by decide)
  obtain ⟨b344, g344⟩ : ∃ z, z = h0.size := ⟨_, rfl⟩
  rw [← g344] at A344 D344 st344
  have f345 : Fld Z h344 b344 xs23 "coder" "B" (.int (0 : Int32)) := D344 (Or.inr (tw27 hw)) (ty := .byte) (by decide)
  have f346 : Fld Z h344 b344 xs23 "value" "[B" .null := D344 (Or.inr (tw29 hw)) (ty := (.array .byte)) (by decide)
  refine Go.step (fun _ k => st344 _ (XS.dup X344.here hx rfl (hb hby d19_16) rfl rfl (XS.iloadN X344.here hx rfl (hb hby d19_17) rfl k))) ?_
  show Go p e below s _ _ _ T344 (mkF m 18 #[.val (.int (97 : Int32))] [(.int (97 : Int32)), (.ref b344), (.ref b344)])
  have f355 := (Nat.le_trans Z0 E344.1)
  obtain ⟨_, _, ⟨T356, L356, k356, n356⟩, -, X356, ⟨Lc356, hQ356, l356, y356, z356⟩, st356⟩ := Jvm.LawKit.callS X344 hx (y := xm10) hown (mvT hZ (tw113 hw)) (mvT hZ (tw114 hw)) (mvT hZ (tw90 hw)) (mvT hZ (tw115 hw)) (by decide) (backOf (W := 2) (rm_StringLatin1_toBytes_0 l Z a0 hw []  h344 n0 f355) hZ (tw115 hw) (tw90 hw) (by decide) (by decide)) (g := (mkF m 18 #[.val (.int (97 : Int32))] [(.int (97 : Int32)), (.ref b344), (.ref b344)])) rfl (by rw [hml]; rfl) (argsL := [(.int (97 : Int32))]) (rest := [(.ref b344), (.ref b344)]) (lenOf pd_18 rfl) rfl (by show 2 * 0 + _ ≤ _; exact Nat.le_of_eq rfl) (hb hby d19_18) (fun _ _ => ⟨rfl, e344, (by decide : 1 + 1 ≤ _), (by decide : 4 + 1 ≤ _)⟩)
  dsimp only [Pt.U, Pt.locs, Pt.cells, Pt.slots] at X356 l356 y356 z356 st356 hQ356
  subst l356 y356 z356
  obtain ⟨b347_356, k347_356, rfl, N356q, K356, P356_0, P356_1⟩ := hQ356
  have N357 := Fr.app N343 N356q
  refine Go.step (fun _ k => st356 _ (XS.iconst X356.here hx rfl (hb hby d19_21) k)) ?_
  show Go p e below s _ _ _ T356 (mkF m 22 #[.val (.int (97 : Int32))] [(.int (0 : Int32)), (.ref b347_356), (.ref b344), (.ref b344)])
  have g360 := Nat.le_trans Z0 (Nat.le_of_eq g344.symm)
  have f370 := (Nat.le_trans f355 K356.1)
  have f371 := (A344.keep K356)
  have f372 := (f346.keep K356 nin0)
  have f373 := (f345.keep K356 nin0)
  obtain ⟨_, _, ⟨T374, L374, k374, n374⟩, -, X374, ⟨Lc374, hQ374, l374, y374, z374⟩, st374⟩ := X356.specialBack hx (y := xm11) rfl hown (mvT hZ (tw116 hw)) (mvT hZ (tw117 hw)) (mvT hZ (tw118 hw)) (by decide) (backOf (W := 1) (rm_String_new_2 l Z a0 hw [] b344 b347_356 T356.heap n0 f370 f371 f372 g360 f373) hZ (tw118 hw) (tw3 hw) (by decide) (by decide)) (g := (mkF m 22 #[.val (.int (97 : Int32))] [(.int (0 : Int32)), (.ref b347_356), (.ref b344), (.ref b344)])) rfl (by rw [hml]; rfl) (Steps.refl _) (a := b344) (argsL := [(.ref b347_356), (.int (0 : Int32))]) (rest := [(.ref b344)]) (lenOf pd_19 rfl) rfl (by show 2 * 0 + _ ≤ _; exact Nat.le_of_eq rfl) (hb hby d19_22) (fun _ _ => ⟨rfl, rfl, (by decide : 2 + 0 ≤ _), (by decide : 5 + 0 ≤ _)⟩)
  dsimp only [Pt.U, Pt.locs, Pt.cells, Pt.slots] at X374 l374 y374 z374 st374 hQ374
  subst l374 y374 z374
  obtain ⟨rfl, N374q, K374, P374_0, P374_1⟩ := hQ374
  have N375 := Fr.app N357 N374q
  refine Go.step (fun _ k => st374.trans k) ?_
  show Go p e below s _ _ _ T374 (mkF m 25 #[.val (.int (97 : Int32))] [(.ref b344)])
  have z376 := Nat.le_trans (Nat.le_refl _) (Nat.le_of_eq g344.symm)
  have f377 := ((((Keep.refl h0 []).ext E344).trans K356 all0).trans K374 (allS (Or.inr z376) all0))
  have f378 := (f371.keep K374)
  have f379 := (Nat.le_trans (Nat.le_refl _) E344.1)
  have z380 := Nat.le_trans f379 P356_0
  have ne381 : b344 ≠ b347_356 := Nat.ne_of_lt (Nat.lt_of_lt_of_le A344.lt P356_0)
  have f382 := (P356_1.keep K374 (ninS (Ne.symm ne381) nin0))
  exact Go.retA X374 hx hlk Bd.returns rfl rfl (hb hby d19_25) rfl ⟨b344, b347_356, k347_356, rfl, N375, f377, z376, f378, P374_1, P374_0, z380, f382, ne381⟩ (by decide) (by decide)

theorem ef_PropertyIndex_replace_0 (m : MethodId) (x0 : Addr) (x1 : Int32) (x2 : Int32) (x3 : Int32) (x4 : Int32) : entryFrame m #[(.ref x0), (.int x1), (.int x2), (.int x3), (.int x4)] 6 = mkF m 0 #[.val (.ref x0), .val (.int x1), .val (.int x2), .val (.int x3), .val (.int x4), .unset] [] := by first | (simp [entryFrame, mkF, argsToLocals, Value.category]; done) | rfl
def Q_PropertyIndex_replace_0 (Z : State) (b73 : Addr) (p2 : Int32) (p3 : Int32) (p4 : Int32) (b96_134 : Addr) (k96_134 : ClassId) (p5 : Int32) (p6 : Int32) (h0 : Heap) (n0 : Nat) (v : Option Value) (h : Heap) (L : List Loc) : Prop := v = none ∧ Fr n0 L ∧ Keep h0 h [b96_134] ∧ Arv Z h b96_134 k96_134 .int (12 : Int32) [(.int (0 : Int32)), (.int (1 : Int32)), (.int p2), (.int p3), (.int p4), (.int (97 : Int32)), (.int (1 : Int32)), (.int (2 : Int32)), (.int p6), (.int p5), (.int p6), (.int (98 : Int32))] (.int (0 : Int32))
set_option maxRecDepth 65536 in
set_option maxHeartbeats 40000000 in
theorem rm_PropertyIndex_replace_0 (l : Launch) (Z : State) (a0 : Array Value) (hw : ∀ d ∈ tables_1, d.before a0 Z = true) (ws : List Jvm.Cond) (b73 : Addr) (p2 : Int32) (p3 : Int32) (p4 : Int32) (b96_134 : Addr) (k96_134 : ClassId) (p5 : Int32) (p6 : Int32) (h0 : Heap) (n0 : Nat) (Z0 : n0 ≤ h0.size) (F_entries_b73 : Fld Z h0 b73 xs1 "entries" "[I" (.ref b96_134)) (V_b96_134 : Arv Z h0 b96_134 k96_134 .int (12 : Int32) [(.int (0 : Int32)), (.int (1 : Int32)), (.int p5), (.int p6), (.int p5), (.int (97 : Int32)), (.int (1 : Int32)), (.int (2 : Int32)), (.int p6), (.int p5), (.int p6), (.int (98 : Int32))] (.int (0 : Int32))) (g_b96_134 : n0 ≤ b96_134) (ne_b73_b96_134 : b73 ≠ b96_134) :
    MetFree l xm7 (head1 (Jvm.Cond.code xm7 prog_15_method_5_code 6 none :: ws) xr17) (fun a U => a = #[(.ref b73), (.int (0 : Int32)), (.int p2), (.int p3), (.int p4)] ∧ Z.Warmed39 U.vm ∧ U.heap = h0) (fun _ _ _ _ _ => True) (fun _ U o U' => ∃ v L, o = .returned v ∧ Q_PropertyIndex_replace_0 Z b73 p2 p3 p4 b96_134 k96_134 p5 p6 h0 n0 v U'.heap L ∧ FrameEnd U o U' L xr17.cells xr17.slots) := by
  refine MetFree.of_bodySF (plainFor_of_name pn_5) hisR ?_
  intro p e s m args below meth c s₁ Bd hml0 hP hK
  obtain ⟨rfl, hZ, hh⟩ := hP
  have hx := Bd.exec
  have hby := Bd.bytes
  have hlk : meth.locks = false := BodyLoose.notSynchronized Bd
  have hml : c.maxLocals = 6 := hml0
  have hown : s.vm.findClass xs1 = some m.cls := findClass_of_methodNamed Bd.named
  have hnm := (name_of_methodNamed Bd.named Bd.method).1
  have X0 : Stand p l e xr17 s m #[(.ref b73), (.int (0 : Int32)), (.int p2), (.int p3), (.int p4)] below meth c s₁ [] 0 0 := Stand.of_body Bd
  have e0 : s₁.heap = h0 := by rw [← hh, Bd.state]; rfl
  have N0 := Fr.nil n0
  show Go p e below s (Q_PropertyIndex_replace_0 Z b73 p2 p3 p4 b96_134 k96_134 p5 p6 h0 n0) xr17.cells xr17.slots s₁ (entryFrame m #[(.ref b73), (.int (0 : Int32)), (.int p2), (.int p3), (.int p4)] 6)
  refine Go.cast (ef_PropertyIndex_replace_0 m b73 (0 : Int32) p2 p3 p4) ?_
  show Go p e below s _ _ _ s₁ (mkF m 0 #[.val (.ref b73), .val (.int (0 : Int32)), .val (.int p2), .val (.int p3), .val (.int p4), .unset] [])
  refine Go.step (fun _ k => XS.iloadN X0.here hx rfl (hb hby d23_0) rfl (XS.bipush X0.here hx rfl (hb hby d23_1) (XS.imul X0.here hx rfl (hb hby d23_3) rfl (XS.istore X0.here hx rfl (hb hby d23_4) rfl (l' := #[.val (.ref b73), .val (.int (0 : Int32)), .val (.int p2), .val (.int p3), .val (.int p4), .val (.int (0 : Int32))]) rfl (XS.aloadN X0.here hx rfl (hb hby d23_6) rfl rfl k))))) ?_
  show Go p e below s _ _ _ s₁ (mkF m 7 #[.val (.ref b73), .val (.int (0 : Int32)), .val (.int p2), .val (.int p3), .val (.int p4), .val (.int (0 : Int32))] [(.ref b73)])
  obtain ⟨T387, X387, e387, st387⟩ := getF X0 hx hZ hown (host := "") (Or.inl (tw51 hw)) Via.refl e0 F_entries_b73 (g := (mkF m 7 #[.val (.ref b73), .val (.int (0 : Int32)), .val (.int p2), .val (.int p3), .val (.int p4), .val (.int (0 : Int32))] [(.ref b73)])) rfl rfl (hb hby d23_7)
  refine Go.step (fun _ k => st387 _ (XS.iload X387.here hx rfl (hb hby d23_10) rfl (XS.iconst X387.here hx rfl (hb hby d23_12) (XS.iadd X387.here hx rfl (hb hby d23_13) rfl (XS.iloadN X387.here hx rfl (hb hby d23_14) rfl k))))) ?_
  show Go p e below s _ _ _ T387 (mkF m 15 #[.val (.ref b73), .val (.int (0 : Int32)), .val (.int p2), .val (.int p3), .val (.int p4), .val (.int (0 : Int32))] [(.int p2), (.int (2 : Int32)), (.ref b96_134)])
  obtain ⟨cl388, Ar388, qq388, Sz388, Ng388, Hs388, Ft388⟩ := id V_b96_134
  have in388 : ¬ ((2 : Int32) < 0 ∨ cl388.slots.size ≤ ((2 : Int32)).toNatClampNeg) := (inb_of Sz388 ⟨by decide, by decide⟩)
  obtain ⟨T388, h388, X388, e388, W388, st388⟩ := stI X387 hx hZ e387 Ar388 (j := (2 : Int32)) in388 (g := (mkF m 15 #[.val (.ref b73), .val (.int (0 : Int32)), .val (.int p2), .val (.int p3), .val (.int p4), .val (.int (0 : Int32))] [(.int p2), (.int (2 : Int32)), (.ref b96_134)])) rfl rfl (hb hby d23_15)
  have f389 : Arv Z h388 b96_134 k96_134 .int (12 : Int32) [(.int (0 : Int32)), (.int (1 : Int32)), (.int p2), (.int p6), (.int p5), (.int (97 : Int32)), (.int (1 : Int32)), (.int (2 : Int32)), (.int p6), (.int p5), (.int p6), (.int (98 : Int32))] (.int (0 : Int32)) := Arv.set Ar388 qq388 Sz388 Ng388 Hs388 Ft388 rfl W388 2 rfl (Nat.le_of_ble_eq_true rfl)
  have N390 := Fr.snoc X388 N0 g_b96_134
  refine Go.step (fun _ k => st388 _ (XS.aloadN X388.here hx rfl (hb hby d23_16) rfl rfl k)) ?_
  show Go p e below s _ _ _ T388 (mkF m 17 #[.val (.ref b73), .val (.int (0 : Int32)), .val (.int p2), .val (.int p3), .val (.int p4), .val (.int (0 : Int32))] [(.ref b73)])
  have f391 := (F_entries_b73.other W388 (Or.inl ne_b73_b96_134))
  obtain ⟨T392, X392, e392, st392⟩ := getF X388 hx hZ hown (host := "") (Or.inl (tw51 hw)) Via.refl e388 f391 (g := (mkF m 17 #[.val (.ref b73), .val (.int (0 : Int32)), .val (.int p2), .val (.int p3), .val (.int p4), .val (.int (0 : Int32))] [(.ref b73)])) rfl rfl (hb hby d23_17)
  refine Go.step (fun _ k => st392 _ (XS.iload X392.here hx rfl (hb hby d23_20) rfl (XS.iconst X392.here hx rfl (hb hby d23_22) (XS.iadd X392.here hx rfl (hb hby d23_23) rfl (XS.iloadN X392.here hx rfl (hb hby d23_24) rfl k))))) ?_
  show Go p e below s _ _ _ T392 (mkF m 25 #[.val (.ref b73), .val (.int (0 : Int32)), .val (.int p2), .val (.int p3), .val (.int p4), .val (.int (0 : Int32))] [(.int p3), (.int (3 : Int32)), (.ref b96_134)])
  obtain ⟨cl393, Ar393, qq393, Sz393, Ng393, Hs393, Ft393⟩ := id f389
  have in393 : ¬ ((3 : Int32) < 0 ∨ cl393.slots.size ≤ ((3 : Int32)).toNatClampNeg) := (inb_of Sz393 ⟨by decide, by decide⟩)
  obtain ⟨T393, h393, X393, e393, W393, st393⟩ := stI X392 hx hZ e392 Ar393 (j := (3 : Int32)) in393 (g := (mkF m 25 #[.val (.ref b73), .val (.int (0 : Int32)), .val (.int p2), .val (.int p3), .val (.int p4), .val (.int (0 : Int32))] [(.int p3), (.int (3 : Int32)), (.ref b96_134)])) rfl rfl (hb hby d23_25)
  have f394 : Arv Z h393 b96_134 k96_134 .int (12 : Int32) [(.int (0 : Int32)), (.int (1 : Int32)), (.int p2), (.int p3), (.int p5), (.int (97 : Int32)), (.int (1 : Int32)), (.int (2 : Int32)), (.int p6), (.int p5), (.int p6), (.int (98 : Int32))] (.int (0 : Int32)) := Arv.set Ar393 qq393 Sz393 Ng393 Hs393 Ft393 rfl W393 3 rfl (Nat.le_of_ble_eq_true rfl)
  have N395 := Fr.snoc X393 N390 g_b96_134
  refine Go.step (fun _ k => st393 _ (XS.aloadN X393.here hx rfl (hb hby d23_26) rfl rfl k)) ?_
  show Go p e below s _ _ _ T393 (mkF m 27 #[.val (.ref b73), .val (.int (0 : Int32)), .val (.int p2), .val (.int p3), .val (.int p4), .val (.int (0 : Int32))] [(.ref b73)])
  have f396 := (f391.other W393 (Or.inl ne_b73_b96_134))
  obtain ⟨T397, X397, e397, st397⟩ := getF X393 hx hZ hown (host := "") (Or.inl (tw51 hw)) Via.refl e393 f396 (g := (mkF m 27 #[.val (.ref b73), .val (.int (0 : Int32)), .val (.int p2), .val (.int p3), .val (.int p4), .val (.int (0 : Int32))] [(.ref b73)])) rfl rfl (hb hby d23_27)
  refine Go.step (fun _ k => st397 _ (XS.iload X397.here hx rfl (hb hby d23_30) rfl (XS.iconst X397.here hx rfl (hb hby d23_32) (XS.iadd X397.here hx rfl (hb hby d23_33) rfl (XS.iload X397.here hx rfl (hb hby d23_34) rfl k))))) ?_
  show Go p e below s _ _ _ T397 (mkF m 36 #[.val (.ref b73), .val (.int (0 : Int32)), .val (.int p2), .val (.int p3), .val (.int p4), .val (.int (0 : Int32))] [(.int p4), (.int (4 : Int32)), (.ref b96_134)])
  obtain ⟨cl398, Ar398, qq398, Sz398, Ng398, Hs398, Ft398⟩ := id f394
  have in398 : ¬ ((4 : Int32) < 0 ∨ cl398.slots.size ≤ ((4 : Int32)).toNatClampNeg) := (inb_of Sz398 ⟨by decide, by decide⟩)
  obtain ⟨T398, h398, X398, e398, W398, st398⟩ := stI X397 hx hZ e397 Ar398 (j := (4 : Int32)) in398 (g := (mkF m 36 #[.val (.ref b73), .val (.int (0 : Int32)), .val (.int p2), .val (.int p3), .val (.int p4), .val (.int (0 : Int32))] [(.int p4), (.int (4 : Int32)), (.ref b96_134)])) rfl rfl (hb hby d23_36)
  have f399 : Arv Z h398 b96_134 k96_134 .int (12 : Int32) [(.int (0 : Int32)), (.int (1 : Int32)), (.int p2), (.int p3), (.int p4), (.int (97 : Int32)), (.int (1 : Int32)), (.int (2 : Int32)), (.int p6), (.int p5), (.int p6), (.int (98 : Int32))] (.int (0 : Int32)) := Arv.set Ar398 qq398 Sz398 Ng398 Hs398 Ft398 rfl W398 4 rfl (Nat.le_of_ble_eq_true rfl)
  have N400 := Fr.snoc X398 N395 g_b96_134
  refine Go.step (fun _ k => st398 _ k) ?_
  show Go p e below s _ _ _ T398 (mkF m 37 #[.val (.ref b73), .val (.int (0 : Int32)), .val (.int p2), .val (.int p3), .val (.int p4), .val (.int (0 : Int32))] [])
  have f401 := ((((Keep.refl h0 [b96_134]).wr W388 (Or.inl (List.mem_of_getElem? (i := 0) rfl))).wr W393 (Or.inl (List.mem_of_getElem? (i := 0) rfl))).wr W398 (Or.inl (List.mem_of_getElem? (i := 0) rfl)))
  exact Go.retV X398 hx hlk Bd.returns (hb hby d23_37) e398 ⟨rfl, N400, f401, f399⟩ (by decide) (by decide)

theorem ef_PropertyIndex_valueStart_0 (m : MethodId) (x0 : Addr) (x1 : Int32) : entryFrame m #[(.ref x0), (.int x1)] 2 = mkF m 0 #[.val (.ref x0), .val (.int x1)] [] := by first | (simp [entryFrame, mkF, argsToLocals, Value.category]; done) | rfl
def Q_PropertyIndex_valueStart_0 (Z : State) (b73 : Addr) (b96_134 : Addr) (k96_134 : ClassId) (p2 : Int32) (p3 : Int32) (p4 : Int32) (p6 : Int32) (p5 : Int32) (h0 : Heap) (n0 : Nat) (v : Option Value) (h : Heap) (L : List Loc) : Prop := v = some (.int p2) ∧ Fr n0 L ∧ h = h0
set_option maxRecDepth 65536 in
set_option maxHeartbeats 40000000 in
theorem rm_PropertyIndex_valueStart_0 (l : Launch) (Z : State) (a0 : Array Value) (hw : ∀ d ∈ tables_1, d.before a0 Z = true) (ws : List Jvm.Cond) (b73 : Addr) (b96_134 : Addr) (k96_134 : ClassId) (p2 : Int32) (p3 : Int32) (p4 : Int32) (p6 : Int32) (p5 : Int32) (h0 : Heap) (n0 : Nat) (Z0 : n0 ≤ h0.size) (F_entries_b73 : Fld Z h0 b73 xs1 "entries" "[I" (.ref b96_134)) (V_b96_134 : Arv Z h0 b96_134 k96_134 .int (12 : Int32) [(.int (0 : Int32)), (.int (1 : Int32)), (.int p2), (.int p3), (.int p4), (.int (97 : Int32)), (.int (1 : Int32)), (.int (2 : Int32)), (.int p6), (.int p5), (.int p6), (.int (98 : Int32))] (.int (0 : Int32))) :
    MetFree l xm8 (head1 (Jvm.Cond.code xm8 prog_15_method_19_code 2 (some .int) :: ws) xr17) (fun a U => a = #[(.ref b73), (.int (0 : Int32))] ∧ Z.Warmed39 U.vm ∧ U.heap = h0) (fun _ _ _ _ _ => True) (fun _ U o U' => ∃ v L, o = .returned v ∧ Q_PropertyIndex_valueStart_0 Z b73 b96_134 k96_134 p2 p3 p4 p6 p5 h0 n0 v U'.heap L ∧ FrameEnd U o U' L xr17.cells xr17.slots) := by
  refine MetFree.of_bodySF (plainFor_of_name pn_5) hisR ?_
  intro p e s m args below meth c s₁ Bd hml0 hP hK
  obtain ⟨rfl, hZ, hh⟩ := hP
  have hx := Bd.exec
  have hby := Bd.bytes
  have hlk : meth.locks = false := BodyLoose.notSynchronized Bd
  have hml : c.maxLocals = 2 := hml0
  have hown : s.vm.findClass xs1 = some m.cls := findClass_of_methodNamed Bd.named
  have hnm := (name_of_methodNamed Bd.named Bd.method).1
  have X0 : Stand p l e xr17 s m #[(.ref b73), (.int (0 : Int32))] below meth c s₁ [] 0 0 := Stand.of_body Bd
  have e0 : s₁.heap = h0 := by rw [← hh, Bd.state]; rfl
  have N0 := Fr.nil n0
  show Go p e below s (Q_PropertyIndex_valueStart_0 Z b73 b96_134 k96_134 p2 p3 p4 p6 p5 h0 n0) xr17.cells xr17.slots s₁ (entryFrame m #[(.ref b73), (.int (0 : Int32))] 2)
  refine Go.cast (ef_PropertyIndex_valueStart_0 m b73 (0 : Int32)) ?_
  show Go p e below s _ _ _ s₁ (mkF m 0 #[.val (.ref b73), .val (.int (0 : Int32))] [])
  refine Go.step (fun _ k => XS.aloadN X0.here hx rfl (hb hby d24_0) rfl rfl k) ?_
  show Go p e below s _ _ _ s₁ (mkF m 1 #[.val (.ref b73), .val (.int (0 : Int32))] [(.ref b73)])
  obtain ⟨T408, X408, e408, st408⟩ := getF X0 hx hZ hown (host := "") (Or.inl (tw51 hw)) Via.refl e0 F_entries_b73 (g := (mkF m 1 #[.val (.ref b73), .val (.int (0 : Int32))] [(.ref b73)])) rfl rfl (hb hby d24_1)
  refine Go.step (fun _ k => st408 _ (XS.iloadN X408.here hx rfl (hb hby d24_4) rfl (XS.bipush X408.here hx rfl (hb hby d24_5) (XS.imul X408.here hx rfl (hb hby d24_7) rfl (XS.iconst X408.here hx rfl (hb hby d24_8) (XS.iadd X408.here hx rfl (hb hby d24_9) rfl k)))))) ?_
  show Go p e below s _ _ _ T408 (mkF m 10 #[.val (.ref b73), .val (.int (0 : Int32))] [(.int (2 : Int32)), (.ref b96_134)])
  obtain ⟨cl409, Ar409, -, Sz409, Ng409, Hs409, Ft409⟩ := id V_b96_134
  have in409 : ¬ ((2 : Int32) < 0 ∨ cl409.slots.size ≤ ((2 : Int32)).toNatClampNeg) := (inb_of Sz409 ⟨by decide, by decide⟩)
  have at409 : cl409.slots[((2 : Int32)).toNatClampNeg]? = some (.int p2) := Hs409.at in409 rfl
  refine Go.step (fun _ k => X408.iaload hx (j := (2 : Int32)) (v := (.int p2)) (by rw [e408]; exact Ar409.1) (State.isArrayOf_alike hZ.alike Ar409.2.1) Ar409.2.2 in409 at409 (g := (mkF m 10 #[.val (.ref b73), .val (.int (0 : Int32))] [(.int (2 : Int32)), (.ref b96_134)])) rfl rfl (hb hby d24_10) _ k) ?_
  show Go p e below s _ _ _ T408 (mkF m 11 #[.val (.ref b73), .val (.int (0 : Int32))] [(.int p2)])
  exact Go.retI X408 hx hlk Bd.returns (hb hby d24_11) e408 ⟨rfl, N0, rfl⟩ (by decide) (by decide)

theorem ef_PropertyIndex_valueEnd_0 (m : MethodId) (x0 : Addr) (x1 : Int32) : entryFrame m #[(.ref x0), (.int x1)] 2 = mkF m 0 #[.val (.ref x0), .val (.int x1)] [] := by first | (simp [entryFrame, mkF, argsToLocals, Value.category]; done) | rfl
def Q_PropertyIndex_valueEnd_0 (Z : State) (b73 : Addr) (b96_134 : Addr) (k96_134 : ClassId) (p2 : Int32) (p3 : Int32) (p4 : Int32) (p6 : Int32) (p5 : Int32) (h0 : Heap) (n0 : Nat) (v : Option Value) (h : Heap) (L : List Loc) : Prop := v = some (.int p3) ∧ Fr n0 L ∧ h = h0
set_option maxRecDepth 65536 in
set_option maxHeartbeats 40000000 in
theorem rm_PropertyIndex_valueEnd_0 (l : Launch) (Z : State) (a0 : Array Value) (hw : ∀ d ∈ tables_1, d.before a0 Z = true) (ws : List Jvm.Cond) (b73 : Addr) (b96_134 : Addr) (k96_134 : ClassId) (p2 : Int32) (p3 : Int32) (p4 : Int32) (p6 : Int32) (p5 : Int32) (h0 : Heap) (n0 : Nat) (Z0 : n0 ≤ h0.size) (F_entries_b73 : Fld Z h0 b73 xs1 "entries" "[I" (.ref b96_134)) (V_b96_134 : Arv Z h0 b96_134 k96_134 .int (12 : Int32) [(.int (0 : Int32)), (.int (1 : Int32)), (.int p2), (.int p3), (.int p4), (.int (97 : Int32)), (.int (1 : Int32)), (.int (2 : Int32)), (.int p6), (.int p5), (.int p6), (.int (98 : Int32))] (.int (0 : Int32))) :
    MetFree l xm14 (head1 (Jvm.Cond.code xm14 prog_15_method_20_code 2 (some .int) :: ws) xr17) (fun a U => a = #[(.ref b73), (.int (0 : Int32))] ∧ Z.Warmed39 U.vm ∧ U.heap = h0) (fun _ _ _ _ _ => True) (fun _ U o U' => ∃ v L, o = .returned v ∧ Q_PropertyIndex_valueEnd_0 Z b73 b96_134 k96_134 p2 p3 p4 p6 p5 h0 n0 v U'.heap L ∧ FrameEnd U o U' L xr17.cells xr17.slots) := by
  refine MetFree.of_bodySF (plainFor_of_name pn_5) hisR ?_
  intro p e s m args below meth c s₁ Bd hml0 hP hK
  obtain ⟨rfl, hZ, hh⟩ := hP
  have hx := Bd.exec
  have hby := Bd.bytes
  have hlk : meth.locks = false := BodyLoose.notSynchronized Bd
  have hml : c.maxLocals = 2 := hml0
  have hown : s.vm.findClass xs1 = some m.cls := findClass_of_methodNamed Bd.named
  have hnm := (name_of_methodNamed Bd.named Bd.method).1
  have X0 : Stand p l e xr17 s m #[(.ref b73), (.int (0 : Int32))] below meth c s₁ [] 0 0 := Stand.of_body Bd
  have e0 : s₁.heap = h0 := by rw [← hh, Bd.state]; rfl
  have N0 := Fr.nil n0
  show Go p e below s (Q_PropertyIndex_valueEnd_0 Z b73 b96_134 k96_134 p2 p3 p4 p6 p5 h0 n0) xr17.cells xr17.slots s₁ (entryFrame m #[(.ref b73), (.int (0 : Int32))] 2)
  refine Go.cast (ef_PropertyIndex_valueEnd_0 m b73 (0 : Int32)) ?_
  show Go p e below s _ _ _ s₁ (mkF m 0 #[.val (.ref b73), .val (.int (0 : Int32))] [])
  refine Go.step (fun _ k => XS.aloadN X0.here hx rfl (hb hby d25_0) rfl rfl k) ?_
  show Go p e below s _ _ _ s₁ (mkF m 1 #[.val (.ref b73), .val (.int (0 : Int32))] [(.ref b73)])
  obtain ⟨T415, X415, e415, st415⟩ := getF X0 hx hZ hown (host := "") (Or.inl (tw51 hw)) Via.refl e0 F_entries_b73 (g := (mkF m 1 #[.val (.ref b73), .val (.int (0 : Int32))] [(.ref b73)])) rfl rfl (hb hby d25_1)
  refine Go.step (fun _ k => st415 _ (XS.iloadN X415.here hx rfl (hb hby d25_4) rfl (XS.bipush X415.here hx rfl (hb hby d25_5) (XS.imul X415.here hx rfl (hb hby d25_7) rfl (XS.iconst X415.here hx rfl (hb hby d25_8) (XS.iadd X415.here hx rfl (hb hby d25_9) rfl k)))))) ?_
  show Go p e below s _ _ _ T415 (mkF m 10 #[.val (.ref b73), .val (.int (0 : Int32))] [(.int (3 : Int32)), (.ref b96_134)])
  obtain ⟨cl416, Ar416, -, Sz416, Ng416, Hs416, Ft416⟩ := id V_b96_134
  have in416 : ¬ ((3 : Int32) < 0 ∨ cl416.slots.size ≤ ((3 : Int32)).toNatClampNeg) := (inb_of Sz416 ⟨by decide, by decide⟩)
  have at416 : cl416.slots[((3 : Int32)).toNatClampNeg]? = some (.int p3) := Hs416.at in416 rfl
  refine Go.step (fun _ k => X415.iaload hx (j := (3 : Int32)) (v := (.int p3)) (by rw [e415]; exact Ar416.1) (State.isArrayOf_alike hZ.alike Ar416.2.1) Ar416.2.2 in416 at416 (g := (mkF m 10 #[.val (.ref b73), .val (.int (0 : Int32))] [(.int (3 : Int32)), (.ref b96_134)])) rfl rfl (hb hby d25_10) _ k) ?_
  show Go p e below s _ _ _ T415 (mkF m 11 #[.val (.ref b73), .val (.int (0 : Int32))] [(.int p3)])
  exact Go.retI X415 hx hlk Bd.returns (hb hby d25_11) e415 ⟨rfl, N0, rfl⟩ (by decide) (by decide)

theorem ef_PropertyIndex_line_0 (m : MethodId) (x0 : Addr) (x1 : Int32) : entryFrame m #[(.ref x0), (.int x1)] 2 = mkF m 0 #[.val (.ref x0), .val (.int x1)] [] := by first | (simp [entryFrame, mkF, argsToLocals, Value.category]; done) | rfl
def Q_PropertyIndex_line_0 (Z : State) (b73 : Addr) (b96_134 : Addr) (k96_134 : ClassId) (p2 : Int32) (p3 : Int32) (p4 : Int32) (p6 : Int32) (p5 : Int32) (h0 : Heap) (n0 : Nat) (v : Option Value) (h : Heap) (L : List Loc) : Prop := v = some (.int p4) ∧ Fr n0 L ∧ h = h0
set_option maxRecDepth 65536 in
set_option maxHeartbeats 40000000 in
theorem rm_PropertyIndex_line_0 (l : Launch) (Z : State) (a0 : Array Value) (hw : ∀ d ∈ tables_1, d.before a0 Z = true) (ws : List Jvm.Cond) (b73 : Addr) (b96_134 : Addr) (k96_134 : ClassId) (p2 : Int32) (p3 : Int32) (p4 : Int32) (p6 : Int32) (p5 : Int32) (h0 : Heap) (n0 : Nat) (Z0 : n0 ≤ h0.size) (F_entries_b73 : Fld Z h0 b73 xs1 "entries" "[I" (.ref b96_134)) (V_b96_134 : Arv Z h0 b96_134 k96_134 .int (12 : Int32) [(.int (0 : Int32)), (.int (1 : Int32)), (.int p2), (.int p3), (.int p4), (.int (97 : Int32)), (.int (1 : Int32)), (.int (2 : Int32)), (.int p6), (.int p5), (.int p6), (.int (98 : Int32))] (.int (0 : Int32))) :
    MetFree l xm26 (head1 (Jvm.Cond.code xm26 prog_15_method_18_code 2 (some .int) :: ws) xr17) (fun a U => a = #[(.ref b73), (.int (0 : Int32))] ∧ Z.Warmed39 U.vm ∧ U.heap = h0) (fun _ _ _ _ _ => True) (fun _ U o U' => ∃ v L, o = .returned v ∧ Q_PropertyIndex_line_0 Z b73 b96_134 k96_134 p2 p3 p4 p6 p5 h0 n0 v U'.heap L ∧ FrameEnd U o U' L xr17.cells xr17.slots) := by
  refine MetFree.of_bodySF (plainFor_of_name pn_5) hisR ?_
  intro p e s m args below meth c s₁ Bd hml0 hP hK
  obtain ⟨rfl, hZ, hh⟩ := hP
  have hx := Bd.exec
  have hby := Bd.bytes
  have hlk : meth.locks = false := BodyLoose.notSynchronized Bd
  have hml : c.maxLocals = 2 := hml0
  have hown : s.vm.findClass xs1 = some m.cls := findClass_of_methodNamed Bd.named
  have hnm := (name_of_methodNamed Bd.named Bd.method).1
  have X0 : Stand p l e xr17 s m #[(.ref b73), (.int (0 : Int32))] below meth c s₁ [] 0 0 := Stand.of_body Bd
  have e0 : s₁.heap = h0 := by rw [← hh, Bd.state]; rfl
  have N0 := Fr.nil n0
  show Go p e below s (Q_PropertyIndex_line_0 Z b73 b96_134 k96_134 p2 p3 p4 p6 p5 h0 n0) xr17.cells xr17.slots s₁ (entryFrame m #[(.ref b73), (.int (0 : Int32))] 2)
  refine Go.cast (ef_PropertyIndex_line_0 m b73 (0 : Int32)) ?_
  show Go p e below s _ _ _ s₁ (mkF m 0 #[.val (.ref b73), .val (.int (0 : Int32))] [])
  refine Go.step (fun _ k => XS.aloadN X0.here hx rfl (hb hby d26_0) rfl rfl k) ?_
  show Go p e below s _ _ _ s₁ (mkF m 1 #[.val (.ref b73), .val (.int (0 : Int32))] [(.ref b73)])
  obtain ⟨T419, X419, e419, st419⟩ := getF X0 hx hZ hown (host := "") (Or.inl (tw51 hw)) Via.refl e0 F_entries_b73 (g := (mkF m 1 #[.val (.ref b73), .val (.int (0 : Int32))] [(.ref b73)])) rfl rfl (hb hby d26_1)
  refine Go.step (fun _ k => st419 _ (XS.iloadN X419.here hx rfl (hb hby d26_4) rfl (XS.bipush X419.here hx rfl (hb hby d26_5) (XS.imul X419.here hx rfl (hb hby d26_7) rfl (XS.iconst X419.here hx rfl (hb hby d26_8) (XS.iadd X419.here hx rfl (hb hby d26_9) rfl k)))))) ?_
  show Go p e below s _ _ _ T419 (mkF m 10 #[.val (.ref b73), .val (.int (0 : Int32))] [(.int (4 : Int32)), (.ref b96_134)])
  obtain ⟨cl420, Ar420, -, Sz420, Ng420, Hs420, Ft420⟩ := id V_b96_134
  have in420 : ¬ ((4 : Int32) < 0 ∨ cl420.slots.size ≤ ((4 : Int32)).toNatClampNeg) := (inb_of Sz420 ⟨by decide, by decide⟩)
  have at420 : cl420.slots[((4 : Int32)).toNatClampNeg]? = some (.int p4) := Hs420.at in420 rfl
  refine Go.step (fun _ k => X419.iaload hx (j := (4 : Int32)) (v := (.int p4)) (by rw [e419]; exact Ar420.1) (State.isArrayOf_alike hZ.alike Ar420.2.1) Ar420.2.2 in420 at420 (g := (mkF m 10 #[.val (.ref b73), .val (.int (0 : Int32))] [(.int (4 : Int32)), (.ref b96_134)])) rfl rfl (hb hby d26_10) _ k) ?_
  show Go p e below s _ _ _ T419 (mkF m 11 #[.val (.ref b73), .val (.int (0 : Int32))] [(.int p4)])
  exact Go.retI X419 hx hlk Bd.returns (hb hby d26_11) e419 ⟨rfl, N0, rfl⟩ (by decide) (by decide)

theorem ef_String_coder_0 (m : MethodId) (x0 : Addr) : entryFrame m #[(.ref x0)] 1 = mkF m 0 #[.val (.ref x0)] [] := by first | (simp [entryFrame, mkF, argsToLocals, Value.category]; done) | rfl
def Q_String_coder_0 (Z : State) (b344_385 : Addr) (cs : Int32) (h0 : Heap) (n0 : Nat) (v : Option Value) (h : Heap) (L : List Loc) : Prop := v = some (.int (0 : Int32)) ∧ Fr n0 L ∧ h = h0
set_option maxRecDepth 65536 in
set_option maxHeartbeats 40000000 in
theorem rm_String_coder_0 (l : Launch) (Z : State) (a0 : Array Value) (hw : ∀ d ∈ tables_1, d.before a0 Z = true) (ws : List Jvm.Cond) (b344_385 : Addr) (cs : Int32) (h0 : Heap) (n0 : Nat) (Z0 : n0 ≤ h0.size) (Z_S_COMPACT_STRINGS : Sta Z Z.heap xs23 xs24 "Z" (.int cs)) (O0 : Old Z n0 h0) (hcs : ¬ cs = (0 : Int32)) (F_coder_b344_385 : Fld Z h0 b344_385 xs23 "coder" "B" (.int (0 : Int32))) :
    MetFree l xm25 (head1 (Jvm.Cond.code xm25 jdk_42_method_152_code 1 (some .byte) :: ws) xr17) (fun a U => a = #[(.ref b344_385)] ∧ Z.Warmed39 U.vm ∧ U.heap = h0) (fun _ _ _ _ _ => True) (fun _ U o U' => ∃ v L, o = .returned v ∧ Q_String_coder_0 Z b344_385 cs h0 n0 v U'.heap L ∧ FrameEnd U o U' L xr17.cells xr17.slots) := by
  refine MetFree.of_bodySF (plainFor_of_name pn_1) hisR ?_
  intro p e s m args below meth c s₁ Bd hml0 hP hK
  obtain ⟨rfl, hZ, hh⟩ := hP
  have hx := Bd.exec
  have hby := Bd.bytes
  have hlk : meth.locks = false := BodyLoose.notSynchronized Bd
  have hml : c.maxLocals = 1 := hml0
  have hown : s.vm.findClass xs23 = some m.cls := findClass_of_methodNamed Bd.named
  have hnm := (name_of_methodNamed Bd.named Bd.method).1
  have X0 : Stand p l e xr17 s m #[(.ref b344_385)] below meth c s₁ [] 0 0 := Stand.of_body Bd
  have e0 : s₁.heap = h0 := by rw [← hh, Bd.state]; rfl
  have N0 := Fr.nil n0
  show Go p e below s (Q_String_coder_0 Z b344_385 cs h0 n0) xr17.cells xr17.slots s₁ (entryFrame m #[(.ref b344_385)] 1)
  refine Go.cast (ef_String_coder_0 m b344_385) ?_
  show Go p e below s _ _ _ s₁ (mkF m 0 #[.val (.ref b344_385)] [])
  obtain ⟨T428, X428, e428, st428⟩ := getS2 X0 hx hZ hown (host := "") (Or.inl (tw14 hw)) Via.refl e0 (Z_S_COMPACT_STRINGS.ext O0.2) (g := (mkF m 0 #[.val (.ref b344_385)] [])) rfl (hb hby d29_0)
  refine Go.step (fun _ k => st428 _ (XS.ifNo X428.here hx rfl (hb hby d29_3) rfl ((if0 _ _).trans (feq hcs).1) (XS.aloadN X428.here hx rfl (hb hby d29_6) rfl rfl k))) ?_
  show Go p e below s _ _ _ T428 (mkF m 7 #[.val (.ref b344_385)] [(.ref b344_385)])
  obtain ⟨T429, X429, e429, st429⟩ := getF X428 hx hZ hown (host := "") (Or.inl (tw26 hw)) Via.refl e428 F_coder_b344_385 (g := (mkF m 7 #[.val (.ref b344_385)] [(.ref b344_385)])) rfl rfl (hb hby d29_7)
  refine Go.step (fun _ k => st429 _ (XS.goto X429.here hx rfl (pc0 := 10) (pc' := 14) rfl (hb hby d29_10) (by decide) (by decide) k)) ?_
  show Go p e below s _ _ _ T429 (mkF m 14 #[.val (.ref b344_385)] [(.int (0 : Int32))])
  exact Go.retN X429 hx hlk (t := .byte) Bd.returns (by simp) (hb hby d29_14) e429 ⟨rfl, N0, rfl⟩ (by decide) (by decide)

theorem ef_String_length_0 (m : MethodId) (x0 : Addr) : entryFrame m #[(.ref x0)] 1 = mkF m 0 #[.val (.ref x0)] [] := by first | (simp [entryFrame, mkF, argsToLocals, Value.category]; done) | rfl
def Q_String_length_0 (Z : State) (b344_385 : Addr) (b347_356_385 : Addr) (k347_356_385 : ClassId) (cs : Int32) (h0 : Heap) (n0 : Nat) (v : Option Value) (h : Heap) (L : List Loc) : Prop := v = some (.int (1 : Int32)) ∧ Fr n0 L ∧ h = h0
set_option maxRecDepth 65536 in
set_option maxHeartbeats 40000000 in
theorem rm_String_length_0 (l : Launch) (Z : State) (a0 : Array Value) (hw : ∀ d ∈ tables_1, d.before a0 Z = true) (ws : List Jvm.Cond) (b344_385 : Addr) (b347_356_385 : Addr) (k347_356_385 : ClassId) (cs : Int32) (h0 : Heap) (n0 : Nat) (Z0 : n0 ≤ h0.size) (F_value_b344_385 : Fld Z h0 b344_385 xs23 "value" "[B" (.ref b347_356_385)) (V_b347_356_385 : Arv Z h0 b347_356_385 k347_356_385 .byte (1 : Int32) [(.int (97 : Int32))] (.int (0 : Int32))) (E_b344_385 : Exa Z h0 b344_385 xs23) (Z_S_COMPACT_STRINGS : Sta Z Z.heap xs23 xs24 "Z" (.int cs)) (O0 : Old Z n0 h0) (hcs : ¬ cs = (0 : Int32)) (F_coder_b344_385 : Fld Z h0 b344_385 xs23 "coder" "B" (.int (0 : Int32))) :
    MetFree l xm21 (head1 (Jvm.Cond.code xm21 jdk_42_method_54_code 1 (some .int) :: ws) xr13) (fun a U => a = #[(.ref b344_385)] ∧ Z.Warmed39 U.vm ∧ U.heap = h0) (fun _ _ _ _ _ => True) (fun _ U o U' => ∃ v L, o = .returned v ∧ Q_String_length_0 Z b344_385 b347_356_385 k347_356_385 cs h0 n0 v U'.heap L ∧ FrameEnd U o U' L xr13.cells xr13.slots) := by
  refine MetFree.of_bodySF (plainFor_of_name pn_1) hisR ?_
  intro p e s m args below meth c s₁ Bd hml0 hP hK
  obtain ⟨rfl, hZ, hh⟩ := hP
  have hx := Bd.exec
  have hby := Bd.bytes
  have hlk : meth.locks = false := BodyLoose.notSynchronized Bd
  have hml : c.maxLocals = 1 := hml0
  have hown : s.vm.findClass xs23 = some m.cls := findClass_of_methodNamed Bd.named
  have hnm := (name_of_methodNamed Bd.named Bd.method).1
  have X0 : Stand p l e xr13 s m #[(.ref b344_385)] below meth c s₁ [] 0 0 := Stand.of_body Bd
  have e0 : s₁.heap = h0 := by rw [← hh, Bd.state]; rfl
  have N0 := Fr.nil n0
  show Go p e below s (Q_String_length_0 Z b344_385 b347_356_385 k347_356_385 cs h0 n0) xr13.cells xr13.slots s₁ (entryFrame m #[(.ref b344_385)] 1)
  refine Go.cast (ef_String_length_0 m b344_385) ?_
  show Go p e below s _ _ _ s₁ (mkF m 0 #[.val (.ref b344_385)] [])
  refine Go.step (fun _ k => XS.aloadN X0.here hx rfl (hb hby d28_0) rfl rfl k) ?_
  show Go p e below s _ _ _ s₁ (mkF m 1 #[.val (.ref b344_385)] [(.ref b344_385)])
  obtain ⟨T426, X426, e426, st426⟩ := getF X0 hx hZ hown (host := "") (Or.inl (tw28 hw)) Via.refl e0 F_value_b344_385 (g := (mkF m 1 #[.val (.ref b344_385)] [(.ref b344_385)])) rfl rfl (hb hby d28_1)
  refine Go.step (fun _ k => st426 _ k) ?_
  show Go p e below s _ _ _ T426 (mkF m 4 #[.val (.ref b344_385)] [(.ref b347_356_385)])
  obtain ⟨cl427, Ar427, -, Sz427, Ng427, -, -⟩ := id V_b347_356_385
  have aln427 := X426.arraylength hx (by rw [e426]; exact Ar427.1) (State.isArrayOf_alike hZ.alike Ar427.2.1) (g := (mkF m 4 #[.val (.ref b344_385)] [(.ref b347_356_385)])) rfl rfl (hb hby d28_4)
  rw [len_of Sz427 Ng427] at aln427
  refine Go.step (fun _ k => aln427 _ (XS.aloadN X426.here hx rfl (hb hby d28_5) rfl rfl k)) ?_
  show Go p e below s _ _ _ T426 (mkF m 6 #[.val (.ref b344_385)] [(.ref b344_385), (.int (1 : Int32))])
  obtain ⟨cq430, kq430, q430a, q430b, q430c⟩ := isOf hZ e426 E_b344_385
  obtain ⟨_, _, ⟨T430, L430, k430, n430⟩, -, X430, ⟨Lc430, hQ430, l430, y430, z430⟩, st430⟩ := X426.virtualBack hx (y := xm25) (z := xm25) hown (mvT hZ (tw150 hw)) (mvT hZ (tw151 hw)) (notFace_of_selects (args := #[]) (mvT hZ (tw153 hw))) (mvT hZ (tw153 hw)) (mvT hZ (tw152 hw)) (by decide) (backOf (W := 1) (rm_String_coder_0 l Z a0 hw [] b344_385 cs h0 n0 Z0 Z_S_COMPACT_STRINGS O0 hcs F_coder_b344_385) hZ (tw154 hw) (tw3 hw) (by decide) (by decide)) q430a q430c (g := (mkF m 6 #[.val (.ref b344_385)] [(.ref b344_385), (.int (1 : Int32))])) rfl (by rw [hml]; rfl) (Steps.refl _) (argsL := []) (rest := [(.int (1 : Int32))]) (lenOf pd_22 rfl) rfl (by show 2 * 0 + _ ≤ _; exact Nat.le_of_eq rfl) (hb hby d28_6) (fun _ _ => ⟨rfl, e426, (by decide : 0 + 0 ≤ _), (by decide : 0 + 0 ≤ _)⟩)
  dsimp only [Pt.U, Pt.locs, Pt.cells, Pt.slots] at X430 l430 y430 z430 st430 hQ430
  subst l430 y430 z430
  obtain ⟨rfl, N430q, eq430⟩ := hQ430
  have N431 := Fr.app N0 N430q
  refine Go.step (fun _ k => st430.trans (XS.ishr X430.here hx rfl (hb hby d28_9) rfl k)) ?_
  show Go p e below s _ _ _ T430 (mkF m 10 #[.val (.ref b344_385)] [(.int (1 : Int32))])
  exact Go.retI X430 hx hlk Bd.returns (hb hby d28_10) eq430 ⟨rfl, N431, rfl⟩ (by decide) (by decide)

theorem ef_StringLatin1_charAt_2 (m : MethodId) (x0 : Addr) (x1 : Int32) : entryFrame m #[(.ref x0), (.int x1)] 2 = mkF m 0 #[.val (.ref x0), .val (.int x1)] [] := by first | (simp [entryFrame, mkF, argsToLocals, Value.category]; done) | rfl
def Q_StringLatin1_charAt_2 (Z : State) (b347_356_385 : Addr) (k347_356_385 : ClassId) (fv : Value) (h0 : Heap) (n0 : Nat) (v : Option Value) (h : Heap) (L : List Loc) : Prop := v = some (.int (97 : Int32)) ∧ Fr n0 L ∧ h = h0
set_option maxRecDepth 65536 in
set_option maxHeartbeats 40000000 in
theorem rm_StringLatin1_charAt_2 (l : Launch) (Z : State) (a0 : Array Value) (hw : ∀ d ∈ tables_1, d.before a0 Z = true) (ws : List Jvm.Cond) (b347_356_385 : Addr) (k347_356_385 : ClassId) (fv : Value) (h0 : Heap) (n0 : Nat) (Z0 : n0 ≤ h0.size) (V_b347_356_385 : Arv Z h0 b347_356_385 k347_356_385 .byte (1 : Int32) [(.int (97 : Int32))] (.int (0 : Int32))) (Z_S_SIOOBE_FORMATTER : Sta Z Z.heap xs5 xs22 xs6 fv) (hfv : fv.isRef = true) (O0 : Old Z n0 h0) :
    MetFree l xm9 (head1 (Jvm.Cond.code xm9 jdk_43_method_2_code 2 (some .char) :: ws) xr7) (fun a U => a = #[(.ref b347_356_385), (.int (0 : Int32))] ∧ Z.Warmed39 U.vm ∧ U.heap = h0) (fun _ _ _ _ _ => True) (fun _ U o U' => ∃ v L, o = .returned v ∧ Q_StringLatin1_charAt_2 Z b347_356_385 k347_356_385 fv h0 n0 v U'.heap L ∧ FrameEnd U o U' L xr7.cells xr7.slots) := by
  refine MetFree.of_bodySF (plainFor_of_name pn_6) hisR ?_
  intro p e s m args below meth c s₁ Bd hml0 hP hK
  obtain ⟨rfl, hZ, hh⟩ := hP
  have hx := Bd.exec
  have hby := Bd.bytes
  have hlk : meth.locks = false := BodyLoose.notSynchronized Bd
  have hml : c.maxLocals = 2 := hml0
  have hown : s.vm.findClass xs13 = some m.cls := findClass_of_methodNamed Bd.named
  have hnm := (name_of_methodNamed Bd.named Bd.method).1
  have X0 : Stand p l e xr7 s m #[(.ref b347_356_385), (.int (0 : Int32))] below meth c s₁ [] 0 0 := Stand.of_body Bd
  have e0 : s₁.heap = h0 := by rw [← hh, Bd.state]; rfl
  have N0 := Fr.nil n0
  show Go p e below s (Q_StringLatin1_charAt_2 Z b347_356_385 k347_356_385 fv h0 n0) xr7.cells xr7.slots s₁ (entryFrame m #[(.ref b347_356_385), (.int (0 : Int32))] 2)
  refine Go.cast (ef_StringLatin1_charAt_2 m b347_356_385 (0 : Int32)) ?_
  show Go p e below s _ _ _ s₁ (mkF m 0 #[.val (.ref b347_356_385), .val (.int (0 : Int32))] [])
  refine Go.step (fun _ k => XS.iloadN X0.here hx rfl (hb hby d17_0) rfl (XS.aloadN X0.here hx rfl (hb hby d17_1) rfl rfl k)) ?_
  show Go p e below s _ _ _ s₁ (mkF m 2 #[.val (.ref b347_356_385), .val (.int (0 : Int32))] [(.ref b347_356_385), (.int (0 : Int32))])
  obtain ⟨cl440, Ar440, -, Sz440, Ng440, -, -⟩ := id V_b347_356_385
  have aln440 := X0.arraylength hx (by rw [e0]; exact Ar440.1) (State.isArrayOf_alike hZ.alike Ar440.2.1) (g := (mkF m 2 #[.val (.ref b347_356_385), .val (.int (0 : Int32))] [(.ref b347_356_385), (.int (0 : Int32))])) rfl rfl (hb hby d17_2)
  rw [len_of Sz440 Ng440] at aln440
  refine Go.step (fun _ k => aln440 _ k) ?_
  show Go p e below s _ _ _ s₁ (mkF m 3 #[.val (.ref b347_356_385), .val (.int (0 : Int32))] [(.int (1 : Int32)), (.int (0 : Int32))])
  obtain ⟨_, _, ⟨T441, L441, k441, n441⟩, -, X441, ⟨Lc441, hQ441, l441, y441, z441⟩, st441⟩ := Jvm.LawKit.callS X0 hx (y := xm4) hown (mvT hZ (tw92 hw)) (mvT hZ (tw93 hw)) (mvT hZ (tw3 hw)) (mvT hZ (tw94 hw)) (by decide) (backOf (W := 0) (rm_schk l Z a0 hw [] (0 : Int32) (1 : Int32) fv h0 n0 Z0 O0 Z_S_SIOOBE_FORMATTER hfv (by decide) (by decide)) hZ (tw94 hw) (tw3 hw) (by decide) (by decide)) (g := (mkF m 3 #[.val (.ref b347_356_385), .val (.int (0 : Int32))] [(.int (1 : Int32)), (.int (0 : Int32))])) rfl (by rw [hml]; rfl) (argsL := [(.int (0 : Int32)), (.int (1 : Int32))]) (rest := []) (lenOf pd_11 rfl) rfl (by show 2 * 0 + _ ≤ _; exact Nat.le_of_eq rfl) (hb hby d17_3) (fun _ _ => ⟨rfl, e0, (by decide : 0 + 0 ≤ _), (by decide : 0 + 0 ≤ _)⟩)
  dsimp only [Pt.U, Pt.locs, Pt.cells, Pt.slots] at X441 l441 y441 z441 st441 hQ441
  subst l441 y441 z441
  obtain ⟨rfl, N441q, eq441⟩ := hQ441
  have N442 := Fr.app N0 N441q
  refine Go.step (fun _ k => st441 _ (XS.aloadN X441.here hx rfl (hb hby d17_6) rfl rfl (XS.iloadN X441.here hx rfl (hb hby d17_7) rfl k))) ?_
  show Go p e below s _ _ _ T441 (mkF m 8 #[.val (.ref b347_356_385), .val (.int (0 : Int32))] [(.int (0 : Int32)), (.ref b347_356_385)])
  obtain ⟨cl443, Ar443, -, Sz443, Ng443, Hs443, Ft443⟩ := id V_b347_356_385
  have in443 : ¬ ((0 : Int32) < 0 ∨ cl443.slots.size ≤ ((0 : Int32)).toNatClampNeg) := (inb_of Sz443 ⟨by decide, by decide⟩)
  have at443 : cl443.slots[((0 : Int32)).toNatClampNeg]? = some (.int (97 : Int32)) := Hs443.at in443 rfl
  refine Go.step (fun _ k => X441.baloadBytes hx (j := (0 : Int32)) (v := (.int (97 : Int32))) (by rw [eq441]; exact Ar443.1) (State.isArrayOf_alike hZ.alike Ar443.2.1) Ar443.2.2 in443 at443 (g := (mkF m 8 #[.val (.ref b347_356_385), .val (.int (0 : Int32))] [(.int (0 : Int32)), (.ref b347_356_385)])) rfl rfl (hb hby d17_8) _ (XS.sipush X441.here hx rfl (hb hby d17_9) (XS.iand X441.here hx rfl (hb hby d17_12) rfl (XS.i2c X441.here hx rfl (hb hby d17_13) rfl k)))) ?_
  show Go p e below s _ _ _ T441 (mkF m 14 #[.val (.ref b347_356_385), .val (.int (0 : Int32))] [(.int (97 : Int32))])
  exact Go.retN X441 hx hlk (t := .char) Bd.returns (by simp) (hb hby d17_14) eq441 ⟨rfl, N442, rfl⟩ (by decide) (by decide)

theorem ef_String_charAt_2 (m : MethodId) (x0 : Addr) (x1 : Int32) : entryFrame m #[(.ref x0), (.int x1)] 2 = mkF m 0 #[.val (.ref x0), .val (.int x1)] [] := by first | (simp [entryFrame, mkF, argsToLocals, Value.category]; done) | rfl
def Q_String_charAt_2 (Z : State) (b344_385 : Addr) (cs : Int32) (b347_356_385 : Addr) (k347_356_385 : ClassId) (fv : Value) (h0 : Heap) (n0 : Nat) (v : Option Value) (h : Heap) (L : List Loc) : Prop := v = some (.int (97 : Int32)) ∧ Fr n0 L ∧ h = h0
set_option maxRecDepth 65536 in
set_option maxHeartbeats 40000000 in
theorem rm_String_charAt_2 (l : Launch) (Z : State) (a0 : Array Value) (hw : ∀ d ∈ tables_1, d.before a0 Z = true) (ws : List Jvm.Cond) (b344_385 : Addr) (cs : Int32) (b347_356_385 : Addr) (k347_356_385 : ClassId) (fv : Value) (h0 : Heap) (n0 : Nat) (Z0 : n0 ≤ h0.size) (E_b344_385 : Exa Z h0 b344_385 xs23) (F_coder_b344_385 : Fld Z h0 b344_385 xs23 "coder" "B" (.int (0 : Int32))) (Z_S_COMPACT_STRINGS : Sta Z Z.heap xs23 xs24 "Z" (.int cs)) (O0 : Old Z n0 h0) (hcs : ¬ cs = (0 : Int32)) (F_value_b344_385 : Fld Z h0 b344_385 xs23 "value" "[B" (.ref b347_356_385)) (V_b347_356_385 : Arv Z h0 b347_356_385 k347_356_385 .byte (1 : Int32) [(.int (97 : Int32))] (.int (0 : Int32))) (Z_S_SIOOBE_FORMATTER : Sta Z Z.heap xs5 xs22 xs6 fv) (hfv : fv.isRef = true) :
    MetFree l xm16 (head1 (Jvm.Cond.code xm16 jdk_42_method_56_code 2 (some .char) :: ws) xr8) (fun a U => a = #[(.ref b344_385), (.int (0 : Int32))] ∧ Z.Warmed39 U.vm ∧ U.heap = h0) (fun _ _ _ _ _ => True) (fun _ U o U' => ∃ v L, o = .returned v ∧ Q_String_charAt_2 Z b344_385 cs b347_356_385 k347_356_385 fv h0 n0 v U'.heap L ∧ FrameEnd U o U' L xr8.cells xr8.slots) := by
  refine MetFree.of_bodySF (plainFor_of_name pn_1) hisR ?_
  intro p e s m args below meth c s₁ Bd hml0 hP hK
  obtain ⟨rfl, hZ, hh⟩ := hP
  have hx := Bd.exec
  have hby := Bd.bytes
  have hlk : meth.locks = false := BodyLoose.notSynchronized Bd
  have hml : c.maxLocals = 2 := hml0
  have hown : s.vm.findClass xs23 = some m.cls := findClass_of_methodNamed Bd.named
  have hnm := (name_of_methodNamed Bd.named Bd.method).1
  have X0 : Stand p l e xr8 s m #[(.ref b344_385), (.int (0 : Int32))] below meth c s₁ [] 0 0 := Stand.of_body Bd
  have e0 : s₁.heap = h0 := by rw [← hh, Bd.state]; rfl
  have N0 := Fr.nil n0
  show Go p e below s (Q_String_charAt_2 Z b344_385 cs b347_356_385 k347_356_385 fv h0 n0) xr8.cells xr8.slots s₁ (entryFrame m #[(.ref b344_385), (.int (0 : Int32))] 2)
  refine Go.cast (ef_String_charAt_2 m b344_385 (0 : Int32)) ?_
  show Go p e below s _ _ _ s₁ (mkF m 0 #[.val (.ref b344_385), .val (.int (0 : Int32))] [])
  refine Go.step (fun _ k => XS.aloadN X0.here hx rfl (hb hby d15_0) rfl rfl k) ?_
  show Go p e below s _ _ _ s₁ (mkF m 1 #[.val (.ref b344_385), .val (.int (0 : Int32))] [(.ref b344_385)])
  obtain ⟨cq437, kq437, q437a, q437b, q437c⟩ := isOf hZ e0 E_b344_385
  obtain ⟨_, _, ⟨T437, L437, k437, n437⟩, -, X437, ⟨Lc437, hQ437, l437, y437, z437⟩, st437⟩ := X0.virtualBack hx (y := xm13) (z := xm13) hown (mvT hZ (tw83 hw)) (mvT hZ (tw84 hw)) (notFace_of_selects (args := #[]) (mvT hZ (tw86 hw))) (mvT hZ (tw86 hw)) (mvT hZ (tw85 hw)) (by decide) (backOf (W := 0) (rm_String_isLatin1_0 l Z a0 hw [] b344_385 cs h0 n0 Z0 Z_S_COMPACT_STRINGS O0 hcs F_coder_b344_385) hZ (tw87 hw) (tw3 hw) (by decide) (by decide)) q437a q437c (g := (mkF m 1 #[.val (.ref b344_385), .val (.int (0 : Int32))] [(.ref b344_385)])) rfl (by rw [hml]; rfl) (Steps.refl _) (argsL := []) (rest := []) (lenOf pd_10 rfl) rfl (by show 2 * 0 + _ ≤ _; exact Nat.le_of_eq rfl) (hb hby d15_1) (fun _ _ => ⟨rfl, e0, (by decide : 0 + 0 ≤ _), (by decide : 0 + 0 ≤ _)⟩)
  dsimp only [Pt.U, Pt.locs, Pt.cells, Pt.slots] at X437 l437 y437 z437 st437 hQ437
  subst l437 y437 z437
  obtain ⟨rfl, N437q, eq437⟩ := hQ437
  have N438 := Fr.app N0 N437q
  refine Go.step (fun _ k => st437.trans (XS.ifNo X437.here hx rfl (hb hby d15_4) rfl ((if0 _ _).trans (feq (by decide)).1) (XS.aloadN X437.here hx rfl (hb hby d15_7) rfl rfl k))) ?_
  show Go p e below s _ _ _ T437 (mkF m 8 #[.val (.ref b344_385), .val (.int (0 : Int32))] [(.ref b344_385)])
  obtain ⟨T439, X439, e439, st439⟩ := getF X437 hx hZ hown (host := "") (Or.inl (tw28 hw)) Via.refl eq437 F_value_b344_385 (g := (mkF m 8 #[.val (.ref b344_385), .val (.int (0 : Int32))] [(.ref b344_385)])) rfl rfl (hb hby d15_8)
  refine Go.step (fun _ k => st439 _ (XS.iloadN X439.here hx rfl (hb hby d15_11) rfl k)) ?_
  show Go p e below s _ _ _ T439 (mkF m 12 #[.val (.ref b344_385), .val (.int (0 : Int32))] [(.int (0 : Int32)), (.ref b347_356_385)])
  obtain ⟨_, _, ⟨T444, L444, k444, n444⟩, -, X444, ⟨Lc444, hQ444, l444, y444, z444⟩, st444⟩ := Jvm.LawKit.callS X439 hx (y := xm9) hown (mvT hZ (tw88 hw)) (mvT hZ (tw89 hw)) (mvT hZ (tw90 hw)) (mvT hZ (tw91 hw)) (by decide) (backOf (W := 0) (rm_StringLatin1_charAt_2 l Z a0 hw [] b347_356_385 k347_356_385 fv h0 n0 Z0 V_b347_356_385 Z_S_SIOOBE_FORMATTER hfv O0) hZ (tw91 hw) (tw90 hw) (by decide) (by decide)) (g := (mkF m 12 #[.val (.ref b344_385), .val (.int (0 : Int32))] [(.int (0 : Int32)), (.ref b347_356_385)])) rfl (by rw [hml]; rfl) (argsL := [(.ref b347_356_385), (.int (0 : Int32))]) (rest := []) (lenOf pd_12 rfl) rfl (by show 2 * 0 + _ ≤ _; exact Nat.le_of_eq rfl) (hb hby d15_12) (fun _ _ => ⟨rfl, e439, (by decide : 0 + 0 ≤ _), (by decide : 0 + 0 ≤ _)⟩)
  dsimp only [Pt.U, Pt.locs, Pt.cells, Pt.slots] at X444 l444 y444 z444 st444 hQ444
  subst l444 y444 z444
  obtain ⟨rfl, N444q, eq444⟩ := hQ444
  have N445 := Fr.app N438 N444q
  refine Go.step (fun _ k => st444 _ k) ?_
  show Go p e below s _ _ _ T444 (mkF m 15 #[.val (.ref b344_385), .val (.int (0 : Int32))] [(.int (97 : Int32))])
  exact Go.retN X444 hx hlk (t := .char) Bd.returns (by simp) (hb hby d15_15) eq444 ⟨rfl, N445, rfl⟩ (by decide) (by decide)

theorem ef_PropertyIndex_plainHash_2 (m : MethodId) (x0 : Addr) (x1 : Int32) (x2 : Int32) : entryFrame m #[(.ref x0), (.int x1), (.int x2)] 5 = mkF m 0 #[.val (.ref x0), .val (.int x1), .val (.int x2), .unset, .unset] [] := by first | (simp [entryFrame, mkF, argsToLocals, Value.category]; done) | rfl
def Q_PropertyIndex_plainHash_2 (Z : State) (b344_385 : Addr) (b347_356_385 : Addr) (k347_356_385 : ClassId) (cs : Int32) (fv : Value) (h0 : Heap) (n0 : Nat) (v : Option Value) (h : Heap) (L : List Loc) : Prop := v = some (.int (97 : Int32)) ∧ Fr n0 L ∧ h = h0
set_option maxRecDepth 65536 in
set_option maxHeartbeats 40000000 in
theorem rm_PropertyIndex_plainHash_2 (l : Launch) (Z : State) (a0 : Array Value) (hw : ∀ d ∈ tables_1, d.before a0 Z = true) (ws : List Jvm.Cond) (b344_385 : Addr) (b347_356_385 : Addr) (k347_356_385 : ClassId) (cs : Int32) (fv : Value) (h0 : Heap) (n0 : Nat) (Z0 : n0 ≤ h0.size) (E_b344_385 : Exa Z h0 b344_385 xs23) (F_coder_b344_385 : Fld Z h0 b344_385 xs23 "coder" "B" (.int (0 : Int32))) (F_value_b344_385 : Fld Z h0 b344_385 xs23 "value" "[B" (.ref b347_356_385)) (V_b347_356_385 : Arv Z h0 b347_356_385 k347_356_385 .byte (1 : Int32) [(.int (97 : Int32))] (.int (0 : Int32))) (Z_S_COMPACT_STRINGS : Sta Z Z.heap xs23 xs24 "Z" (.int cs)) (O0 : Old Z n0 h0) (hcs : ¬ cs = (0 : Int32)) (Z_S_SIOOBE_FORMATTER : Sta Z Z.heap xs5 xs22 xs6 fv) (hfv : fv.isRef = true) :
    MetFree l xm17 (head1 (Jvm.Cond.code xm17 prog_15_method_15_code 5 (some .int) :: ws) xr9) (fun a U => a = #[(.ref b344_385), (.int (0 : Int32)), (.int (1 : Int32))] ∧ Z.Warmed39 U.vm ∧ U.heap = h0) (fun _ _ _ _ _ => True) (fun _ U o U' => ∃ v L, o = .returned v ∧ Q_PropertyIndex_plainHash_2 Z b344_385 b347_356_385 k347_356_385 cs fv h0 n0 v U'.heap L ∧ FrameEnd U o U' L xr9.cells xr9.slots) := by
  refine MetFree.of_bodySF (plainFor_of_name pn_5) hisR ?_
  intro p e s m args below meth c s₁ Bd hml0 hP hK
  obtain ⟨rfl, hZ, hh⟩ := hP
  have hx := Bd.exec
  have hby := Bd.bytes
  have hlk : meth.locks = false := BodyLoose.notSynchronized Bd
  have hml : c.maxLocals = 5 := hml0
  have hown : s.vm.findClass xs1 = some m.cls := findClass_of_methodNamed Bd.named
  have hnm := (name_of_methodNamed Bd.named Bd.method).1
  have X0 : Stand p l e xr9 s m #[(.ref b344_385), (.int (0 : Int32)), (.int (1 : Int32))] below meth c s₁ [] 0 0 := Stand.of_body Bd
  have e0 : s₁.heap = h0 := by rw [← hh, Bd.state]; rfl
  have N0 := Fr.nil n0
  show Go p e below s (Q_PropertyIndex_plainHash_2 Z b344_385 b347_356_385 k347_356_385 cs fv h0 n0) xr9.cells xr9.slots s₁ (entryFrame m #[(.ref b344_385), (.int (0 : Int32)), (.int (1 : Int32))] 5)
  refine Go.cast (ef_PropertyIndex_plainHash_2 m b344_385 (0 : Int32) (1 : Int32)) ?_
  show Go p e below s _ _ _ s₁ (mkF m 0 #[.val (.ref b344_385), .val (.int (0 : Int32)), .val (.int (1 : Int32)), .unset, .unset] [])
  refine Go.step (fun _ k => XS.iconst X0.here hx rfl (hb hby d14_0) (XS.istoreN X0.here hx rfl (hb hby d14_1) rfl (l' := #[.val (.ref b344_385), .val (.int (0 : Int32)), .val (.int (1 : Int32)), .val (.int (0 : Int32)), .unset]) rfl (XS.iloadN X0.here hx rfl (hb hby d14_2) rfl (XS.istore X0.here hx rfl (hb hby d14_3) rfl (l' := #[.val (.ref b344_385), .val (.int (0 : Int32)), .val (.int (1 : Int32)), .val (.int (0 : Int32)), .val (.int (0 : Int32))]) rfl (XS.iload X0.here hx rfl (hb hby d14_5) rfl (XS.iloadN X0.here hx rfl (hb hby d14_7) rfl (XS.icmpNo X0.here hx rfl (hb hby d14_8) rfl (tlt (by decide)).2.1 (XS.bipush X0.here hx rfl (hb hby d14_11) (XS.iloadN X0.here hx rfl (hb hby d14_13) rfl (XS.imul X0.here hx rfl (hb hby d14_14) rfl k)))))))))) ?_
  show Go p e below s _ _ _ s₁ (mkF m 15 #[.val (.ref b344_385), .val (.int (0 : Int32)), .val (.int (1 : Int32)), .val (.int (0 : Int32)), .val (.int (0 : Int32))] [(.int ((31 : Int32) * (0 : Int32)))])
  refine Go.step (fun _ k => XS.aloadN X0.here hx rfl (hb hby d14_15) rfl rfl (XS.iload X0.here hx rfl (hb hby d14_16) rfl k)) ?_
  show Go p e below s _ _ _ s₁ (mkF m 18 #[.val (.ref b344_385), .val (.int (0 : Int32)), .val (.int (1 : Int32)), .val (.int (0 : Int32)), .val (.int (0 : Int32))] [(.int (0 : Int32)), (.ref b344_385), (.int (0 : Int32))])
  obtain ⟨cq446, kq446, q446a, q446b, q446c⟩ := isOf hZ e0 E_b344_385
  obtain ⟨_, _, ⟨T446, L446, k446, n446⟩, -, X446, ⟨Lc446, hQ446, l446, y446, z446⟩, st446⟩ := X0.virtualBack hx (y := xm16) (z := xm16) hown (mvT hZ (tw78 hw)) (mvT hZ (tw79 hw)) (notFace_of_selects (args := #[]) (mvT hZ (tw81 hw))) (mvT hZ (tw81 hw)) (mvT hZ (tw80 hw)) (by decide) (backOf (W := 1) (rm_String_charAt_2 l Z a0 hw [] b344_385 cs b347_356_385 k347_356_385 fv h0 n0 Z0 E_b344_385 F_coder_b344_385 Z_S_COMPACT_STRINGS O0 hcs F_value_b344_385 V_b347_356_385 Z_S_SIOOBE_FORMATTER hfv) hZ (tw82 hw) (tw3 hw) (by decide) (by decide)) q446a q446c (g := (mkF m 18 #[.val (.ref b344_385), .val (.int (0 : Int32)), .val (.int (1 : Int32)), .val (.int (0 : Int32)), .val (.int (0 : Int32))] [(.int (0 : Int32)), (.ref b344_385), (.int (0 : Int32))])) rfl (by rw [hml]; rfl) (Steps.refl _) (argsL := [(.int (0 : Int32))]) (rest := [(.int (0 : Int32))]) (lenOf pd_13 rfl) rfl (by show 2 * 0 + _ ≤ _; exact Nat.le_of_eq rfl) (hb hby d14_18) (fun _ _ => ⟨rfl, e0, (by decide : 0 + 0 ≤ _), (by decide : 0 + 0 ≤ _)⟩)
  dsimp only [Pt.U, Pt.locs, Pt.cells, Pt.slots] at X446 l446 y446 z446 st446 hQ446
  subst l446 y446 z446
  obtain ⟨rfl, N446q, eq446⟩ := hQ446
  have N447 := Fr.app N0 N446q
  refine Go.step (fun _ k => st446.trans (XS.iadd X446.here hx rfl (hb hby d14_21) rfl (XS.istoreN X446.here hx rfl (hb hby d14_22) rfl (l' := #[.val (.ref b344_385), .val (.int (0 : Int32)), .val (.int (1 : Int32)), .val (.int (97 : Int32)), .val (.int (0 : Int32))]) rfl (XS.iinc X446.here hx rfl (hb hby d14_23) rfl (l' := #[.val (.ref b344_385), .val (.int (0 : Int32)), .val (.int (1 : Int32)), .val (.int (97 : Int32)), .val (.int ((0 : Int32) + (1 : Int32)))]) rfl (XS.goto X446.here hx rfl (pc0 := 26) (pc' := 5) rfl (hb hby d14_26) (by decide) (by decide) (XS.iload X446.here hx rfl (hb hby d14_5) rfl (XS.iloadN X446.here hx rfl (hb hby d14_7) rfl (XS.icmpYes X446.here hx rfl (pc0 := 8) (pc' := 29) rfl (hb hby d14_8) rfl (flt (by decide)).2.1 (by decide) (by decide) (XS.iloadN X446.here hx rfl (hb hby d14_29) rfl (XS.iloadN X446.here hx rfl (hb hby d14_30) rfl k)))))))))) ?_
  show Go p e below s _ _ _ T446 (mkF m 31 #[.val (.ref b344_385), .val (.int (0 : Int32)), .val (.int (1 : Int32)), .val (.int (97 : Int32)), .val (.int (1 : Int32))] [(.int (97 : Int32)), (.int (97 : Int32))])
  refine Go.step (fun _ k => XS.bipush X446.here hx rfl (hb hby d14_31) (XS.iushr X446.here hx rfl (hb hby d14_33) rfl (XS.ixor X446.here hx rfl (hb hby d14_34) rfl k))) ?_
  show Go p e below s _ _ _ T446 (mkF m 35 #[.val (.ref b344_385), .val (.int (0 : Int32)), .val (.int (1 : Int32)), .val (.int (97 : Int32)), .val (.int (1 : Int32))] [(.int (97 : Int32))])
  exact Go.retI X446 hx hlk Bd.returns (hb hby d14_35) eq446 ⟨rfl, N447, rfl⟩ (by decide) (by decide)

theorem ef_PropertyIndex_hash_2 (m : MethodId) (x0 : Addr) (x1 : Addr) (x2 : Int32) (x3 : Int32) : entryFrame m #[(.ref x0), (.ref x1), (.int x2), (.int x3)] 4 = mkF m 0 #[.val (.ref x0), .val (.ref x1), .val (.int x2), .val (.int x3)] [] := by first | (simp [entryFrame, mkF, argsToLocals, Value.category]; done) | rfl
def Q_PropertyIndex_hash_2 (Z : State) (b73 : Addr) (b344_385 : Addr) (b347_356_385 : Addr) (k347_356_385 : ClassId) (cs : Int32) (fv : Value) (h0 : Heap) (n0 : Nat) (v : Option Value) (h : Heap) (L : List Loc) : Prop := v = some (.int (97 : Int32)) ∧ Fr n0 L ∧ h = h0
set_option maxRecDepth 65536 in
set_option maxHeartbeats 40000000 in
theorem rm_PropertyIndex_hash_2 (l : Launch) (Z : State) (a0 : Array Value) (hw : ∀ d ∈ tables_1, d.before a0 Z = true) (ws : List Jvm.Cond) (b73 : Addr) (b344_385 : Addr) (b347_356_385 : Addr) (k347_356_385 : ClassId) (cs : Int32) (fv : Value) (h0 : Heap) (n0 : Nat) (Z0 : n0 ≤ h0.size) (F_keyed_b73 : Fld Z h0 b73 xs1 "keyed" "Z" (.int (0 : Int32))) (E_b344_385 : Exa Z h0 b344_385 xs23) (F_coder_b344_385 : Fld Z h0 b344_385 xs23 "coder" "B" (.int (0 : Int32))) (F_value_b344_385 : Fld Z h0 b344_385 xs23 "value" "[B" (.ref b347_356_385)) (V_b347_356_385 : Arv Z h0 b347_356_385 k347_356_385 .byte (1 : Int32) [(.int (97 : Int32))] (.int (0 : Int32))) (Z_S_COMPACT_STRINGS : Sta Z Z.heap xs23 xs24 "Z" (.int cs)) (O0 : Old Z n0 h0) (hcs : ¬ cs = (0 : Int32)) (Z_S_SIOOBE_FORMATTER : Sta Z Z.heap xs5 xs22 xs6 fv) (hfv : fv.isRef = true) :
    MetFree l xm29 (head1 (Jvm.Cond.code xm29 prog_15_method_14_code 4 (some .int) :: ws) xr10) (fun a U => a = #[(.ref b73), (.ref b344_385), (.int (0 : Int32)), (.int (1 : Int32))] ∧ Z.Warmed39 U.vm ∧ U.heap = h0) (fun _ _ _ _ _ => True) (fun _ U o U' => ∃ v L, o = .returned v ∧ Q_PropertyIndex_hash_2 Z b73 b344_385 b347_356_385 k347_356_385 cs fv h0 n0 v U'.heap L ∧ FrameEnd U o U' L xr10.cells xr10.slots) := by
  refine MetFree.of_bodySF (plainFor_of_name pn_5) hisR ?_
  intro p e s m args below meth c s₁ Bd hml0 hP hK
  obtain ⟨rfl, hZ, hh⟩ := hP
  have hx := Bd.exec
  have hby := Bd.bytes
  have hlk : meth.locks = false := BodyLoose.notSynchronized Bd
  have hml : c.maxLocals = 4 := hml0
  have hown : s.vm.findClass xs1 = some m.cls := findClass_of_methodNamed Bd.named
  have hnm := (name_of_methodNamed Bd.named Bd.method).1
  have X0 : Stand p l e xr10 s m #[(.ref b73), (.ref b344_385), (.int (0 : Int32)), (.int (1 : Int32))] below meth c s₁ [] 0 0 := Stand.of_body Bd
  have e0 : s₁.heap = h0 := by rw [← hh, Bd.state]; rfl
  have N0 := Fr.nil n0
  show Go p e below s (Q_PropertyIndex_hash_2 Z b73 b344_385 b347_356_385 k347_356_385 cs fv h0 n0) xr10.cells xr10.slots s₁ (entryFrame m #[(.ref b73), (.ref b344_385), (.int (0 : Int32)), (.int (1 : Int32))] 4)
  refine Go.cast (ef_PropertyIndex_hash_2 m b73 b344_385 (0 : Int32) (1 : Int32)) ?_
  show Go p e below s _ _ _ s₁ (mkF m 0 #[.val (.ref b73), .val (.ref b344_385), .val (.int (0 : Int32)), .val (.int (1 : Int32))] [])
  refine Go.step (fun _ k => XS.aloadN X0.here hx rfl (hb hby d13_0) rfl rfl k) ?_
  show Go p e below s _ _ _ s₁ (mkF m 1 #[.val (.ref b73), .val (.ref b344_385), .val (.int (0 : Int32)), .val (.int (1 : Int32))] [(.ref b73)])
  obtain ⟨T436, X436, e436, st436⟩ := getF X0 hx hZ hown (host := "") (Or.inl (tw73 hw)) Via.refl e0 F_keyed_b73 (g := (mkF m 1 #[.val (.ref b73), .val (.ref b344_385), .val (.int (0 : Int32)), .val (.int (1 : Int32))] [(.ref b73)])) rfl rfl (hb hby d13_1)
  refine Go.step (fun _ k => st436 _ (XS.ifYes X436.here hx rfl (pc0 := 4) (pc' := 16) rfl (hb hby d13_4) rfl ((if0 _ _).trans (teq (by decide)).1) (by decide) (by decide) (XS.aloadN X436.here hx rfl (hb hby d13_16) rfl rfl (XS.iloadN X436.here hx rfl (hb hby d13_17) rfl (XS.iloadN X436.here hx rfl (hb hby d13_18) rfl k))))) ?_
  show Go p e below s _ _ _ T436 (mkF m 19 #[.val (.ref b73), .val (.ref b344_385), .val (.int (0 : Int32)), .val (.int (1 : Int32))] [(.int (1 : Int32)), (.int (0 : Int32)), (.ref b344_385)])
  obtain ⟨_, _, ⟨T448, L448, k448, n448⟩, -, X448, ⟨Lc448, hQ448, l448, y448, z448⟩, st448⟩ := Jvm.LawKit.callS X436 hx (y := xm17) hown (mvT hZ (tw75 hw)) (mvT hZ (tw76 hw)) (mvT hZ (tw32 hw)) (mvT hZ (tw77 hw)) (by decide) (backOf (W := 0) (rm_PropertyIndex_plainHash_2 l Z a0 hw [] b344_385 b347_356_385 k347_356_385 cs fv h0 n0 Z0 E_b344_385 F_coder_b344_385 F_value_b344_385 V_b347_356_385 Z_S_COMPACT_STRINGS O0 hcs Z_S_SIOOBE_FORMATTER hfv) hZ (tw77 hw) (tw32 hw) (by decide) (by decide)) (g := (mkF m 19 #[.val (.ref b73), .val (.ref b344_385), .val (.int (0 : Int32)), .val (.int (1 : Int32))] [(.int (1 : Int32)), (.int (0 : Int32)), (.ref b344_385)])) rfl (by rw [hml]; rfl) (argsL := [(.ref b344_385), (.int (0 : Int32)), (.int (1 : Int32))]) (rest := []) (lenOf pd_14 rfl) rfl (by show 2 * 0 + _ ≤ _; exact Nat.le_of_eq rfl) (hb hby d13_19) (fun _ _ => ⟨rfl, e436, (by decide : 0 + 0 ≤ _), (by decide : 0 + 0 ≤ _)⟩)
  dsimp only [Pt.U, Pt.locs, Pt.cells, Pt.slots] at X448 l448 y448 z448 st448 hQ448
  subst l448 y448 z448
  obtain ⟨rfl, N448q, eq448⟩ := hQ448
  have N449 := Fr.app N0 N448q
  refine Go.step (fun _ k => st448 _ k) ?_
  show Go p e below s _ _ _ T448 (mkF m 22 #[.val (.ref b73), .val (.ref b344_385), .val (.int (0 : Int32)), .val (.int (1 : Int32))] [(.int (97 : Int32))])
  exact Go.retI X448 hx hlk Bd.returns (hb hby d13_22) eq448 ⟨rfl, N449, rfl⟩ (by decide) (by decide)

theorem ef_String_length_1 (m : MethodId) (x0 : Addr) : entryFrame m #[(.ref x0)] 1 = mkF m 0 #[.val (.ref x0)] [] := by first | (simp [entryFrame, mkF, argsToLocals, Value.category]; done) | rfl
def Q_String_length_1 (Z : State) (b15 : Addr) (b21_41_64_71 : Addr) (k21_41_64_71 : ClassId) (cs : Int32) (h0 : Heap) (n0 : Nat) (v : Option Value) (h : Heap) (L : List Loc) : Prop := v = some (.int (2 : Int32)) ∧ Fr n0 L ∧ h = h0
set_option maxRecDepth 65536 in
set_option maxHeartbeats 40000000 in
theorem rm_String_length_1 (l : Launch) (Z : State) (a0 : Array Value) (hw : ∀ d ∈ tables_1, d.before a0 Z = true) (ws : List Jvm.Cond) (b15 : Addr) (b21_41_64_71 : Addr) (k21_41_64_71 : ClassId) (cs : Int32) (h0 : Heap) (n0 : Nat) (Z0 : n0 ≤ h0.size) (F_value_b15 : Fld Z h0 b15 xs23 "value" "[B" (.ref b21_41_64_71)) (V_b21_41_64_71 : Arv Z h0 b21_41_64_71 k21_41_64_71 .byte (2 : Int32) [(.int (97 : Int32)), (.int (98 : Int32))] (.int (0 : Int32))) (E_b15 : Exa Z h0 b15 xs23) (F_coder_b15 : Fld Z h0 b15 xs23 "coder" "B" (.int (0 : Int32))) (Z_S_COMPACT_STRINGS : Sta Z Z.heap xs23 xs24 "Z" (.int cs)) (O0 : Old Z n0 h0) (hcs : ¬ cs = (0 : Int32)) :
    MetFree l xm21 (head1 (Jvm.Cond.code xm21 jdk_42_method_54_code 1 (some .int) :: ws) xr13) (fun a U => a = #[(.ref b15)] ∧ Z.Warmed39 U.vm ∧ U.heap = h0) (fun _ _ _ _ _ => True) (fun _ U o U' => ∃ v L, o = .returned v ∧ Q_String_length_1 Z b15 b21_41_64_71 k21_41_64_71 cs h0 n0 v U'.heap L ∧ FrameEnd U o U' L xr13.cells xr13.slots) := by
  refine MetFree.of_bodySF (plainFor_of_name pn_1) hisR ?_
  intro p e s m args below meth c s₁ Bd hml0 hP hK
  obtain ⟨rfl, hZ, hh⟩ := hP
  have hx := Bd.exec
  have hby := Bd.bytes
  have hlk : meth.locks = false := BodyLoose.notSynchronized Bd
  have hml : c.maxLocals = 1 := hml0
  have hown : s.vm.findClass xs23 = some m.cls := findClass_of_methodNamed Bd.named
  have hnm := (name_of_methodNamed Bd.named Bd.method).1
  have X0 : Stand p l e xr13 s m #[(.ref b15)] below meth c s₁ [] 0 0 := Stand.of_body Bd
  have e0 : s₁.heap = h0 := by rw [← hh, Bd.state]; rfl
  have N0 := Fr.nil n0
  show Go p e below s (Q_String_length_1 Z b15 b21_41_64_71 k21_41_64_71 cs h0 n0) xr13.cells xr13.slots s₁ (entryFrame m #[(.ref b15)] 1)
  refine Go.cast (ef_String_length_1 m b15) ?_
  show Go p e below s _ _ _ s₁ (mkF m 0 #[.val (.ref b15)] [])
  refine Go.step (fun _ k => XS.aloadN X0.here hx rfl (hb hby d28_0) rfl rfl k) ?_
  show Go p e below s _ _ _ s₁ (mkF m 1 #[.val (.ref b15)] [(.ref b15)])
  obtain ⟨T465, X465, e465, st465⟩ := getF X0 hx hZ hown (host := "") (Or.inl (tw28 hw)) Via.refl e0 F_value_b15 (g := (mkF m 1 #[.val (.ref b15)] [(.ref b15)])) rfl rfl (hb hby d28_1)
  refine Go.step (fun _ k => st465 _ k) ?_
  show Go p e below s _ _ _ T465 (mkF m 4 #[.val (.ref b15)] [(.ref b21_41_64_71)])
  obtain ⟨cl466, Ar466, -, Sz466, Ng466, -, -⟩ := id V_b21_41_64_71
  have aln466 := X465.arraylength hx (by rw [e465]; exact Ar466.1) (State.isArrayOf_alike hZ.alike Ar466.2.1) (g := (mkF m 4 #[.val (.ref b15)] [(.ref b21_41_64_71)])) rfl rfl (hb hby d28_4)
  rw [len_of Sz466 Ng466] at aln466
  refine Go.step (fun _ k => aln466 _ (XS.aloadN X465.here hx rfl (hb hby d28_5) rfl rfl k)) ?_
  show Go p e below s _ _ _ T465 (mkF m 6 #[.val (.ref b15)] [(.ref b15), (.int (2 : Int32))])
  obtain ⟨cq467, kq467, q467a, q467b, q467c⟩ := isOf hZ e465 E_b15
  obtain ⟨_, _, ⟨T467, L467, k467, n467⟩, -, X467, ⟨Lc467, hQ467, l467, y467, z467⟩, st467⟩ := X465.virtualBack hx (y := xm25) (z := xm25) hown (mvT hZ (tw150 hw)) (mvT hZ (tw151 hw)) (notFace_of_selects (args := #[]) (mvT hZ (tw153 hw))) (mvT hZ (tw153 hw)) (mvT hZ (tw152 hw)) (by decide) (backOf (W := 1) (rm_String_coder_0 l Z a0 hw [] b15 cs h0 n0 Z0 Z_S_COMPACT_STRINGS O0 hcs F_coder_b15) hZ (tw154 hw) (tw3 hw) (by decide) (by decide)) q467a q467c (g := (mkF m 6 #[.val (.ref b15)] [(.ref b15), (.int (2 : Int32))])) rfl (by rw [hml]; rfl) (Steps.refl _) (argsL := []) (rest := [(.int (2 : Int32))]) (lenOf pd_22 rfl) rfl (by show 2 * 0 + _ ≤ _; exact Nat.le_of_eq rfl) (hb hby d28_6) (fun _ _ => ⟨rfl, e465, (by decide : 0 + 0 ≤ _), (by decide : 0 + 0 ≤ _)⟩)
  dsimp only [Pt.U, Pt.locs, Pt.cells, Pt.slots] at X467 l467 y467 z467 st467 hQ467
  subst l467 y467 z467
  obtain ⟨rfl, N467q, eq467⟩ := hQ467
  have N468 := Fr.app N0 N467q
  refine Go.step (fun _ k => st467.trans (XS.ishr X467.here hx rfl (hb hby d28_9) rfl k)) ?_
  show Go p e below s _ _ _ T467 (mkF m 10 #[.val (.ref b15)] [(.int (2 : Int32))])
  exact Go.retI X467 hx hlk Bd.returns (hb hby d28_10) eq467 ⟨rfl, N468, rfl⟩ (by decide) (by decide)

theorem ef_ArraysSupport_mismatch_0 (m : MethodId) (x0 : Addr) (x1 : Int32) (x2 : Addr) (x3 : Int32) (x4 : Int32) : entryFrame m #[(.ref x0), (.int x1), (.ref x2), (.int x3), (.int x4)] 8 = mkF m 0 #[.val (.ref x0), .val (.int x1), .val (.ref x2), .val (.int x3), .val (.int x4), .unset, .unset, .unset] [] := by first | (simp [entryFrame, mkF, argsToLocals, Value.category]; done) | rfl
def Q_ArraysSupport_mismatch_0 (Z : State) (b21_41_64_71 : Addr) (b347_356_385 : Addr) (k21_41_64_71 : ClassId) (k347_356_385 : ClassId) (h0 : Heap) (n0 : Nat) (v : Option Value) (h : Heap) (L : List Loc) : Prop := v = some (.int (-1 : Int32)) ∧ Fr n0 L ∧ h = h0
set_option maxRecDepth 65536 in
set_option maxHeartbeats 40000000 in
theorem rm_ArraysSupport_mismatch_0 (l : Launch) (Z : State) (a0 : Array Value) (hw : ∀ d ∈ tables_1, d.before a0 Z = true) (ws : List Jvm.Cond) (b21_41_64_71 : Addr) (b347_356_385 : Addr) (k21_41_64_71 : ClassId) (k347_356_385 : ClassId) (h0 : Heap) (n0 : Nat) (Z0 : n0 ≤ h0.size) (V_b21_41_64_71 : Arv Z h0 b21_41_64_71 k21_41_64_71 .byte (2 : Int32) [(.int (97 : Int32)), (.int (98 : Int32))] (.int (0 : Int32))) (V_b347_356_385 : Arv Z h0 b347_356_385 k347_356_385 .byte (1 : Int32) [(.int (97 : Int32))] (.int (0 : Int32))) :
    MetFree l xm2 (head1 (Jvm.Cond.code xm2 jdk_48_method_14_code 8 (some .int) :: ws) xr17) (fun a U => a = #[(.ref b21_41_64_71), (.int (0 : Int32)), (.ref b347_356_385), (.int (0 : Int32)), (.int (1 : Int32))] ∧ Z.Warmed39 U.vm ∧ U.heap = h0) (fun _ _ _ _ _ => True) (fun _ U o U' => ∃ v L, o = .returned v ∧ Q_ArraysSupport_mismatch_0 Z b21_41_64_71 b347_356_385 k21_41_64_71 k347_356_385 h0 n0 v U'.heap L ∧ FrameEnd U o U' L xr17.cells xr17.slots) := by
  refine MetFree.of_bodySF (plainFor_of_name pn_7) hisR ?_
  intro p e s m args below meth c s₁ Bd hml0 hP hK
  obtain ⟨rfl, hZ, hh⟩ := hP
  have hx := Bd.exec
  have hby := Bd.bytes
  have hlk : meth.locks = false := BodyLoose.notSynchronized Bd
  have hml : c.maxLocals = 8 := hml0
  have hown : s.vm.findClass xs7 = some m.cls := findClass_of_methodNamed Bd.named
  have hnm := (name_of_methodNamed Bd.named Bd.method).1
  have X0 : Stand p l e xr17 s m #[(.ref b21_41_64_71), (.int (0 : Int32)), (.ref b347_356_385), (.int (0 : Int32)), (.int (1 : Int32))] below meth c s₁ [] 0 0 := Stand.of_body Bd
  have e0 : s₁.heap = h0 := by rw [← hh, Bd.state]; rfl
  have N0 := Fr.nil n0
  show Go p e below s (Q_ArraysSupport_mismatch_0 Z b21_41_64_71 b347_356_385 k21_41_64_71 k347_356_385 h0 n0) xr17.cells xr17.slots s₁ (entryFrame m #[(.ref b21_41_64_71), (.int (0 : Int32)), (.ref b347_356_385), (.int (0 : Int32)), (.int (1 : Int32))] 8)
  refine Go.cast (ef_ArraysSupport_mismatch_0 m b21_41_64_71 (0 : Int32) b347_356_385 (0 : Int32) (1 : Int32)) ?_
  show Go p e below s _ _ _ s₁ (mkF m 0 #[.val (.ref b21_41_64_71), .val (.int (0 : Int32)), .val (.ref b347_356_385), .val (.int (0 : Int32)), .val (.int (1 : Int32)), .unset, .unset, .unset] [])
  refine Go.step (fun _ k => XS.iconst X0.here hx rfl (hb hby d32_0) (XS.istore X0.here hx rfl (hb hby d32_1) rfl (l' := #[.val (.ref b21_41_64_71), .val (.int (0 : Int32)), .val (.ref b347_356_385), .val (.int (0 : Int32)), .val (.int (1 : Int32)), .val (.int (0 : Int32)), .unset, .unset]) rfl (XS.iload X0.here hx rfl (hb hby d32_3) rfl (XS.bipush X0.here hx rfl (hb hby d32_5) (XS.icmpYes X0.here hx rfl (pc0 := 7) (pc' := 70) rfl (hb hby d32_7) rfl (flt (by decide)).2.2.2 (by decide) (by decide) (XS.iload X0.here hx rfl (hb hby d32_70) rfl (XS.iload X0.here hx rfl (hb hby d32_72) rfl (XS.icmpNo X0.here hx rfl (hb hby d32_74) rfl (tlt (by decide)).2.1 (XS.aloadN X0.here hx rfl (hb hby d32_77) rfl rfl (XS.iloadN X0.here hx rfl (hb hby d32_78) rfl k)))))))))) ?_
  show Go p e below s _ _ _ s₁ (mkF m 79 #[.val (.ref b21_41_64_71), .val (.int (0 : Int32)), .val (.ref b347_356_385), .val (.int (0 : Int32)), .val (.int (1 : Int32)), .val (.int (0 : Int32)), .unset, .unset] [(.int (0 : Int32)), (.ref b21_41_64_71)])
  refine Go.step (fun _ k => XS.iload X0.here hx rfl (hb hby d32_79) rfl (XS.iadd X0.here hx rfl (hb hby d32_81) rfl k)) ?_
  show Go p e below s _ _ _ s₁ (mkF m 82 #[.val (.ref b21_41_64_71), .val (.int (0 : Int32)), .val (.ref b347_356_385), .val (.int (0 : Int32)), .val (.int (1 : Int32)), .val (.int (0 : Int32)), .unset, .unset] [(.int (0 : Int32)), (.ref b21_41_64_71)])
  obtain ⟨cl479, Ar479, -, Sz479, Ng479, Hs479, Ft479⟩ := id V_b21_41_64_71
  have in479 : ¬ ((0 : Int32) < 0 ∨ cl479.slots.size ≤ ((0 : Int32)).toNatClampNeg) := (inb_of Sz479 ⟨by decide, by decide⟩)
  have at479 : cl479.slots[((0 : Int32)).toNatClampNeg]? = some (.int (97 : Int32)) := Hs479.at in479 rfl
  refine Go.step (fun _ k => X0.baloadBytes hx (j := (0 : Int32)) (v := (.int (97 : Int32))) (by rw [e0]; exact Ar479.1) (State.isArrayOf_alike hZ.alike Ar479.2.1) Ar479.2.2 in479 at479 (g := (mkF m 82 #[.val (.ref b21_41_64_71), .val (.int (0 : Int32)), .val (.ref b347_356_385), .val (.int (0 : Int32)), .val (.int (1 : Int32)), .val (.int (0 : Int32)), .unset, .unset] [(.int (0 : Int32)), (.ref b21_41_64_71)])) rfl rfl (hb hby d32_82) _ (XS.aloadN X0.here hx rfl (hb hby d32_83) rfl rfl (XS.iloadN X0.here hx rfl (hb hby d32_84) rfl (XS.iload X0.here hx rfl (hb hby d32_85) rfl (XS.iadd X0.here hx rfl (hb hby d32_87) rfl k))))) ?_
  show Go p e below s _ _ _ s₁ (mkF m 88 #[.val (.ref b21_41_64_71), .val (.int (0 : Int32)), .val (.ref b347_356_385), .val (.int (0 : Int32)), .val (.int (1 : Int32)), .val (.int (0 : Int32)), .unset, .unset] [(.int (0 : Int32)), (.ref b347_356_385), (.int (97 : Int32))])
  obtain ⟨cl480, Ar480, -, Sz480, Ng480, Hs480, Ft480⟩ := id V_b347_356_385
  have in480 : ¬ ((0 : Int32) < 0 ∨ cl480.slots.size ≤ ((0 : Int32)).toNatClampNeg) := (inb_of Sz480 ⟨by decide, by decide⟩)
  have at480 : cl480.slots[((0 : Int32)).toNatClampNeg]? = some (.int (97 : Int32)) := Hs480.at in480 rfl
  refine Go.step (fun _ k => X0.baloadBytes hx (j := (0 : Int32)) (v := (.int (97 : Int32))) (by rw [e0]; exact Ar480.1) (State.isArrayOf_alike hZ.alike Ar480.2.1) Ar480.2.2 in480 at480 (g := (mkF m 88 #[.val (.ref b21_41_64_71), .val (.int (0 : Int32)), .val (.ref b347_356_385), .val (.int (0 : Int32)), .val (.int (1 : Int32)), .val (.int (0 : Int32)), .unset, .unset] [(.int (0 : Int32)), (.ref b347_356_385), (.int (97 : Int32))])) rfl rfl (hb hby d32_88) _ (XS.icmpYes X0.here hx rfl (pc0 := 89) (pc' := 95) rfl (hb hby d32_89) rfl (teq (by decide)).1 (by decide) (by decide) (XS.iinc X0.here hx rfl (hb hby d32_95) rfl (l' := #[.val (.ref b21_41_64_71), .val (.int (0 : Int32)), .val (.ref b347_356_385), .val (.int (0 : Int32)), .val (.int (1 : Int32)), .val (.int ((0 : Int32) + (1 : Int32))), .unset, .unset]) rfl (XS.goto X0.here hx rfl (pc0 := 98) (pc' := 70) rfl (hb hby d32_98) (by decide) (by decide) (XS.iload X0.here hx rfl (hb hby d32_70) rfl (XS.iload X0.here hx rfl (hb hby d32_72) rfl (XS.icmpYes X0.here hx rfl (pc0 := 74) (pc' := 101) rfl (hb hby d32_74) rfl (flt (by decide)).2.1 (by decide) (by decide) (XS.iconst X0.here hx rfl (hb hby d32_101) k)))))))) ?_
  show Go p e below s _ _ _ s₁ (mkF m 102 #[.val (.ref b21_41_64_71), .val (.int (0 : Int32)), .val (.ref b347_356_385), .val (.int (0 : Int32)), .val (.int (1 : Int32)), .val (.int (1 : Int32)), .unset, .unset] [(.int (-1 : Int32))])
  exact Go.retI X0 hx hlk Bd.returns (hb hby d32_102) e0 ⟨rfl, N0, rfl⟩ (by decide) (by decide)

theorem ef_String_regionMatches_0 (m : MethodId) (x0 : Addr) (x1 : Int32) (x2 : Addr) (x3 : Int32) (x4 : Int32) : entryFrame m #[(.ref x0), (.int x1), (.ref x2), (.int x3), (.int x4)] 8 = mkF m 0 #[.val (.ref x0), .val (.int x1), .val (.ref x2), .val (.int x3), .val (.int x4), .unset, .unset, .unset] [] := by first | (simp [entryFrame, mkF, argsToLocals, Value.category]; done) | rfl
def Q_String_regionMatches_0 (Z : State) (b15 : Addr) (b344_385 : Addr) (b21_41_64_71 : Addr) (k21_41_64_71 : ClassId) (cs : Int32) (b347_356_385 : Addr) (k347_356_385 : ClassId) (h0 : Heap) (n0 : Nat) (v : Option Value) (h : Heap) (L : List Loc) : Prop := v = some (.int (1 : Int32)) ∧ Fr n0 L ∧ h = h0
set_option maxRecDepth 65536 in
set_option maxHeartbeats 40000000 in
theorem rm_String_regionMatches_0 (l : Launch) (Z : State) (a0 : Array Value) (hw : ∀ d ∈ tables_1, d.before a0 Z = true) (ws : List Jvm.Cond) (b15 : Addr) (b344_385 : Addr) (b21_41_64_71 : Addr) (k21_41_64_71 : ClassId) (cs : Int32) (b347_356_385 : Addr) (k347_356_385 : ClassId) (h0 : Heap) (n0 : Nat) (Z0 : n0 ≤ h0.size) (E_b15 : Exa Z h0 b15 xs23) (F_value_b15 : Fld Z h0 b15 xs23 "value" "[B" (.ref b21_41_64_71)) (V_b21_41_64_71 : Arv Z h0 b21_41_64_71 k21_41_64_71 .byte (2 : Int32) [(.int (97 : Int32)), (.int (98 : Int32))] (.int (0 : Int32))) (F_coder_b15 : Fld Z h0 b15 xs23 "coder" "B" (.int (0 : Int32))) (Z_S_COMPACT_STRINGS : Sta Z Z.heap xs23 xs24 "Z" (.int cs)) (O0 : Old Z n0 h0) (hcs : ¬ cs = (0 : Int32)) (E_b344_385 : Exa Z h0 b344_385 xs23) (F_value_b344_385 : Fld Z h0 b344_385 xs23 "value" "[B" (.ref b347_356_385)) (V_b347_356_385 : Arv Z h0 b347_356_385 k347_356_385 .byte (1 : Int32) [(.int (97 : Int32))] (.int (0 : Int32))) (F_coder_b344_385 : Fld Z h0 b344_385 xs23 "coder" "B" (.int (0 : Int32))) :
    MetFree l xm5 (head1 (Jvm.Cond.code xm5 jdk_42_method_73_code 8 (some .boolean) :: ws) xr7) (fun a U => a = #[(.ref b15), (.int (0 : Int32)), (.ref b344_385), (.int (0 : Int32)), (.int (1 : Int32))] ∧ Z.Warmed39 U.vm ∧ U.heap = h0) (fun _ _ _ _ _ => True) (fun _ U o U' => ∃ v L, o = .returned v ∧ Q_String_regionMatches_0 Z b15 b344_385 b21_41_64_71 k21_41_64_71 cs b347_356_385 k347_356_385 h0 n0 v U'.heap L ∧ FrameEnd U o U' L xr7.cells xr7.slots) := by
  refine MetFree.of_bodySF (plainFor_of_name pn_1) hisR ?_
  intro p e s m args below meth c s₁ Bd hml0 hP hK
  obtain ⟨rfl, hZ, hh⟩ := hP
  have hx := Bd.exec
  have hby := Bd.bytes
  have hlk : meth.locks = false := BodyLoose.notSynchronized Bd
  have hml : c.maxLocals = 8 := hml0
  have hown : s.vm.findClass xs23 = some m.cls := findClass_of_methodNamed Bd.named
  have hnm := (name_of_methodNamed Bd.named Bd.method).1
  have X0 : Stand p l e xr7 s m #[(.ref b15), (.int (0 : Int32)), (.ref b344_385), (.int (0 : Int32)), (.int (1 : Int32))] below meth c s₁ [] 0 0 := Stand.of_body Bd
  have e0 : s₁.heap = h0 := by rw [← hh, Bd.state]; rfl
  have N0 := Fr.nil n0
  show Go p e below s (Q_String_regionMatches_0 Z b15 b344_385 b21_41_64_71 k21_41_64_71 cs b347_356_385 k347_356_385 h0 n0) xr7.cells xr7.slots s₁ (entryFrame m #[(.ref b15), (.int (0 : Int32)), (.ref b344_385), (.int (0 : Int32)), (.int (1 : Int32))] 8)
  refine Go.cast (ef_String_regionMatches_0 m b15 (0 : Int32) b344_385 (0 : Int32) (1 : Int32)) ?_
  show Go p e below s _ _ _ s₁ (mkF m 0 #[.val (.ref b15), .val (.int (0 : Int32)), .val (.ref b344_385), .val (.int (0 : Int32)), .val (.int (1 : Int32)), .unset, .unset, .unset] [])
  refine Go.step (fun _ k => XS.iloadN X0.here hx rfl (hb hby d31_0) rfl (XS.ifNo X0.here hx rfl (hb hby d31_1) rfl ((if0 _ _).trans (flt (by decide)).1) (XS.iloadN X0.here hx rfl (hb hby d31_4) rfl (XS.ifNo X0.here hx rfl (hb hby d31_5) rfl ((if0 _ _).trans (flt (by decide)).1) (XS.iloadN X0.here hx rfl (hb hby d31_8) rfl (XS.i2l X0.here hx rfl (hb hby d31_9) rfl (XS.aloadN X0.here hx rfl (hb hby d31_10) rfl rfl k))))))) ?_
  show Go p e below s _ _ _ s₁ (mkF m 11 #[.val (.ref b15), .val (.int (0 : Int32)), .val (.ref b344_385), .val (.int (0 : Int32)), .val (.int (1 : Int32)), .unset, .unset, .unset] [(.ref b15), (.long (0 : Int64))])
  obtain ⟨cq469, kq469, q469a, q469b, q469c⟩ := isOf hZ e0 E_b15
  obtain ⟨_, _, ⟨T469, L469, k469, n469⟩, -, X469, ⟨Lc469, hQ469, l469, y469, z469⟩, st469⟩ := X0.virtualBack hx (y := xm21) (z := xm21) hown (mvT hZ (tw164 hw)) (mvT hZ (tw146 hw)) (notFace_of_selects (args := #[]) (mvT hZ (tw148 hw))) (mvT hZ (tw148 hw)) (mvT hZ (tw147 hw)) (by decide) (backOf (W := 2) (rm_String_length_1 l Z a0 hw [] b15 b21_41_64_71 k21_41_64_71 cs h0 n0 Z0 F_value_b15 V_b21_41_64_71 E_b15 F_coder_b15 Z_S_COMPACT_STRINGS O0 hcs) hZ (tw149 hw) (tw3 hw) (by decide) (by decide)) q469a q469c (g := (mkF m 11 #[.val (.ref b15), .val (.int (0 : Int32)), .val (.ref b344_385), .val (.int (0 : Int32)), .val (.int (1 : Int32)), .unset, .unset, .unset] [(.ref b15), (.long (0 : Int64))])) rfl (by rw [hml]; rfl) (Steps.refl _) (argsL := []) (rest := [(.long (0 : Int64))]) (lenOf pd_23 rfl) rfl (by show 2 * 0 + _ ≤ _; exact Nat.le_of_eq rfl) (hb hby d31_11) (fun _ _ => ⟨rfl, e0, (by decide : 0 + 0 ≤ _), (by decide : 0 + 0 ≤ _)⟩)
  dsimp only [Pt.U, Pt.locs, Pt.cells, Pt.slots] at X469 l469 y469 z469 st469 hQ469
  subst l469 y469 z469
  obtain ⟨rfl, N469q, eq469⟩ := hQ469
  have N470 := Fr.app N0 N469q
  refine Go.step (fun _ k => st469.trans (XS.i2l X469.here hx rfl (hb hby d31_14) rfl (XS.iload X469.here hx rfl (hb hby d31_15) rfl (XS.i2l X469.here hx rfl (hb hby d31_17) rfl (XS.lsub X469.here hx rfl (hb hby d31_18) rfl (XS.lcmp X469.here hx rfl (hb hby d31_19) rfl (XS.ifNo X469.here hx rfl (hb hby d31_20) rfl ((if0 _ _).trans (flt (by decide)).2.2.1) (XS.iloadN X469.here hx rfl (hb hby d31_23) rfl (XS.i2l X469.here hx rfl (hb hby d31_24) rfl (XS.aloadN X469.here hx rfl (hb hby d31_25) rfl rfl k)))))))))) ?_
  show Go p e below s _ _ _ T469 (mkF m 26 #[.val (.ref b15), .val (.int (0 : Int32)), .val (.ref b344_385), .val (.int (0 : Int32)), .val (.int (1 : Int32)), .unset, .unset, .unset] [(.ref b344_385), (.long (0 : Int64))])
  obtain ⟨cq471, kq471, q471a, q471b, q471c⟩ := isOf hZ eq469 E_b344_385
  obtain ⟨_, _, ⟨T471, L471, k471, n471⟩, -, X471, ⟨Lc471, hQ471, l471, y471, z471⟩, st471⟩ := X469.virtualBack hx (y := xm21) (z := xm21) hown (mvT hZ (tw164 hw)) (mvT hZ (tw146 hw)) (notFace_of_selects (args := #[]) (mvT hZ (tw148 hw))) (mvT hZ (tw148 hw)) (mvT hZ (tw147 hw)) (by decide) (backOf (W := 2) (rm_String_length_0 l Z a0 hw [] b344_385 b347_356_385 k347_356_385 cs h0 n0 Z0 F_value_b344_385 V_b347_356_385 E_b344_385 Z_S_COMPACT_STRINGS O0 hcs F_coder_b344_385) hZ (tw149 hw) (tw3 hw) (by decide) (by decide)) q471a q471c (g := (mkF m 26 #[.val (.ref b15), .val (.int (0 : Int32)), .val (.ref b344_385), .val (.int (0 : Int32)), .val (.int (1 : Int32)), .unset, .unset, .unset] [(.ref b344_385), (.long (0 : Int64))])) rfl (by rw [hml]; rfl) (Steps.refl _) (argsL := []) (rest := [(.long (0 : Int64))]) (lenOf pd_23 rfl) rfl (by show 2 * 0 + _ ≤ _; exact Nat.le_of_eq rfl) (hb hby d31_26) (fun _ _ => ⟨rfl, eq469, (by decide : 0 + 0 ≤ _), (by decide : 0 + 0 ≤ _)⟩)
  dsimp only [Pt.U, Pt.locs, Pt.cells, Pt.slots] at X471 l471 y471 z471 st471 hQ471
  subst l471 y471 z471
  obtain ⟨rfl, N471q, eq471⟩ := hQ471
  have N472 := Fr.app N470 N471q
  refine Go.step (fun _ k => st471.trans (XS.i2l X471.here hx rfl (hb hby d31_29) rfl (XS.iload X471.here hx rfl (hb hby d31_30) rfl (XS.i2l X471.here hx rfl (hb hby d31_32) rfl (XS.lsub X471.here hx rfl (hb hby d31_33) rfl (XS.lcmp X471.here hx rfl (hb hby d31_34) rfl (XS.ifYes X471.here hx rfl (pc0 := 35) (pc' := 40) rfl (hb hby d31_35) rfl ((if0 _ _).trans (flt (by decide)).2.2.2) (by decide) (by decide) (XS.iload X471.here hx rfl (hb hby d31_40) rfl (XS.ifYes X471.here hx rfl (pc0 := 42) (pc' := 47) rfl (hb hby d31_42) rfl ((if0 _ _).trans (tlt (by decide)).2.2.1) (by decide) (by decide) (XS.aloadN X471.here hx rfl (hb hby d31_47) rfl rfl k)))))))))) ?_
  show Go p e below s _ _ _ T471 (mkF m 48 #[.val (.ref b15), .val (.int (0 : Int32)), .val (.ref b344_385), .val (.int (0 : Int32)), .val (.int (1 : Int32)), .unset, .unset, .unset] [(.ref b15)])
  obtain ⟨T473, X473, e473, st473⟩ := getF X471 hx hZ hown (host := "") (Or.inl (tw28 hw)) Via.refl eq471 F_value_b15 (g := (mkF m 48 #[.val (.ref b15), .val (.int (0 : Int32)), .val (.ref b344_385), .val (.int (0 : Int32)), .val (.int (1 : Int32)), .unset, .unset, .unset] [(.ref b15)])) rfl rfl (hb hby d31_48)
  refine Go.step (fun _ k => st473 _ (XS.astore X473.here hx rfl (hb hby d31_51) rfl rfl (l' := #[.val (.ref b15), .val (.int (0 : Int32)), .val (.ref b344_385), .val (.int (0 : Int32)), .val (.int (1 : Int32)), .val (.ref b21_41_64_71), .unset, .unset]) rfl (XS.aloadN X473.here hx rfl (hb hby d31_53) rfl rfl k))) ?_
  show Go p e below s _ _ _ T473 (mkF m 54 #[.val (.ref b15), .val (.int (0 : Int32)), .val (.ref b344_385), .val (.int (0 : Int32)), .val (.int (1 : Int32)), .val (.ref b21_41_64_71), .unset, .unset] [(.ref b344_385)])
  obtain ⟨T474, X474, e474, st474⟩ := getF X473 hx hZ hown (host := "") (Or.inl (tw28 hw)) Via.refl e473 F_value_b344_385 (g := (mkF m 54 #[.val (.ref b15), .val (.int (0 : Int32)), .val (.ref b344_385), .val (.int (0 : Int32)), .val (.int (1 : Int32)), .val (.ref b21_41_64_71), .unset, .unset] [(.ref b344_385)])) rfl rfl (hb hby d31_54)
  refine Go.step (fun _ k => st474 _ (XS.astore X474.here hx rfl (hb hby d31_57) rfl rfl (l' := #[.val (.ref b15), .val (.int (0 : Int32)), .val (.ref b344_385), .val (.int (0 : Int32)), .val (.int (1 : Int32)), .val (.ref b21_41_64_71), .val (.ref b347_356_385), .unset]) rfl (XS.aloadN X474.here hx rfl (hb hby d31_59) rfl rfl k))) ?_
  show Go p e below s _ _ _ T474 (mkF m 60 #[.val (.ref b15), .val (.int (0 : Int32)), .val (.ref b344_385), .val (.int (0 : Int32)), .val (.int (1 : Int32)), .val (.ref b21_41_64_71), .val (.ref b347_356_385), .unset] [(.ref b15)])
  obtain ⟨cq475, kq475, q475a, q475b, q475c⟩ := isOf hZ e474 E_b15
  obtain ⟨_, _, ⟨T475, L475, k475, n475⟩, -, X475, ⟨Lc475, hQ475, l475, y475, z475⟩, st475⟩ := X474.virtualBack hx (y := xm25) (z := xm25) hown (mvT hZ (tw150 hw)) (mvT hZ (tw151 hw)) (notFace_of_selects (args := #[]) (mvT hZ (tw153 hw))) (mvT hZ (tw153 hw)) (mvT hZ (tw152 hw)) (by decide) (backOf (W := 0) (rm_String_coder_0 l Z a0 hw [] b15 cs h0 n0 Z0 Z_S_COMPACT_STRINGS O0 hcs F_coder_b15) hZ (tw154 hw) (tw3 hw) (by decide) (by decide)) q475a q475c (g := (mkF m 60 #[.val (.ref b15), .val (.int (0 : Int32)), .val (.ref b344_385), .val (.int (0 : Int32)), .val (.int (1 : Int32)), .val (.ref b21_41_64_71), .val (.ref b347_356_385), .unset] [(.ref b15)])) rfl (by rw [hml]; rfl) (Steps.refl _) (argsL := []) (rest := []) (lenOf pd_22 rfl) rfl (by show 2 * 0 + _ ≤ _; exact Nat.le_of_eq rfl) (hb hby d31_60) (fun _ _ => ⟨rfl, e474, (by decide : 0 + 0 ≤ _), (by decide : 0 + 0 ≤ _)⟩)
  dsimp only [Pt.U, Pt.locs, Pt.cells, Pt.slots] at X475 l475 y475 z475 st475 hQ475
  subst l475 y475 z475
  obtain ⟨rfl, N475q, eq475⟩ := hQ475
  have N476 := Fr.app N472 N475q
  refine Go.step (fun _ k => st475.trans (XS.istore X475.here hx rfl (hb hby d31_63) rfl (l' := #[.val (.ref b15), .val (.int (0 : Int32)), .val (.ref b344_385), .val (.int (0 : Int32)), .val (.int (1 : Int32)), .val (.ref b21_41_64_71), .val (.ref b347_356_385), .val (.int (0 : Int32))]) rfl (XS.iload X475.here hx rfl (hb hby d31_65) rfl (XS.aloadN X475.here hx rfl (hb hby d31_67) rfl rfl k)))) ?_
  show Go p e below s _ _ _ T475 (mkF m 68 #[.val (.ref b15), .val (.int (0 : Int32)), .val (.ref b344_385), .val (.int (0 : Int32)), .val (.int (1 : Int32)), .val (.ref b21_41_64_71), .val (.ref b347_356_385), .val (.int (0 : Int32))] [(.ref b344_385), (.int (0 : Int32))])
  obtain ⟨cq477, kq477, q477a, q477b, q477c⟩ := isOf hZ eq475 E_b344_385
  obtain ⟨_, _, ⟨T477, L477, k477, n477⟩, -, X477, ⟨Lc477, hQ477, l477, y477, z477⟩, st477⟩ := X475.virtualBack hx (y := xm25) (z := xm25) hown (mvT hZ (tw150 hw)) (mvT hZ (tw151 hw)) (notFace_of_selects (args := #[]) (mvT hZ (tw153 hw))) (mvT hZ (tw153 hw)) (mvT hZ (tw152 hw)) (by decide) (backOf (W := 1) (rm_String_coder_0 l Z a0 hw [] b344_385 cs h0 n0 Z0 Z_S_COMPACT_STRINGS O0 hcs F_coder_b344_385) hZ (tw154 hw) (tw3 hw) (by decide) (by decide)) q477a q477c (g := (mkF m 68 #[.val (.ref b15), .val (.int (0 : Int32)), .val (.ref b344_385), .val (.int (0 : Int32)), .val (.int (1 : Int32)), .val (.ref b21_41_64_71), .val (.ref b347_356_385), .val (.int (0 : Int32))] [(.ref b344_385), (.int (0 : Int32))])) rfl (by rw [hml]; rfl) (Steps.refl _) (argsL := []) (rest := [(.int (0 : Int32))]) (lenOf pd_22 rfl) rfl (by show 2 * 0 + _ ≤ _; exact Nat.le_of_eq rfl) (hb hby d31_68) (fun _ _ => ⟨rfl, eq475, (by decide : 0 + 0 ≤ _), (by decide : 0 + 0 ≤ _)⟩)
  dsimp only [Pt.U, Pt.locs, Pt.cells, Pt.slots] at X477 l477 y477 z477 st477 hQ477
  subst l477 y477 z477
  obtain ⟨rfl, N477q, eq477⟩ := hQ477
  have N478 := Fr.app N476 N477q
  refine Go.step (fun _ k => st477.trans (XS.icmpNo X477.here hx rfl (hb hby d31_71) rfl (teq (by decide)).2 (XS.iload X477.here hx rfl (hb hby d31_74) rfl (XS.iconst X477.here hx rfl (hb hby d31_76) (XS.icmpYes X477.here hx rfl (pc0 := 77) (pc' := 94) rfl (hb hby d31_77) rfl (feq (by decide)).2 (by decide) (by decide) (XS.aload X477.here hx rfl (hb hby d31_94) rfl rfl (XS.iloadN X477.here hx rfl (hb hby d31_96) rfl (XS.aload X477.here hx rfl (hb hby d31_97) rfl rfl (XS.iloadN X477.here hx rfl (hb hby d31_99) rfl (XS.iload X477.here hx rfl (hb hby d31_100) rfl k)))))))))) ?_
  show Go p e below s _ _ _ T477 (mkF m 102 #[.val (.ref b15), .val (.int (0 : Int32)), .val (.ref b344_385), .val (.int (0 : Int32)), .val (.int (1 : Int32)), .val (.ref b21_41_64_71), .val (.ref b347_356_385), .val (.int (0 : Int32))] [(.int (1 : Int32)), (.int (0 : Int32)), (.ref b347_356_385), (.int (0 : Int32)), (.ref b21_41_64_71)])
  obtain ⟨_, _, ⟨T481, L481, k481, n481⟩, -, X481, ⟨Lc481, hQ481, l481, y481, z481⟩, st481⟩ := Jvm.LawKit.callS X477 hx (y := xm2) hown (mvT hZ (tw165 hw)) (mvT hZ (tw166 hw)) (mvT hZ (tw167 hw)) (mvT hZ (tw168 hw)) (by decide) (backOf (W := 0) (rm_ArraysSupport_mismatch_0 l Z a0 hw [] b21_41_64_71 b347_356_385 k21_41_64_71 k347_356_385 h0 n0 Z0 V_b21_41_64_71 V_b347_356_385) hZ (tw168 hw) (tw167 hw) (by decide) (by decide)) (g := (mkF m 102 #[.val (.ref b15), .val (.int (0 : Int32)), .val (.ref b344_385), .val (.int (0 : Int32)), .val (.int (1 : Int32)), .val (.ref b21_41_64_71), .val (.ref b347_356_385), .val (.int (0 : Int32))] [(.int (1 : Int32)), (.int (0 : Int32)), (.ref b347_356_385), (.int (0 : Int32)), (.ref b21_41_64_71)])) rfl (by rw [hml]; rfl) (argsL := [(.ref b21_41_64_71), (.int (0 : Int32)), (.ref b347_356_385), (.int (0 : Int32)), (.int (1 : Int32))]) (rest := []) (lenOf pd_24 rfl) rfl (by show 2 * 0 + _ ≤ _; exact Nat.le_of_eq rfl) (hb hby d31_102) (fun _ _ => ⟨rfl, eq477, (by decide : 0 + 0 ≤ _), (by decide : 0 + 0 ≤ _)⟩)
  dsimp only [Pt.U, Pt.locs, Pt.cells, Pt.slots] at X481 l481 y481 z481 st481 hQ481
  subst l481 y481 z481
  obtain ⟨rfl, N481q, eq481⟩ := hQ481
  have N482 := Fr.app N478 N481q
  refine Go.step (fun _ k => st481 _ (XS.ifNo X481.here hx rfl (hb hby d31_105) rfl ((if0 _ _).trans (tlt (by decide)).2.1) (XS.iconst X481.here hx rfl (hb hby d31_108) (XS.goto X481.here hx rfl (pc0 := 109) (pc' := 113) rfl (hb hby d31_109) (by decide) (by decide) k)))) ?_
  show Go p e below s _ _ _ T481 (mkF m 113 #[.val (.ref b15), .val (.int (0 : Int32)), .val (.ref b344_385), .val (.int (0 : Int32)), .val (.int (1 : Int32)), .val (.ref b21_41_64_71), .val (.ref b347_356_385), .val (.int (0 : Int32))] [(.int (1 : Int32))])
  exact Go.retN X481 hx hlk (t := .boolean) Bd.returns (by simp) (hb hby d31_113) eq481 ⟨rfl, N482, rfl⟩ (by decide) (by decide)

theorem ef_PropertyIndex_named_0 (m : MethodId) (x0 : Addr) (x1 : Int32) (x2 : Addr) (x3 : Int32) (x4 : Int32) (x5 : Int32) : entryFrame m #[(.ref x0), (.int x1), (.ref x2), (.int x3), (.int x4), (.int x5)] 8 = mkF m 0 #[.val (.ref x0), .val (.int x1), .val (.ref x2), .val (.int x3), .val (.int x4), .val (.int x5), .unset, .unset] [] := by first | (simp [entryFrame, mkF, argsToLocals, Value.category]; done) | rfl
def Q_PropertyIndex_named_0 (Z : State) (b73 : Addr) (b344_385 : Addr) (b96_134 : Addr) (k96_134 : ClassId) (p2 : Int32) (p3 : Int32) (p4 : Int32) (p6 : Int32) (p5 : Int32) (b15 : Addr) (b21_41_64_71 : Addr) (k21_41_64_71 : ClassId) (cs : Int32) (b347_356_385 : Addr) (k347_356_385 : ClassId) (h0 : Heap) (n0 : Nat) (v : Option Value) (h : Heap) (L : List Loc) : Prop := v = some (.int (1 : Int32)) ∧ Fr n0 L ∧ h = h0
set_option maxRecDepth 65536 in
set_option maxHeartbeats 40000000 in
theorem rm_PropertyIndex_named_0 (l : Launch) (Z : State) (a0 : Array Value) (hw : ∀ d ∈ tables_1, d.before a0 Z = true) (ws : List Jvm.Cond) (b73 : Addr) (b344_385 : Addr) (b96_134 : Addr) (k96_134 : ClassId) (p2 : Int32) (p3 : Int32) (p4 : Int32) (p6 : Int32) (p5 : Int32) (b15 : Addr) (b21_41_64_71 : Addr) (k21_41_64_71 : ClassId) (cs : Int32) (b347_356_385 : Addr) (k347_356_385 : ClassId) (h0 : Heap) (n0 : Nat) (Z0 : n0 ≤ h0.size) (F_entries_b73 : Fld Z h0 b73 xs1 "entries" "[I" (.ref b96_134)) (V_b96_134 : Arv Z h0 b96_134 k96_134 .int (12 : Int32) [(.int (0 : Int32)), (.int (1 : Int32)), (.int p2), (.int p3), (.int p4), (.int (97 : Int32)), (.int (1 : Int32)), (.int (2 : Int32)), (.int p6), (.int p5), (.int p6), (.int (98 : Int32))] (.int (0 : Int32))) (F_text_b73 : Fld Z h0 b73 xs1 "text" xs19 (.ref b15)) (E_b15 : Exa Z h0 b15 xs23) (F_value_b15 : Fld Z h0 b15 xs23 "value" "[B" (.ref b21_41_64_71)) (V_b21_41_64_71 : Arv Z h0 b21_41_64_71 k21_41_64_71 .byte (2 : Int32) [(.int (97 : Int32)), (.int (98 : Int32))] (.int (0 : Int32))) (F_coder_b15 : Fld Z h0 b15 xs23 "coder" "B" (.int (0 : Int32))) (Z_S_COMPACT_STRINGS : Sta Z Z.heap xs23 xs24 "Z" (.int cs)) (O0 : Old Z n0 h0) (hcs : ¬ cs = (0 : Int32)) (E_b344_385 : Exa Z h0 b344_385 xs23) (F_value_b344_385 : Fld Z h0 b344_385 xs23 "value" "[B" (.ref b347_356_385)) (V_b347_356_385 : Arv Z h0 b347_356_385 k347_356_385 .byte (1 : Int32) [(.int (97 : Int32))] (.int (0 : Int32))) (F_coder_b344_385 : Fld Z h0 b344_385 xs23 "coder" "B" (.int (0 : Int32))) :
    MetFree l xm30 (head1 (Jvm.Cond.code xm30 prog_15_method_12_code 8 (some .boolean) :: ws) xr14) (fun a U => a = #[(.ref b73), (.int (0 : Int32)), (.ref b344_385), (.int (0 : Int32)), (.int (1 : Int32)), (.int (97 : Int32))] ∧ Z.Warmed39 U.vm ∧ U.heap = h0) (fun _ _ _ _ _ => True) (fun _ U o U' => ∃ v L, o = .returned v ∧ Q_PropertyIndex_named_0 Z b73 b344_385 b96_134 k96_134 p2 p3 p4 p6 p5 b15 b21_41_64_71 k21_41_64_71 cs b347_356_385 k347_356_385 h0 n0 v U'.heap L ∧ FrameEnd U o U' L xr14.cells xr14.slots) := by
  refine MetFree.of_bodySF (plainFor_of_name pn_5) hisR ?_
  intro p e s m args below meth c s₁ Bd hml0 hP hK
  obtain ⟨rfl, hZ, hh⟩ := hP
  have hx := Bd.exec
  have hby := Bd.bytes
  have hlk : meth.locks = false := BodyLoose.notSynchronized Bd
  have hml : c.maxLocals = 8 := hml0
  have hown : s.vm.findClass xs1 = some m.cls := findClass_of_methodNamed Bd.named
  have hnm := (name_of_methodNamed Bd.named Bd.method).1
  have X0 : Stand p l e xr14 s m #[(.ref b73), (.int (0 : Int32)), (.ref b344_385), (.int (0 : Int32)), (.int (1 : Int32)), (.int (97 : Int32))] below meth c s₁ [] 0 0 := Stand.of_body Bd
  have e0 : s₁.heap = h0 := by rw [← hh, Bd.state]; rfl
  have N0 := Fr.nil n0
  show Go p e below s (Q_PropertyIndex_named_0 Z b73 b344_385 b96_134 k96_134 p2 p3 p4 p6 p5 b15 b21_41_64_71 k21_41_64_71 cs b347_356_385 k347_356_385 h0 n0) xr14.cells xr14.slots s₁ (entryFrame m #[(.ref b73), (.int (0 : Int32)), (.ref b344_385), (.int (0 : Int32)), (.int (1 : Int32)), (.int (97 : Int32))] 8)
  refine Go.cast (ef_PropertyIndex_named_0 m b73 (0 : Int32) b344_385 (0 : Int32) (1 : Int32) (97 : Int32)) ?_
  show Go p e below s _ _ _ s₁ (mkF m 0 #[.val (.ref b73), .val (.int (0 : Int32)), .val (.ref b344_385), .val (.int (0 : Int32)), .val (.int (1 : Int32)), .val (.int (97 : Int32)), .unset, .unset] [])
  refine Go.step (fun _ k => XS.iloadN X0.here hx rfl (hb hby d30_0) rfl (XS.bipush X0.here hx rfl (hb hby d30_1) (XS.imul X0.here hx rfl (hb hby d30_3) rfl (XS.istore X0.here hx rfl (hb hby d30_4) rfl (l' := #[.val (.ref b73), .val (.int (0 : Int32)), .val (.ref b344_385), .val (.int (0 : Int32)), .val (.int (1 : Int32)), .val (.int (97 : Int32)), .val (.int (0 : Int32)), .unset]) rfl (XS.aloadN X0.here hx rfl (hb hby d30_6) rfl rfl k))))) ?_
  show Go p e below s _ _ _ s₁ (mkF m 7 #[.val (.ref b73), .val (.int (0 : Int32)), .val (.ref b344_385), .val (.int (0 : Int32)), .val (.int (1 : Int32)), .val (.int (97 : Int32)), .val (.int (0 : Int32)), .unset] [(.ref b73)])
  obtain ⟨T458, X458, e458, st458⟩ := getF X0 hx hZ hown (host := "") (Or.inl (tw51 hw)) Via.refl e0 F_entries_b73 (g := (mkF m 7 #[.val (.ref b73), .val (.int (0 : Int32)), .val (.ref b344_385), .val (.int (0 : Int32)), .val (.int (1 : Int32)), .val (.int (97 : Int32)), .val (.int (0 : Int32)), .unset] [(.ref b73)])) rfl rfl (hb hby d30_7)
  refine Go.step (fun _ k => st458 _ (XS.iload X458.here hx rfl (hb hby d30_10) rfl (XS.iconst X458.here hx rfl (hb hby d30_12) (XS.iadd X458.here hx rfl (hb hby d30_13) rfl k)))) ?_
  show Go p e below s _ _ _ T458 (mkF m 14 #[.val (.ref b73), .val (.int (0 : Int32)), .val (.ref b344_385), .val (.int (0 : Int32)), .val (.int (1 : Int32)), .val (.int (97 : Int32)), .val (.int (0 : Int32)), .unset] [(.int (0 : Int32)), (.ref b96_134)])
  obtain ⟨cl459, Ar459, -, Sz459, Ng459, Hs459, Ft459⟩ := id V_b96_134
  have in459 : ¬ ((0 : Int32) < 0 ∨ cl459.slots.size ≤ ((0 : Int32)).toNatClampNeg) := (inb_of Sz459 ⟨by decide, by decide⟩)
  have at459 : cl459.slots[((0 : Int32)).toNatClampNeg]? = some (.int (0 : Int32)) := Hs459.at in459 rfl
  refine Go.step (fun _ k => X458.iaload hx (j := (0 : Int32)) (v := (.int (0 : Int32))) (by rw [e458]; exact Ar459.1) (State.isArrayOf_alike hZ.alike Ar459.2.1) Ar459.2.2 in459 at459 (g := (mkF m 14 #[.val (.ref b73), .val (.int (0 : Int32)), .val (.ref b344_385), .val (.int (0 : Int32)), .val (.int (1 : Int32)), .val (.int (97 : Int32)), .val (.int (0 : Int32)), .unset] [(.int (0 : Int32)), (.ref b96_134)])) rfl rfl (hb hby d30_14) _ (XS.istore X458.here hx rfl (hb hby d30_15) rfl (l' := #[.val (.ref b73), .val (.int (0 : Int32)), .val (.ref b344_385), .val (.int (0 : Int32)), .val (.int (1 : Int32)), .val (.int (97 : Int32)), .val (.int (0 : Int32)), .val (.int (0 : Int32))]) rfl (XS.aloadN X458.here hx rfl (hb hby d30_17) rfl rfl k))) ?_
  show Go p e below s _ _ _ T458 (mkF m 18 #[.val (.ref b73), .val (.int (0 : Int32)), .val (.ref b344_385), .val (.int (0 : Int32)), .val (.int (1 : Int32)), .val (.int (97 : Int32)), .val (.int (0 : Int32)), .val (.int (0 : Int32))] [(.ref b73)])
  obtain ⟨T460, X460, e460, st460⟩ := getF X458 hx hZ hown (host := "") (Or.inl (tw51 hw)) Via.refl e458 F_entries_b73 (g := (mkF m 18 #[.val (.ref b73), .val (.int (0 : Int32)), .val (.ref b344_385), .val (.int (0 : Int32)), .val (.int (1 : Int32)), .val (.int (97 : Int32)), .val (.int (0 : Int32)), .val (.int (0 : Int32))] [(.ref b73)])) rfl rfl (hb hby d30_18)
  refine Go.step (fun _ k => st460 _ (XS.iload X460.here hx rfl (hb hby d30_21) rfl (XS.iconst X460.here hx rfl (hb hby d30_23) (XS.iadd X460.here hx rfl (hb hby d30_24) rfl k)))) ?_
  show Go p e below s _ _ _ T460 (mkF m 25 #[.val (.ref b73), .val (.int (0 : Int32)), .val (.ref b344_385), .val (.int (0 : Int32)), .val (.int (1 : Int32)), .val (.int (97 : Int32)), .val (.int (0 : Int32)), .val (.int (0 : Int32))] [(.int (5 : Int32)), (.ref b96_134)])
  obtain ⟨cl461, Ar461, -, Sz461, Ng461, Hs461, Ft461⟩ := id V_b96_134
  have in461 : ¬ ((5 : Int32) < 0 ∨ cl461.slots.size ≤ ((5 : Int32)).toNatClampNeg) := (inb_of Sz461 ⟨by decide, by decide⟩)
  have at461 : cl461.slots[((5 : Int32)).toNatClampNeg]? = some (.int (97 : Int32)) := Hs461.at in461 rfl
  refine Go.step (fun _ k => X460.iaload hx (j := (5 : Int32)) (v := (.int (97 : Int32))) (by rw [e460]; exact Ar461.1) (State.isArrayOf_alike hZ.alike Ar461.2.1) Ar461.2.2 in461 at461 (g := (mkF m 25 #[.val (.ref b73), .val (.int (0 : Int32)), .val (.ref b344_385), .val (.int (0 : Int32)), .val (.int (1 : Int32)), .val (.int (97 : Int32)), .val (.int (0 : Int32)), .val (.int (0 : Int32))] [(.int (5 : Int32)), (.ref b96_134)])) rfl rfl (hb hby d30_25) _ (XS.iload X460.here hx rfl (hb hby d30_26) rfl (XS.icmpNo X460.here hx rfl (hb hby d30_28) rfl (teq (by decide)).2 (XS.aloadN X460.here hx rfl (hb hby d30_31) rfl rfl k)))) ?_
  show Go p e below s _ _ _ T460 (mkF m 32 #[.val (.ref b73), .val (.int (0 : Int32)), .val (.ref b344_385), .val (.int (0 : Int32)), .val (.int (1 : Int32)), .val (.int (97 : Int32)), .val (.int (0 : Int32)), .val (.int (0 : Int32))] [(.ref b73)])
  obtain ⟨T462, X462, e462, st462⟩ := getF X460 hx hZ hown (host := "") (Or.inl (tw51 hw)) Via.refl e460 F_entries_b73 (g := (mkF m 32 #[.val (.ref b73), .val (.int (0 : Int32)), .val (.ref b344_385), .val (.int (0 : Int32)), .val (.int (1 : Int32)), .val (.int (97 : Int32)), .val (.int (0 : Int32)), .val (.int (0 : Int32))] [(.ref b73)])) rfl rfl (hb hby d30_32)
  refine Go.step (fun _ k => st462 _ (XS.iload X462.here hx rfl (hb hby d30_35) rfl (XS.iconst X462.here hx rfl (hb hby d30_37) (XS.iadd X462.here hx rfl (hb hby d30_38) rfl k)))) ?_
  show Go p e below s _ _ _ T462 (mkF m 39 #[.val (.ref b73), .val (.int (0 : Int32)), .val (.ref b344_385), .val (.int (0 : Int32)), .val (.int (1 : Int32)), .val (.int (97 : Int32)), .val (.int (0 : Int32)), .val (.int (0 : Int32))] [(.int (1 : Int32)), (.ref b96_134)])
  obtain ⟨cl463, Ar463, -, Sz463, Ng463, Hs463, Ft463⟩ := id V_b96_134
  have in463 : ¬ ((1 : Int32) < 0 ∨ cl463.slots.size ≤ ((1 : Int32)).toNatClampNeg) := (inb_of Sz463 ⟨by decide, by decide⟩)
  have at463 : cl463.slots[((1 : Int32)).toNatClampNeg]? = some (.int (1 : Int32)) := Hs463.at in463 rfl
  refine Go.step (fun _ k => X462.iaload hx (j := (1 : Int32)) (v := (.int (1 : Int32))) (by rw [e462]; exact Ar463.1) (State.isArrayOf_alike hZ.alike Ar463.2.1) Ar463.2.2 in463 at463 (g := (mkF m 39 #[.val (.ref b73), .val (.int (0 : Int32)), .val (.ref b344_385), .val (.int (0 : Int32)), .val (.int (1 : Int32)), .val (.int (97 : Int32)), .val (.int (0 : Int32)), .val (.int (0 : Int32))] [(.int (1 : Int32)), (.ref b96_134)])) rfl rfl (hb hby d30_39) _ (XS.iload X462.here hx rfl (hb hby d30_40) rfl (XS.isub X462.here hx rfl (hb hby d30_42) rfl (XS.iload X462.here hx rfl (hb hby d30_43) rfl (XS.iloadN X462.here hx rfl (hb hby d30_45) rfl (XS.isub X462.here hx rfl (hb hby d30_46) rfl (XS.icmpNo X462.here hx rfl (hb hby d30_47) rfl (teq (by decide)).2 (XS.aloadN X462.here hx rfl (hb hby d30_50) rfl rfl k)))))))) ?_
  show Go p e below s _ _ _ T462 (mkF m 51 #[.val (.ref b73), .val (.int (0 : Int32)), .val (.ref b344_385), .val (.int (0 : Int32)), .val (.int (1 : Int32)), .val (.int (97 : Int32)), .val (.int (0 : Int32)), .val (.int (0 : Int32))] [(.ref b73)])
  obtain ⟨T464, X464, e464, st464⟩ := getF X462 hx hZ hown (host := "") (Or.inl (tw42 hw)) Via.refl e462 F_text_b73 (g := (mkF m 51 #[.val (.ref b73), .val (.int (0 : Int32)), .val (.ref b344_385), .val (.int (0 : Int32)), .val (.int (1 : Int32)), .val (.int (97 : Int32)), .val (.int (0 : Int32)), .val (.int (0 : Int32))] [(.ref b73)])) rfl rfl (hb hby d30_51)
  refine Go.step (fun _ k => st464 _ (XS.iload X464.here hx rfl (hb hby d30_54) rfl (XS.aloadN X464.here hx rfl (hb hby d30_56) rfl rfl (XS.iloadN X464.here hx rfl (hb hby d30_57) rfl (XS.iload X464.here hx rfl (hb hby d30_58) rfl (XS.iloadN X464.here hx rfl (hb hby d30_60) rfl (XS.isub X464.here hx rfl (hb hby d30_61) rfl k))))))) ?_
  show Go p e below s _ _ _ T464 (mkF m 62 #[.val (.ref b73), .val (.int (0 : Int32)), .val (.ref b344_385), .val (.int (0 : Int32)), .val (.int (1 : Int32)), .val (.int (97 : Int32)), .val (.int (0 : Int32)), .val (.int (0 : Int32))] [(.int (1 : Int32)), (.int (0 : Int32)), (.ref b344_385), (.int (0 : Int32)), (.ref b15)])
  obtain ⟨cq483, kq483, q483a, q483b, q483c⟩ := isOf hZ e464 E_b15
  obtain ⟨_, _, ⟨T483, L483, k483, n483⟩, -, X483, ⟨Lc483, hQ483, l483, y483, z483⟩, st483⟩ := X464.virtualBack hx (y := xm5) (z := xm5) hown (mvT hZ (tw159 hw)) (mvT hZ (tw160 hw)) (notFace_of_selects (args := #[]) (mvT hZ (tw162 hw))) (mvT hZ (tw162 hw)) (mvT hZ (tw161 hw)) (by decide) (backOf (W := 0) (rm_String_regionMatches_0 l Z a0 hw [] b15 b344_385 b21_41_64_71 k21_41_64_71 cs b347_356_385 k347_356_385 h0 n0 Z0 E_b15 F_value_b15 V_b21_41_64_71 F_coder_b15 Z_S_COMPACT_STRINGS O0 hcs E_b344_385 F_value_b344_385 V_b347_356_385 F_coder_b344_385) hZ (tw163 hw) (tw3 hw) (by decide) (by decide)) q483a q483c (g := (mkF m 62 #[.val (.ref b73), .val (.int (0 : Int32)), .val (.ref b344_385), .val (.int (0 : Int32)), .val (.int (1 : Int32)), .val (.int (97 : Int32)), .val (.int (0 : Int32)), .val (.int (0 : Int32))] [(.int (1 : Int32)), (.int (0 : Int32)), (.ref b344_385), (.int (0 : Int32)), (.ref b15)])) rfl (by rw [hml]; rfl) (Steps.refl _) (argsL := [(.int (0 : Int32)), (.ref b344_385), (.int (0 : Int32)), (.int (1 : Int32))]) (rest := []) (lenOf pd_25 rfl) rfl (by show 2 * 0 + _ ≤ _; exact Nat.le_of_eq rfl) (hb hby d30_62) (fun _ _ => ⟨rfl, e464, (by decide : 0 + 0 ≤ _), (by decide : 0 + 0 ≤ _)⟩)
  dsimp only [Pt.U, Pt.locs, Pt.cells, Pt.slots] at X483 l483 y483 z483 st483 hQ483
  subst l483 y483 z483
  obtain ⟨rfl, N483q, eq483⟩ := hQ483
  have N484 := Fr.app N0 N483q
  refine Go.step (fun _ k => st483.trans (XS.ifNo X483.here hx rfl (hb hby d30_65) rfl ((if0 _ _).trans (feq (by decide)).1) (XS.iconst X483.here hx rfl (hb hby d30_68) (XS.goto X483.here hx rfl (pc0 := 69) (pc' := 73) rfl (hb hby d30_69) (by decide) (by decide) k)))) ?_
  show Go p e below s _ _ _ T483 (mkF m 73 #[.val (.ref b73), .val (.int (0 : Int32)), .val (.ref b344_385), .val (.int (0 : Int32)), .val (.int (1 : Int32)), .val (.int (97 : Int32)), .val (.int (0 : Int32)), .val (.int (0 : Int32))] [(.int (1 : Int32))])
  exact Go.retN X483 hx hlk (t := .boolean) Bd.returns (by simp) (hb hby d30_73) eq483 ⟨rfl, N484, rfl⟩ (by decide) (by decide)

theorem ef_PropertyIndex_slot_2 (m : MethodId) (x0 : Addr) (x1 : Addr) (x2 : Int32) (x3 : Int32) (x4 : Int32) : entryFrame m #[(.ref x0), (.ref x1), (.int x2), (.int x3), (.int x4)] 7 = mkF m 0 #[.val (.ref x0), .val (.ref x1), .val (.int x2), .val (.int x3), .val (.int x4), .unset, .unset] [] := by first | (simp [entryFrame, mkF, argsToLocals, Value.category]; done) | rfl
def Q_PropertyIndex_slot_2 (Z : State) (b73 : Addr) (b344_385 : Addr) (b108_134 : Addr) (k108_134 : ClassId) (b96_134 : Addr) (k96_134 : ClassId) (p2 : Int32) (p3 : Int32) (p4 : Int32) (p6 : Int32) (p5 : Int32) (b15 : Addr) (b21_41_64_71 : Addr) (k21_41_64_71 : ClassId) (cs : Int32) (b347_356_385 : Addr) (k347_356_385 : ClassId) (h0 : Heap) (n0 : Nat) (v : Option Value) (h : Heap) (L : List Loc) : Prop := v = some (.int (1 : Int32)) ∧ Fr n0 L ∧ h = h0
set_option maxRecDepth 65536 in
set_option maxHeartbeats 40000000 in
theorem rm_PropertyIndex_slot_2 (l : Launch) (Z : State) (a0 : Array Value) (hw : ∀ d ∈ tables_1, d.before a0 Z = true) (ws : List Jvm.Cond) (b73 : Addr) (b344_385 : Addr) (b108_134 : Addr) (k108_134 : ClassId) (b96_134 : Addr) (k96_134 : ClassId) (p2 : Int32) (p3 : Int32) (p4 : Int32) (p6 : Int32) (p5 : Int32) (b15 : Addr) (b21_41_64_71 : Addr) (k21_41_64_71 : ClassId) (cs : Int32) (b347_356_385 : Addr) (k347_356_385 : ClassId) (h0 : Heap) (n0 : Nat) (Z0 : n0 ≤ h0.size) (F_slots_b73 : Fld Z h0 b73 xs1 "slots" "[I" (.ref b108_134)) (V_b108_134 : Arv Z h0 b108_134 k108_134 .int (8 : Int32) [(.int (0 : Int32)), (.int (1 : Int32)), (.int (2 : Int32)), (.int (0 : Int32)), (.int (0 : Int32)), (.int (0 : Int32)), (.int (0 : Int32)), (.int (0 : Int32))] (.int (0 : Int32))) (F_entries_b73 : Fld Z h0 b73 xs1 "entries" "[I" (.ref b96_134)) (V_b96_134 : Arv Z h0 b96_134 k96_134 .int (12 : Int32) [(.int (0 : Int32)), (.int (1 : Int32)), (.int p2), (.int p3), (.int p4), (.int (97 : Int32)), (.int (1 : Int32)), (.int (2 : Int32)), (.int p6), (.int p5), (.int p6), (.int (98 : Int32))] (.int (0 : Int32))) (F_text_b73 : Fld Z h0 b73 xs1 "text" xs19 (.ref b15)) (E_b15 : Exa Z h0 b15 xs23) (F_value_b15 : Fld Z h0 b15 xs23 "value" "[B" (.ref b21_41_64_71)) (V_b21_41_64_71 : Arv Z h0 b21_41_64_71 k21_41_64_71 .byte (2 : Int32) [(.int (97 : Int32)), (.int (98 : Int32))] (.int (0 : Int32))) (F_coder_b15 : Fld Z h0 b15 xs23 "coder" "B" (.int (0 : Int32))) (Z_S_COMPACT_STRINGS : Sta Z Z.heap xs23 xs24 "Z" (.int cs)) (O0 : Old Z n0 h0) (hcs : ¬ cs = (0 : Int32)) (E_b344_385 : Exa Z h0 b344_385 xs23) (F_value_b344_385 : Fld Z h0 b344_385 xs23 "value" "[B" (.ref b347_356_385)) (V_b347_356_385 : Arv Z h0 b347_356_385 k347_356_385 .byte (1 : Int32) [(.int (97 : Int32))] (.int (0 : Int32))) (F_coder_b344_385 : Fld Z h0 b344_385 xs23 "coder" "B" (.int (0 : Int32))) (E_b73 : Exa Z h0 b73 xs1) :
    MetFree l xm32 (head1 (Jvm.Cond.code xm32 prog_15_method_11_code 7 (some .int) :: ws) xr15) (fun a U => a = #[(.ref b73), (.ref b344_385), (.int (0 : Int32)), (.int (1 : Int32)), (.int (97 : Int32))] ∧ Z.Warmed39 U.vm ∧ U.heap = h0) (fun _ _ _ _ _ => True) (fun _ U o U' => ∃ v L, o = .returned v ∧ Q_PropertyIndex_slot_2 Z b73 b344_385 b108_134 k108_134 b96_134 k96_134 p2 p3 p4 p6 p5 b15 b21_41_64_71 k21_41_64_71 cs b347_356_385 k347_356_385 h0 n0 v U'.heap L ∧ FrameEnd U o U' L xr15.cells xr15.slots) := by
  refine MetFree.of_bodySF (plainFor_of_name pn_5) hisR ?_
  intro p e s m args below meth c s₁ Bd hml0 hP hK
  obtain ⟨rfl, hZ, hh⟩ := hP
  have hx := Bd.exec
  have hby := Bd.bytes
  have hlk : meth.locks = false := BodyLoose.notSynchronized Bd
  have hml : c.maxLocals = 7 := hml0
  have hown : s.vm.findClass xs1 = some m.cls := findClass_of_methodNamed Bd.named
  have hnm := (name_of_methodNamed Bd.named Bd.method).1
  have X0 : Stand p l e xr15 s m #[(.ref b73), (.ref b344_385), (.int (0 : Int32)), (.int (1 : Int32)), (.int (97 : Int32))] below meth c s₁ [] 0 0 := Stand.of_body Bd
  have e0 : s₁.heap = h0 := by rw [← hh, Bd.state]; rfl
  have N0 := Fr.nil n0
  show Go p e below s (Q_PropertyIndex_slot_2 Z b73 b344_385 b108_134 k108_134 b96_134 k96_134 p2 p3 p4 p6 p5 b15 b21_41_64_71 k21_41_64_71 cs b347_356_385 k347_356_385 h0 n0) xr15.cells xr15.slots s₁ (entryFrame m #[(.ref b73), (.ref b344_385), (.int (0 : Int32)), (.int (1 : Int32)), (.int (97 : Int32))] 7)
  refine Go.cast (ef_PropertyIndex_slot_2 m b73 b344_385 (0 : Int32) (1 : Int32) (97 : Int32)) ?_
  show Go p e below s _ _ _ s₁ (mkF m 0 #[.val (.ref b73), .val (.ref b344_385), .val (.int (0 : Int32)), .val (.int (1 : Int32)), .val (.int (97 : Int32)), .unset, .unset] [])
  refine Go.step (fun _ k => XS.aloadN X0.here hx rfl (hb hby d18_0) rfl rfl k) ?_
  show Go p e below s _ _ _ s₁ (mkF m 1 #[.val (.ref b73), .val (.ref b344_385), .val (.int (0 : Int32)), .val (.int (1 : Int32)), .val (.int (97 : Int32)), .unset, .unset] [(.ref b73)])
  obtain ⟨T452, X452, e452, st452⟩ := getF X0 hx hZ hown (host := "") (Or.inl (tw62 hw)) Via.refl e0 F_slots_b73 (g := (mkF m 1 #[.val (.ref b73), .val (.ref b344_385), .val (.int (0 : Int32)), .val (.int (1 : Int32)), .val (.int (97 : Int32)), .unset, .unset] [(.ref b73)])) rfl rfl (hb hby d18_1)
  refine Go.step (fun _ k => st452 _ k) ?_
  show Go p e below s _ _ _ T452 (mkF m 4 #[.val (.ref b73), .val (.ref b344_385), .val (.int (0 : Int32)), .val (.int (1 : Int32)), .val (.int (97 : Int32)), .unset, .unset] [(.ref b108_134)])
  obtain ⟨cl453, Ar453, -, Sz453, Ng453, -, -⟩ := id V_b108_134
  have aln453 := X452.arraylength hx (by rw [e452]; exact Ar453.1) (State.isArrayOf_alike hZ.alike Ar453.2.1) (g := (mkF m 4 #[.val (.ref b73), .val (.ref b344_385), .val (.int (0 : Int32)), .val (.int (1 : Int32)), .val (.int (97 : Int32)), .unset, .unset] [(.ref b108_134)])) rfl rfl (hb hby d18_4)
  rw [len_of Sz453 Ng453] at aln453
  refine Go.step (fun _ k => aln453 _ (XS.iconst X452.here hx rfl (hb hby d18_5) (XS.isub X452.here hx rfl (hb hby d18_6) rfl (XS.istore X452.here hx rfl (hb hby d18_7) rfl (l' := #[.val (.ref b73), .val (.ref b344_385), .val (.int (0 : Int32)), .val (.int (1 : Int32)), .val (.int (97 : Int32)), .val (.int (7 : Int32)), .unset]) rfl (XS.iload X452.here hx rfl (hb hby d18_9) rfl (XS.iload X452.here hx rfl (hb hby d18_11) rfl (XS.iand X452.here hx rfl (hb hby d18_13) rfl (XS.istore X452.here hx rfl (hb hby d18_14) rfl (l' := #[.val (.ref b73), .val (.ref b344_385), .val (.int (0 : Int32)), .val (.int (1 : Int32)), .val (.int (97 : Int32)), .val (.int (7 : Int32)), .val (.int (1 : Int32))]) rfl (XS.aloadN X452.here hx rfl (hb hby d18_16) rfl rfl k))))))))) ?_
  show Go p e below s _ _ _ T452 (mkF m 17 #[.val (.ref b73), .val (.ref b344_385), .val (.int (0 : Int32)), .val (.int (1 : Int32)), .val (.int (97 : Int32)), .val (.int (7 : Int32)), .val (.int (1 : Int32))] [(.ref b73)])
  obtain ⟨T454, X454, e454, st454⟩ := getF X452 hx hZ hown (host := "") (Or.inl (tw62 hw)) Via.refl e452 F_slots_b73 (g := (mkF m 17 #[.val (.ref b73), .val (.ref b344_385), .val (.int (0 : Int32)), .val (.int (1 : Int32)), .val (.int (97 : Int32)), .val (.int (7 : Int32)), .val (.int (1 : Int32))] [(.ref b73)])) rfl rfl (hb hby d18_17)
  refine Go.step (fun _ k => st454 _ (XS.iload X454.here hx rfl (hb hby d18_20) rfl k)) ?_
  show Go p e below s _ _ _ T454 (mkF m 22 #[.val (.ref b73), .val (.ref b344_385), .val (.int (0 : Int32)), .val (.int (1 : Int32)), .val (.int (97 : Int32)), .val (.int (7 : Int32)), .val (.int (1 : Int32))] [(.int (1 : Int32)), (.ref b108_134)])
  obtain ⟨cl455, Ar455, -, Sz455, Ng455, Hs455, Ft455⟩ := id V_b108_134
  have in455 : ¬ ((1 : Int32) < 0 ∨ cl455.slots.size ≤ ((1 : Int32)).toNatClampNeg) := (inb_of Sz455 ⟨by decide, by decide⟩)
  have at455 : cl455.slots[((1 : Int32)).toNatClampNeg]? = some (.int (1 : Int32)) := Hs455.at in455 rfl
  refine Go.step (fun _ k => X454.iaload hx (j := (1 : Int32)) (v := (.int (1 : Int32))) (by rw [e454]; exact Ar455.1) (State.isArrayOf_alike hZ.alike Ar455.2.1) Ar455.2.2 in455 at455 (g := (mkF m 22 #[.val (.ref b73), .val (.ref b344_385), .val (.int (0 : Int32)), .val (.int (1 : Int32)), .val (.int (97 : Int32)), .val (.int (7 : Int32)), .val (.int (1 : Int32))] [(.int (1 : Int32)), (.ref b108_134)])) rfl rfl (hb hby d18_22) _ (XS.ifNo X454.here hx rfl (hb hby d18_23) rfl ((if0 _ _).trans (feq (by decide)).1) (XS.aloadN X454.here hx rfl (hb hby d18_26) rfl rfl (XS.aloadN X454.here hx rfl (hb hby d18_27) rfl rfl k)))) ?_
  show Go p e below s _ _ _ T454 (mkF m 28 #[.val (.ref b73), .val (.ref b344_385), .val (.int (0 : Int32)), .val (.int (1 : Int32)), .val (.int (97 : Int32)), .val (.int (7 : Int32)), .val (.int (1 : Int32))] [(.ref b73), (.ref b73)])
  obtain ⟨T456, X456, e456, st456⟩ := getF X454 hx hZ hown (host := "") (Or.inl (tw62 hw)) Via.refl e454 F_slots_b73 (g := (mkF m 28 #[.val (.ref b73), .val (.ref b344_385), .val (.int (0 : Int32)), .val (.int (1 : Int32)), .val (.int (97 : Int32)), .val (.int (7 : Int32)), .val (.int (1 : Int32))] [(.ref b73), (.ref b73)])) rfl rfl (hb hby d18_28)
  refine Go.step (fun _ k => st456 _ (XS.iload X456.here hx rfl (hb hby d18_31) rfl k)) ?_
  show Go p e below s _ _ _ T456 (mkF m 33 #[.val (.ref b73), .val (.ref b344_385), .val (.int (0 : Int32)), .val (.int (1 : Int32)), .val (.int (97 : Int32)), .val (.int (7 : Int32)), .val (.int (1 : Int32))] [(.int (1 : Int32)), (.ref b108_134), (.ref b73)])
  obtain ⟨cl457, Ar457, -, Sz457, Ng457, Hs457, Ft457⟩ := id V_b108_134
  have in457 : ¬ ((1 : Int32) < 0 ∨ cl457.slots.size ≤ ((1 : Int32)).toNatClampNeg) := (inb_of Sz457 ⟨by decide, by decide⟩)
  have at457 : cl457.slots[((1 : Int32)).toNatClampNeg]? = some (.int (1 : Int32)) := Hs457.at in457 rfl
  refine Go.step (fun _ k => X456.iaload hx (j := (1 : Int32)) (v := (.int (1 : Int32))) (by rw [e456]; exact Ar457.1) (State.isArrayOf_alike hZ.alike Ar457.2.1) Ar457.2.2 in457 at457 (g := (mkF m 33 #[.val (.ref b73), .val (.ref b344_385), .val (.int (0 : Int32)), .val (.int (1 : Int32)), .val (.int (97 : Int32)), .val (.int (7 : Int32)), .val (.int (1 : Int32))] [(.int (1 : Int32)), (.ref b108_134), (.ref b73)])) rfl rfl (hb hby d18_33) _ (XS.iconst X456.here hx rfl (hb hby d18_34) (XS.isub X456.here hx rfl (hb hby d18_35) rfl (XS.aloadN X456.here hx rfl (hb hby d18_36) rfl rfl (XS.iloadN X456.here hx rfl (hb hby d18_37) rfl (XS.iloadN X456.here hx rfl (hb hby d18_38) rfl (XS.iload X456.here hx rfl (hb hby d18_39) rfl k))))))) ?_
  show Go p e below s _ _ _ T456 (mkF m 41 #[.val (.ref b73), .val (.ref b344_385), .val (.int (0 : Int32)), .val (.int (1 : Int32)), .val (.int (97 : Int32)), .val (.int (7 : Int32)), .val (.int (1 : Int32))] [(.int (97 : Int32)), (.int (1 : Int32)), (.int (0 : Int32)), (.ref b344_385), (.int (0 : Int32)), (.ref b73)])
  obtain ⟨cq485, q485, q485'⟩ := E_b73.cell
  obtain ⟨_, _, ⟨T485, L485, k485, n485⟩, -, X485, ⟨Lc485, hQ485, l485, y485, z485⟩, st485⟩ := X456.privateBack hx (y := xm30) hown (mvT hZ (tw155 hw)) (mvT hZ (tw156 hw)) (own_selP (mvT hZ (tw31 hw)) (Cond.privateMethod_at (mvP hZ (tw157 hw) (args := #[]))) (mvT hZ (tw156 hw)) (by decide)) (Cond.privateMethod_at (mvP hZ (tw157 hw) (args := #[]))) (mvT hZ (tw158 hw)) (by decide) (backOf (W := 0) (rm_PropertyIndex_named_0 l Z a0 hw [] b73 b344_385 b96_134 k96_134 p2 p3 p4 p6 p5 b15 b21_41_64_71 k21_41_64_71 cs b347_356_385 k347_356_385 h0 n0 Z0 F_entries_b73 V_b96_134 F_text_b73 E_b15 F_value_b15 V_b21_41_64_71 F_coder_b15 Z_S_COMPACT_STRINGS O0 hcs E_b344_385 F_value_b344_385 V_b347_356_385 F_coder_b344_385) hZ (tw158 hw) (tw32 hw) (by decide) (by decide)) (g := (mkF m 41 #[.val (.ref b73), .val (.ref b344_385), .val (.int (0 : Int32)), .val (.int (1 : Int32)), .val (.int (97 : Int32)), .val (.int (7 : Int32)), .val (.int (1 : Int32))] [(.int (97 : Int32)), (.int (1 : Int32)), (.int (0 : Int32)), (.ref b344_385), (.int (0 : Int32)), (.ref b73)])) rfl (by rw [hml]; rfl) (Steps.refl _) (a := b73) (by rw [e456]; exact q485) q485' (argsL := [(.int (0 : Int32)), (.ref b344_385), (.int (0 : Int32)), (.int (1 : Int32)), (.int (97 : Int32))]) (rest := []) (lenOf pd_26 rfl) rfl (by show 2 * 0 + _ ≤ _; exact Nat.le_of_eq rfl) (hb hby d18_41) (fun _ _ => ⟨rfl, e456, (by decide : 0 + 0 ≤ _), (by decide : 0 + 0 ≤ _)⟩)
  dsimp only [Pt.U, Pt.locs, Pt.cells, Pt.slots] at X485 l485 y485 z485 st485 hQ485
  subst l485 y485 z485
  obtain ⟨rfl, N485q, eq485⟩ := hQ485
  have N486 := Fr.app N0 N485q
  refine Go.step (fun _ k => st485.trans (XS.ifYes X485.here hx rfl (pc0 := 44) (pc' := 59) rfl (hb hby d18_44) rfl ((if0 _ _).trans (feq (by decide)).2) (by decide) (by decide) (XS.iload X485.here hx rfl (hb hby d18_59) rfl k))) ?_
  show Go p e below s _ _ _ T485 (mkF m 61 #[.val (.ref b73), .val (.ref b344_385), .val (.int (0 : Int32)), .val (.int (1 : Int32)), .val (.int (97 : Int32)), .val (.int (7 : Int32)), .val (.int (1 : Int32))] [(.int (1 : Int32))])
  exact Go.retI X485 hx hlk Bd.returns (hb hby d18_61) eq485 ⟨rfl, N486, rfl⟩ (by decide) (by decide)

theorem ef_PropertyIndex_find_0 (m : MethodId) (x0 : Addr) (x1 : Addr) : entryFrame m #[(.ref x0), (.ref x1)] 5 = mkF m 0 #[.val (.ref x0), .val (.ref x1), .unset, .unset, .unset] [] := by first | (simp [entryFrame, mkF, argsToLocals, Value.category]; done) | rfl
def Q_PropertyIndex_find_0 (Z : State) (b73 : Addr) (b344_385 : Addr) (b108_134 : Addr) (b347_356_385 : Addr) (k347_356_385 : ClassId) (cs : Int32) (fv : Value) (k108_134 : ClassId) (b96_134 : Addr) (k96_134 : ClassId) (p2 : Int32) (p3 : Int32) (p4 : Int32) (p6 : Int32) (p5 : Int32) (b15 : Addr) (b21_41_64_71 : Addr) (k21_41_64_71 : ClassId) (h0 : Heap) (n0 : Nat) (v : Option Value) (h : Heap) (L : List Loc) : Prop := v = some (.int (0 : Int32)) ∧ Fr n0 L ∧ h = h0
set_option maxRecDepth 65536 in
set_option maxHeartbeats 40000000 in
theorem rm_PropertyIndex_find_0 (l : Launch) (Z : State) (a0 : Array Value) (hw : ∀ d ∈ tables_1, d.before a0 Z = true) (ws : List Jvm.Cond) (b73 : Addr) (b344_385 : Addr) (b108_134 : Addr) (b347_356_385 : Addr) (k347_356_385 : ClassId) (cs : Int32) (fv : Value) (k108_134 : ClassId) (b96_134 : Addr) (k96_134 : ClassId) (p2 : Int32) (p3 : Int32) (p4 : Int32) (p6 : Int32) (p5 : Int32) (b15 : Addr) (b21_41_64_71 : Addr) (k21_41_64_71 : ClassId) (h0 : Heap) (n0 : Nat) (Z0 : n0 ≤ h0.size) (E_b344_385 : Exa Z h0 b344_385 xs23) (F_slots_b73 : Fld Z h0 b73 xs1 "slots" "[I" (.ref b108_134)) (F_value_b344_385 : Fld Z h0 b344_385 xs23 "value" "[B" (.ref b347_356_385)) (V_b347_356_385 : Arv Z h0 b347_356_385 k347_356_385 .byte (1 : Int32) [(.int (97 : Int32))] (.int (0 : Int32))) (Z_S_COMPACT_STRINGS : Sta Z Z.heap xs23 xs24 "Z" (.int cs)) (O0 : Old Z n0 h0) (hcs : ¬ cs = (0 : Int32)) (F_coder_b344_385 : Fld Z h0 b344_385 xs23 "coder" "B" (.int (0 : Int32))) (F_keyed_b73 : Fld Z h0 b73 xs1 "keyed" "Z" (.int (0 : Int32))) (Z_S_SIOOBE_FORMATTER : Sta Z Z.heap xs5 xs22 xs6 fv) (hfv : fv.isRef = true) (E_b73 : Exa Z h0 b73 xs1) (V_b108_134 : Arv Z h0 b108_134 k108_134 .int (8 : Int32) [(.int (0 : Int32)), (.int (1 : Int32)), (.int (2 : Int32)), (.int (0 : Int32)), (.int (0 : Int32)), (.int (0 : Int32)), (.int (0 : Int32)), (.int (0 : Int32))] (.int (0 : Int32))) (F_entries_b73 : Fld Z h0 b73 xs1 "entries" "[I" (.ref b96_134)) (V_b96_134 : Arv Z h0 b96_134 k96_134 .int (12 : Int32) [(.int (0 : Int32)), (.int (1 : Int32)), (.int p2), (.int p3), (.int p4), (.int (97 : Int32)), (.int (1 : Int32)), (.int (2 : Int32)), (.int p6), (.int p5), (.int p6), (.int (98 : Int32))] (.int (0 : Int32))) (F_text_b73 : Fld Z h0 b73 xs1 "text" xs19 (.ref b15)) (E_b15 : Exa Z h0 b15 xs23) (F_value_b15 : Fld Z h0 b15 xs23 "value" "[B" (.ref b21_41_64_71)) (V_b21_41_64_71 : Arv Z h0 b21_41_64_71 k21_41_64_71 .byte (2 : Int32) [(.int (97 : Int32)), (.int (98 : Int32))] (.int (0 : Int32))) (F_coder_b15 : Fld Z h0 b15 xs23 "coder" "B" (.int (0 : Int32))) :
    MetFree l xm31 (head1 (Jvm.Cond.code xm31 prog_15_method_10_code 5 (some .int) :: ws) xr16) (fun a U => a = #[(.ref b73), (.ref b344_385)] ∧ Z.Warmed39 U.vm ∧ U.heap = h0) (fun _ _ _ _ _ => True) (fun _ U o U' => ∃ v L, o = .returned v ∧ Q_PropertyIndex_find_0 Z b73 b344_385 b108_134 b347_356_385 k347_356_385 cs fv k108_134 b96_134 k96_134 p2 p3 p4 p6 p5 b15 b21_41_64_71 k21_41_64_71 h0 n0 v U'.heap L ∧ FrameEnd U o U' L xr16.cells xr16.slots) := by
  refine MetFree.of_bodySF (plainFor_of_name pn_5) hisR ?_
  intro p e s m args below meth c s₁ Bd hml0 hP hK
  obtain ⟨rfl, hZ, hh⟩ := hP
  have hx := Bd.exec
  have hby := Bd.bytes
  have hlk : meth.locks = false := BodyLoose.notSynchronized Bd
  have hml : c.maxLocals = 5 := hml0
  have hown : s.vm.findClass xs1 = some m.cls := findClass_of_methodNamed Bd.named
  have hnm := (name_of_methodNamed Bd.named Bd.method).1
  have X0 : Stand p l e xr16 s m #[(.ref b73), (.ref b344_385)] below meth c s₁ [] 0 0 := Stand.of_body Bd
  have e0 : s₁.heap = h0 := by rw [← hh, Bd.state]; rfl
  have N0 := Fr.nil n0
  show Go p e below s (Q_PropertyIndex_find_0 Z b73 b344_385 b108_134 b347_356_385 k347_356_385 cs fv k108_134 b96_134 k96_134 p2 p3 p4 p6 p5 b15 b21_41_64_71 k21_41_64_71 h0 n0) xr16.cells xr16.slots s₁ (entryFrame m #[(.ref b73), (.ref b344_385)] 5)
  refine Go.cast (ef_PropertyIndex_find_0 m b73 b344_385) ?_
  show Go p e below s _ _ _ s₁ (mkF m 0 #[.val (.ref b73), .val (.ref b344_385), .unset, .unset, .unset] [])
  refine Go.step (fun _ k => XS.iconst X0.here hx rfl (hb hby d27_0) (XS.istoreN X0.here hx rfl (hb hby d27_1) rfl (l' := #[.val (.ref b73), .val (.ref b344_385), .val (.int (-1 : Int32)), .unset, .unset]) rfl (XS.aloadN X0.here hx rfl (hb hby d27_2) rfl rfl k))) ?_
  show Go p e below s _ _ _ s₁ (mkF m 3 #[.val (.ref b73), .val (.ref b344_385), .val (.int (-1 : Int32)), .unset, .unset] [(.ref b344_385)])
  obtain ⟨T423, X423, e423, st423⟩ := instY X0 hx hZ hown (tw144 hw) e0 (Ins.self E_b344_385) (g := (mkF m 3 #[.val (.ref b73), .val (.ref b344_385), .val (.int (-1 : Int32)), .unset, .unset] [(.ref b344_385)])) rfl rfl (hb hby d27_3)
  refine Go.step (fun _ k => st423 _ (XS.ifNo X423.here hx rfl (hb hby d27_6) rfl ((if0 _ _).trans (feq (by decide)).1) (XS.aloadN X423.here hx rfl (hb hby d27_9) rfl rfl k))) ?_
  show Go p e below s _ _ _ T423 (mkF m 10 #[.val (.ref b73), .val (.ref b344_385), .val (.int (-1 : Int32)), .unset, .unset] [(.ref b344_385)])
  obtain ⟨T424, X424, e424, st424⟩ := castY X423 hx hZ hown (tw144 hw) e423 (Ins.self E_b344_385) (g := (mkF m 10 #[.val (.ref b73), .val (.ref b344_385), .val (.int (-1 : Int32)), .unset, .unset] [(.ref b344_385)])) rfl rfl (hb hby d27_10)
  refine Go.step (fun _ k => st424 _ (XS.astoreN X424.here hx rfl (hb hby d27_13) rfl rfl (l' := #[.val (.ref b73), .val (.ref b344_385), .val (.int (-1 : Int32)), .val (.ref b344_385), .unset]) rfl (XS.aloadN X424.here hx rfl (hb hby d27_14) rfl rfl k))) ?_
  show Go p e below s _ _ _ T424 (mkF m 15 #[.val (.ref b73), .val (.ref b344_385), .val (.int (-1 : Int32)), .val (.ref b344_385), .unset] [(.ref b73)])
  obtain ⟨T425, X425, e425, st425⟩ := getF X424 hx hZ hown (host := "") (Or.inl (tw62 hw)) Via.refl e424 F_slots_b73 (g := (mkF m 15 #[.val (.ref b73), .val (.ref b344_385), .val (.int (-1 : Int32)), .val (.ref b344_385), .unset] [(.ref b73)])) rfl rfl (hb hby d27_15)
  refine Go.step (fun _ k => st425 _ (XS.aloadN X425.here hx rfl (hb hby d27_18) rfl rfl (XS.aloadN X425.here hx rfl (hb hby d27_19) rfl rfl (XS.iconst X425.here hx rfl (hb hby d27_20) (XS.aloadN X425.here hx rfl (hb hby d27_21) rfl rfl k))))) ?_
  show Go p e below s _ _ _ T425 (mkF m 22 #[.val (.ref b73), .val (.ref b344_385), .val (.int (-1 : Int32)), .val (.ref b344_385), .unset] [(.ref b344_385), (.int (0 : Int32)), (.ref b344_385), (.ref b73), (.ref b108_134)])
  obtain ⟨cq432, kq432, q432a, q432b, q432c⟩ := isOf hZ e425 E_b344_385
  obtain ⟨_, _, ⟨T432, L432, k432, n432⟩, -, X432, ⟨Lc432, hQ432, l432, y432, z432⟩, st432⟩ := X425.virtualBack hx (y := xm21) (z := xm21) hown (mvT hZ (tw145 hw)) (mvT hZ (tw146 hw)) (notFace_of_selects (args := #[]) (mvT hZ (tw148 hw))) (mvT hZ (tw148 hw)) (mvT hZ (tw147 hw)) (by decide) (backOf (W := 4) (rm_String_length_0 l Z a0 hw [] b344_385 b347_356_385 k347_356_385 cs h0 n0 Z0 F_value_b344_385 V_b347_356_385 E_b344_385 Z_S_COMPACT_STRINGS O0 hcs F_coder_b344_385) hZ (tw149 hw) (tw3 hw) (by decide) (by decide)) q432a q432c (g := (mkF m 22 #[.val (.ref b73), .val (.ref b344_385), .val (.int (-1 : Int32)), .val (.ref b344_385), .unset] [(.ref b344_385), (.int (0 : Int32)), (.ref b344_385), (.ref b73), (.ref b108_134)])) rfl (by rw [hml]; rfl) (Steps.refl _) (argsL := []) (rest := [(.int (0 : Int32)), (.ref b344_385), (.ref b73), (.ref b108_134)]) (lenOf pd_23 rfl) rfl (by show 2 * 0 + _ ≤ _; exact Nat.le_of_eq rfl) (hb hby d27_22) (fun _ _ => ⟨rfl, e425, (by decide : 0 + 0 ≤ _), (by decide : 0 + 0 ≤ _)⟩)
  dsimp only [Pt.U, Pt.locs, Pt.cells, Pt.slots] at X432 l432 y432 z432 st432 hQ432
  subst l432 y432 z432
  obtain ⟨rfl, N432q, eq432⟩ := hQ432
  have N433 := Fr.app N0 N432q
  refine Go.step (fun _ k => st432.trans (XS.aloadN X432.here hx rfl (hb hby d27_25) rfl rfl (XS.aloadN X432.here hx rfl (hb hby d27_26) rfl rfl (XS.iconst X432.here hx rfl (hb hby d27_27) (XS.aloadN X432.here hx rfl (hb hby d27_28) rfl rfl k))))) ?_
  show Go p e below s _ _ _ T432 (mkF m 29 #[.val (.ref b73), .val (.ref b344_385), .val (.int (-1 : Int32)), .val (.ref b344_385), .unset] [(.ref b344_385), (.int (0 : Int32)), (.ref b344_385), (.ref b73), (.int (1 : Int32)), (.int (0 : Int32)), (.ref b344_385), (.ref b73), (.ref b108_134)])
  obtain ⟨cq434, kq434, q434a, q434b, q434c⟩ := isOf hZ eq432 E_b344_385
  obtain ⟨_, _, ⟨T434, L434, k434, n434⟩, -, X434, ⟨Lc434, hQ434, l434, y434, z434⟩, st434⟩ := X432.virtualBack hx (y := xm21) (z := xm21) hown (mvT hZ (tw145 hw)) (mvT hZ (tw146 hw)) (notFace_of_selects (args := #[]) (mvT hZ (tw148 hw))) (mvT hZ (tw148 hw)) (mvT hZ (tw147 hw)) (by decide) (backOf (W := 8) (rm_String_length_0 l Z a0 hw [] b344_385 b347_356_385 k347_356_385 cs h0 n0 Z0 F_value_b344_385 V_b347_356_385 E_b344_385 Z_S_COMPACT_STRINGS O0 hcs F_coder_b344_385) hZ (tw149 hw) (tw3 hw) (by decide) (by decide)) q434a q434c (g := (mkF m 29 #[.val (.ref b73), .val (.ref b344_385), .val (.int (-1 : Int32)), .val (.ref b344_385), .unset] [(.ref b344_385), (.int (0 : Int32)), (.ref b344_385), (.ref b73), (.int (1 : Int32)), (.int (0 : Int32)), (.ref b344_385), (.ref b73), (.ref b108_134)])) rfl (by rw [hml]; rfl) (Steps.refl _) (argsL := []) (rest := [(.int (0 : Int32)), (.ref b344_385), (.ref b73), (.int (1 : Int32)), (.int (0 : Int32)), (.ref b344_385), (.ref b73), (.ref b108_134)]) (lenOf pd_23 rfl) rfl (by show 2 * 0 + _ ≤ _; exact Nat.le_of_eq rfl) (hb hby d27_29) (fun _ _ => ⟨rfl, eq432, (by decide : 0 + 0 ≤ _), (by decide : 0 + 0 ≤ _)⟩)
  dsimp only [Pt.U, Pt.locs, Pt.cells, Pt.slots] at X434 l434 y434 z434 st434 hQ434
  subst l434 y434 z434
  obtain ⟨rfl, N434q, eq434⟩ := hQ434
  have N435 := Fr.app N433 N434q
  refine Go.step (fun _ k => st434.trans k) ?_
  show Go p e below s _ _ _ T434 (mkF m 32 #[.val (.ref b73), .val (.ref b344_385), .val (.int (-1 : Int32)), .val (.ref b344_385), .unset] [(.int (1 : Int32)), (.int (0 : Int32)), (.ref b344_385), (.ref b73), (.int (1 : Int32)), (.int (0 : Int32)), (.ref b344_385), (.ref b73), (.ref b108_134)])
  obtain ⟨cq450, q450, q450'⟩ := E_b73.cell
  obtain ⟨_, _, ⟨T450, L450, k450, n450⟩, -, X450, ⟨Lc450, hQ450, l450, y450, z450⟩, st450⟩ := X434.privateBack hx (y := xm29) hown (mvT hZ (tw69 hw)) (mvT hZ (tw70 hw)) (own_selP (mvT hZ (tw31 hw)) (Cond.privateMethod_at (mvP hZ (tw71 hw) (args := #[]))) (mvT hZ (tw70 hw)) (by decide)) (Cond.privateMethod_at (mvP hZ (tw71 hw) (args := #[]))) (mvT hZ (tw72 hw)) (by decide) (backOf (W := 5) (rm_PropertyIndex_hash_2 l Z a0 hw [] b73 b344_385 b347_356_385 k347_356_385 cs fv h0 n0 Z0 F_keyed_b73 E_b344_385 F_coder_b344_385 F_value_b344_385 V_b347_356_385 Z_S_COMPACT_STRINGS O0 hcs Z_S_SIOOBE_FORMATTER hfv) hZ (tw72 hw) (tw32 hw) (by decide) (by decide)) (g := (mkF m 32 #[.val (.ref b73), .val (.ref b344_385), .val (.int (-1 : Int32)), .val (.ref b344_385), .unset] [(.int (1 : Int32)), (.int (0 : Int32)), (.ref b344_385), (.ref b73), (.int (1 : Int32)), (.int (0 : Int32)), (.ref b344_385), (.ref b73), (.ref b108_134)])) rfl (by rw [hml]; rfl) (Steps.refl _) (a := b73) (by rw [eq434]; exact q450) q450' (argsL := [(.ref b344_385), (.int (0 : Int32)), (.int (1 : Int32))]) (rest := [(.int (1 : Int32)), (.int (0 : Int32)), (.ref b344_385), (.ref b73), (.ref b108_134)]) (lenOf pd_14 rfl) rfl (by show 2 * 0 + _ ≤ _; exact Nat.le_of_eq rfl) (hb hby d27_32) (fun _ _ => ⟨rfl, eq434, (by decide : 0 + 0 ≤ _), (by decide : 0 + 0 ≤ _)⟩)
  dsimp only [Pt.U, Pt.locs, Pt.cells, Pt.slots] at X450 l450 y450 z450 st450 hQ450
  subst l450 y450 z450
  obtain ⟨rfl, N450q, eq450⟩ := hQ450
  have N451 := Fr.app N435 N450q
  refine Go.step (fun _ k => st450.trans k) ?_
  show Go p e below s _ _ _ T450 (mkF m 35 #[.val (.ref b73), .val (.ref b344_385), .val (.int (-1 : Int32)), .val (.ref b344_385), .unset] [(.int (97 : Int32)), (.int (1 : Int32)), (.int (0 : Int32)), (.ref b344_385), (.ref b73), (.ref b108_134)])
  obtain ⟨cq487, q487, q487'⟩ := E_b73.cell
  obtain ⟨_, _, ⟨T487, L487, k487, n487⟩, -, X487, ⟨Lc487, hQ487, l487, y487, z487⟩, st487⟩ := X450.privateBack hx (y := xm32) hown (mvT hZ (tw100 hw)) (mvT hZ (tw101 hw)) (own_selP (mvT hZ (tw31 hw)) (Cond.privateMethod_at (mvP hZ (tw102 hw) (args := #[]))) (mvT hZ (tw101 hw)) (by decide)) (Cond.privateMethod_at (mvP hZ (tw102 hw) (args := #[]))) (mvT hZ (tw103 hw)) (by decide) (backOf (W := 1) (rm_PropertyIndex_slot_2 l Z a0 hw [] b73 b344_385 b108_134 k108_134 b96_134 k96_134 p2 p3 p4 p6 p5 b15 b21_41_64_71 k21_41_64_71 cs b347_356_385 k347_356_385 h0 n0 Z0 F_slots_b73 V_b108_134 F_entries_b73 V_b96_134 F_text_b73 E_b15 F_value_b15 V_b21_41_64_71 F_coder_b15 Z_S_COMPACT_STRINGS O0 hcs E_b344_385 F_value_b344_385 V_b347_356_385 F_coder_b344_385 E_b73) hZ (tw103 hw) (tw32 hw) (by decide) (by decide)) (g := (mkF m 35 #[.val (.ref b73), .val (.ref b344_385), .val (.int (-1 : Int32)), .val (.ref b344_385), .unset] [(.int (97 : Int32)), (.int (1 : Int32)), (.int (0 : Int32)), (.ref b344_385), (.ref b73), (.ref b108_134)])) rfl (by rw [hml]; rfl) (Steps.refl _) (a := b73) (by rw [eq450]; exact q487) q487' (argsL := [(.ref b344_385), (.int (0 : Int32)), (.int (1 : Int32)), (.int (97 : Int32))]) (rest := [(.ref b108_134)]) (lenOf pd_15 rfl) rfl (by show 2 * 0 + _ ≤ _; exact Nat.le_of_eq rfl) (hb hby d27_35) (fun _ _ => ⟨rfl, eq450, (by decide : 0 + 0 ≤ _), (by decide : 0 + 0 ≤ _)⟩)
  dsimp only [Pt.U, Pt.locs, Pt.cells, Pt.slots] at X487 l487 y487 z487 st487 hQ487
  subst l487 y487 z487
  obtain ⟨rfl, N487q, eq487⟩ := hQ487
  have N488 := Fr.app N451 N487q
  refine Go.step (fun _ k => st487.trans k) ?_
  show Go p e below s _ _ _ T487 (mkF m 38 #[.val (.ref b73), .val (.ref b344_385), .val (.int (-1 : Int32)), .val (.ref b344_385), .unset] [(.int (1 : Int32)), (.ref b108_134)])
  obtain ⟨cl489, Ar489, -, Sz489, Ng489, Hs489, Ft489⟩ := id V_b108_134
  have in489 : ¬ ((1 : Int32) < 0 ∨ cl489.slots.size ≤ ((1 : Int32)).toNatClampNeg) := (inb_of Sz489 ⟨by decide, by decide⟩)
  have at489 : cl489.slots[((1 : Int32)).toNatClampNeg]? = some (.int (1 : Int32)) := Hs489.at in489 rfl
  refine Go.step (fun _ k => X487.iaload hx (j := (1 : Int32)) (v := (.int (1 : Int32))) (by rw [eq487]; exact Ar489.1) (State.isArrayOf_alike hZ.alike Ar489.2.1) Ar489.2.2 in489 at489 (g := (mkF m 38 #[.val (.ref b73), .val (.ref b344_385), .val (.int (-1 : Int32)), .val (.ref b344_385), .unset] [(.int (1 : Int32)), (.ref b108_134)])) rfl rfl (hb hby d27_38) _ (XS.istore X487.here hx rfl (hb hby d27_39) rfl (l' := #[.val (.ref b73), .val (.ref b344_385), .val (.int (-1 : Int32)), .val (.ref b344_385), .val (.int (1 : Int32))]) rfl (XS.iload X487.here hx rfl (hb hby d27_41) rfl (XS.iconst X487.here hx rfl (hb hby d27_43) (XS.isub X487.here hx rfl (hb hby d27_44) rfl (XS.istoreN X487.here hx rfl (hb hby d27_45) rfl (l' := #[.val (.ref b73), .val (.ref b344_385), .val (.int (0 : Int32)), .val (.ref b344_385), .val (.int (1 : Int32))]) rfl (XS.iloadN X487.here hx rfl (hb hby d27_46) rfl k))))))) ?_
  show Go p e below s _ _ _ T487 (mkF m 47 #[.val (.ref b73), .val (.ref b344_385), .val (.int (0 : Int32)), .val (.ref b344_385), .val (.int (1 : Int32))] [(.int (0 : Int32))])
  exact Go.retI X487 hx hlk Bd.returns (hb hby d27_47) eq487 ⟨rfl, N488, rfl⟩ (by decide) (by decide)

theorem ef_PropertyIndex_valueStart_1 (m : MethodId) (x0 : Addr) (x1 : Int32) : entryFrame m #[(.ref x0), (.int x1)] 2 = mkF m 0 #[.val (.ref x0), .val (.int x1)] [] := by first | (simp [entryFrame, mkF, argsToLocals, Value.category]; done) | rfl
def Q_PropertyIndex_valueStart_1 (Z : State) (b73 : Addr) (b96_134 : Addr) (k96_134 : ClassId) (p2 : Int32) (p3 : Int32) (p4 : Int32) (p6 : Int32) (p5 : Int32) (h0 : Heap) (n0 : Nat) (v : Option Value) (h : Heap) (L : List Loc) : Prop := v = some (.int p6) ∧ Fr n0 L ∧ h = h0
set_option maxRecDepth 65536 in
set_option maxHeartbeats 40000000 in
theorem rm_PropertyIndex_valueStart_1 (l : Launch) (Z : State) (a0 : Array Value) (hw : ∀ d ∈ tables_1, d.before a0 Z = true) (ws : List Jvm.Cond) (b73 : Addr) (b96_134 : Addr) (k96_134 : ClassId) (p2 : Int32) (p3 : Int32) (p4 : Int32) (p6 : Int32) (p5 : Int32) (h0 : Heap) (n0 : Nat) (Z0 : n0 ≤ h0.size) (F_entries_b73 : Fld Z h0 b73 xs1 "entries" "[I" (.ref b96_134)) (V_b96_134 : Arv Z h0 b96_134 k96_134 .int (12 : Int32) [(.int (0 : Int32)), (.int (1 : Int32)), (.int p2), (.int p3), (.int p4), (.int (97 : Int32)), (.int (1 : Int32)), (.int (2 : Int32)), (.int p6), (.int p5), (.int p6), (.int (98 : Int32))] (.int (0 : Int32))) :
    MetFree l xm8 (head1 (Jvm.Cond.code xm8 prog_15_method_19_code 2 (some .int) :: ws) xr17) (fun a U => a = #[(.ref b73), (.int (1 : Int32))] ∧ Z.Warmed39 U.vm ∧ U.heap = h0) (fun _ _ _ _ _ => True) (fun _ U o U' => ∃ v L, o = .returned v ∧ Q_PropertyIndex_valueStart_1 Z b73 b96_134 k96_134 p2 p3 p4 p6 p5 h0 n0 v U'.heap L ∧ FrameEnd U o U' L xr17.cells xr17.slots) := by
  refine MetFree.of_bodySF (plainFor_of_name pn_5) hisR ?_
  intro p e s m args below meth c s₁ Bd hml0 hP hK
  obtain ⟨rfl, hZ, hh⟩ := hP
  have hx := Bd.exec
  have hby := Bd.bytes
  have hlk : meth.locks = false := BodyLoose.notSynchronized Bd
  have hml : c.maxLocals = 2 := hml0
  have hown : s.vm.findClass xs1 = some m.cls := findClass_of_methodNamed Bd.named
  have hnm := (name_of_methodNamed Bd.named Bd.method).1
  have X0 : Stand p l e xr17 s m #[(.ref b73), (.int (1 : Int32))] below meth c s₁ [] 0 0 := Stand.of_body Bd
  have e0 : s₁.heap = h0 := by rw [← hh, Bd.state]; rfl
  have N0 := Fr.nil n0
  show Go p e below s (Q_PropertyIndex_valueStart_1 Z b73 b96_134 k96_134 p2 p3 p4 p6 p5 h0 n0) xr17.cells xr17.slots s₁ (entryFrame m #[(.ref b73), (.int (1 : Int32))] 2)
  refine Go.cast (ef_PropertyIndex_valueStart_1 m b73 (1 : Int32)) ?_
  show Go p e below s _ _ _ s₁ (mkF m 0 #[.val (.ref b73), .val (.int (1 : Int32))] [])
  refine Go.step (fun _ k => XS.aloadN X0.here hx rfl (hb hby d24_0) rfl rfl k) ?_
  show Go p e below s _ _ _ s₁ (mkF m 1 #[.val (.ref b73), .val (.int (1 : Int32))] [(.ref b73)])
  obtain ⟨T507, X507, e507, st507⟩ := getF X0 hx hZ hown (host := "") (Or.inl (tw51 hw)) Via.refl e0 F_entries_b73 (g := (mkF m 1 #[.val (.ref b73), .val (.int (1 : Int32))] [(.ref b73)])) rfl rfl (hb hby d24_1)
  refine Go.step (fun _ k => st507 _ (XS.iloadN X507.here hx rfl (hb hby d24_4) rfl (XS.bipush X507.here hx rfl (hb hby d24_5) (XS.imul X507.here hx rfl (hb hby d24_7) rfl (XS.iconst X507.here hx rfl (hb hby d24_8) (XS.iadd X507.here hx rfl (hb hby d24_9) rfl k)))))) ?_
  show Go p e below s _ _ _ T507 (mkF m 10 #[.val (.ref b73), .val (.int (1 : Int32))] [(.int (8 : Int32)), (.ref b96_134)])
  obtain ⟨cl508, Ar508, -, Sz508, Ng508, Hs508, Ft508⟩ := id V_b96_134
  have in508 : ¬ ((8 : Int32) < 0 ∨ cl508.slots.size ≤ ((8 : Int32)).toNatClampNeg) := (inb_of Sz508 ⟨by decide, by decide⟩)
  have at508 : cl508.slots[((8 : Int32)).toNatClampNeg]? = some (.int p6) := Hs508.at in508 rfl
  refine Go.step (fun _ k => X507.iaload hx (j := (8 : Int32)) (v := (.int p6)) (by rw [e507]; exact Ar508.1) (State.isArrayOf_alike hZ.alike Ar508.2.1) Ar508.2.2 in508 at508 (g := (mkF m 10 #[.val (.ref b73), .val (.int (1 : Int32))] [(.int (8 : Int32)), (.ref b96_134)])) rfl rfl (hb hby d24_10) _ k) ?_
  show Go p e below s _ _ _ T507 (mkF m 11 #[.val (.ref b73), .val (.int (1 : Int32))] [(.int p6)])
  exact Go.retI X507 hx hlk Bd.returns (hb hby d24_11) e507 ⟨rfl, N0, rfl⟩ (by decide) (by decide)

theorem ef_PropertyIndex_valueEnd_1 (m : MethodId) (x0 : Addr) (x1 : Int32) : entryFrame m #[(.ref x0), (.int x1)] 2 = mkF m 0 #[.val (.ref x0), .val (.int x1)] [] := by first | (simp [entryFrame, mkF, argsToLocals, Value.category]; done) | rfl
def Q_PropertyIndex_valueEnd_1 (Z : State) (b73 : Addr) (b96_134 : Addr) (k96_134 : ClassId) (p2 : Int32) (p3 : Int32) (p4 : Int32) (p6 : Int32) (p5 : Int32) (h0 : Heap) (n0 : Nat) (v : Option Value) (h : Heap) (L : List Loc) : Prop := v = some (.int p5) ∧ Fr n0 L ∧ h = h0
set_option maxRecDepth 65536 in
set_option maxHeartbeats 40000000 in
theorem rm_PropertyIndex_valueEnd_1 (l : Launch) (Z : State) (a0 : Array Value) (hw : ∀ d ∈ tables_1, d.before a0 Z = true) (ws : List Jvm.Cond) (b73 : Addr) (b96_134 : Addr) (k96_134 : ClassId) (p2 : Int32) (p3 : Int32) (p4 : Int32) (p6 : Int32) (p5 : Int32) (h0 : Heap) (n0 : Nat) (Z0 : n0 ≤ h0.size) (F_entries_b73 : Fld Z h0 b73 xs1 "entries" "[I" (.ref b96_134)) (V_b96_134 : Arv Z h0 b96_134 k96_134 .int (12 : Int32) [(.int (0 : Int32)), (.int (1 : Int32)), (.int p2), (.int p3), (.int p4), (.int (97 : Int32)), (.int (1 : Int32)), (.int (2 : Int32)), (.int p6), (.int p5), (.int p6), (.int (98 : Int32))] (.int (0 : Int32))) :
    MetFree l xm14 (head1 (Jvm.Cond.code xm14 prog_15_method_20_code 2 (some .int) :: ws) xr17) (fun a U => a = #[(.ref b73), (.int (1 : Int32))] ∧ Z.Warmed39 U.vm ∧ U.heap = h0) (fun _ _ _ _ _ => True) (fun _ U o U' => ∃ v L, o = .returned v ∧ Q_PropertyIndex_valueEnd_1 Z b73 b96_134 k96_134 p2 p3 p4 p6 p5 h0 n0 v U'.heap L ∧ FrameEnd U o U' L xr17.cells xr17.slots) := by
  refine MetFree.of_bodySF (plainFor_of_name pn_5) hisR ?_
  intro p e s m args below meth c s₁ Bd hml0 hP hK
  obtain ⟨rfl, hZ, hh⟩ := hP
  have hx := Bd.exec
  have hby := Bd.bytes
  have hlk : meth.locks = false := BodyLoose.notSynchronized Bd
  have hml : c.maxLocals = 2 := hml0
  have hown : s.vm.findClass xs1 = some m.cls := findClass_of_methodNamed Bd.named
  have hnm := (name_of_methodNamed Bd.named Bd.method).1
  have X0 : Stand p l e xr17 s m #[(.ref b73), (.int (1 : Int32))] below meth c s₁ [] 0 0 := Stand.of_body Bd
  have e0 : s₁.heap = h0 := by rw [← hh, Bd.state]; rfl
  have N0 := Fr.nil n0
  show Go p e below s (Q_PropertyIndex_valueEnd_1 Z b73 b96_134 k96_134 p2 p3 p4 p6 p5 h0 n0) xr17.cells xr17.slots s₁ (entryFrame m #[(.ref b73), (.int (1 : Int32))] 2)
  refine Go.cast (ef_PropertyIndex_valueEnd_1 m b73 (1 : Int32)) ?_
  show Go p e below s _ _ _ s₁ (mkF m 0 #[.val (.ref b73), .val (.int (1 : Int32))] [])
  refine Go.step (fun _ k => XS.aloadN X0.here hx rfl (hb hby d25_0) rfl rfl k) ?_
  show Go p e below s _ _ _ s₁ (mkF m 1 #[.val (.ref b73), .val (.int (1 : Int32))] [(.ref b73)])
  obtain ⟨T511, X511, e511, st511⟩ := getF X0 hx hZ hown (host := "") (Or.inl (tw51 hw)) Via.refl e0 F_entries_b73 (g := (mkF m 1 #[.val (.ref b73), .val (.int (1 : Int32))] [(.ref b73)])) rfl rfl (hb hby d25_1)
  refine Go.step (fun _ k => st511 _ (XS.iloadN X511.here hx rfl (hb hby d25_4) rfl (XS.bipush X511.here hx rfl (hb hby d25_5) (XS.imul X511.here hx rfl (hb hby d25_7) rfl (XS.iconst X511.here hx rfl (hb hby d25_8) (XS.iadd X511.here hx rfl (hb hby d25_9) rfl k)))))) ?_
  show Go p e below s _ _ _ T511 (mkF m 10 #[.val (.ref b73), .val (.int (1 : Int32))] [(.int (9 : Int32)), (.ref b96_134)])
  obtain ⟨cl512, Ar512, -, Sz512, Ng512, Hs512, Ft512⟩ := id V_b96_134
  have in512 : ¬ ((9 : Int32) < 0 ∨ cl512.slots.size ≤ ((9 : Int32)).toNatClampNeg) := (inb_of Sz512 ⟨by decide, by decide⟩)
  have at512 : cl512.slots[((9 : Int32)).toNatClampNeg]? = some (.int p5) := Hs512.at in512 rfl
  refine Go.step (fun _ k => X511.iaload hx (j := (9 : Int32)) (v := (.int p5)) (by rw [e511]; exact Ar512.1) (State.isArrayOf_alike hZ.alike Ar512.2.1) Ar512.2.2 in512 at512 (g := (mkF m 10 #[.val (.ref b73), .val (.int (1 : Int32))] [(.int (9 : Int32)), (.ref b96_134)])) rfl rfl (hb hby d25_10) _ k) ?_
  show Go p e below s _ _ _ T511 (mkF m 11 #[.val (.ref b73), .val (.int (1 : Int32))] [(.int p5)])
  exact Go.retI X511 hx hlk Bd.returns (hb hby d25_11) e511 ⟨rfl, N0, rfl⟩ (by decide) (by decide)

theorem ef_PropertyIndex_line_1 (m : MethodId) (x0 : Addr) (x1 : Int32) : entryFrame m #[(.ref x0), (.int x1)] 2 = mkF m 0 #[.val (.ref x0), .val (.int x1)] [] := by first | (simp [entryFrame, mkF, argsToLocals, Value.category]; done) | rfl
def Q_PropertyIndex_line_1 (Z : State) (b73 : Addr) (b96_134 : Addr) (k96_134 : ClassId) (p2 : Int32) (p3 : Int32) (p4 : Int32) (p6 : Int32) (p5 : Int32) (h0 : Heap) (n0 : Nat) (v : Option Value) (h : Heap) (L : List Loc) : Prop := v = some (.int p6) ∧ Fr n0 L ∧ h = h0
set_option maxRecDepth 65536 in
set_option maxHeartbeats 40000000 in
theorem rm_PropertyIndex_line_1 (l : Launch) (Z : State) (a0 : Array Value) (hw : ∀ d ∈ tables_1, d.before a0 Z = true) (ws : List Jvm.Cond) (b73 : Addr) (b96_134 : Addr) (k96_134 : ClassId) (p2 : Int32) (p3 : Int32) (p4 : Int32) (p6 : Int32) (p5 : Int32) (h0 : Heap) (n0 : Nat) (Z0 : n0 ≤ h0.size) (F_entries_b73 : Fld Z h0 b73 xs1 "entries" "[I" (.ref b96_134)) (V_b96_134 : Arv Z h0 b96_134 k96_134 .int (12 : Int32) [(.int (0 : Int32)), (.int (1 : Int32)), (.int p2), (.int p3), (.int p4), (.int (97 : Int32)), (.int (1 : Int32)), (.int (2 : Int32)), (.int p6), (.int p5), (.int p6), (.int (98 : Int32))] (.int (0 : Int32))) :
    MetFree l xm26 (head1 (Jvm.Cond.code xm26 prog_15_method_18_code 2 (some .int) :: ws) xr17) (fun a U => a = #[(.ref b73), (.int (1 : Int32))] ∧ Z.Warmed39 U.vm ∧ U.heap = h0) (fun _ _ _ _ _ => True) (fun _ U o U' => ∃ v L, o = .returned v ∧ Q_PropertyIndex_line_1 Z b73 b96_134 k96_134 p2 p3 p4 p6 p5 h0 n0 v U'.heap L ∧ FrameEnd U o U' L xr17.cells xr17.slots) := by
  refine MetFree.of_bodySF (plainFor_of_name pn_5) hisR ?_
  intro p e s m args below meth c s₁ Bd hml0 hP hK
  obtain ⟨rfl, hZ, hh⟩ := hP
  have hx := Bd.exec
  have hby := Bd.bytes
  have hlk : meth.locks = false := BodyLoose.notSynchronized Bd
  have hml : c.maxLocals = 2 := hml0
  have hown : s.vm.findClass xs1 = some m.cls := findClass_of_methodNamed Bd.named
  have hnm := (name_of_methodNamed Bd.named Bd.method).1
  have X0 : Stand p l e xr17 s m #[(.ref b73), (.int (1 : Int32))] below meth c s₁ [] 0 0 := Stand.of_body Bd
  have e0 : s₁.heap = h0 := by rw [← hh, Bd.state]; rfl
  have N0 := Fr.nil n0
  show Go p e below s (Q_PropertyIndex_line_1 Z b73 b96_134 k96_134 p2 p3 p4 p6 p5 h0 n0) xr17.cells xr17.slots s₁ (entryFrame m #[(.ref b73), (.int (1 : Int32))] 2)
  refine Go.cast (ef_PropertyIndex_line_1 m b73 (1 : Int32)) ?_
  show Go p e below s _ _ _ s₁ (mkF m 0 #[.val (.ref b73), .val (.int (1 : Int32))] [])
  refine Go.step (fun _ k => XS.aloadN X0.here hx rfl (hb hby d26_0) rfl rfl k) ?_
  show Go p e below s _ _ _ s₁ (mkF m 1 #[.val (.ref b73), .val (.int (1 : Int32))] [(.ref b73)])
  obtain ⟨T515, X515, e515, st515⟩ := getF X0 hx hZ hown (host := "") (Or.inl (tw51 hw)) Via.refl e0 F_entries_b73 (g := (mkF m 1 #[.val (.ref b73), .val (.int (1 : Int32))] [(.ref b73)])) rfl rfl (hb hby d26_1)
  refine Go.step (fun _ k => st515 _ (XS.iloadN X515.here hx rfl (hb hby d26_4) rfl (XS.bipush X515.here hx rfl (hb hby d26_5) (XS.imul X515.here hx rfl (hb hby d26_7) rfl (XS.iconst X515.here hx rfl (hb hby d26_8) (XS.iadd X515.here hx rfl (hb hby d26_9) rfl k)))))) ?_
  show Go p e below s _ _ _ T515 (mkF m 10 #[.val (.ref b73), .val (.int (1 : Int32))] [(.int (10 : Int32)), (.ref b96_134)])
  obtain ⟨cl516, Ar516, -, Sz516, Ng516, Hs516, Ft516⟩ := id V_b96_134
  have in516 : ¬ ((10 : Int32) < 0 ∨ cl516.slots.size ≤ ((10 : Int32)).toNatClampNeg) := (inb_of Sz516 ⟨by decide, by decide⟩)
  have at516 : cl516.slots[((10 : Int32)).toNatClampNeg]? = some (.int p6) := Hs516.at in516 rfl
  refine Go.step (fun _ k => X515.iaload hx (j := (10 : Int32)) (v := (.int p6)) (by rw [e515]; exact Ar516.1) (State.isArrayOf_alike hZ.alike Ar516.2.1) Ar516.2.2 in516 at516 (g := (mkF m 10 #[.val (.ref b73), .val (.int (1 : Int32))] [(.int (10 : Int32)), (.ref b96_134)])) rfl rfl (hb hby d26_10) _ k) ?_
  show Go p e below s _ _ _ T515 (mkF m 11 #[.val (.ref b73), .val (.int (1 : Int32))] [(.int p6)])
  exact Go.retI X515 hx hlk Bd.returns (hb hby d26_11) e515 ⟨rfl, N0, rfl⟩ (by decide) (by decide)

theorem ef_StringLatin1_canEncode_1 (m : MethodId) (x0 : Int32) : entryFrame m #[(.int x0)] 1 = mkF m 0 #[.val (.int x0)] [] := by first | (simp [entryFrame, mkF, argsToLocals, Value.category]; done) | rfl
def Q_StringLatin1_canEncode_1 (Z : State)  (h0 : Heap) (n0 : Nat) (v : Option Value) (h : Heap) (L : List Loc) : Prop := v = some (.int (1 : Int32)) ∧ Fr n0 L ∧ h = h0
set_option maxRecDepth 65536 in
set_option maxHeartbeats 40000000 in
theorem rm_StringLatin1_canEncode_1 (l : Launch) (Z : State) (a0 : Array Value) (hw : ∀ d ∈ tables_1, d.before a0 Z = true) (ws : List Jvm.Cond)  (h0 : Heap) (n0 : Nat) (Z0 : n0 ≤ h0.size) :
    MetFree l xm6 (head1 (Jvm.Cond.code xm6 jdk_43_method_3_code 1 (some .boolean) :: ws) xr17) (fun a U => a = #[(.int (98 : Int32))] ∧ Z.Warmed39 U.vm ∧ U.heap = h0) (fun _ _ _ _ _ => True) (fun _ U o U' => ∃ v L, o = .returned v ∧ Q_StringLatin1_canEncode_1 Z  h0 n0 v U'.heap L ∧ FrameEnd U o U' L xr17.cells xr17.slots) := by
  refine MetFree.of_bodySF (plainFor_of_name pn_6) hisR ?_
  intro p e s m args below meth c s₁ Bd hml0 hP hK
  obtain ⟨rfl, hZ, hh⟩ := hP
  have hx := Bd.exec
  have hby := Bd.bytes
  have hlk : meth.locks = false := BodyLoose.notSynchronized Bd
  have hml : c.maxLocals = 1 := hml0
  have hown : s.vm.findClass xs13 = some m.cls := findClass_of_methodNamed Bd.named
  have hnm := (name_of_methodNamed Bd.named Bd.method).1
  have X0 : Stand p l e xr17 s m #[(.int (98 : Int32))] below meth c s₁ [] 0 0 := Stand.of_body Bd
  have e0 : s₁.heap = h0 := by rw [← hh, Bd.state]; rfl
  have N0 := Fr.nil n0
  show Go p e below s (Q_StringLatin1_canEncode_1 Z  h0 n0) xr17.cells xr17.slots s₁ (entryFrame m #[(.int (98 : Int32))] 1)
  refine Go.cast (ef_StringLatin1_canEncode_1 m (98 : Int32)) ?_
  show Go p e below s _ _ _ s₁ (mkF m 0 #[.val (.int (98 : Int32))] [])
  refine Go.step (fun _ k => XS.iloadN X0.here hx rfl (hb hby d20_0) rfl (XS.sipush X0.here hx rfl (hb hby d20_1) (XS.icmpNo X0.here hx rfl (hb hby d20_4) rfl (flt (by decide)).2.2.1 (XS.iconst X0.here hx rfl (hb hby d20_7) (XS.goto X0.here hx rfl (pc0 := 8) (pc' := 12) rfl (hb hby d20_8) (by decide) (by decide) k))))) ?_
  show Go p e below s _ _ _ s₁ (mkF m 12 #[.val (.int (98 : Int32))] [(.int (1 : Int32))])
  exact Go.retN X0 hx hlk (t := .boolean) Bd.returns (by simp) (hb hby d20_12) e0 ⟨rfl, N0, rfl⟩ (by decide) (by decide)

theorem ef_StringLatin1_toBytes_1 (m : MethodId) (x0 : Int32) : entryFrame m #[(.int x0)] 1 = mkF m 0 #[.val (.int x0)] [] := by first | (simp [entryFrame, mkF, argsToLocals, Value.category]; done) | rfl
def Q_StringLatin1_toBytes_1 (Z : State)  (h0 : Heap) (n0 : Nat) (v : Option Value) (h : Heap) (L : List Loc) : Prop := ∃ (b525 : Addr) (k525 : ClassId), v = some (.ref b525) ∧ Fr n0 L ∧ Keep h0 h [] ∧ h0.size ≤ b525 ∧ Arv Z h b525 k525 .byte (1 : Int32) [(.int (98 : Int32))] (.int (0 : Int32))
set_option maxRecDepth 65536 in
set_option maxHeartbeats 40000000 in
theorem rm_StringLatin1_toBytes_1 (l : Launch) (Z : State) (a0 : Array Value) (hw : ∀ d ∈ tables_1, d.before a0 Z = true) (ws : List Jvm.Cond)  (h0 : Heap) (n0 : Nat) (Z0 : n0 ≤ h0.size) :
    MetFree l xm10 (head1 (Jvm.Cond.code xm10 jdk_43_method_46_code 1 (some (.array .byte)) :: ws) xr18) (fun a U => a = #[(.int (98 : Int32))] ∧ Z.Warmed39 U.vm ∧ U.heap = h0) (fun _ _ _ _ _ => True) (fun _ U o U' => ∃ v L, o = .returned v ∧ Q_StringLatin1_toBytes_1 Z  h0 n0 v U'.heap L ∧ FrameEnd U o U' L xr18.cells xr18.slots) := by
  refine MetFree.of_bodySF (plainFor_of_name pn_6) hisR ?_
  intro p e s m args below meth c s₁ Bd hml0 hP hK
  obtain ⟨rfl, hZ, hh⟩ := hP
  have hx := Bd.exec
  have hby := Bd.bytes
  have hlk : meth.locks = false := BodyLoose.notSynchronized Bd
  have hml : c.maxLocals = 1 := hml0
  have hown : s.vm.findClass xs13 = some m.cls := findClass_of_methodNamed Bd.named
  have hnm := (name_of_methodNamed Bd.named Bd.method).1
  have X0 : Stand p l e xr18 s m #[(.int (98 : Int32))] below meth c s₁ [] 0 0 := Stand.of_body Bd
  have e0 : s₁.heap = h0 := by rw [← hh, Bd.state]; rfl
  have N0 := Fr.nil n0
  show Go p e below s (Q_StringLatin1_toBytes_1 Z  h0 n0) xr18.cells xr18.slots s₁ (entryFrame m #[(.int (98 : Int32))] 1)
  refine Go.cast (ef_StringLatin1_toBytes_1 m (98 : Int32)) ?_
  show Go p e below s _ _ _ s₁ (mkF m 0 #[.val (.int (98 : Int32))] [])
  refine Go.step (fun _ k => XS.iconst X0.here hx rfl (hb hby d21_0) k) ?_
  show Go p e below s _ _ _ s₁ (mkF m 1 #[.val (.int (98 : Int32))] [(.int (1 : Int32))])
  obtain ⟨T525, h525, k525, X525, e525, E525, A525, st525⟩ := newP (aty := .byte) X0 hx hZ (tw19 hw) e0 (g := (mkF m 1 #[.val (.int (98 : Int32))] [(.int (1 : Int32))])) rfl (hb hby d21_1) rfl (by decide) (cap := 1) (by decide) (by decide) (by decide) (by decide)
  obtain ⟨b525, g525⟩ : ∃ z, z = h0.size := ⟨_, rfl⟩
  rw [← g525] at A525 st525
  have f526 : Arv Z h525 b525 k525 .byte (1 : Int32) [(.int (0 : Int32))] (.int (0 : Int32)) := (Arv.new A525 (by decide)).pad (pad_rep [] (.int (0 : Int32)) 1)
  refine Go.step (fun _ k => st525 _ (XS.dup X525.here hx rfl (hb hby d21_3) rfl rfl (XS.iconst X525.here hx rfl (hb hby d21_4) (XS.iloadN X525.here hx rfl (hb hby d21_5) rfl (XS.i2b X525.here hx rfl (hb hby d21_6) rfl k))))) ?_
  show Go p e below s _ _ _ T525 (mkF m 7 #[.val (.int (98 : Int32))] [(.int (98 : Int32)), (.int (0 : Int32)), (.ref b525), (.ref b525)])
  obtain ⟨cl527, Ar527, qq527, Sz527, Ng527, Hs527, Ft527⟩ := id f526
  have in527 : ¬ ((0 : Int32) < 0 ∨ cl527.slots.size ≤ ((0 : Int32)).toNatClampNeg) := (inb_of Sz527 ⟨by decide, by decide⟩)
  obtain ⟨T527, h527, X527, e527, W527, st527⟩ := stB X525 hx hZ e525 Ar527 (j := (0 : Int32)) in527 (g := (mkF m 7 #[.val (.int (98 : Int32))] [(.int (98 : Int32)), (.int (0 : Int32)), (.ref b525), (.ref b525)])) rfl rfl (hb hby d21_7)
  have g528 := Nat.le_trans Z0 (Nat.le_of_eq g525.symm)
  have f529 : Arv Z h527 b525 k525 .byte (1 : Int32) [(.int (98 : Int32))] (.int (0 : Int32)) := Arv.set Ar527 qq527 Sz527 Ng527 Hs527 Ft527 rfl W527 0 rfl (Nat.le_of_ble_eq_true rfl)
  have N530 := Fr.snoc X527 N0 g528
  refine Go.step (fun _ k => st527 _ k) ?_
  show Go p e below s _ _ _ T527 (mkF m 8 #[.val (.int (98 : Int32))] [(.ref b525)])
  have z531 := Nat.le_trans (Nat.le_refl _) (Nat.le_of_eq g525.symm)
  have f532 := (((Keep.refl h0 []).ext E525).wr W527 (Or.inr z531))
  exact Go.retA X527 hx hlk Bd.returns rfl rfl (hb hby d21_8) e527 ⟨b525, k525, rfl, N530, f532, z531, f529⟩ (by decide) (by decide)

theorem ef_String_valueOf_1 (m : MethodId) (x0 : Int32) : entryFrame m #[(.int x0)] 1 = mkF m 0 #[.val (.int x0)] [] := by first | (simp [entryFrame, mkF, argsToLocals, Value.category]; done) | rfl
def Q_String_valueOf_1 (Z : State) (cs : Int32) (h0 : Heap) (n0 : Nat) (v : Option Value) (h : Heap) (L : List Loc) : Prop := ∃ (b522 : Addr) (b525_534 : Addr) (k525_534 : ClassId), v = some (.ref b522) ∧ Fr n0 L ∧ Keep h0 h [] ∧ h0.size ≤ b522 ∧ Exa Z h b522 xs23 ∧ Fld Z h b522 xs23 "coder" "B" (.int (0 : Int32)) ∧ Fld Z h b522 xs23 "value" "[B" (.ref b525_534) ∧ h0.size ≤ b525_534 ∧ Arv Z h b525_534 k525_534 .byte (1 : Int32) [(.int (98 : Int32))] (.int (0 : Int32)) ∧ b522 ≠ b525_534
set_option maxRecDepth 65536 in
set_option maxHeartbeats 40000000 in
theorem rm_String_valueOf_1 (l : Launch) (Z : State) (a0 : Array Value) (hw : ∀ d ∈ tables_1, d.before a0 Z = true) (ws : List Jvm.Cond) (cs : Int32) (h0 : Heap) (n0 : Nat) (Z0 : n0 ≤ h0.size) (Z_S_COMPACT_STRINGS : Sta Z Z.heap xs23 xs24 "Z" (.int cs)) (O0 : Old Z n0 h0) (hcs : ¬ cs = (0 : Int32)) :
    MetFree l xm20 (head1 (Jvm.Cond.code xm20 jdk_42_method_139_code 1 (some (.object xs23)) :: ws) xr12) (fun a U => a = #[(.int (98 : Int32))] ∧ Z.Warmed39 U.vm ∧ U.heap = h0) (fun _ _ _ _ _ => True) (fun _ U o U' => ∃ v L, o = .returned v ∧ Q_String_valueOf_1 Z cs h0 n0 v U'.heap L ∧ FrameEnd U o U' L xr12.cells xr12.slots) := by
  refine MetFree.of_bodySF (plainFor_of_name pn_1) hisR ?_
  intro p e s m args below meth c s₁ Bd hml0 hP hK
  obtain ⟨rfl, hZ, hh⟩ := hP
  have hx := Bd.exec
  have hby := Bd.bytes
  have hlk : meth.locks = false := BodyLoose.notSynchronized Bd
  have hml : c.maxLocals = 1 := hml0
  have hown : s.vm.findClass xs23 = some m.cls := findClass_of_methodNamed Bd.named
  have hnm := (name_of_methodNamed Bd.named Bd.method).1
  have X0 : Stand p l e xr12 s m #[(.int (98 : Int32))] below meth c s₁ [] 0 0 := Stand.of_body Bd
  have e0 : s₁.heap = h0 := by rw [← hh, Bd.state]; rfl
  have N0 := Fr.nil n0
  show Go p e below s (Q_String_valueOf_1 Z cs h0 n0) xr12.cells xr12.slots s₁ (entryFrame m #[(.int (98 : Int32))] 1)
  refine Go.cast (ef_String_valueOf_1 m (98 : Int32)) ?_
  show Go p e below s _ _ _ s₁ (mkF m 0 #[.val (.int (98 : Int32))] [])
  obtain ⟨T519, X519, e519, st519⟩ := getS2 X0 hx hZ hown (host := "") (Or.inl (tw14 hw)) Via.refl e0 (Z_S_COMPACT_STRINGS.ext O0.2) (g := (mkF m 0 #[.val (.int (98 : Int32))] [])) rfl (hb hby d19_0)
  refine Go.step (fun _ k => st519 _ (XS.ifNo X519.here hx rfl (hb hby d19_3) rfl ((if0 _ _).trans (feq hcs).1) (XS.iloadN X519.here hx rfl (hb hby d19_6) rfl k))) ?_
  show Go p e below s _ _ _ T519 (mkF m 7 #[.val (.int (98 : Int32))] [(.int (98 : Int32))])
  obtain ⟨_, _, ⟨T520, L520, k520, n520⟩, -, X520, ⟨Lc520, hQ520, l520, y520, z520⟩, st520⟩ := Jvm.LawKit.callS X519 hx (y := xm6) hown (mvT hZ (tw109 hw)) (mvT hZ (tw110 hw)) (mvT hZ (tw90 hw)) (mvT hZ (tw111 hw)) (by decide) (backOf (W := 0) (rm_StringLatin1_canEncode_1 l Z a0 hw []  h0 n0 Z0) hZ (tw111 hw) (tw90 hw) (by decide) (by decide)) (g := (mkF m 7 #[.val (.int (98 : Int32))] [(.int (98 : Int32))])) rfl (by rw [hml]; rfl) (argsL := [(.int (98 : Int32))]) (rest := []) (lenOf pd_17 rfl) rfl (by show 2 * 0 + _ ≤ _; exact Nat.le_of_eq rfl) (hb hby d19_7) (fun _ _ => ⟨rfl, e519, (by decide : 0 + 0 ≤ _), (by decide : 0 + 0 ≤ _)⟩)
  dsimp only [Pt.U, Pt.locs, Pt.cells, Pt.slots] at X520 l520 y520 z520 st520 hQ520
  subst l520 y520 z520
  obtain ⟨rfl, N520q, eq520⟩ := hQ520
  have N521 := Fr.app N0 N520q
  refine Go.step (fun _ k => st520 _ (XS.ifNo X520.here hx rfl (hb hby d19_10) rfl ((if0 _ _).trans (feq (by decide)).1) k)) ?_
  show Go p e below s _ _ _ T520 (mkF m 13 #[.val (.int (98 : Int32))] [])
  obtain ⟨T522, h522, X522, e522, E522, A522, D522, -, st522⟩ := newO X520 hx hZ hown (tw112 hw) (tw2 hw) (tw3 hw) eq520 (g := (mkF m 13 #[.val (.int (98 : Int32))] [])) rfl (hb hby d19_13) (by decide) (by decide)
  obtain ⟨b522, g522⟩ : ∃ z, z = h0.size := ⟨_, rfl⟩
  rw [← g522] at A522 D522 st522
  have f523 : Fld Z h522 b522 xs23 "coder" "B" (.int (0 : Int32)) := D522 (Or.inr (tw27 hw)) (ty := .byte) (by decide)
  have f524 : Fld Z h522 b522 xs23 "value" "[B" .null := D522 (Or.inr (tw29 hw)) (ty := (.array .byte)) (by decide)
  refine Go.step (fun _ k => st522 _ (XS.dup X522.here hx rfl (hb hby d19_16) rfl rfl (XS.iloadN X522.here hx rfl (hb hby d19_17) rfl k))) ?_
  show Go p e below s _ _ _ T522 (mkF m 18 #[.val (.int (98 : Int32))] [(.int (98 : Int32)), (.ref b522), (.ref b522)])
  have f533 := (Nat.le_trans Z0 E522.1)
  obtain ⟨_, _, ⟨T534, L534, k534, n534⟩, -, X534, ⟨Lc534, hQ534, l534, y534, z534⟩, st534⟩ := Jvm.LawKit.callS X522 hx (y := xm10) hown (mvT hZ (tw113 hw)) (mvT hZ (tw114 hw)) (mvT hZ (tw90 hw)) (mvT hZ (tw115 hw)) (by decide) (backOf (W := 2) (rm_StringLatin1_toBytes_1 l Z a0 hw []  h522 n0 f533) hZ (tw115 hw) (tw90 hw) (by decide) (by decide)) (g := (mkF m 18 #[.val (.int (98 : Int32))] [(.int (98 : Int32)), (.ref b522), (.ref b522)])) rfl (by rw [hml]; rfl) (argsL := [(.int (98 : Int32))]) (rest := [(.ref b522), (.ref b522)]) (lenOf pd_18 rfl) rfl (by show 2 * 0 + _ ≤ _; exact Nat.le_of_eq rfl) (hb hby d19_18) (fun _ _ => ⟨rfl, e522, (by decide : 1 + 1 ≤ _), (by decide : 4 + 1 ≤ _)⟩)
  dsimp only [Pt.U, Pt.locs, Pt.cells, Pt.slots] at X534 l534 y534 z534 st534 hQ534
  subst l534 y534 z534
  obtain ⟨b525_534, k525_534, rfl, N534q, K534, P534_0, P534_1⟩ := hQ534
  have N535 := Fr.app N521 N534q
  refine Go.step (fun _ k => st534 _ (XS.iconst X534.here hx rfl (hb hby d19_21) k)) ?_
  show Go p e below s _ _ _ T534 (mkF m 22 #[.val (.int (98 : Int32))] [(.int (0 : Int32)), (.ref b525_534), (.ref b522), (.ref b522)])
  have f536 := (Nat.le_trans f533 K534.1)
  have f537 := (A522.keep K534)
  have f538 := (f524.keep K534 nin0)
  have g539 := Nat.le_trans Z0 (Nat.le_of_eq g522.symm)
  have f540 := (f523.keep K534 nin0)
  obtain ⟨_, _, ⟨T541, L541, k541, n541⟩, -, X541, ⟨Lc541, hQ541, l541, y541, z541⟩, st541⟩ := X534.specialBack hx (y := xm11) rfl hown (mvT hZ (tw116 hw)) (mvT hZ (tw117 hw)) (mvT hZ (tw118 hw)) (by decide) (backOf (W := 1) (rm_String_new_2 l Z a0 hw [] b522 b525_534 T534.heap n0 f536 f537 f538 g539 f540) hZ (tw118 hw) (tw3 hw) (by decide) (by decide)) (g := (mkF m 22 #[.val (.int (98 : Int32))] [(.int (0 : Int32)), (.ref b525_534), (.ref b522), (.ref b522)])) rfl (by rw [hml]; rfl) (Steps.refl _) (a := b522) (argsL := [(.ref b525_534), (.int (0 : Int32))]) (rest := [(.ref b522)]) (lenOf pd_19 rfl) rfl (by show 2 * 0 + _ ≤ _; exact Nat.le_of_eq rfl) (hb hby d19_22) (fun _ _ => ⟨rfl, rfl, (by decide : 2 + 0 ≤ _), (by decide : 5 + 0 ≤ _)⟩)
  dsimp only [Pt.U, Pt.locs, Pt.cells, Pt.slots] at X541 l541 y541 z541 st541 hQ541
  subst l541 y541 z541
  obtain ⟨rfl, N541q, K541, P541_0, P541_1⟩ := hQ541
  have N542 := Fr.app N535 N541q
  refine Go.step (fun _ k => st541.trans k) ?_
  show Go p e below s _ _ _ T541 (mkF m 25 #[.val (.int (98 : Int32))] [(.ref b522)])
  have z543 := Nat.le_trans (Nat.le_refl _) (Nat.le_of_eq g522.symm)
  have f544 := ((((Keep.refl h0 []).ext E522).trans K534 all0).trans K541 (allS (Or.inr z543) all0))
  have f545 := (f537.keep K541)
  have f546 := (Nat.le_trans (Nat.le_refl _) E522.1)
  have z547 := Nat.le_trans f546 P534_0
  have ne548 : b522 ≠ b525_534 := Nat.ne_of_lt (Nat.lt_of_lt_of_le A522.lt P534_0)
  have f549 := (P534_1.keep K541 (ninS (Ne.symm ne548) nin0))
  exact Go.retA X541 hx hlk Bd.returns rfl rfl (hb hby d19_25) rfl ⟨b522, b525_534, k525_534, rfl, N542, f544, z543, f545, P541_1, P541_0, z547, f549, ne548⟩ (by decide) (by decide)

theorem ef_PropertyIndex_replace_1 (m : MethodId) (x0 : Addr) (x1 : Int32) (x2 : Int32) (x3 : Int32) (x4 : Int32) : entryFrame m #[(.ref x0), (.int x1), (.int x2), (.int x3), (.int x4)] 6 = mkF m 0 #[.val (.ref x0), .val (.int x1), .val (.int x2), .val (.int x3), .val (.int x4), .unset] [] := by first | (simp [entryFrame, mkF, argsToLocals, Value.category]; done) | rfl
def Q_PropertyIndex_replace_1 (Z : State) (b73 : Addr) (p2 : Int32) (p3 : Int32) (p4 : Int32) (b96_134 : Addr) (k96_134 : ClassId) (p5 : Int32) (p6 : Int32) (h0 : Heap) (n0 : Nat) (v : Option Value) (h : Heap) (L : List Loc) : Prop := v = none ∧ Fr n0 L ∧ Keep h0 h [b96_134] ∧ Arv Z h b96_134 k96_134 .int (12 : Int32) [(.int (0 : Int32)), (.int (1 : Int32)), (.int p5), (.int p6), (.int p5), (.int (97 : Int32)), (.int (1 : Int32)), (.int (2 : Int32)), (.int p2), (.int p3), (.int p4), (.int (98 : Int32))] (.int (0 : Int32))
set_option maxRecDepth 65536 in
set_option maxHeartbeats 40000000 in
theorem rm_PropertyIndex_replace_1 (l : Launch) (Z : State) (a0 : Array Value) (hw : ∀ d ∈ tables_1, d.before a0 Z = true) (ws : List Jvm.Cond) (b73 : Addr) (p2 : Int32) (p3 : Int32) (p4 : Int32) (b96_134 : Addr) (k96_134 : ClassId) (p5 : Int32) (p6 : Int32) (h0 : Heap) (n0 : Nat) (Z0 : n0 ≤ h0.size) (F_entries_b73 : Fld Z h0 b73 xs1 "entries" "[I" (.ref b96_134)) (V_b96_134 : Arv Z h0 b96_134 k96_134 .int (12 : Int32) [(.int (0 : Int32)), (.int (1 : Int32)), (.int p5), (.int p6), (.int p5), (.int (97 : Int32)), (.int (1 : Int32)), (.int (2 : Int32)), (.int p6), (.int p5), (.int p6), (.int (98 : Int32))] (.int (0 : Int32))) (g_b96_134 : n0 ≤ b96_134) (ne_b73_b96_134 : b73 ≠ b96_134) :
    MetFree l xm7 (head1 (Jvm.Cond.code xm7 prog_15_method_5_code 6 none :: ws) xr17) (fun a U => a = #[(.ref b73), (.int (1 : Int32)), (.int p2), (.int p3), (.int p4)] ∧ Z.Warmed39 U.vm ∧ U.heap = h0) (fun _ _ _ _ _ => True) (fun _ U o U' => ∃ v L, o = .returned v ∧ Q_PropertyIndex_replace_1 Z b73 p2 p3 p4 b96_134 k96_134 p5 p6 h0 n0 v U'.heap L ∧ FrameEnd U o U' L xr17.cells xr17.slots) := by
  refine MetFree.of_bodySF (plainFor_of_name pn_5) hisR ?_
  intro p e s m args below meth c s₁ Bd hml0 hP hK
  obtain ⟨rfl, hZ, hh⟩ := hP
  have hx := Bd.exec
  have hby := Bd.bytes
  have hlk : meth.locks = false := BodyLoose.notSynchronized Bd
  have hml : c.maxLocals = 6 := hml0
  have hown : s.vm.findClass xs1 = some m.cls := findClass_of_methodNamed Bd.named
  have hnm := (name_of_methodNamed Bd.named Bd.method).1
  have X0 : Stand p l e xr17 s m #[(.ref b73), (.int (1 : Int32)), (.int p2), (.int p3), (.int p4)] below meth c s₁ [] 0 0 := Stand.of_body Bd
  have e0 : s₁.heap = h0 := by rw [← hh, Bd.state]; rfl
  have N0 := Fr.nil n0
  show Go p e below s (Q_PropertyIndex_replace_1 Z b73 p2 p3 p4 b96_134 k96_134 p5 p6 h0 n0) xr17.cells xr17.slots s₁ (entryFrame m #[(.ref b73), (.int (1 : Int32)), (.int p2), (.int p3), (.int p4)] 6)
  refine Go.cast (ef_PropertyIndex_replace_1 m b73 (1 : Int32) p2 p3 p4) ?_
  show Go p e below s _ _ _ s₁ (mkF m 0 #[.val (.ref b73), .val (.int (1 : Int32)), .val (.int p2), .val (.int p3), .val (.int p4), .unset] [])
  refine Go.step (fun _ k => XS.iloadN X0.here hx rfl (hb hby d23_0) rfl (XS.bipush X0.here hx rfl (hb hby d23_1) (XS.imul X0.here hx rfl (hb hby d23_3) rfl (XS.istore X0.here hx rfl (hb hby d23_4) rfl (l' := #[.val (.ref b73), .val (.int (1 : Int32)), .val (.int p2), .val (.int p3), .val (.int p4), .val (.int (6 : Int32))]) rfl (XS.aloadN X0.here hx rfl (hb hby d23_6) rfl rfl k))))) ?_
  show Go p e below s _ _ _ s₁ (mkF m 7 #[.val (.ref b73), .val (.int (1 : Int32)), .val (.int p2), .val (.int p3), .val (.int p4), .val (.int (6 : Int32))] [(.ref b73)])
  obtain ⟨T554, X554, e554, st554⟩ := getF X0 hx hZ hown (host := "") (Or.inl (tw51 hw)) Via.refl e0 F_entries_b73 (g := (mkF m 7 #[.val (.ref b73), .val (.int (1 : Int32)), .val (.int p2), .val (.int p3), .val (.int p4), .val (.int (6 : Int32))] [(.ref b73)])) rfl rfl (hb hby d23_7)
  refine Go.step (fun _ k => st554 _ (XS.iload X554.here hx rfl (hb hby d23_10) rfl (XS.iconst X554.here hx rfl (hb hby d23_12) (XS.iadd X554.here hx rfl (hb hby d23_13) rfl (XS.iloadN X554.here hx rfl (hb hby d23_14) rfl k))))) ?_
  show Go p e below s _ _ _ T554 (mkF m 15 #[.val (.ref b73), .val (.int (1 : Int32)), .val (.int p2), .val (.int p3), .val (.int p4), .val (.int (6 : Int32))] [(.int p2), (.int (8 : Int32)), (.ref b96_134)])
  obtain ⟨cl555, Ar555, qq555, Sz555, Ng555, Hs555, Ft555⟩ := id V_b96_134
  have in555 : ¬ ((8 : Int32) < 0 ∨ cl555.slots.size ≤ ((8 : Int32)).toNatClampNeg) := (inb_of Sz555 ⟨by decide, by decide⟩)
  obtain ⟨T555, h555, X555, e555, W555, st555⟩ := stI X554 hx hZ e554 Ar555 (j := (8 : Int32)) in555 (g := (mkF m 15 #[.val (.ref b73), .val (.int (1 : Int32)), .val (.int p2), .val (.int p3), .val (.int p4), .val (.int (6 : Int32))] [(.int p2), (.int (8 : Int32)), (.ref b96_134)])) rfl rfl (hb hby d23_15)
  have f556 : Arv Z h555 b96_134 k96_134 .int (12 : Int32) [(.int (0 : Int32)), (.int (1 : Int32)), (.int p5), (.int p6), (.int p5), (.int (97 : Int32)), (.int (1 : Int32)), (.int (2 : Int32)), (.int p2), (.int p5), (.int p6), (.int (98 : Int32))] (.int (0 : Int32)) := Arv.set Ar555 qq555 Sz555 Ng555 Hs555 Ft555 rfl W555 8 rfl (Nat.le_of_ble_eq_true rfl)
  have N557 := Fr.snoc X555 N0 g_b96_134
  refine Go.step (fun _ k => st555 _ (XS.aloadN X555.here hx rfl (hb hby d23_16) rfl rfl k)) ?_
  show Go p e below s _ _ _ T555 (mkF m 17 #[.val (.ref b73), .val (.int (1 : Int32)), .val (.int p2), .val (.int p3), .val (.int p4), .val (.int (6 : Int32))] [(.ref b73)])
  have f558 := (F_entries_b73.other W555 (Or.inl ne_b73_b96_134))
  obtain ⟨T559, X559, e559, st559⟩ := getF X555 hx hZ hown (host := "") (Or.inl (tw51 hw)) Via.refl e555 f558 (g := (mkF m 17 #[.val (.ref b73), .val (.int (1 : Int32)), .val (.int p2), .val (.int p3), .val (.int p4), .val (.int (6 : Int32))] [(.ref b73)])) rfl rfl (hb hby d23_17)
  refine Go.step (fun _ k => st559 _ (XS.iload X559.here hx rfl (hb hby d23_20) rfl (XS.iconst X559.here hx rfl (hb hby d23_22) (XS.iadd X559.here hx rfl (hb hby d23_23) rfl (XS.iloadN X559.here hx rfl (hb hby d23_24) rfl k))))) ?_
  show Go p e below s _ _ _ T559 (mkF m 25 #[.val (.ref b73), .val (.int (1 : Int32)), .val (.int p2), .val (.int p3), .val (.int p4), .val (.int (6 : Int32))] [(.int p3), (.int (9 : Int32)), (.ref b96_134)])
  obtain ⟨cl560, Ar560, qq560, Sz560, Ng560, Hs560, Ft560⟩ := id f556
  have in560 : ¬ ((9 : Int32) < 0 ∨ cl560.slots.size ≤ ((9 : Int32)).toNatClampNeg) := (inb_of Sz560 ⟨by decide, by decide⟩)
  obtain ⟨T560, h560, X560, e560, W560, st560⟩ := stI X559 hx hZ e559 Ar560 (j := (9 : Int32)) in560 (g := (mkF m 25 #[.val (.ref b73), .val (.int (1 : Int32)), .val (.int p2), .val (.int p3), .val (.int p4), .val (.int (6 : Int32))] [(.int p3), (.int (9 : Int32)), (.ref b96_134)])) rfl rfl (hb hby d23_25)
  have f561 : Arv Z h560 b96_134 k96_134 .int (12 : Int32) [(.int (0 : Int32)), (.int (1 : Int32)), (.int p5), (.int p6), (.int p5), (.int (97 : Int32)), (.int (1 : Int32)), (.int (2 : Int32)), (.int p2), (.int p3), (.int p6), (.int (98 : Int32))] (.int (0 : Int32)) := Arv.set Ar560 qq560 Sz560 Ng560 Hs560 Ft560 rfl W560 9 rfl (Nat.le_of_ble_eq_true rfl)
  have N562 := Fr.snoc X560 N557 g_b96_134
  refine Go.step (fun _ k => st560 _ (XS.aloadN X560.here hx rfl (hb hby d23_26) rfl rfl k)) ?_
  show Go p e below s _ _ _ T560 (mkF m 27 #[.val (.ref b73), .val (.int (1 : Int32)), .val (.int p2), .val (.int p3), .val (.int p4), .val (.int (6 : Int32))] [(.ref b73)])
  have f563 := (f558.other W560 (Or.inl ne_b73_b96_134))
  obtain ⟨T564, X564, e564, st564⟩ := getF X560 hx hZ hown (host := "") (Or.inl (tw51 hw)) Via.refl e560 f563 (g := (mkF m 27 #[.val (.ref b73), .val (.int (1 : Int32)), .val (.int p2), .val (.int p3), .val (.int p4), .val (.int (6 : Int32))] [(.ref b73)])) rfl rfl (hb hby d23_27)
  refine Go.step (fun _ k => st564 _ (XS.iload X564.here hx rfl (hb hby d23_30) rfl (XS.iconst X564.here hx rfl (hb hby d23_32) (XS.iadd X564.here hx rfl (hb hby d23_33) rfl (XS.iload X564.here hx rfl (hb hby d23_34) rfl k))))) ?_
  show Go p e below s _ _ _ T564 (mkF m 36 #[.val (.ref b73), .val (.int (1 : Int32)), .val (.int p2), .val (.int p3), .val (.int p4), .val (.int (6 : Int32))] [(.int p4), (.int (10 : Int32)), (.ref b96_134)])
  obtain ⟨cl565, Ar565, qq565, Sz565, Ng565, Hs565, Ft565⟩ := id f561
  have in565 : ¬ ((10 : Int32) < 0 ∨ cl565.slots.size ≤ ((10 : Int32)).toNatClampNeg) := (inb_of Sz565 ⟨by decide, by decide⟩)
  obtain ⟨T565, h565, X565, e565, W565, st565⟩ := stI X564 hx hZ e564 Ar565 (j := (10 : Int32)) in565 (g := (mkF m 36 #[.val (.ref b73), .val (.int (1 : Int32)), .val (.int p2), .val (.int p3), .val (.int p4), .val (.int (6 : Int32))] [(.int p4), (.int (10 : Int32)), (.ref b96_134)])) rfl rfl (hb hby d23_36)
  have f566 : Arv Z h565 b96_134 k96_134 .int (12 : Int32) [(.int (0 : Int32)), (.int (1 : Int32)), (.int p5), (.int p6), (.int p5), (.int (97 : Int32)), (.int (1 : Int32)), (.int (2 : Int32)), (.int p2), (.int p3), (.int p4), (.int (98 : Int32))] (.int (0 : Int32)) := Arv.set Ar565 qq565 Sz565 Ng565 Hs565 Ft565 rfl W565 10 rfl (Nat.le_of_ble_eq_true rfl)
  have N567 := Fr.snoc X565 N562 g_b96_134
  refine Go.step (fun _ k => st565 _ k) ?_
  show Go p e below s _ _ _ T565 (mkF m 37 #[.val (.ref b73), .val (.int (1 : Int32)), .val (.int p2), .val (.int p3), .val (.int p4), .val (.int (6 : Int32))] [])
  have f568 := ((((Keep.refl h0 [b96_134]).wr W555 (Or.inl (List.mem_of_getElem? (i := 0) rfl))).wr W560 (Or.inl (List.mem_of_getElem? (i := 0) rfl))).wr W565 (Or.inl (List.mem_of_getElem? (i := 0) rfl)))
  exact Go.retV X565 hx hlk Bd.returns (hb hby d23_37) e565 ⟨rfl, N567, f568, f566⟩ (by decide) (by decide)

theorem ef_PropertyIndex_valueStart_2 (m : MethodId) (x0 : Addr) (x1 : Int32) : entryFrame m #[(.ref x0), (.int x1)] 2 = mkF m 0 #[.val (.ref x0), .val (.int x1)] [] := by first | (simp [entryFrame, mkF, argsToLocals, Value.category]; done) | rfl
def Q_PropertyIndex_valueStart_2 (Z : State) (b73 : Addr) (b96_134 : Addr) (k96_134 : ClassId) (p5 : Int32) (p6 : Int32) (p2 : Int32) (p3 : Int32) (p4 : Int32) (h0 : Heap) (n0 : Nat) (v : Option Value) (h : Heap) (L : List Loc) : Prop := v = some (.int p2) ∧ Fr n0 L ∧ h = h0
set_option maxRecDepth 65536 in
set_option maxHeartbeats 40000000 in
theorem rm_PropertyIndex_valueStart_2 (l : Launch) (Z : State) (a0 : Array Value) (hw : ∀ d ∈ tables_1, d.before a0 Z = true) (ws : List Jvm.Cond) (b73 : Addr) (b96_134 : Addr) (k96_134 : ClassId) (p5 : Int32) (p6 : Int32) (p2 : Int32) (p3 : Int32) (p4 : Int32) (h0 : Heap) (n0 : Nat) (Z0 : n0 ≤ h0.size) (F_entries_b73 : Fld Z h0 b73 xs1 "entries" "[I" (.ref b96_134)) (V_b96_134 : Arv Z h0 b96_134 k96_134 .int (12 : Int32) [(.int (0 : Int32)), (.int (1 : Int32)), (.int p5), (.int p6), (.int p5), (.int (97 : Int32)), (.int (1 : Int32)), (.int (2 : Int32)), (.int p2), (.int p3), (.int p4), (.int (98 : Int32))] (.int (0 : Int32))) :
    MetFree l xm8 (head1 (Jvm.Cond.code xm8 prog_15_method_19_code 2 (some .int) :: ws) xr17) (fun a U => a = #[(.ref b73), (.int (1 : Int32))] ∧ Z.Warmed39 U.vm ∧ U.heap = h0) (fun _ _ _ _ _ => True) (fun _ U o U' => ∃ v L, o = .returned v ∧ Q_PropertyIndex_valueStart_2 Z b73 b96_134 k96_134 p5 p6 p2 p3 p4 h0 n0 v U'.heap L ∧ FrameEnd U o U' L xr17.cells xr17.slots) := by
  refine MetFree.of_bodySF (plainFor_of_name pn_5) hisR ?_
  intro p e s m args below meth c s₁ Bd hml0 hP hK
  obtain ⟨rfl, hZ, hh⟩ := hP
  have hx := Bd.exec
  have hby := Bd.bytes
  have hlk : meth.locks = false := BodyLoose.notSynchronized Bd
  have hml : c.maxLocals = 2 := hml0
  have hown : s.vm.findClass xs1 = some m.cls := findClass_of_methodNamed Bd.named
  have hnm := (name_of_methodNamed Bd.named Bd.method).1
  have X0 : Stand p l e xr17 s m #[(.ref b73), (.int (1 : Int32))] below meth c s₁ [] 0 0 := Stand.of_body Bd
  have e0 : s₁.heap = h0 := by rw [← hh, Bd.state]; rfl
  have N0 := Fr.nil n0
  show Go p e below s (Q_PropertyIndex_valueStart_2 Z b73 b96_134 k96_134 p5 p6 p2 p3 p4 h0 n0) xr17.cells xr17.slots s₁ (entryFrame m #[(.ref b73), (.int (1 : Int32))] 2)
  refine Go.cast (ef_PropertyIndex_valueStart_2 m b73 (1 : Int32)) ?_
  show Go p e below s _ _ _ s₁ (mkF m 0 #[.val (.ref b73), .val (.int (1 : Int32))] [])
  refine Go.step (fun _ k => XS.aloadN X0.here hx rfl (hb hby d24_0) rfl rfl k) ?_
  show Go p e below s _ _ _ s₁ (mkF m 1 #[.val (.ref b73), .val (.int (1 : Int32))] [(.ref b73)])
  obtain ⟨T575, X575, e575, st575⟩ := getF X0 hx hZ hown (host := "") (Or.inl (tw51 hw)) Via.refl e0 F_entries_b73 (g := (mkF m 1 #[.val (.ref b73), .val (.int (1 : Int32))] [(.ref b73)])) rfl rfl (hb hby d24_1)
  refine Go.step (fun _ k => st575 _ (XS.iloadN X575.here hx rfl (hb hby d24_4) rfl (XS.bipush X575.here hx rfl (hb hby d24_5) (XS.imul X575.here hx rfl (hb hby d24_7) rfl (XS.iconst X575.here hx rfl (hb hby d24_8) (XS.iadd X575.here hx rfl (hb hby d24_9) rfl k)))))) ?_
  show Go p e below s _ _ _ T575 (mkF m 10 #[.val (.ref b73), .val (.int (1 : Int32))] [(.int (8 : Int32)), (.ref b96_134)])
  obtain ⟨cl576, Ar576, -, Sz576, Ng576, Hs576, Ft576⟩ := id V_b96_134
  have in576 : ¬ ((8 : Int32) < 0 ∨ cl576.slots.size ≤ ((8 : Int32)).toNatClampNeg) := (inb_of Sz576 ⟨by decide, by decide⟩)
  have at576 : cl576.slots[((8 : Int32)).toNatClampNeg]? = some (.int p2) := Hs576.at in576 rfl
  refine Go.step (fun _ k => X575.iaload hx (j := (8 : Int32)) (v := (.int p2)) (by rw [e575]; exact Ar576.1) (State.isArrayOf_alike hZ.alike Ar576.2.1) Ar576.2.2 in576 at576 (g := (mkF m 10 #[.val (.ref b73), .val (.int (1 : Int32))] [(.int (8 : Int32)), (.ref b96_134)])) rfl rfl (hb hby d24_10) _ k) ?_
  show Go p e below s _ _ _ T575 (mkF m 11 #[.val (.ref b73), .val (.int (1 : Int32))] [(.int p2)])
  exact Go.retI X575 hx hlk Bd.returns (hb hby d24_11) e575 ⟨rfl, N0, rfl⟩ (by decide) (by decide)

theorem ef_PropertyIndex_valueEnd_2 (m : MethodId) (x0 : Addr) (x1 : Int32) : entryFrame m #[(.ref x0), (.int x1)] 2 = mkF m 0 #[.val (.ref x0), .val (.int x1)] [] := by first | (simp [entryFrame, mkF, argsToLocals, Value.category]; done) | rfl
def Q_PropertyIndex_valueEnd_2 (Z : State) (b73 : Addr) (b96_134 : Addr) (k96_134 : ClassId) (p5 : Int32) (p6 : Int32) (p2 : Int32) (p3 : Int32) (p4 : Int32) (h0 : Heap) (n0 : Nat) (v : Option Value) (h : Heap) (L : List Loc) : Prop := v = some (.int p3) ∧ Fr n0 L ∧ h = h0
set_option maxRecDepth 65536 in
set_option maxHeartbeats 40000000 in
theorem rm_PropertyIndex_valueEnd_2 (l : Launch) (Z : State) (a0 : Array Value) (hw : ∀ d ∈ tables_1, d.before a0 Z = true) (ws : List Jvm.Cond) (b73 : Addr) (b96_134 : Addr) (k96_134 : ClassId) (p5 : Int32) (p6 : Int32) (p2 : Int32) (p3 : Int32) (p4 : Int32) (h0 : Heap) (n0 : Nat) (Z0 : n0 ≤ h0.size) (F_entries_b73 : Fld Z h0 b73 xs1 "entries" "[I" (.ref b96_134)) (V_b96_134 : Arv Z h0 b96_134 k96_134 .int (12 : Int32) [(.int (0 : Int32)), (.int (1 : Int32)), (.int p5), (.int p6), (.int p5), (.int (97 : Int32)), (.int (1 : Int32)), (.int (2 : Int32)), (.int p2), (.int p3), (.int p4), (.int (98 : Int32))] (.int (0 : Int32))) :
    MetFree l xm14 (head1 (Jvm.Cond.code xm14 prog_15_method_20_code 2 (some .int) :: ws) xr17) (fun a U => a = #[(.ref b73), (.int (1 : Int32))] ∧ Z.Warmed39 U.vm ∧ U.heap = h0) (fun _ _ _ _ _ => True) (fun _ U o U' => ∃ v L, o = .returned v ∧ Q_PropertyIndex_valueEnd_2 Z b73 b96_134 k96_134 p5 p6 p2 p3 p4 h0 n0 v U'.heap L ∧ FrameEnd U o U' L xr17.cells xr17.slots) := by
  refine MetFree.of_bodySF (plainFor_of_name pn_5) hisR ?_
  intro p e s m args below meth c s₁ Bd hml0 hP hK
  obtain ⟨rfl, hZ, hh⟩ := hP
  have hx := Bd.exec
  have hby := Bd.bytes
  have hlk : meth.locks = false := BodyLoose.notSynchronized Bd
  have hml : c.maxLocals = 2 := hml0
  have hown : s.vm.findClass xs1 = some m.cls := findClass_of_methodNamed Bd.named
  have hnm := (name_of_methodNamed Bd.named Bd.method).1
  have X0 : Stand p l e xr17 s m #[(.ref b73), (.int (1 : Int32))] below meth c s₁ [] 0 0 := Stand.of_body Bd
  have e0 : s₁.heap = h0 := by rw [← hh, Bd.state]; rfl
  have N0 := Fr.nil n0
  show Go p e below s (Q_PropertyIndex_valueEnd_2 Z b73 b96_134 k96_134 p5 p6 p2 p3 p4 h0 n0) xr17.cells xr17.slots s₁ (entryFrame m #[(.ref b73), (.int (1 : Int32))] 2)
  refine Go.cast (ef_PropertyIndex_valueEnd_2 m b73 (1 : Int32)) ?_
  show Go p e below s _ _ _ s₁ (mkF m 0 #[.val (.ref b73), .val (.int (1 : Int32))] [])
  refine Go.step (fun _ k => XS.aloadN X0.here hx rfl (hb hby d25_0) rfl rfl k) ?_
  show Go p e below s _ _ _ s₁ (mkF m 1 #[.val (.ref b73), .val (.int (1 : Int32))] [(.ref b73)])
  obtain ⟨T582, X582, e582, st582⟩ := getF X0 hx hZ hown (host := "") (Or.inl (tw51 hw)) Via.refl e0 F_entries_b73 (g := (mkF m 1 #[.val (.ref b73), .val (.int (1 : Int32))] [(.ref b73)])) rfl rfl (hb hby d25_1)
  refine Go.step (fun _ k => st582 _ (XS.iloadN X582.here hx rfl (hb hby d25_4) rfl (XS.bipush X582.here hx rfl (hb hby d25_5) (XS.imul X582.here hx rfl (hb hby d25_7) rfl (XS.iconst X582.here hx rfl (hb hby d25_8) (XS.iadd X582.here hx rfl (hb hby d25_9) rfl k)))))) ?_
  show Go p e below s _ _ _ T582 (mkF m 10 #[.val (.ref b73), .val (.int (1 : Int32))] [(.int (9 : Int32)), (.ref b96_134)])
  obtain ⟨cl583, Ar583, -, Sz583, Ng583, Hs583, Ft583⟩ := id V_b96_134
  have in583 : ¬ ((9 : Int32) < 0 ∨ cl583.slots.size ≤ ((9 : Int32)).toNatClampNeg) := (inb_of Sz583 ⟨by decide, by decide⟩)
  have at583 : cl583.slots[((9 : Int32)).toNatClampNeg]? = some (.int p3) := Hs583.at in583 rfl
  refine Go.step (fun _ k => X582.iaload hx (j := (9 : Int32)) (v := (.int p3)) (by rw [e582]; exact Ar583.1) (State.isArrayOf_alike hZ.alike Ar583.2.1) Ar583.2.2 in583 at583 (g := (mkF m 10 #[.val (.ref b73), .val (.int (1 : Int32))] [(.int (9 : Int32)), (.ref b96_134)])) rfl rfl (hb hby d25_10) _ k) ?_
  show Go p e below s _ _ _ T582 (mkF m 11 #[.val (.ref b73), .val (.int (1 : Int32))] [(.int p3)])
  exact Go.retI X582 hx hlk Bd.returns (hb hby d25_11) e582 ⟨rfl, N0, rfl⟩ (by decide) (by decide)

theorem ef_PropertyIndex_line_2 (m : MethodId) (x0 : Addr) (x1 : Int32) : entryFrame m #[(.ref x0), (.int x1)] 2 = mkF m 0 #[.val (.ref x0), .val (.int x1)] [] := by first | (simp [entryFrame, mkF, argsToLocals, Value.category]; done) | rfl
def Q_PropertyIndex_line_2 (Z : State) (b73 : Addr) (b96_134 : Addr) (k96_134 : ClassId) (p5 : Int32) (p6 : Int32) (p2 : Int32) (p3 : Int32) (p4 : Int32) (h0 : Heap) (n0 : Nat) (v : Option Value) (h : Heap) (L : List Loc) : Prop := v = some (.int p4) ∧ Fr n0 L ∧ h = h0
set_option maxRecDepth 65536 in
set_option maxHeartbeats 40000000 in
theorem rm_PropertyIndex_line_2 (l : Launch) (Z : State) (a0 : Array Value) (hw : ∀ d ∈ tables_1, d.before a0 Z = true) (ws : List Jvm.Cond) (b73 : Addr) (b96_134 : Addr) (k96_134 : ClassId) (p5 : Int32) (p6 : Int32) (p2 : Int32) (p3 : Int32) (p4 : Int32) (h0 : Heap) (n0 : Nat) (Z0 : n0 ≤ h0.size) (F_entries_b73 : Fld Z h0 b73 xs1 "entries" "[I" (.ref b96_134)) (V_b96_134 : Arv Z h0 b96_134 k96_134 .int (12 : Int32) [(.int (0 : Int32)), (.int (1 : Int32)), (.int p5), (.int p6), (.int p5), (.int (97 : Int32)), (.int (1 : Int32)), (.int (2 : Int32)), (.int p2), (.int p3), (.int p4), (.int (98 : Int32))] (.int (0 : Int32))) :
    MetFree l xm26 (head1 (Jvm.Cond.code xm26 prog_15_method_18_code 2 (some .int) :: ws) xr17) (fun a U => a = #[(.ref b73), (.int (1 : Int32))] ∧ Z.Warmed39 U.vm ∧ U.heap = h0) (fun _ _ _ _ _ => True) (fun _ U o U' => ∃ v L, o = .returned v ∧ Q_PropertyIndex_line_2 Z b73 b96_134 k96_134 p5 p6 p2 p3 p4 h0 n0 v U'.heap L ∧ FrameEnd U o U' L xr17.cells xr17.slots) := by
  refine MetFree.of_bodySF (plainFor_of_name pn_5) hisR ?_
  intro p e s m args below meth c s₁ Bd hml0 hP hK
  obtain ⟨rfl, hZ, hh⟩ := hP
  have hx := Bd.exec
  have hby := Bd.bytes
  have hlk : meth.locks = false := BodyLoose.notSynchronized Bd
  have hml : c.maxLocals = 2 := hml0
  have hown : s.vm.findClass xs1 = some m.cls := findClass_of_methodNamed Bd.named
  have hnm := (name_of_methodNamed Bd.named Bd.method).1
  have X0 : Stand p l e xr17 s m #[(.ref b73), (.int (1 : Int32))] below meth c s₁ [] 0 0 := Stand.of_body Bd
  have e0 : s₁.heap = h0 := by rw [← hh, Bd.state]; rfl
  have N0 := Fr.nil n0
  show Go p e below s (Q_PropertyIndex_line_2 Z b73 b96_134 k96_134 p5 p6 p2 p3 p4 h0 n0) xr17.cells xr17.slots s₁ (entryFrame m #[(.ref b73), (.int (1 : Int32))] 2)
  refine Go.cast (ef_PropertyIndex_line_2 m b73 (1 : Int32)) ?_
  show Go p e below s _ _ _ s₁ (mkF m 0 #[.val (.ref b73), .val (.int (1 : Int32))] [])
  refine Go.step (fun _ k => XS.aloadN X0.here hx rfl (hb hby d26_0) rfl rfl k) ?_
  show Go p e below s _ _ _ s₁ (mkF m 1 #[.val (.ref b73), .val (.int (1 : Int32))] [(.ref b73)])
  obtain ⟨T586, X586, e586, st586⟩ := getF X0 hx hZ hown (host := "") (Or.inl (tw51 hw)) Via.refl e0 F_entries_b73 (g := (mkF m 1 #[.val (.ref b73), .val (.int (1 : Int32))] [(.ref b73)])) rfl rfl (hb hby d26_1)
  refine Go.step (fun _ k => st586 _ (XS.iloadN X586.here hx rfl (hb hby d26_4) rfl (XS.bipush X586.here hx rfl (hb hby d26_5) (XS.imul X586.here hx rfl (hb hby d26_7) rfl (XS.iconst X586.here hx rfl (hb hby d26_8) (XS.iadd X586.here hx rfl (hb hby d26_9) rfl k)))))) ?_
  show Go p e below s _ _ _ T586 (mkF m 10 #[.val (.ref b73), .val (.int (1 : Int32))] [(.int (10 : Int32)), (.ref b96_134)])
  obtain ⟨cl587, Ar587, -, Sz587, Ng587, Hs587, Ft587⟩ := id V_b96_134
  have in587 : ¬ ((10 : Int32) < 0 ∨ cl587.slots.size ≤ ((10 : Int32)).toNatClampNeg) := (inb_of Sz587 ⟨by decide, by decide⟩)
  have at587 : cl587.slots[((10 : Int32)).toNatClampNeg]? = some (.int p4) := Hs587.at in587 rfl
  refine Go.step (fun _ k => X586.iaload hx (j := (10 : Int32)) (v := (.int p4)) (by rw [e586]; exact Ar587.1) (State.isArrayOf_alike hZ.alike Ar587.2.1) Ar587.2.2 in587 at587 (g := (mkF m 10 #[.val (.ref b73), .val (.int (1 : Int32))] [(.int (10 : Int32)), (.ref b96_134)])) rfl rfl (hb hby d26_10) _ k) ?_
  show Go p e below s _ _ _ T586 (mkF m 11 #[.val (.ref b73), .val (.int (1 : Int32))] [(.int p4)])
  exact Go.retI X586 hx hlk Bd.returns (hb hby d26_11) e586 ⟨rfl, N0, rfl⟩ (by decide) (by decide)

theorem ef_String_length_2 (m : MethodId) (x0 : Addr) : entryFrame m #[(.ref x0)] 1 = mkF m 0 #[.val (.ref x0)] [] := by first | (simp [entryFrame, mkF, argsToLocals, Value.category]; done) | rfl
def Q_String_length_2 (Z : State) (b522_552 : Addr) (b525_534_552 : Addr) (k525_534_552 : ClassId) (cs : Int32) (h0 : Heap) (n0 : Nat) (v : Option Value) (h : Heap) (L : List Loc) : Prop := v = some (.int (1 : Int32)) ∧ Fr n0 L ∧ h = h0
set_option maxRecDepth 65536 in
set_option maxHeartbeats 40000000 in
theorem rm_String_length_2 (l : Launch) (Z : State) (a0 : Array Value) (hw : ∀ d ∈ tables_1, d.before a0 Z = true) (ws : List Jvm.Cond) (b522_552 : Addr) (b525_534_552 : Addr) (k525_534_552 : ClassId) (cs : Int32) (h0 : Heap) (n0 : Nat) (Z0 : n0 ≤ h0.size) (F_value_b522_552 : Fld Z h0 b522_552 xs23 "value" "[B" (.ref b525_534_552)) (V_b525_534_552 : Arv Z h0 b525_534_552 k525_534_552 .byte (1 : Int32) [(.int (98 : Int32))] (.int (0 : Int32))) (E_b522_552 : Exa Z h0 b522_552 xs23) (F_coder_b522_552 : Fld Z h0 b522_552 xs23 "coder" "B" (.int (0 : Int32))) (Z_S_COMPACT_STRINGS : Sta Z Z.heap xs23 xs24 "Z" (.int cs)) (O0 : Old Z n0 h0) (hcs : ¬ cs = (0 : Int32)) :
    MetFree l xm21 (head1 (Jvm.Cond.code xm21 jdk_42_method_54_code 1 (some .int) :: ws) xr13) (fun a U => a = #[(.ref b522_552)] ∧ Z.Warmed39 U.vm ∧ U.heap = h0) (fun _ _ _ _ _ => True) (fun _ U o U' => ∃ v L, o = .returned v ∧ Q_String_length_2 Z b522_552 b525_534_552 k525_534_552 cs h0 n0 v U'.heap L ∧ FrameEnd U o U' L xr13.cells xr13.slots) := by
  refine MetFree.of_bodySF (plainFor_of_name pn_1) hisR ?_
  intro p e s m args below meth c s₁ Bd hml0 hP hK
  obtain ⟨rfl, hZ, hh⟩ := hP
  have hx := Bd.exec
  have hby := Bd.bytes
  have hlk : meth.locks = false := BodyLoose.notSynchronized Bd
  have hml : c.maxLocals = 1 := hml0
  have hown : s.vm.findClass xs23 = some m.cls := findClass_of_methodNamed Bd.named
  have hnm := (name_of_methodNamed Bd.named Bd.method).1
  have X0 : Stand p l e xr13 s m #[(.ref b522_552)] below meth c s₁ [] 0 0 := Stand.of_body Bd
  have e0 : s₁.heap = h0 := by rw [← hh, Bd.state]; rfl
  have N0 := Fr.nil n0
  show Go p e below s (Q_String_length_2 Z b522_552 b525_534_552 k525_534_552 cs h0 n0) xr13.cells xr13.slots s₁ (entryFrame m #[(.ref b522_552)] 1)
  refine Go.cast (ef_String_length_2 m b522_552) ?_
  show Go p e below s _ _ _ s₁ (mkF m 0 #[.val (.ref b522_552)] [])
  refine Go.step (fun _ k => XS.aloadN X0.here hx rfl (hb hby d28_0) rfl rfl k) ?_
  show Go p e below s _ _ _ s₁ (mkF m 1 #[.val (.ref b522_552)] [(.ref b522_552)])
  obtain ⟨T593, X593, e593, st593⟩ := getF X0 hx hZ hown (host := "") (Or.inl (tw28 hw)) Via.refl e0 F_value_b522_552 (g := (mkF m 1 #[.val (.ref b522_552)] [(.ref b522_552)])) rfl rfl (hb hby d28_1)
  refine Go.step (fun _ k => st593 _ k) ?_
  show Go p e below s _ _ _ T593 (mkF m 4 #[.val (.ref b522_552)] [(.ref b525_534_552)])
  obtain ⟨cl594, Ar594, -, Sz594, Ng594, -, -⟩ := id V_b525_534_552
  have aln594 := X593.arraylength hx (by rw [e593]; exact Ar594.1) (State.isArrayOf_alike hZ.alike Ar594.2.1) (g := (mkF m 4 #[.val (.ref b522_552)] [(.ref b525_534_552)])) rfl rfl (hb hby d28_4)
  rw [len_of Sz594 Ng594] at aln594
  refine Go.step (fun _ k => aln594 _ (XS.aloadN X593.here hx rfl (hb hby d28_5) rfl rfl k)) ?_
  show Go p e below s _ _ _ T593 (mkF m 6 #[.val (.ref b522_552)] [(.ref b522_552), (.int (1 : Int32))])
  obtain ⟨cq595, kq595, q595a, q595b, q595c⟩ := isOf hZ e593 E_b522_552
  obtain ⟨_, _, ⟨T595, L595, k595, n595⟩, -, X595, ⟨Lc595, hQ595, l595, y595, z595⟩, st595⟩ := X593.virtualBack hx (y := xm25) (z := xm25) hown (mvT hZ (tw150 hw)) (mvT hZ (tw151 hw)) (notFace_of_selects (args := #[]) (mvT hZ (tw153 hw))) (mvT hZ (tw153 hw)) (mvT hZ (tw152 hw)) (by decide) (backOf (W := 1) (rm_String_coder_0 l Z a0 hw [] b522_552 cs h0 n0 Z0 Z_S_COMPACT_STRINGS O0 hcs F_coder_b522_552) hZ (tw154 hw) (tw3 hw) (by decide) (by decide)) q595a q595c (g := (mkF m 6 #[.val (.ref b522_552)] [(.ref b522_552), (.int (1 : Int32))])) rfl (by rw [hml]; rfl) (Steps.refl _) (argsL := []) (rest := [(.int (1 : Int32))]) (lenOf pd_22 rfl) rfl (by show 2 * 0 + _ ≤ _; exact Nat.le_of_eq rfl) (hb hby d28_6) (fun _ _ => ⟨rfl, e593, (by decide : 0 + 0 ≤ _), (by decide : 0 + 0 ≤ _)⟩)
  dsimp only [Pt.U, Pt.locs, Pt.cells, Pt.slots] at X595 l595 y595 z595 st595 hQ595
  subst l595 y595 z595
  obtain ⟨rfl, N595q, eq595⟩ := hQ595
  have N596 := Fr.app N0 N595q
  refine Go.step (fun _ k => st595.trans (XS.ishr X595.here hx rfl (hb hby d28_9) rfl k)) ?_
  show Go p e below s _ _ _ T595 (mkF m 10 #[.val (.ref b522_552)] [(.int (1 : Int32))])
  exact Go.retI X595 hx hlk Bd.returns (hb hby d28_10) eq595 ⟨rfl, N596, rfl⟩ (by decide) (by decide)

theorem ef_StringLatin1_charAt_3 (m : MethodId) (x0 : Addr) (x1 : Int32) : entryFrame m #[(.ref x0), (.int x1)] 2 = mkF m 0 #[.val (.ref x0), .val (.int x1)] [] := by first | (simp [entryFrame, mkF, argsToLocals, Value.category]; done) | rfl
def Q_StringLatin1_charAt_3 (Z : State) (b525_534_552 : Addr) (k525_534_552 : ClassId) (fv : Value) (h0 : Heap) (n0 : Nat) (v : Option Value) (h : Heap) (L : List Loc) : Prop := v = some (.int (98 : Int32)) ∧ Fr n0 L ∧ h = h0
set_option maxRecDepth 65536 in
set_option maxHeartbeats 40000000 in
theorem rm_StringLatin1_charAt_3 (l : Launch) (Z : State) (a0 : Array Value) (hw : ∀ d ∈ tables_1, d.before a0 Z = true) (ws : List Jvm.Cond) (b525_534_552 : Addr) (k525_534_552 : ClassId) (fv : Value) (h0 : Heap) (n0 : Nat) (Z0 : n0 ≤ h0.size) (V_b525_534_552 : Arv Z h0 b525_534_552 k525_534_552 .byte (1 : Int32) [(.int (98 : Int32))] (.int (0 : Int32))) (Z_S_SIOOBE_FORMATTER : Sta Z Z.heap xs5 xs22 xs6 fv) (hfv : fv.isRef = true) (O0 : Old Z n0 h0) :
    MetFree l xm9 (head1 (Jvm.Cond.code xm9 jdk_43_method_2_code 2 (some .char) :: ws) xr7) (fun a U => a = #[(.ref b525_534_552), (.int (0 : Int32))] ∧ Z.Warmed39 U.vm ∧ U.heap = h0) (fun _ _ _ _ _ => True) (fun _ U o U' => ∃ v L, o = .returned v ∧ Q_StringLatin1_charAt_3 Z b525_534_552 k525_534_552 fv h0 n0 v U'.heap L ∧ FrameEnd U o U' L xr7.cells xr7.slots) := by
  refine MetFree.of_bodySF (plainFor_of_name pn_6) hisR ?_
  intro p e s m args below meth c s₁ Bd hml0 hP hK
  obtain ⟨rfl, hZ, hh⟩ := hP
  have hx := Bd.exec
  have hby := Bd.bytes
  have hlk : meth.locks = false := BodyLoose.notSynchronized Bd
  have hml : c.maxLocals = 2 := hml0
  have hown : s.vm.findClass xs13 = some m.cls := findClass_of_methodNamed Bd.named
  have hnm := (name_of_methodNamed Bd.named Bd.method).1
  have X0 : Stand p l e xr7 s m #[(.ref b525_534_552), (.int (0 : Int32))] below meth c s₁ [] 0 0 := Stand.of_body Bd
  have e0 : s₁.heap = h0 := by rw [← hh, Bd.state]; rfl
  have N0 := Fr.nil n0
  show Go p e below s (Q_StringLatin1_charAt_3 Z b525_534_552 k525_534_552 fv h0 n0) xr7.cells xr7.slots s₁ (entryFrame m #[(.ref b525_534_552), (.int (0 : Int32))] 2)
  refine Go.cast (ef_StringLatin1_charAt_3 m b525_534_552 (0 : Int32)) ?_
  show Go p e below s _ _ _ s₁ (mkF m 0 #[.val (.ref b525_534_552), .val (.int (0 : Int32))] [])
  refine Go.step (fun _ k => XS.iloadN X0.here hx rfl (hb hby d17_0) rfl (XS.aloadN X0.here hx rfl (hb hby d17_1) rfl rfl k)) ?_
  show Go p e below s _ _ _ s₁ (mkF m 2 #[.val (.ref b525_534_552), .val (.int (0 : Int32))] [(.ref b525_534_552), (.int (0 : Int32))])
  obtain ⟨cl605, Ar605, -, Sz605, Ng605, -, -⟩ := id V_b525_534_552
  have aln605 := X0.arraylength hx (by rw [e0]; exact Ar605.1) (State.isArrayOf_alike hZ.alike Ar605.2.1) (g := (mkF m 2 #[.val (.ref b525_534_552), .val (.int (0 : Int32))] [(.ref b525_534_552), (.int (0 : Int32))])) rfl rfl (hb hby d17_2)
  rw [len_of Sz605 Ng605] at aln605
  refine Go.step (fun _ k => aln605 _ k) ?_
  show Go p e below s _ _ _ s₁ (mkF m 3 #[.val (.ref b525_534_552), .val (.int (0 : Int32))] [(.int (1 : Int32)), (.int (0 : Int32))])
  obtain ⟨_, _, ⟨T606, L606, k606, n606⟩, -, X606, ⟨Lc606, hQ606, l606, y606, z606⟩, st606⟩ := Jvm.LawKit.callS X0 hx (y := xm4) hown (mvT hZ (tw92 hw)) (mvT hZ (tw93 hw)) (mvT hZ (tw3 hw)) (mvT hZ (tw94 hw)) (by decide) (backOf (W := 0) (rm_schk l Z a0 hw [] (0 : Int32) (1 : Int32) fv h0 n0 Z0 O0 Z_S_SIOOBE_FORMATTER hfv (by decide) (by decide)) hZ (tw94 hw) (tw3 hw) (by decide) (by decide)) (g := (mkF m 3 #[.val (.ref b525_534_552), .val (.int (0 : Int32))] [(.int (1 : Int32)), (.int (0 : Int32))])) rfl (by rw [hml]; rfl) (argsL := [(.int (0 : Int32)), (.int (1 : Int32))]) (rest := []) (lenOf pd_11 rfl) rfl (by show 2 * 0 + _ ≤ _; exact Nat.le_of_eq rfl) (hb hby d17_3) (fun _ _ => ⟨rfl, e0, (by decide : 0 + 0 ≤ _), (by decide : 0 + 0 ≤ _)⟩)
  dsimp only [Pt.U, Pt.locs, Pt.cells, Pt.slots] at X606 l606 y606 z606 st606 hQ606
  subst l606 y606 z606
  obtain ⟨rfl, N606q, eq606⟩ := hQ606
  have N607 := Fr.app N0 N606q
  refine Go.step (fun _ k => st606 _ (XS.aloadN X606.here hx rfl (hb hby d17_6) rfl rfl (XS.iloadN X606.here hx rfl (hb hby d17_7) rfl k))) ?_
  show Go p e below s _ _ _ T606 (mkF m 8 #[.val (.ref b525_534_552), .val (.int (0 : Int32))] [(.int (0 : Int32)), (.ref b525_534_552)])
  obtain ⟨cl608, Ar608, -, Sz608, Ng608, Hs608, Ft608⟩ := id V_b525_534_552
  have in608 : ¬ ((0 : Int32) < 0 ∨ cl608.slots.size ≤ ((0 : Int32)).toNatClampNeg) := (inb_of Sz608 ⟨by decide, by decide⟩)
  have at608 : cl608.slots[((0 : Int32)).toNatClampNeg]? = some (.int (98 : Int32)) := Hs608.at in608 rfl
  refine Go.step (fun _ k => X606.baloadBytes hx (j := (0 : Int32)) (v := (.int (98 : Int32))) (by rw [eq606]; exact Ar608.1) (State.isArrayOf_alike hZ.alike Ar608.2.1) Ar608.2.2 in608 at608 (g := (mkF m 8 #[.val (.ref b525_534_552), .val (.int (0 : Int32))] [(.int (0 : Int32)), (.ref b525_534_552)])) rfl rfl (hb hby d17_8) _ (XS.sipush X606.here hx rfl (hb hby d17_9) (XS.iand X606.here hx rfl (hb hby d17_12) rfl (XS.i2c X606.here hx rfl (hb hby d17_13) rfl k)))) ?_
  show Go p e below s _ _ _ T606 (mkF m 14 #[.val (.ref b525_534_552), .val (.int (0 : Int32))] [(.int (98 : Int32))])
  exact Go.retN X606 hx hlk (t := .char) Bd.returns (by simp) (hb hby d17_14) eq606 ⟨rfl, N607, rfl⟩ (by decide) (by decide)

theorem ef_String_charAt_3 (m : MethodId) (x0 : Addr) (x1 : Int32) : entryFrame m #[(.ref x0), (.int x1)] 2 = mkF m 0 #[.val (.ref x0), .val (.int x1)] [] := by first | (simp [entryFrame, mkF, argsToLocals, Value.category]; done) | rfl
def Q_String_charAt_3 (Z : State) (b522_552 : Addr) (cs : Int32) (b525_534_552 : Addr) (k525_534_552 : ClassId) (fv : Value) (h0 : Heap) (n0 : Nat) (v : Option Value) (h : Heap) (L : List Loc) : Prop := v = some (.int (98 : Int32)) ∧ Fr n0 L ∧ h = h0
set_option maxRecDepth 65536 in
set_option maxHeartbeats 40000000 in
theorem rm_String_charAt_3 (l : Launch) (Z : State) (a0 : Array Value) (hw : ∀ d ∈ tables_1, d.before a0 Z = true) (ws : List Jvm.Cond) (b522_552 : Addr) (cs : Int32) (b525_534_552 : Addr) (k525_534_552 : ClassId) (fv : Value) (h0 : Heap) (n0 : Nat) (Z0 : n0 ≤ h0.size) (E_b522_552 : Exa Z h0 b522_552 xs23) (F_coder_b522_552 : Fld Z h0 b522_552 xs23 "coder" "B" (.int (0 : Int32))) (Z_S_COMPACT_STRINGS : Sta Z Z.heap xs23 xs24 "Z" (.int cs)) (O0 : Old Z n0 h0) (hcs : ¬ cs = (0 : Int32)) (F_value_b522_552 : Fld Z h0 b522_552 xs23 "value" "[B" (.ref b525_534_552)) (V_b525_534_552 : Arv Z h0 b525_534_552 k525_534_552 .byte (1 : Int32) [(.int (98 : Int32))] (.int (0 : Int32))) (Z_S_SIOOBE_FORMATTER : Sta Z Z.heap xs5 xs22 xs6 fv) (hfv : fv.isRef = true) :
    MetFree l xm16 (head1 (Jvm.Cond.code xm16 jdk_42_method_56_code 2 (some .char) :: ws) xr8) (fun a U => a = #[(.ref b522_552), (.int (0 : Int32))] ∧ Z.Warmed39 U.vm ∧ U.heap = h0) (fun _ _ _ _ _ => True) (fun _ U o U' => ∃ v L, o = .returned v ∧ Q_String_charAt_3 Z b522_552 cs b525_534_552 k525_534_552 fv h0 n0 v U'.heap L ∧ FrameEnd U o U' L xr8.cells xr8.slots) := by
  refine MetFree.of_bodySF (plainFor_of_name pn_1) hisR ?_
  intro p e s m args below meth c s₁ Bd hml0 hP hK
  obtain ⟨rfl, hZ, hh⟩ := hP
  have hx := Bd.exec
  have hby := Bd.bytes
  have hlk : meth.locks = false := BodyLoose.notSynchronized Bd
  have hml : c.maxLocals = 2 := hml0
  have hown : s.vm.findClass xs23 = some m.cls := findClass_of_methodNamed Bd.named
  have hnm := (name_of_methodNamed Bd.named Bd.method).1
  have X0 : Stand p l e xr8 s m #[(.ref b522_552), (.int (0 : Int32))] below meth c s₁ [] 0 0 := Stand.of_body Bd
  have e0 : s₁.heap = h0 := by rw [← hh, Bd.state]; rfl
  have N0 := Fr.nil n0
  show Go p e below s (Q_String_charAt_3 Z b522_552 cs b525_534_552 k525_534_552 fv h0 n0) xr8.cells xr8.slots s₁ (entryFrame m #[(.ref b522_552), (.int (0 : Int32))] 2)
  refine Go.cast (ef_String_charAt_3 m b522_552 (0 : Int32)) ?_
  show Go p e below s _ _ _ s₁ (mkF m 0 #[.val (.ref b522_552), .val (.int (0 : Int32))] [])
  refine Go.step (fun _ k => XS.aloadN X0.here hx rfl (hb hby d15_0) rfl rfl k) ?_
  show Go p e below s _ _ _ s₁ (mkF m 1 #[.val (.ref b522_552), .val (.int (0 : Int32))] [(.ref b522_552)])
  obtain ⟨cq602, kq602, q602a, q602b, q602c⟩ := isOf hZ e0 E_b522_552
  obtain ⟨_, _, ⟨T602, L602, k602, n602⟩, -, X602, ⟨Lc602, hQ602, l602, y602, z602⟩, st602⟩ := X0.virtualBack hx (y := xm13) (z := xm13) hown (mvT hZ (tw83 hw)) (mvT hZ (tw84 hw)) (notFace_of_selects (args := #[]) (mvT hZ (tw86 hw))) (mvT hZ (tw86 hw)) (mvT hZ (tw85 hw)) (by decide) (backOf (W := 0) (rm_String_isLatin1_0 l Z a0 hw [] b522_552 cs h0 n0 Z0 Z_S_COMPACT_STRINGS O0 hcs F_coder_b522_552) hZ (tw87 hw) (tw3 hw) (by decide) (by decide)) q602a q602c (g := (mkF m 1 #[.val (.ref b522_552), .val (.int (0 : Int32))] [(.ref b522_552)])) rfl (by rw [hml]; rfl) (Steps.refl _) (argsL := []) (rest := []) (lenOf pd_10 rfl) rfl (by show 2 * 0 + _ ≤ _; exact Nat.le_of_eq rfl) (hb hby d15_1) (fun _ _ => ⟨rfl, e0, (by decide : 0 + 0 ≤ _), (by decide : 0 + 0 ≤ _)⟩)
  dsimp only [Pt.U, Pt.locs, Pt.cells, Pt.slots] at X602 l602 y602 z602 st602 hQ602
  subst l602 y602 z602
  obtain ⟨rfl, N602q, eq602⟩ := hQ602
  have N603 := Fr.app N0 N602q
  refine Go.step (fun _ k => st602.trans (XS.ifNo X602.here hx rfl (hb hby d15_4) rfl ((if0 _ _).trans (feq (by decide)).1) (XS.aloadN X602.here hx rfl (hb hby d15_7) rfl rfl k))) ?_
  show Go p e below s _ _ _ T602 (mkF m 8 #[.val (.ref b522_552), .val (.int (0 : Int32))] [(.ref b522_552)])
  obtain ⟨T604, X604, e604, st604⟩ := getF X602 hx hZ hown (host := "") (Or.inl (tw28 hw)) Via.refl eq602 F_value_b522_552 (g := (mkF m 8 #[.val (.ref b522_552), .val (.int (0 : Int32))] [(.ref b522_552)])) rfl rfl (hb hby d15_8)
  refine Go.step (fun _ k => st604 _ (XS.iloadN X604.here hx rfl (hb hby d15_11) rfl k)) ?_
  show Go p e below s _ _ _ T604 (mkF m 12 #[.val (.ref b522_552), .val (.int (0 : Int32))] [(.int (0 : Int32)), (.ref b525_534_552)])
  obtain ⟨_, _, ⟨T609, L609, k609, n609⟩, -, X609, ⟨Lc609, hQ609, l609, y609, z609⟩, st609⟩ := Jvm.LawKit.callS X604 hx (y := xm9) hown (mvT hZ (tw88 hw)) (mvT hZ (tw89 hw)) (mvT hZ (tw90 hw)) (mvT hZ (tw91 hw)) (by decide) (backOf (W := 0) (rm_StringLatin1_charAt_3 l Z a0 hw [] b525_534_552 k525_534_552 fv h0 n0 Z0 V_b525_534_552 Z_S_SIOOBE_FORMATTER hfv O0) hZ (tw91 hw) (tw90 hw) (by decide) (by decide)) (g := (mkF m 12 #[.val (.ref b522_552), .val (.int (0 : Int32))] [(.int (0 : Int32)), (.ref b525_534_552)])) rfl (by rw [hml]; rfl) (argsL := [(.ref b525_534_552), (.int (0 : Int32))]) (rest := []) (lenOf pd_12 rfl) rfl (by show 2 * 0 + _ ≤ _; exact Nat.le_of_eq rfl) (hb hby d15_12) (fun _ _ => ⟨rfl, e604, (by decide : 0 + 0 ≤ _), (by decide : 0 + 0 ≤ _)⟩)
  dsimp only [Pt.U, Pt.locs, Pt.cells, Pt.slots] at X609 l609 y609 z609 st609 hQ609
  subst l609 y609 z609
  obtain ⟨rfl, N609q, eq609⟩ := hQ609
  have N610 := Fr.app N603 N609q
  refine Go.step (fun _ k => st609 _ k) ?_
  show Go p e below s _ _ _ T609 (mkF m 15 #[.val (.ref b522_552), .val (.int (0 : Int32))] [(.int (98 : Int32))])
  exact Go.retN X609 hx hlk (t := .char) Bd.returns (by simp) (hb hby d15_15) eq609 ⟨rfl, N610, rfl⟩ (by decide) (by decide)

theorem ef_PropertyIndex_plainHash_3 (m : MethodId) (x0 : Addr) (x1 : Int32) (x2 : Int32) : entryFrame m #[(.ref x0), (.int x1), (.int x2)] 5 = mkF m 0 #[.val (.ref x0), .val (.int x1), .val (.int x2), .unset, .unset] [] := by first | (simp [entryFrame, mkF, argsToLocals, Value.category]; done) | rfl
def Q_PropertyIndex_plainHash_3 (Z : State) (b522_552 : Addr) (b525_534_552 : Addr) (k525_534_552 : ClassId) (cs : Int32) (fv : Value) (h0 : Heap) (n0 : Nat) (v : Option Value) (h : Heap) (L : List Loc) : Prop := v = some (.int (98 : Int32)) ∧ Fr n0 L ∧ h = h0
set_option maxRecDepth 65536 in
set_option maxHeartbeats 40000000 in
theorem rm_PropertyIndex_plainHash_3 (l : Launch) (Z : State) (a0 : Array Value) (hw : ∀ d ∈ tables_1, d.before a0 Z = true) (ws : List Jvm.Cond) (b522_552 : Addr) (b525_534_552 : Addr) (k525_534_552 : ClassId) (cs : Int32) (fv : Value) (h0 : Heap) (n0 : Nat) (Z0 : n0 ≤ h0.size) (E_b522_552 : Exa Z h0 b522_552 xs23) (F_coder_b522_552 : Fld Z h0 b522_552 xs23 "coder" "B" (.int (0 : Int32))) (F_value_b522_552 : Fld Z h0 b522_552 xs23 "value" "[B" (.ref b525_534_552)) (V_b525_534_552 : Arv Z h0 b525_534_552 k525_534_552 .byte (1 : Int32) [(.int (98 : Int32))] (.int (0 : Int32))) (Z_S_COMPACT_STRINGS : Sta Z Z.heap xs23 xs24 "Z" (.int cs)) (O0 : Old Z n0 h0) (hcs : ¬ cs = (0 : Int32)) (Z_S_SIOOBE_FORMATTER : Sta Z Z.heap xs5 xs22 xs6 fv) (hfv : fv.isRef = true) :
    MetFree l xm17 (head1 (Jvm.Cond.code xm17 prog_15_method_15_code 5 (some .int) :: ws) xr9) (fun a U => a = #[(.ref b522_552), (.int (0 : Int32)), (.int (1 : Int32))] ∧ Z.Warmed39 U.vm ∧ U.heap = h0) (fun _ _ _ _ _ => True) (fun _ U o U' => ∃ v L, o = .returned v ∧ Q_PropertyIndex_plainHash_3 Z b522_552 b525_534_552 k525_534_552 cs fv h0 n0 v U'.heap L ∧ FrameEnd U o U' L xr9.cells xr9.slots) := by
  refine MetFree.of_bodySF (plainFor_of_name pn_5) hisR ?_
  intro p e s m args below meth c s₁ Bd hml0 hP hK
  obtain ⟨rfl, hZ, hh⟩ := hP
  have hx := Bd.exec
  have hby := Bd.bytes
  have hlk : meth.locks = false := BodyLoose.notSynchronized Bd
  have hml : c.maxLocals = 5 := hml0
  have hown : s.vm.findClass xs1 = some m.cls := findClass_of_methodNamed Bd.named
  have hnm := (name_of_methodNamed Bd.named Bd.method).1
  have X0 : Stand p l e xr9 s m #[(.ref b522_552), (.int (0 : Int32)), (.int (1 : Int32))] below meth c s₁ [] 0 0 := Stand.of_body Bd
  have e0 : s₁.heap = h0 := by rw [← hh, Bd.state]; rfl
  have N0 := Fr.nil n0
  show Go p e below s (Q_PropertyIndex_plainHash_3 Z b522_552 b525_534_552 k525_534_552 cs fv h0 n0) xr9.cells xr9.slots s₁ (entryFrame m #[(.ref b522_552), (.int (0 : Int32)), (.int (1 : Int32))] 5)
  refine Go.cast (ef_PropertyIndex_plainHash_3 m b522_552 (0 : Int32) (1 : Int32)) ?_
  show Go p e below s _ _ _ s₁ (mkF m 0 #[.val (.ref b522_552), .val (.int (0 : Int32)), .val (.int (1 : Int32)), .unset, .unset] [])
  refine Go.step (fun _ k => XS.iconst X0.here hx rfl (hb hby d14_0) (XS.istoreN X0.here hx rfl (hb hby d14_1) rfl (l' := #[.val (.ref b522_552), .val (.int (0 : Int32)), .val (.int (1 : Int32)), .val (.int (0 : Int32)), .unset]) rfl (XS.iloadN X0.here hx rfl (hb hby d14_2) rfl (XS.istore X0.here hx rfl (hb hby d14_3) rfl (l' := #[.val (.ref b522_552), .val (.int (0 : Int32)), .val (.int (1 : Int32)), .val (.int (0 : Int32)), .val (.int (0 : Int32))]) rfl (XS.iload X0.here hx rfl (hb hby d14_5) rfl (XS.iloadN X0.here hx rfl (hb hby d14_7) rfl (XS.icmpNo X0.here hx rfl (hb hby d14_8) rfl (tlt (by decide)).2.1 (XS.bipush X0.here hx rfl (hb hby d14_11) (XS.iloadN X0.here hx rfl (hb hby d14_13) rfl (XS.imul X0.here hx rfl (hb hby d14_14) rfl k)))))))))) ?_
  show Go p e below s _ _ _ s₁ (mkF m 15 #[.val (.ref b522_552), .val (.int (0 : Int32)), .val (.int (1 : Int32)), .val (.int (0 : Int32)), .val (.int (0 : Int32))] [(.int ((31 : Int32) * (0 : Int32)))])
  refine Go.step (fun _ k => XS.aloadN X0.here hx rfl (hb hby d14_15) rfl rfl (XS.iload X0.here hx rfl (hb hby d14_16) rfl k)) ?_
  show Go p e below s _ _ _ s₁ (mkF m 18 #[.val (.ref b522_552), .val (.int (0 : Int32)), .val (.int (1 : Int32)), .val (.int (0 : Int32)), .val (.int (0 : Int32))] [(.int (0 : Int32)), (.ref b522_552), (.int (0 : Int32))])
  obtain ⟨cq611, kq611, q611a, q611b, q611c⟩ := isOf hZ e0 E_b522_552
  obtain ⟨_, _, ⟨T611, L611, k611, n611⟩, -, X611, ⟨Lc611, hQ611, l611, y611, z611⟩, st611⟩ := X0.virtualBack hx (y := xm16) (z := xm16) hown (mvT hZ (tw78 hw)) (mvT hZ (tw79 hw)) (notFace_of_selects (args := #[]) (mvT hZ (tw81 hw))) (mvT hZ (tw81 hw)) (mvT hZ (tw80 hw)) (by decide) (backOf (W := 1) (rm_String_charAt_3 l Z a0 hw [] b522_552 cs b525_534_552 k525_534_552 fv h0 n0 Z0 E_b522_552 F_coder_b522_552 Z_S_COMPACT_STRINGS O0 hcs F_value_b522_552 V_b525_534_552 Z_S_SIOOBE_FORMATTER hfv) hZ (tw82 hw) (tw3 hw) (by decide) (by decide)) q611a q611c (g := (mkF m 18 #[.val (.ref b522_552), .val (.int (0 : Int32)), .val (.int (1 : Int32)), .val (.int (0 : Int32)), .val (.int (0 : Int32))] [(.int (0 : Int32)), (.ref b522_552), (.int (0 : Int32))])) rfl (by rw [hml]; rfl) (Steps.refl _) (argsL := [(.int (0 : Int32))]) (rest := [(.int (0 : Int32))]) (lenOf pd_13 rfl) rfl (by show 2 * 0 + _ ≤ _; exact Nat.le_of_eq rfl) (hb hby d14_18) (fun _ _ => ⟨rfl, e0, (by decide : 0 + 0 ≤ _), (by decide : 0 + 0 ≤ _)⟩)
  dsimp only [Pt.U, Pt.locs, Pt.cells, Pt.slots] at X611 l611 y611 z611 st611 hQ611
  subst l611 y611 z611
  obtain ⟨rfl, N611q, eq611⟩ := hQ611
  have N612 := Fr.app N0 N611q
  refine Go.step (fun _ k => st611.trans (XS.iadd X611.here hx rfl (hb hby d14_21) rfl (XS.istoreN X611.here hx rfl (hb hby d14_22) rfl (l' := #[.val (.ref b522_552), .val (.int (0 : Int32)), .val (.int (1 : Int32)), .val (.int (98 : Int32)), .val (.int (0 : Int32))]) rfl (XS.iinc X611.here hx rfl (hb hby d14_23) rfl (l' := #[.val (.ref b522_552), .val (.int (0 : Int32)), .val (.int (1 : Int32)), .val (.int (98 : Int32)), .val (.int ((0 : Int32) + (1 : Int32)))]) rfl (XS.goto X611.here hx rfl (pc0 := 26) (pc' := 5) rfl (hb hby d14_26) (by decide) (by decide) (XS.iload X611.here hx rfl (hb hby d14_5) rfl (XS.iloadN X611.here hx rfl (hb hby d14_7) rfl (XS.icmpYes X611.here hx rfl (pc0 := 8) (pc' := 29) rfl (hb hby d14_8) rfl (flt (by decide)).2.1 (by decide) (by decide) (XS.iloadN X611.here hx rfl (hb hby d14_29) rfl (XS.iloadN X611.here hx rfl (hb hby d14_30) rfl k)))))))))) ?_
  show Go p e below s _ _ _ T611 (mkF m 31 #[.val (.ref b522_552), .val (.int (0 : Int32)), .val (.int (1 : Int32)), .val (.int (98 : Int32)), .val (.int (1 : Int32))] [(.int (98 : Int32)), (.int (98 : Int32))])
  refine Go.step (fun _ k => XS.bipush X611.here hx rfl (hb hby d14_31) (XS.iushr X611.here hx rfl (hb hby d14_33) rfl (XS.ixor X611.here hx rfl (hb hby d14_34) rfl k))) ?_
  show Go p e below s _ _ _ T611 (mkF m 35 #[.val (.ref b522_552), .val (.int (0 : Int32)), .val (.int (1 : Int32)), .val (.int (98 : Int32)), .val (.int (1 : Int32))] [(.int (98 : Int32))])
  exact Go.retI X611 hx hlk Bd.returns (hb hby d14_35) eq611 ⟨rfl, N612, rfl⟩ (by decide) (by decide)

theorem ef_PropertyIndex_hash_3 (m : MethodId) (x0 : Addr) (x1 : Addr) (x2 : Int32) (x3 : Int32) : entryFrame m #[(.ref x0), (.ref x1), (.int x2), (.int x3)] 4 = mkF m 0 #[.val (.ref x0), .val (.ref x1), .val (.int x2), .val (.int x3)] [] := by first | (simp [entryFrame, mkF, argsToLocals, Value.category]; done) | rfl
def Q_PropertyIndex_hash_3 (Z : State) (b73 : Addr) (b522_552 : Addr) (b525_534_552 : Addr) (k525_534_552 : ClassId) (cs : Int32) (fv : Value) (h0 : Heap) (n0 : Nat) (v : Option Value) (h : Heap) (L : List Loc) : Prop := v = some (.int (98 : Int32)) ∧ Fr n0 L ∧ h = h0
set_option maxRecDepth 65536 in
set_option maxHeartbeats 40000000 in
theorem rm_PropertyIndex_hash_3 (l : Launch) (Z : State) (a0 : Array Value) (hw : ∀ d ∈ tables_1, d.before a0 Z = true) (ws : List Jvm.Cond) (b73 : Addr) (b522_552 : Addr) (b525_534_552 : Addr) (k525_534_552 : ClassId) (cs : Int32) (fv : Value) (h0 : Heap) (n0 : Nat) (Z0 : n0 ≤ h0.size) (F_keyed_b73 : Fld Z h0 b73 xs1 "keyed" "Z" (.int (0 : Int32))) (E_b522_552 : Exa Z h0 b522_552 xs23) (F_coder_b522_552 : Fld Z h0 b522_552 xs23 "coder" "B" (.int (0 : Int32))) (F_value_b522_552 : Fld Z h0 b522_552 xs23 "value" "[B" (.ref b525_534_552)) (V_b525_534_552 : Arv Z h0 b525_534_552 k525_534_552 .byte (1 : Int32) [(.int (98 : Int32))] (.int (0 : Int32))) (Z_S_COMPACT_STRINGS : Sta Z Z.heap xs23 xs24 "Z" (.int cs)) (O0 : Old Z n0 h0) (hcs : ¬ cs = (0 : Int32)) (Z_S_SIOOBE_FORMATTER : Sta Z Z.heap xs5 xs22 xs6 fv) (hfv : fv.isRef = true) :
    MetFree l xm29 (head1 (Jvm.Cond.code xm29 prog_15_method_14_code 4 (some .int) :: ws) xr10) (fun a U => a = #[(.ref b73), (.ref b522_552), (.int (0 : Int32)), (.int (1 : Int32))] ∧ Z.Warmed39 U.vm ∧ U.heap = h0) (fun _ _ _ _ _ => True) (fun _ U o U' => ∃ v L, o = .returned v ∧ Q_PropertyIndex_hash_3 Z b73 b522_552 b525_534_552 k525_534_552 cs fv h0 n0 v U'.heap L ∧ FrameEnd U o U' L xr10.cells xr10.slots) := by
  refine MetFree.of_bodySF (plainFor_of_name pn_5) hisR ?_
  intro p e s m args below meth c s₁ Bd hml0 hP hK
  obtain ⟨rfl, hZ, hh⟩ := hP
  have hx := Bd.exec
  have hby := Bd.bytes
  have hlk : meth.locks = false := BodyLoose.notSynchronized Bd
  have hml : c.maxLocals = 4 := hml0
  have hown : s.vm.findClass xs1 = some m.cls := findClass_of_methodNamed Bd.named
  have hnm := (name_of_methodNamed Bd.named Bd.method).1
  have X0 : Stand p l e xr10 s m #[(.ref b73), (.ref b522_552), (.int (0 : Int32)), (.int (1 : Int32))] below meth c s₁ [] 0 0 := Stand.of_body Bd
  have e0 : s₁.heap = h0 := by rw [← hh, Bd.state]; rfl
  have N0 := Fr.nil n0
  show Go p e below s (Q_PropertyIndex_hash_3 Z b73 b522_552 b525_534_552 k525_534_552 cs fv h0 n0) xr10.cells xr10.slots s₁ (entryFrame m #[(.ref b73), (.ref b522_552), (.int (0 : Int32)), (.int (1 : Int32))] 4)
  refine Go.cast (ef_PropertyIndex_hash_3 m b73 b522_552 (0 : Int32) (1 : Int32)) ?_
  show Go p e below s _ _ _ s₁ (mkF m 0 #[.val (.ref b73), .val (.ref b522_552), .val (.int (0 : Int32)), .val (.int (1 : Int32))] [])
  refine Go.step (fun _ k => XS.aloadN X0.here hx rfl (hb hby d13_0) rfl rfl k) ?_
  show Go p e below s _ _ _ s₁ (mkF m 1 #[.val (.ref b73), .val (.ref b522_552), .val (.int (0 : Int32)), .val (.int (1 : Int32))] [(.ref b73)])
  obtain ⟨T601, X601, e601, st601⟩ := getF X0 hx hZ hown (host := "") (Or.inl (tw73 hw)) Via.refl e0 F_keyed_b73 (g := (mkF m 1 #[.val (.ref b73), .val (.ref b522_552), .val (.int (0 : Int32)), .val (.int (1 : Int32))] [(.ref b73)])) rfl rfl (hb hby d13_1)
  refine Go.step (fun _ k => st601 _ (XS.ifYes X601.here hx rfl (pc0 := 4) (pc' := 16) rfl (hb hby d13_4) rfl ((if0 _ _).trans (teq (by decide)).1) (by decide) (by decide) (XS.aloadN X601.here hx rfl (hb hby d13_16) rfl rfl (XS.iloadN X601.here hx rfl (hb hby d13_17) rfl (XS.iloadN X601.here hx rfl (hb hby d13_18) rfl k))))) ?_
  show Go p e below s _ _ _ T601 (mkF m 19 #[.val (.ref b73), .val (.ref b522_552), .val (.int (0 : Int32)), .val (.int (1 : Int32))] [(.int (1 : Int32)), (.int (0 : Int32)), (.ref b522_552)])
  obtain ⟨_, _, ⟨T613, L613, k613, n613⟩, -, X613, ⟨Lc613, hQ613, l613, y613, z613⟩, st613⟩ := Jvm.LawKit.callS X601 hx (y := xm17) hown (mvT hZ (tw75 hw)) (mvT hZ (tw76 hw)) (mvT hZ (tw32 hw)) (mvT hZ (tw77 hw)) (by decide) (backOf (W := 0) (rm_PropertyIndex_plainHash_3 l Z a0 hw [] b522_552 b525_534_552 k525_534_552 cs fv h0 n0 Z0 E_b522_552 F_coder_b522_552 F_value_b522_552 V_b525_534_552 Z_S_COMPACT_STRINGS O0 hcs Z_S_SIOOBE_FORMATTER hfv) hZ (tw77 hw) (tw32 hw) (by decide) (by decide)) (g := (mkF m 19 #[.val (.ref b73), .val (.ref b522_552), .val (.int (0 : Int32)), .val (.int (1 : Int32))] [(.int (1 : Int32)), (.int (0 : Int32)), (.ref b522_552)])) rfl (by rw [hml]; rfl) (argsL := [(.ref b522_552), (.int (0 : Int32)), (.int (1 : Int32))]) (rest := []) (lenOf pd_14 rfl) rfl (by show 2 * 0 + _ ≤ _; exact Nat.le_of_eq rfl) (hb hby d13_19) (fun _ _ => ⟨rfl, e601, (by decide : 0 + 0 ≤ _), (by decide : 0 + 0 ≤ _)⟩)
  dsimp only [Pt.U, Pt.locs, Pt.cells, Pt.slots] at X613 l613 y613 z613 st613 hQ613
  subst l613 y613 z613
  obtain ⟨rfl, N613q, eq613⟩ := hQ613
  have N614 := Fr.app N0 N613q
  refine Go.step (fun _ k => st613 _ k) ?_
  show Go p e below s _ _ _ T613 (mkF m 22 #[.val (.ref b73), .val (.ref b522_552), .val (.int (0 : Int32)), .val (.int (1 : Int32))] [(.int (98 : Int32))])
  exact Go.retI X613 hx hlk Bd.returns (hb hby d13_22) eq613 ⟨rfl, N614, rfl⟩ (by decide) (by decide)

theorem ef_ArraysSupport_mismatch_1 (m : MethodId) (x0 : Addr) (x1 : Int32) (x2 : Addr) (x3 : Int32) (x4 : Int32) : entryFrame m #[(.ref x0), (.int x1), (.ref x2), (.int x3), (.int x4)] 8 = mkF m 0 #[.val (.ref x0), .val (.int x1), .val (.ref x2), .val (.int x3), .val (.int x4), .unset, .unset, .unset] [] := by first | (simp [entryFrame, mkF, argsToLocals, Value.category]; done) | rfl
def Q_ArraysSupport_mismatch_1 (Z : State) (b21_41_64_71 : Addr) (b525_534_552 : Addr) (k21_41_64_71 : ClassId) (k525_534_552 : ClassId) (h0 : Heap) (n0 : Nat) (v : Option Value) (h : Heap) (L : List Loc) : Prop := v = some (.int (-1 : Int32)) ∧ Fr n0 L ∧ h = h0
set_option maxRecDepth 65536 in
set_option maxHeartbeats 40000000 in
theorem rm_ArraysSupport_mismatch_1 (l : Launch) (Z : State) (a0 : Array Value) (hw : ∀ d ∈ tables_1, d.before a0 Z = true) (ws : List Jvm.Cond) (b21_41_64_71 : Addr) (b525_534_552 : Addr) (k21_41_64_71 : ClassId) (k525_534_552 : ClassId) (h0 : Heap) (n0 : Nat) (Z0 : n0 ≤ h0.size) (V_b21_41_64_71 : Arv Z h0 b21_41_64_71 k21_41_64_71 .byte (2 : Int32) [(.int (97 : Int32)), (.int (98 : Int32))] (.int (0 : Int32))) (V_b525_534_552 : Arv Z h0 b525_534_552 k525_534_552 .byte (1 : Int32) [(.int (98 : Int32))] (.int (0 : Int32))) :
    MetFree l xm2 (head1 (Jvm.Cond.code xm2 jdk_48_method_14_code 8 (some .int) :: ws) xr17) (fun a U => a = #[(.ref b21_41_64_71), (.int (1 : Int32)), (.ref b525_534_552), (.int (0 : Int32)), (.int (1 : Int32))] ∧ Z.Warmed39 U.vm ∧ U.heap = h0) (fun _ _ _ _ _ => True) (fun _ U o U' => ∃ v L, o = .returned v ∧ Q_ArraysSupport_mismatch_1 Z b21_41_64_71 b525_534_552 k21_41_64_71 k525_534_552 h0 n0 v U'.heap L ∧ FrameEnd U o U' L xr17.cells xr17.slots) := by
  refine MetFree.of_bodySF (plainFor_of_name pn_7) hisR ?_
  intro p e s m args below meth c s₁ Bd hml0 hP hK
  obtain ⟨rfl, hZ, hh⟩ := hP
  have hx := Bd.exec
  have hby := Bd.bytes
  have hlk : meth.locks = false := BodyLoose.notSynchronized Bd
  have hml : c.maxLocals = 8 := hml0
  have hown : s.vm.findClass xs7 = some m.cls := findClass_of_methodNamed Bd.named
  have hnm := (name_of_methodNamed Bd.named Bd.method).1
  have X0 : Stand p l e xr17 s m #[(.ref b21_41_64_71), (.int (1 : Int32)), (.ref b525_534_552), (.int (0 : Int32)), (.int (1 : Int32))] below meth c s₁ [] 0 0 := Stand.of_body Bd
  have e0 : s₁.heap = h0 := by rw [← hh, Bd.state]; rfl
  have N0 := Fr.nil n0
  show Go p e below s (Q_ArraysSupport_mismatch_1 Z b21_41_64_71 b525_534_552 k21_41_64_71 k525_534_552 h0 n0) xr17.cells xr17.slots s₁ (entryFrame m #[(.ref b21_41_64_71), (.int (1 : Int32)), (.ref b525_534_552), (.int (0 : Int32)), (.int (1 : Int32))] 8)
  refine Go.cast (ef_ArraysSupport_mismatch_1 m b21_41_64_71 (1 : Int32) b525_534_552 (0 : Int32) (1 : Int32)) ?_
  show Go p e below s _ _ _ s₁ (mkF m 0 #[.val (.ref b21_41_64_71), .val (.int (1 : Int32)), .val (.ref b525_534_552), .val (.int (0 : Int32)), .val (.int (1 : Int32)), .unset, .unset, .unset] [])
  refine Go.step (fun _ k => XS.iconst X0.here hx rfl (hb hby d32_0) (XS.istore X0.here hx rfl (hb hby d32_1) rfl (l' := #[.val (.ref b21_41_64_71), .val (.int (1 : Int32)), .val (.ref b525_534_552), .val (.int (0 : Int32)), .val (.int (1 : Int32)), .val (.int (0 : Int32)), .unset, .unset]) rfl (XS.iload X0.here hx rfl (hb hby d32_3) rfl (XS.bipush X0.here hx rfl (hb hby d32_5) (XS.icmpYes X0.here hx rfl (pc0 := 7) (pc' := 70) rfl (hb hby d32_7) rfl (flt (by decide)).2.2.2 (by decide) (by decide) (XS.iload X0.here hx rfl (hb hby d32_70) rfl (XS.iload X0.here hx rfl (hb hby d32_72) rfl (XS.icmpNo X0.here hx rfl (hb hby d32_74) rfl (tlt (by decide)).2.1 (XS.aloadN X0.here hx rfl (hb hby d32_77) rfl rfl (XS.iloadN X0.here hx rfl (hb hby d32_78) rfl k)))))))))) ?_
  show Go p e below s _ _ _ s₁ (mkF m 79 #[.val (.ref b21_41_64_71), .val (.int (1 : Int32)), .val (.ref b525_534_552), .val (.int (0 : Int32)), .val (.int (1 : Int32)), .val (.int (0 : Int32)), .unset, .unset] [(.int (1 : Int32)), (.ref b21_41_64_71)])
  refine Go.step (fun _ k => XS.iload X0.here hx rfl (hb hby d32_79) rfl (XS.iadd X0.here hx rfl (hb hby d32_81) rfl k)) ?_
  show Go p e below s _ _ _ s₁ (mkF m 82 #[.val (.ref b21_41_64_71), .val (.int (1 : Int32)), .val (.ref b525_534_552), .val (.int (0 : Int32)), .val (.int (1 : Int32)), .val (.int (0 : Int32)), .unset, .unset] [(.int (1 : Int32)), (.ref b21_41_64_71)])
  obtain ⟨cl640, Ar640, -, Sz640, Ng640, Hs640, Ft640⟩ := id V_b21_41_64_71
  have in640 : ¬ ((1 : Int32) < 0 ∨ cl640.slots.size ≤ ((1 : Int32)).toNatClampNeg) := (inb_of Sz640 ⟨by decide, by decide⟩)
  have at640 : cl640.slots[((1 : Int32)).toNatClampNeg]? = some (.int (98 : Int32)) := Hs640.at in640 rfl
  refine Go.step (fun _ k => X0.baloadBytes hx (j := (1 : Int32)) (v := (.int (98 : Int32))) (by rw [e0]; exact Ar640.1) (State.isArrayOf_alike hZ.alike Ar640.2.1) Ar640.2.2 in640 at640 (g := (mkF m 82 #[.val (.ref b21_41_64_71), .val (.int (1 : Int32)), .val (.ref b525_534_552), .val (.int (0 : Int32)), .val (.int (1 : Int32)), .val (.int (0 : Int32)), .unset, .unset] [(.int (1 : Int32)), (.ref b21_41_64_71)])) rfl rfl (hb hby d32_82) _ (XS.aloadN X0.here hx rfl (hb hby d32_83) rfl rfl (XS.iloadN X0.here hx rfl (hb hby d32_84) rfl (XS.iload X0.here hx rfl (hb hby d32_85) rfl (XS.iadd X0.here hx rfl (hb hby d32_87) rfl k))))) ?_
  show Go p e below s _ _ _ s₁ (mkF m 88 #[.val (.ref b21_41_64_71), .val (.int (1 : Int32)), .val (.ref b525_534_552), .val (.int (0 : Int32)), .val (.int (1 : Int32)), .val (.int (0 : Int32)), .unset, .unset] [(.int (0 : Int32)), (.ref b525_534_552), (.int (98 : Int32))])
  obtain ⟨cl641, Ar641, -, Sz641, Ng641, Hs641, Ft641⟩ := id V_b525_534_552
  have in641 : ¬ ((0 : Int32) < 0 ∨ cl641.slots.size ≤ ((0 : Int32)).toNatClampNeg) := (inb_of Sz641 ⟨by decide, by decide⟩)
  have at641 : cl641.slots[((0 : Int32)).toNatClampNeg]? = some (.int (98 : Int32)) := Hs641.at in641 rfl
  refine Go.step (fun _ k => X0.baloadBytes hx (j := (0 : Int32)) (v := (.int (98 : Int32))) (by rw [e0]; exact Ar641.1) (State.isArrayOf_alike hZ.alike Ar641.2.1) Ar641.2.2 in641 at641 (g := (mkF m 88 #[.val (.ref b21_41_64_71), .val (.int (1 : Int32)), .val (.ref b525_534_552), .val (.int (0 : Int32)), .val (.int (1 : Int32)), .val (.int (0 : Int32)), .unset, .unset] [(.int (0 : Int32)), (.ref b525_534_552), (.int (98 : Int32))])) rfl rfl (hb hby d32_88) _ (XS.icmpYes X0.here hx rfl (pc0 := 89) (pc' := 95) rfl (hb hby d32_89) rfl (teq (by decide)).1 (by decide) (by decide) (XS.iinc X0.here hx rfl (hb hby d32_95) rfl (l' := #[.val (.ref b21_41_64_71), .val (.int (1 : Int32)), .val (.ref b525_534_552), .val (.int (0 : Int32)), .val (.int (1 : Int32)), .val (.int ((0 : Int32) + (1 : Int32))), .unset, .unset]) rfl (XS.goto X0.here hx rfl (pc0 := 98) (pc' := 70) rfl (hb hby d32_98) (by decide) (by decide) (XS.iload X0.here hx rfl (hb hby d32_70) rfl (XS.iload X0.here hx rfl (hb hby d32_72) rfl (XS.icmpYes X0.here hx rfl (pc0 := 74) (pc' := 101) rfl (hb hby d32_74) rfl (flt (by decide)).2.1 (by decide) (by decide) (XS.iconst X0.here hx rfl (hb hby d32_101) k)))))))) ?_
  show Go p e below s _ _ _ s₁ (mkF m 102 #[.val (.ref b21_41_64_71), .val (.int (1 : Int32)), .val (.ref b525_534_552), .val (.int (0 : Int32)), .val (.int (1 : Int32)), .val (.int (1 : Int32)), .unset, .unset] [(.int (-1 : Int32))])
  exact Go.retI X0 hx hlk Bd.returns (hb hby d32_102) e0 ⟨rfl, N0, rfl⟩ (by decide) (by decide)

theorem ef_String_regionMatches_1 (m : MethodId) (x0 : Addr) (x1 : Int32) (x2 : Addr) (x3 : Int32) (x4 : Int32) : entryFrame m #[(.ref x0), (.int x1), (.ref x2), (.int x3), (.int x4)] 8 = mkF m 0 #[.val (.ref x0), .val (.int x1), .val (.ref x2), .val (.int x3), .val (.int x4), .unset, .unset, .unset] [] := by first | (simp [entryFrame, mkF, argsToLocals, Value.category]; done) | rfl
def Q_String_regionMatches_1 (Z : State) (b15 : Addr) (b522_552 : Addr) (b21_41_64_71 : Addr) (k21_41_64_71 : ClassId) (cs : Int32) (b525_534_552 : Addr) (k525_534_552 : ClassId) (h0 : Heap) (n0 : Nat) (v : Option Value) (h : Heap) (L : List Loc) : Prop := v = some (.int (1 : Int32)) ∧ Fr n0 L ∧ h = h0
set_option maxRecDepth 65536 in
set_option maxHeartbeats 40000000 in
theorem rm_String_regionMatches_1 (l : Launch) (Z : State) (a0 : Array Value) (hw : ∀ d ∈ tables_1, d.before a0 Z = true) (ws : List Jvm.Cond) (b15 : Addr) (b522_552 : Addr) (b21_41_64_71 : Addr) (k21_41_64_71 : ClassId) (cs : Int32) (b525_534_552 : Addr) (k525_534_552 : ClassId) (h0 : Heap) (n0 : Nat) (Z0 : n0 ≤ h0.size) (E_b15 : Exa Z h0 b15 xs23) (F_value_b15 : Fld Z h0 b15 xs23 "value" "[B" (.ref b21_41_64_71)) (V_b21_41_64_71 : Arv Z h0 b21_41_64_71 k21_41_64_71 .byte (2 : Int32) [(.int (97 : Int32)), (.int (98 : Int32))] (.int (0 : Int32))) (F_coder_b15 : Fld Z h0 b15 xs23 "coder" "B" (.int (0 : Int32))) (Z_S_COMPACT_STRINGS : Sta Z Z.heap xs23 xs24 "Z" (.int cs)) (O0 : Old Z n0 h0) (hcs : ¬ cs = (0 : Int32)) (E_b522_552 : Exa Z h0 b522_552 xs23) (F_value_b522_552 : Fld Z h0 b522_552 xs23 "value" "[B" (.ref b525_534_552)) (V_b525_534_552 : Arv Z h0 b525_534_552 k525_534_552 .byte (1 : Int32) [(.int (98 : Int32))] (.int (0 : Int32))) (F_coder_b522_552 : Fld Z h0 b522_552 xs23 "coder" "B" (.int (0 : Int32))) :
    MetFree l xm5 (head1 (Jvm.Cond.code xm5 jdk_42_method_73_code 8 (some .boolean) :: ws) xr7) (fun a U => a = #[(.ref b15), (.int (1 : Int32)), (.ref b522_552), (.int (0 : Int32)), (.int (1 : Int32))] ∧ Z.Warmed39 U.vm ∧ U.heap = h0) (fun _ _ _ _ _ => True) (fun _ U o U' => ∃ v L, o = .returned v ∧ Q_String_regionMatches_1 Z b15 b522_552 b21_41_64_71 k21_41_64_71 cs b525_534_552 k525_534_552 h0 n0 v U'.heap L ∧ FrameEnd U o U' L xr7.cells xr7.slots) := by
  refine MetFree.of_bodySF (plainFor_of_name pn_1) hisR ?_
  intro p e s m args below meth c s₁ Bd hml0 hP hK
  obtain ⟨rfl, hZ, hh⟩ := hP
  have hx := Bd.exec
  have hby := Bd.bytes
  have hlk : meth.locks = false := BodyLoose.notSynchronized Bd
  have hml : c.maxLocals = 8 := hml0
  have hown : s.vm.findClass xs23 = some m.cls := findClass_of_methodNamed Bd.named
  have hnm := (name_of_methodNamed Bd.named Bd.method).1
  have X0 : Stand p l e xr7 s m #[(.ref b15), (.int (1 : Int32)), (.ref b522_552), (.int (0 : Int32)), (.int (1 : Int32))] below meth c s₁ [] 0 0 := Stand.of_body Bd
  have e0 : s₁.heap = h0 := by rw [← hh, Bd.state]; rfl
  have N0 := Fr.nil n0
  show Go p e below s (Q_String_regionMatches_1 Z b15 b522_552 b21_41_64_71 k21_41_64_71 cs b525_534_552 k525_534_552 h0 n0) xr7.cells xr7.slots s₁ (entryFrame m #[(.ref b15), (.int (1 : Int32)), (.ref b522_552), (.int (0 : Int32)), (.int (1 : Int32))] 8)
  refine Go.cast (ef_String_regionMatches_1 m b15 (1 : Int32) b522_552 (0 : Int32) (1 : Int32)) ?_
  show Go p e below s _ _ _ s₁ (mkF m 0 #[.val (.ref b15), .val (.int (1 : Int32)), .val (.ref b522_552), .val (.int (0 : Int32)), .val (.int (1 : Int32)), .unset, .unset, .unset] [])
  refine Go.step (fun _ k => XS.iloadN X0.here hx rfl (hb hby d31_0) rfl (XS.ifNo X0.here hx rfl (hb hby d31_1) rfl ((if0 _ _).trans (flt (by decide)).1) (XS.iloadN X0.here hx rfl (hb hby d31_4) rfl (XS.ifNo X0.here hx rfl (hb hby d31_5) rfl ((if0 _ _).trans (flt (by decide)).1) (XS.iloadN X0.here hx rfl (hb hby d31_8) rfl (XS.i2l X0.here hx rfl (hb hby d31_9) rfl (XS.aloadN X0.here hx rfl (hb hby d31_10) rfl rfl k))))))) ?_
  show Go p e below s _ _ _ s₁ (mkF m 11 #[.val (.ref b15), .val (.int (1 : Int32)), .val (.ref b522_552), .val (.int (0 : Int32)), .val (.int (1 : Int32)), .unset, .unset, .unset] [(.ref b15), (.long (1 : Int64))])
  obtain ⟨cq630, kq630, q630a, q630b, q630c⟩ := isOf hZ e0 E_b15
  obtain ⟨_, _, ⟨T630, L630, k630, n630⟩, -, X630, ⟨Lc630, hQ630, l630, y630, z630⟩, st630⟩ := X0.virtualBack hx (y := xm21) (z := xm21) hown (mvT hZ (tw164 hw)) (mvT hZ (tw146 hw)) (notFace_of_selects (args := #[]) (mvT hZ (tw148 hw))) (mvT hZ (tw148 hw)) (mvT hZ (tw147 hw)) (by decide) (backOf (W := 2) (rm_String_length_1 l Z a0 hw [] b15 b21_41_64_71 k21_41_64_71 cs h0 n0 Z0 F_value_b15 V_b21_41_64_71 E_b15 F_coder_b15 Z_S_COMPACT_STRINGS O0 hcs) hZ (tw149 hw) (tw3 hw) (by decide) (by decide)) q630a q630c (g := (mkF m 11 #[.val (.ref b15), .val (.int (1 : Int32)), .val (.ref b522_552), .val (.int (0 : Int32)), .val (.int (1 : Int32)), .unset, .unset, .unset] [(.ref b15), (.long (1 : Int64))])) rfl (by rw [hml]; rfl) (Steps.refl _) (argsL := []) (rest := [(.long (1 : Int64))]) (lenOf pd_23 rfl) rfl (by show 2 * 0 + _ ≤ _; exact Nat.le_of_eq rfl) (hb hby d31_11) (fun _ _ => ⟨rfl, e0, (by decide : 0 + 0 ≤ _), (by decide : 0 + 0 ≤ _)⟩)
  dsimp only [Pt.U, Pt.locs, Pt.cells, Pt.slots] at X630 l630 y630 z630 st630 hQ630
  subst l630 y630 z630
  obtain ⟨rfl, N630q, eq630⟩ := hQ630
  have N631 := Fr.app N0 N630q
  refine Go.step (fun _ k => st630.trans (XS.i2l X630.here hx rfl (hb hby d31_14) rfl (XS.iload X630.here hx rfl (hb hby d31_15) rfl (XS.i2l X630.here hx rfl (hb hby d31_17) rfl (XS.lsub X630.here hx rfl (hb hby d31_18) rfl (XS.lcmp X630.here hx rfl (hb hby d31_19) rfl (XS.ifNo X630.here hx rfl (hb hby d31_20) rfl ((if0 _ _).trans (flt (by decide)).2.2.1) (XS.iloadN X630.here hx rfl (hb hby d31_23) rfl (XS.i2l X630.here hx rfl (hb hby d31_24) rfl (XS.aloadN X630.here hx rfl (hb hby d31_25) rfl rfl k)))))))))) ?_
  show Go p e below s _ _ _ T630 (mkF m 26 #[.val (.ref b15), .val (.int (1 : Int32)), .val (.ref b522_552), .val (.int (0 : Int32)), .val (.int (1 : Int32)), .unset, .unset, .unset] [(.ref b522_552), (.long (0 : Int64))])
  obtain ⟨cq632, kq632, q632a, q632b, q632c⟩ := isOf hZ eq630 E_b522_552
  obtain ⟨_, _, ⟨T632, L632, k632, n632⟩, -, X632, ⟨Lc632, hQ632, l632, y632, z632⟩, st632⟩ := X630.virtualBack hx (y := xm21) (z := xm21) hown (mvT hZ (tw164 hw)) (mvT hZ (tw146 hw)) (notFace_of_selects (args := #[]) (mvT hZ (tw148 hw))) (mvT hZ (tw148 hw)) (mvT hZ (tw147 hw)) (by decide) (backOf (W := 2) (rm_String_length_2 l Z a0 hw [] b522_552 b525_534_552 k525_534_552 cs h0 n0 Z0 F_value_b522_552 V_b525_534_552 E_b522_552 F_coder_b522_552 Z_S_COMPACT_STRINGS O0 hcs) hZ (tw149 hw) (tw3 hw) (by decide) (by decide)) q632a q632c (g := (mkF m 26 #[.val (.ref b15), .val (.int (1 : Int32)), .val (.ref b522_552), .val (.int (0 : Int32)), .val (.int (1 : Int32)), .unset, .unset, .unset] [(.ref b522_552), (.long (0 : Int64))])) rfl (by rw [hml]; rfl) (Steps.refl _) (argsL := []) (rest := [(.long (0 : Int64))]) (lenOf pd_23 rfl) rfl (by show 2 * 0 + _ ≤ _; exact Nat.le_of_eq rfl) (hb hby d31_26) (fun _ _ => ⟨rfl, eq630, (by decide : 0 + 0 ≤ _), (by decide : 0 + 0 ≤ _)⟩)
  dsimp only [Pt.U, Pt.locs, Pt.cells, Pt.slots] at X632 l632 y632 z632 st632 hQ632
  subst l632 y632 z632
  obtain ⟨rfl, N632q, eq632⟩ := hQ632
  have N633 := Fr.app N631 N632q
  refine Go.step (fun _ k => st632.trans (XS.i2l X632.here hx rfl (hb hby d31_29) rfl (XS.iload X632.here hx rfl (hb hby d31_30) rfl (XS.i2l X632.here hx rfl (hb hby d31_32) rfl (XS.lsub X632.here hx rfl (hb hby d31_33) rfl (XS.lcmp X632.here hx rfl (hb hby d31_34) rfl (XS.ifYes X632.here hx rfl (pc0 := 35) (pc' := 40) rfl (hb hby d31_35) rfl ((if0 _ _).trans (flt (by decide)).2.2.2) (by decide) (by decide) (XS.iload X632.here hx rfl (hb hby d31_40) rfl (XS.ifYes X632.here hx rfl (pc0 := 42) (pc' := 47) rfl (hb hby d31_42) rfl ((if0 _ _).trans (tlt (by decide)).2.2.1) (by decide) (by decide) (XS.aloadN X632.here hx rfl (hb hby d31_47) rfl rfl k)))))))))) ?_
  show Go p e below s _ _ _ T632 (mkF m 48 #[.val (.ref b15), .val (.int (1 : Int32)), .val (.ref b522_552), .val (.int (0 : Int32)), .val (.int (1 : Int32)), .unset, .unset, .unset] [(.ref b15)])
  obtain ⟨T634, X634, e634, st634⟩ := getF X632 hx hZ hown (host := "") (Or.inl (tw28 hw)) Via.refl eq632 F_value_b15 (g := (mkF m 48 #[.val (.ref b15), .val (.int (1 : Int32)), .val (.ref b522_552), .val (.int (0 : Int32)), .val (.int (1 : Int32)), .unset, .unset, .unset] [(.ref b15)])) rfl rfl (hb hby d31_48)
  refine Go.step (fun _ k => st634 _ (XS.astore X634.here hx rfl (hb hby d31_51) rfl rfl (l' := #[.val (.ref b15), .val (.int (1 : Int32)), .val (.ref b522_552), .val (.int (0 : Int32)), .val (.int (1 : Int32)), .val (.ref b21_41_64_71), .unset, .unset]) rfl (XS.aloadN X634.here hx rfl (hb hby d31_53) rfl rfl k))) ?_
  show Go p e below s _ _ _ T634 (mkF m 54 #[.val (.ref b15), .val (.int (1 : Int32)), .val (.ref b522_552), .val (.int (0 : Int32)), .val (.int (1 : Int32)), .val (.ref b21_41_64_71), .unset, .unset] [(.ref b522_552)])
  obtain ⟨T635, X635, e635, st635⟩ := getF X634 hx hZ hown (host := "") (Or.inl (tw28 hw)) Via.refl e634 F_value_b522_552 (g := (mkF m 54 #[.val (.ref b15), .val (.int (1 : Int32)), .val (.ref b522_552), .val (.int (0 : Int32)), .val (.int (1 : Int32)), .val (.ref b21_41_64_71), .unset, .unset] [(.ref b522_552)])) rfl rfl (hb hby d31_54)
  refine Go.step (fun _ k => st635 _ (XS.astore X635.here hx rfl (hb hby d31_57) rfl rfl (l' := #[.val (.ref b15), .val (.int (1 : Int32)), .val (.ref b522_552), .val (.int (0 : Int32)), .val (.int (1 : Int32)), .val (.ref b21_41_64_71), .val (.ref b525_534_552), .unset]) rfl (XS.aloadN X635.here hx rfl (hb hby d31_59) rfl rfl k))) ?_
  show Go p e below s _ _ _ T635 (mkF m 60 #[.val (.ref b15), .val (.int (1 : Int32)), .val (.ref b522_552), .val (.int (0 : Int32)), .val (.int (1 : Int32)), .val (.ref b21_41_64_71), .val (.ref b525_534_552), .unset] [(.ref b15)])
  obtain ⟨cq636, kq636, q636a, q636b, q636c⟩ := isOf hZ e635 E_b15
  obtain ⟨_, _, ⟨T636, L636, k636, n636⟩, -, X636, ⟨Lc636, hQ636, l636, y636, z636⟩, st636⟩ := X635.virtualBack hx (y := xm25) (z := xm25) hown (mvT hZ (tw150 hw)) (mvT hZ (tw151 hw)) (notFace_of_selects (args := #[]) (mvT hZ (tw153 hw))) (mvT hZ (tw153 hw)) (mvT hZ (tw152 hw)) (by decide) (backOf (W := 0) (rm_String_coder_0 l Z a0 hw [] b15 cs h0 n0 Z0 Z_S_COMPACT_STRINGS O0 hcs F_coder_b15) hZ (tw154 hw) (tw3 hw) (by decide) (by decide)) q636a q636c (g := (mkF m 60 #[.val (.ref b15), .val (.int (1 : Int32)), .val (.ref b522_552), .val (.int (0 : Int32)), .val (.int (1 : Int32)), .val (.ref b21_41_64_71), .val (.ref b525_534_552), .unset] [(.ref b15)])) rfl (by rw [hml]; rfl) (Steps.refl _) (argsL := []) (rest := []) (lenOf pd_22 rfl) rfl (by show 2 * 0 + _ ≤ _; exact Nat.le_of_eq rfl) (hb hby d31_60) (fun _ _ => ⟨rfl, e635, (by decide : 0 + 0 ≤ _), (by decide : 0 + 0 ≤ _)⟩)
  dsimp only [Pt.U, Pt.locs, Pt.cells, Pt.slots] at X636 l636 y636 z636 st636 hQ636
  subst l636 y636 z636
  obtain ⟨rfl, N636q, eq636⟩ := hQ636
  have N637 := Fr.app N633 N636q
  refine Go.step (fun _ k => st636.trans (XS.istore X636.here hx rfl (hb hby d31_63) rfl (l' := #[.val (.ref b15), .val (.int (1 : Int32)), .val (.ref b522_552), .val (.int (0 : Int32)), .val (.int (1 : Int32)), .val (.ref b21_41_64_71), .val (.ref b525_534_552), .val (.int (0 : Int32))]) rfl (XS.iload X636.here hx rfl (hb hby d31_65) rfl (XS.aloadN X636.here hx rfl (hb hby d31_67) rfl rfl k)))) ?_
  show Go p e below s _ _ _ T636 (mkF m 68 #[.val (.ref b15), .val (.int (1 : Int32)), .val (.ref b522_552), .val (.int (0 : Int32)), .val (.int (1 : Int32)), .val (.ref b21_41_64_71), .val (.ref b525_534_552), .val (.int (0 : Int32))] [(.ref b522_552), (.int (0 : Int32))])
  obtain ⟨cq638, kq638, q638a, q638b, q638c⟩ := isOf hZ eq636 E_b522_552
  obtain ⟨_, _, ⟨T638, L638, k638, n638⟩, -, X638, ⟨Lc638, hQ638, l638, y638, z638⟩, st638⟩ := X636.virtualBack hx (y := xm25) (z := xm25) hown (mvT hZ (tw150 hw)) (mvT hZ (tw151 hw)) (notFace_of_selects (args := #[]) (mvT hZ (tw153 hw))) (mvT hZ (tw153 hw)) (mvT hZ (tw152 hw)) (by decide) (backOf (W := 1) (rm_String_coder_0 l Z a0 hw [] b522_552 cs h0 n0 Z0 Z_S_COMPACT_STRINGS O0 hcs F_coder_b522_552) hZ (tw154 hw) (tw3 hw) (by decide) (by decide)) q638a q638c (g := (mkF m 68 #[.val (.ref b15), .val (.int (1 : Int32)), .val (.ref b522_552), .val (.int (0 : Int32)), .val (.int (1 : Int32)), .val (.ref b21_41_64_71), .val (.ref b525_534_552), .val (.int (0 : Int32))] [(.ref b522_552), (.int (0 : Int32))])) rfl (by rw [hml]; rfl) (Steps.refl _) (argsL := []) (rest := [(.int (0 : Int32))]) (lenOf pd_22 rfl) rfl (by show 2 * 0 + _ ≤ _; exact Nat.le_of_eq rfl) (hb hby d31_68) (fun _ _ => ⟨rfl, eq636, (by decide : 0 + 0 ≤ _), (by decide : 0 + 0 ≤ _)⟩)
  dsimp only [Pt.U, Pt.locs, Pt.cells, Pt.slots] at X638 l638 y638 z638 st638 hQ638
  subst l638 y638 z638
  obtain ⟨rfl, N638q, eq638⟩ := hQ638
  have N639 := Fr.app N637 N638q
  refine Go.step (fun _ k => st638.trans (XS.icmpNo X638.here hx rfl (hb hby d31_71) rfl (teq (by decide)).2 (XS.iload X638.here hx rfl (hb hby d31_74) rfl (XS.iconst X638.here hx rfl (hb hby d31_76) (XS.icmpYes X638.here hx rfl (pc0 := 77) (pc' := 94) rfl (hb hby d31_77) rfl (feq (by decide)).2 (by decide) (by decide) (XS.aload X638.here hx rfl (hb hby d31_94) rfl rfl (XS.iloadN X638.here hx rfl (hb hby d31_96) rfl (XS.aload X638.here hx rfl (hb hby d31_97) rfl rfl (XS.iloadN X638.here hx rfl (hb hby d31_99) rfl (XS.iload X638.here hx rfl (hb hby d31_100) rfl k)))))))))) ?_
  show Go p e below s _ _ _ T638 (mkF m 102 #[.val (.ref b15), .val (.int (1 : Int32)), .val (.ref b522_552), .val (.int (0 : Int32)), .val (.int (1 : Int32)), .val (.ref b21_41_64_71), .val (.ref b525_534_552), .val (.int (0 : Int32))] [(.int (1 : Int32)), (.int (0 : Int32)), (.ref b525_534_552), (.int (1 : Int32)), (.ref b21_41_64_71)])
  obtain ⟨_, _, ⟨T642, L642, k642, n642⟩, -, X642, ⟨Lc642, hQ642, l642, y642, z642⟩, st642⟩ := Jvm.LawKit.callS X638 hx (y := xm2) hown (mvT hZ (tw165 hw)) (mvT hZ (tw166 hw)) (mvT hZ (tw167 hw)) (mvT hZ (tw168 hw)) (by decide) (backOf (W := 0) (rm_ArraysSupport_mismatch_1 l Z a0 hw [] b21_41_64_71 b525_534_552 k21_41_64_71 k525_534_552 h0 n0 Z0 V_b21_41_64_71 V_b525_534_552) hZ (tw168 hw) (tw167 hw) (by decide) (by decide)) (g := (mkF m 102 #[.val (.ref b15), .val (.int (1 : Int32)), .val (.ref b522_552), .val (.int (0 : Int32)), .val (.int (1 : Int32)), .val (.ref b21_41_64_71), .val (.ref b525_534_552), .val (.int (0 : Int32))] [(.int (1 : Int32)), (.int (0 : Int32)), (.ref b525_534_552), (.int (1 : Int32)), (.ref b21_41_64_71)])) rfl (by rw [hml]; rfl) (argsL := [(.ref b21_41_64_71), (.int (1 : Int32)), (.ref b525_534_552), (.int (0 : Int32)), (.int (1 : Int32))]) (rest := []) (lenOf pd_24 rfl) rfl (by show 2 * 0 + _ ≤ _; exact Nat.le_of_eq rfl) (hb hby d31_102) (fun _ _ => ⟨rfl, eq638, (by decide : 0 + 0 ≤ _), (by decide : 0 + 0 ≤ _)⟩)
  dsimp only [Pt.U, Pt.locs, Pt.cells, Pt.slots] at X642 l642 y642 z642 st642 hQ642
  subst l642 y642 z642
  obtain ⟨rfl, N642q, eq642⟩ := hQ642
  have N643 := Fr.app N639 N642q
  refine Go.step (fun _ k => st642 _ (XS.ifNo X642.here hx rfl (hb hby d31_105) rfl ((if0 _ _).trans (tlt (by decide)).2.1) (XS.iconst X642.here hx rfl (hb hby d31_108) (XS.goto X642.here hx rfl (pc0 := 109) (pc' := 113) rfl (hb hby d31_109) (by decide) (by decide) k)))) ?_
  show Go p e below s _ _ _ T642 (mkF m 113 #[.val (.ref b15), .val (.int (1 : Int32)), .val (.ref b522_552), .val (.int (0 : Int32)), .val (.int (1 : Int32)), .val (.ref b21_41_64_71), .val (.ref b525_534_552), .val (.int (0 : Int32))] [(.int (1 : Int32))])
  exact Go.retN X642 hx hlk (t := .boolean) Bd.returns (by simp) (hb hby d31_113) eq642 ⟨rfl, N643, rfl⟩ (by decide) (by decide)

theorem ef_PropertyIndex_named_1 (m : MethodId) (x0 : Addr) (x1 : Int32) (x2 : Addr) (x3 : Int32) (x4 : Int32) (x5 : Int32) : entryFrame m #[(.ref x0), (.int x1), (.ref x2), (.int x3), (.int x4), (.int x5)] 8 = mkF m 0 #[.val (.ref x0), .val (.int x1), .val (.ref x2), .val (.int x3), .val (.int x4), .val (.int x5), .unset, .unset] [] := by first | (simp [entryFrame, mkF, argsToLocals, Value.category]; done) | rfl
def Q_PropertyIndex_named_1 (Z : State) (b73 : Addr) (b522_552 : Addr) (b96_134 : Addr) (k96_134 : ClassId) (p5 : Int32) (p6 : Int32) (p2 : Int32) (p3 : Int32) (p4 : Int32) (b15 : Addr) (b21_41_64_71 : Addr) (k21_41_64_71 : ClassId) (cs : Int32) (b525_534_552 : Addr) (k525_534_552 : ClassId) (h0 : Heap) (n0 : Nat) (v : Option Value) (h : Heap) (L : List Loc) : Prop := v = some (.int (1 : Int32)) ∧ Fr n0 L ∧ h = h0
set_option maxRecDepth 65536 in
set_option maxHeartbeats 40000000 in
theorem rm_PropertyIndex_named_1 (l : Launch) (Z : State) (a0 : Array Value) (hw : ∀ d ∈ tables_1, d.before a0 Z = true) (ws : List Jvm.Cond) (b73 : Addr) (b522_552 : Addr) (b96_134 : Addr) (k96_134 : ClassId) (p5 : Int32) (p6 : Int32) (p2 : Int32) (p3 : Int32) (p4 : Int32) (b15 : Addr) (b21_41_64_71 : Addr) (k21_41_64_71 : ClassId) (cs : Int32) (b525_534_552 : Addr) (k525_534_552 : ClassId) (h0 : Heap) (n0 : Nat) (Z0 : n0 ≤ h0.size) (F_entries_b73 : Fld Z h0 b73 xs1 "entries" "[I" (.ref b96_134)) (V_b96_134 : Arv Z h0 b96_134 k96_134 .int (12 : Int32) [(.int (0 : Int32)), (.int (1 : Int32)), (.int p5), (.int p6), (.int p5), (.int (97 : Int32)), (.int (1 : Int32)), (.int (2 : Int32)), (.int p2), (.int p3), (.int p4), (.int (98 : Int32))] (.int (0 : Int32))) (F_text_b73 : Fld Z h0 b73 xs1 "text" xs19 (.ref b15)) (E_b15 : Exa Z h0 b15 xs23) (F_value_b15 : Fld Z h0 b15 xs23 "value" "[B" (.ref b21_41_64_71)) (V_b21_41_64_71 : Arv Z h0 b21_41_64_71 k21_41_64_71 .byte (2 : Int32) [(.int (97 : Int32)), (.int (98 : Int32))] (.int (0 : Int32))) (F_coder_b15 : Fld Z h0 b15 xs23 "coder" "B" (.int (0 : Int32))) (Z_S_COMPACT_STRINGS : Sta Z Z.heap xs23 xs24 "Z" (.int cs)) (O0 : Old Z n0 h0) (hcs : ¬ cs = (0 : Int32)) (E_b522_552 : Exa Z h0 b522_552 xs23) (F_value_b522_552 : Fld Z h0 b522_552 xs23 "value" "[B" (.ref b525_534_552)) (V_b525_534_552 : Arv Z h0 b525_534_552 k525_534_552 .byte (1 : Int32) [(.int (98 : Int32))] (.int (0 : Int32))) (F_coder_b522_552 : Fld Z h0 b522_552 xs23 "coder" "B" (.int (0 : Int32))) :
    MetFree l xm30 (head1 (Jvm.Cond.code xm30 prog_15_method_12_code 8 (some .boolean) :: ws) xr14) (fun a U => a = #[(.ref b73), (.int (1 : Int32)), (.ref b522_552), (.int (0 : Int32)), (.int (1 : Int32)), (.int (98 : Int32))] ∧ Z.Warmed39 U.vm ∧ U.heap = h0) (fun _ _ _ _ _ => True) (fun _ U o U' => ∃ v L, o = .returned v ∧ Q_PropertyIndex_named_1 Z b73 b522_552 b96_134 k96_134 p5 p6 p2 p3 p4 b15 b21_41_64_71 k21_41_64_71 cs b525_534_552 k525_534_552 h0 n0 v U'.heap L ∧ FrameEnd U o U' L xr14.cells xr14.slots) := by
  refine MetFree.of_bodySF (plainFor_of_name pn_5) hisR ?_
  intro p e s m args below meth c s₁ Bd hml0 hP hK
  obtain ⟨rfl, hZ, hh⟩ := hP
  have hx := Bd.exec
  have hby := Bd.bytes
  have hlk : meth.locks = false := BodyLoose.notSynchronized Bd
  have hml : c.maxLocals = 8 := hml0
  have hown : s.vm.findClass xs1 = some m.cls := findClass_of_methodNamed Bd.named
  have hnm := (name_of_methodNamed Bd.named Bd.method).1
  have X0 : Stand p l e xr14 s m #[(.ref b73), (.int (1 : Int32)), (.ref b522_552), (.int (0 : Int32)), (.int (1 : Int32)), (.int (98 : Int32))] below meth c s₁ [] 0 0 := Stand.of_body Bd
  have e0 : s₁.heap = h0 := by rw [← hh, Bd.state]; rfl
  have N0 := Fr.nil n0
  show Go p e below s (Q_PropertyIndex_named_1 Z b73 b522_552 b96_134 k96_134 p5 p6 p2 p3 p4 b15 b21_41_64_71 k21_41_64_71 cs b525_534_552 k525_534_552 h0 n0) xr14.cells xr14.slots s₁ (entryFrame m #[(.ref b73), (.int (1 : Int32)), (.ref b522_552), (.int (0 : Int32)), (.int (1 : Int32)), (.int (98 : Int32))] 8)
  refine Go.cast (ef_PropertyIndex_named_1 m b73 (1 : Int32) b522_552 (0 : Int32) (1 : Int32) (98 : Int32)) ?_
  show Go p e below s _ _ _ s₁ (mkF m 0 #[.val (.ref b73), .val (.int (1 : Int32)), .val (.ref b522_552), .val (.int (0 : Int32)), .val (.int (1 : Int32)), .val (.int (98 : Int32)), .unset, .unset] [])
  refine Go.step (fun _ k => XS.iloadN X0.here hx rfl (hb hby d30_0) rfl (XS.bipush X0.here hx rfl (hb hby d30_1) (XS.imul X0.here hx rfl (hb hby d30_3) rfl (XS.istore X0.here hx rfl (hb hby d30_4) rfl (l' := #[.val (.ref b73), .val (.int (1 : Int32)), .val (.ref b522_552), .val (.int (0 : Int32)), .val (.int (1 : Int32)), .val (.int (98 : Int32)), .val (.int (6 : Int32)), .unset]) rfl (XS.aloadN X0.here hx rfl (hb hby d30_6) rfl rfl k))))) ?_
  show Go p e below s _ _ _ s₁ (mkF m 7 #[.val (.ref b73), .val (.int (1 : Int32)), .val (.ref b522_552), .val (.int (0 : Int32)), .val (.int (1 : Int32)), .val (.int (98 : Int32)), .val (.int (6 : Int32)), .unset] [(.ref b73)])
  obtain ⟨T623, X623, e623, st623⟩ := getF X0 hx hZ hown (host := "") (Or.inl (tw51 hw)) Via.refl e0 F_entries_b73 (g := (mkF m 7 #[.val (.ref b73), .val (.int (1 : Int32)), .val (.ref b522_552), .val (.int (0 : Int32)), .val (.int (1 : Int32)), .val (.int (98 : Int32)), .val (.int (6 : Int32)), .unset] [(.ref b73)])) rfl rfl (hb hby d30_7)
  refine Go.step (fun _ k => st623 _ (XS.iload X623.here hx rfl (hb hby d30_10) rfl (XS.iconst X623.here hx rfl (hb hby d30_12) (XS.iadd X623.here hx rfl (hb hby d30_13) rfl k)))) ?_
  show Go p e below s _ _ _ T623 (mkF m 14 #[.val (.ref b73), .val (.int (1 : Int32)), .val (.ref b522_552), .val (.int (0 : Int32)), .val (.int (1 : Int32)), .val (.int (98 : Int32)), .val (.int (6 : Int32)), .unset] [(.int (6 : Int32)), (.ref b96_134)])
  obtain ⟨cl624, Ar624, -, Sz624, Ng624, Hs624, Ft624⟩ := id V_b96_134
  have in624 : ¬ ((6 : Int32) < 0 ∨ cl624.slots.size ≤ ((6 : Int32)).toNatClampNeg) := (inb_of Sz624 ⟨by decide, by decide⟩)
  have at624 : cl624.slots[((6 : Int32)).toNatClampNeg]? = some (.int (1 : Int32)) := Hs624.at in624 rfl
  refine Go.step (fun _ k => X623.iaload hx (j := (6 : Int32)) (v := (.int (1 : Int32))) (by rw [e623]; exact Ar624.1) (State.isArrayOf_alike hZ.alike Ar624.2.1) Ar624.2.2 in624 at624 (g := (mkF m 14 #[.val (.ref b73), .val (.int (1 : Int32)), .val (.ref b522_552), .val (.int (0 : Int32)), .val (.int (1 : Int32)), .val (.int (98 : Int32)), .val (.int (6 : Int32)), .unset] [(.int (6 : Int32)), (.ref b96_134)])) rfl rfl (hb hby d30_14) _ (XS.istore X623.here hx rfl (hb hby d30_15) rfl (l' := #[.val (.ref b73), .val (.int (1 : Int32)), .val (.ref b522_552), .val (.int (0 : Int32)), .val (.int (1 : Int32)), .val (.int (98 : Int32)), .val (.int (6 : Int32)), .val (.int (1 : Int32))]) rfl (XS.aloadN X623.here hx rfl (hb hby d30_17) rfl rfl k))) ?_
  show Go p e below s _ _ _ T623 (mkF m 18 #[.val (.ref b73), .val (.int (1 : Int32)), .val (.ref b522_552), .val (.int (0 : Int32)), .val (.int (1 : Int32)), .val (.int (98 : Int32)), .val (.int (6 : Int32)), .val (.int (1 : Int32))] [(.ref b73)])
  obtain ⟨T625, X625, e625, st625⟩ := getF X623 hx hZ hown (host := "") (Or.inl (tw51 hw)) Via.refl e623 F_entries_b73 (g := (mkF m 18 #[.val (.ref b73), .val (.int (1 : Int32)), .val (.ref b522_552), .val (.int (0 : Int32)), .val (.int (1 : Int32)), .val (.int (98 : Int32)), .val (.int (6 : Int32)), .val (.int (1 : Int32))] [(.ref b73)])) rfl rfl (hb hby d30_18)
  refine Go.step (fun _ k => st625 _ (XS.iload X625.here hx rfl (hb hby d30_21) rfl (XS.iconst X625.here hx rfl (hb hby d30_23) (XS.iadd X625.here hx rfl (hb hby d30_24) rfl k)))) ?_
  show Go p e below s _ _ _ T625 (mkF m 25 #[.val (.ref b73), .val (.int (1 : Int32)), .val (.ref b522_552), .val (.int (0 : Int32)), .val (.int (1 : Int32)), .val (.int (98 : Int32)), .val (.int (6 : Int32)), .val (.int (1 : Int32))] [(.int (11 : Int32)), (.ref b96_134)])
  obtain ⟨cl626, Ar626, -, Sz626, Ng626, Hs626, Ft626⟩ := id V_b96_134
  have in626 : ¬ ((11 : Int32) < 0 ∨ cl626.slots.size ≤ ((11 : Int32)).toNatClampNeg) := (inb_of Sz626 ⟨by decide, by decide⟩)
  have at626 : cl626.slots[((11 : Int32)).toNatClampNeg]? = some (.int (98 : Int32)) := Hs626.at in626 rfl
  refine Go.step (fun _ k => X625.iaload hx (j := (11 : Int32)) (v := (.int (98 : Int32))) (by rw [e625]; exact Ar626.1) (State.isArrayOf_alike hZ.alike Ar626.2.1) Ar626.2.2 in626 at626 (g := (mkF m 25 #[.val (.ref b73), .val (.int (1 : Int32)), .val (.ref b522_552), .val (.int (0 : Int32)), .val (.int (1 : Int32)), .val (.int (98 : Int32)), .val (.int (6 : Int32)), .val (.int (1 : Int32))] [(.int (11 : Int32)), (.ref b96_134)])) rfl rfl (hb hby d30_25) _ (XS.iload X625.here hx rfl (hb hby d30_26) rfl (XS.icmpNo X625.here hx rfl (hb hby d30_28) rfl (teq (by decide)).2 (XS.aloadN X625.here hx rfl (hb hby d30_31) rfl rfl k)))) ?_
  show Go p e below s _ _ _ T625 (mkF m 32 #[.val (.ref b73), .val (.int (1 : Int32)), .val (.ref b522_552), .val (.int (0 : Int32)), .val (.int (1 : Int32)), .val (.int (98 : Int32)), .val (.int (6 : Int32)), .val (.int (1 : Int32))] [(.ref b73)])
  obtain ⟨T627, X627, e627, st627⟩ := getF X625 hx hZ hown (host := "") (Or.inl (tw51 hw)) Via.refl e625 F_entries_b73 (g := (mkF m 32 #[.val (.ref b73), .val (.int (1 : Int32)), .val (.ref b522_552), .val (.int (0 : Int32)), .val (.int (1 : Int32)), .val (.int (98 : Int32)), .val (.int (6 : Int32)), .val (.int (1 : Int32))] [(.ref b73)])) rfl rfl (hb hby d30_32)
  refine Go.step (fun _ k => st627 _ (XS.iload X627.here hx rfl (hb hby d30_35) rfl (XS.iconst X627.here hx rfl (hb hby d30_37) (XS.iadd X627.here hx rfl (hb hby d30_38) rfl k)))) ?_
  show Go p e below s _ _ _ T627 (mkF m 39 #[.val (.ref b73), .val (.int (1 : Int32)), .val (.ref b522_552), .val (.int (0 : Int32)), .val (.int (1 : Int32)), .val (.int (98 : Int32)), .val (.int (6 : Int32)), .val (.int (1 : Int32))] [(.int (7 : Int32)), (.ref b96_134)])
  obtain ⟨cl628, Ar628, -, Sz628, Ng628, Hs628, Ft628⟩ := id V_b96_134
  have in628 : ¬ ((7 : Int32) < 0 ∨ cl628.slots.size ≤ ((7 : Int32)).toNatClampNeg) := (inb_of Sz628 ⟨by decide, by decide⟩)
  have at628 : cl628.slots[((7 : Int32)).toNatClampNeg]? = some (.int (2 : Int32)) := Hs628.at in628 rfl
  refine Go.step (fun _ k => X627.iaload hx (j := (7 : Int32)) (v := (.int (2 : Int32))) (by rw [e627]; exact Ar628.1) (State.isArrayOf_alike hZ.alike Ar628.2.1) Ar628.2.2 in628 at628 (g := (mkF m 39 #[.val (.ref b73), .val (.int (1 : Int32)), .val (.ref b522_552), .val (.int (0 : Int32)), .val (.int (1 : Int32)), .val (.int (98 : Int32)), .val (.int (6 : Int32)), .val (.int (1 : Int32))] [(.int (7 : Int32)), (.ref b96_134)])) rfl rfl (hb hby d30_39) _ (XS.iload X627.here hx rfl (hb hby d30_40) rfl (XS.isub X627.here hx rfl (hb hby d30_42) rfl (XS.iload X627.here hx rfl (hb hby d30_43) rfl (XS.iloadN X627.here hx rfl (hb hby d30_45) rfl (XS.isub X627.here hx rfl (hb hby d30_46) rfl (XS.icmpNo X627.here hx rfl (hb hby d30_47) rfl (teq (by decide)).2 (XS.aloadN X627.here hx rfl (hb hby d30_50) rfl rfl k)))))))) ?_
  show Go p e below s _ _ _ T627 (mkF m 51 #[.val (.ref b73), .val (.int (1 : Int32)), .val (.ref b522_552), .val (.int (0 : Int32)), .val (.int (1 : Int32)), .val (.int (98 : Int32)), .val (.int (6 : Int32)), .val (.int (1 : Int32))] [(.ref b73)])
  obtain ⟨T629, X629, e629, st629⟩ := getF X627 hx hZ hown (host := "") (Or.inl (tw42 hw)) Via.refl e627 F_text_b73 (g := (mkF m 51 #[.val (.ref b73), .val (.int (1 : Int32)), .val (.ref b522_552), .val (.int (0 : Int32)), .val (.int (1 : Int32)), .val (.int (98 : Int32)), .val (.int (6 : Int32)), .val (.int (1 : Int32))] [(.ref b73)])) rfl rfl (hb hby d30_51)
  refine Go.step (fun _ k => st629 _ (XS.iload X629.here hx rfl (hb hby d30_54) rfl (XS.aloadN X629.here hx rfl (hb hby d30_56) rfl rfl (XS.iloadN X629.here hx rfl (hb hby d30_57) rfl (XS.iload X629.here hx rfl (hb hby d30_58) rfl (XS.iloadN X629.here hx rfl (hb hby d30_60) rfl (XS.isub X629.here hx rfl (hb hby d30_61) rfl k))))))) ?_
  show Go p e below s _ _ _ T629 (mkF m 62 #[.val (.ref b73), .val (.int (1 : Int32)), .val (.ref b522_552), .val (.int (0 : Int32)), .val (.int (1 : Int32)), .val (.int (98 : Int32)), .val (.int (6 : Int32)), .val (.int (1 : Int32))] [(.int (1 : Int32)), (.int (0 : Int32)), (.ref b522_552), (.int (1 : Int32)), (.ref b15)])
  obtain ⟨cq644, kq644, q644a, q644b, q644c⟩ := isOf hZ e629 E_b15
  obtain ⟨_, _, ⟨T644, L644, k644, n644⟩, -, X644, ⟨Lc644, hQ644, l644, y644, z644⟩, st644⟩ := X629.virtualBack hx (y := xm5) (z := xm5) hown (mvT hZ (tw159 hw)) (mvT hZ (tw160 hw)) (notFace_of_selects (args := #[]) (mvT hZ (tw162 hw))) (mvT hZ (tw162 hw)) (mvT hZ (tw161 hw)) (by decide) (backOf (W := 0) (rm_String_regionMatches_1 l Z a0 hw [] b15 b522_552 b21_41_64_71 k21_41_64_71 cs b525_534_552 k525_534_552 h0 n0 Z0 E_b15 F_value_b15 V_b21_41_64_71 F_coder_b15 Z_S_COMPACT_STRINGS O0 hcs E_b522_552 F_value_b522_552 V_b525_534_552 F_coder_b522_552) hZ (tw163 hw) (tw3 hw) (by decide) (by decide)) q644a q644c (g := (mkF m 62 #[.val (.ref b73), .val (.int (1 : Int32)), .val (.ref b522_552), .val (.int (0 : Int32)), .val (.int (1 : Int32)), .val (.int (98 : Int32)), .val (.int (6 : Int32)), .val (.int (1 : Int32))] [(.int (1 : Int32)), (.int (0 : Int32)), (.ref b522_552), (.int (1 : Int32)), (.ref b15)])) rfl (by rw [hml]; rfl) (Steps.refl _) (argsL := [(.int (1 : Int32)), (.ref b522_552), (.int (0 : Int32)), (.int (1 : Int32))]) (rest := []) (lenOf pd_25 rfl) rfl (by show 2 * 0 + _ ≤ _; exact Nat.le_of_eq rfl) (hb hby d30_62) (fun _ _ => ⟨rfl, e629, (by decide : 0 + 0 ≤ _), (by decide : 0 + 0 ≤ _)⟩)
  dsimp only [Pt.U, Pt.locs, Pt.cells, Pt.slots] at X644 l644 y644 z644 st644 hQ644
  subst l644 y644 z644
  obtain ⟨rfl, N644q, eq644⟩ := hQ644
  have N645 := Fr.app N0 N644q
  refine Go.step (fun _ k => st644.trans (XS.ifNo X644.here hx rfl (hb hby d30_65) rfl ((if0 _ _).trans (feq (by decide)).1) (XS.iconst X644.here hx rfl (hb hby d30_68) (XS.goto X644.here hx rfl (pc0 := 69) (pc' := 73) rfl (hb hby d30_69) (by decide) (by decide) k)))) ?_
  show Go p e below s _ _ _ T644 (mkF m 73 #[.val (.ref b73), .val (.int (1 : Int32)), .val (.ref b522_552), .val (.int (0 : Int32)), .val (.int (1 : Int32)), .val (.int (98 : Int32)), .val (.int (6 : Int32)), .val (.int (1 : Int32))] [(.int (1 : Int32))])
  exact Go.retN X644 hx hlk (t := .boolean) Bd.returns (by simp) (hb hby d30_73) eq644 ⟨rfl, N645, rfl⟩ (by decide) (by decide)

theorem ef_PropertyIndex_slot_3 (m : MethodId) (x0 : Addr) (x1 : Addr) (x2 : Int32) (x3 : Int32) (x4 : Int32) : entryFrame m #[(.ref x0), (.ref x1), (.int x2), (.int x3), (.int x4)] 7 = mkF m 0 #[.val (.ref x0), .val (.ref x1), .val (.int x2), .val (.int x3), .val (.int x4), .unset, .unset] [] := by first | (simp [entryFrame, mkF, argsToLocals, Value.category]; done) | rfl
def Q_PropertyIndex_slot_3 (Z : State) (b73 : Addr) (b522_552 : Addr) (b108_134 : Addr) (k108_134 : ClassId) (b96_134 : Addr) (k96_134 : ClassId) (p5 : Int32) (p6 : Int32) (p2 : Int32) (p3 : Int32) (p4 : Int32) (b15 : Addr) (b21_41_64_71 : Addr) (k21_41_64_71 : ClassId) (cs : Int32) (b525_534_552 : Addr) (k525_534_552 : ClassId) (h0 : Heap) (n0 : Nat) (v : Option Value) (h : Heap) (L : List Loc) : Prop := v = some (.int (2 : Int32)) ∧ Fr n0 L ∧ h = h0
set_option maxRecDepth 65536 in
set_option maxHeartbeats 40000000 in
theorem rm_PropertyIndex_slot_3 (l : Launch) (Z : State) (a0 : Array Value) (hw : ∀ d ∈ tables_1, d.before a0 Z = true) (ws : List Jvm.Cond) (b73 : Addr) (b522_552 : Addr) (b108_134 : Addr) (k108_134 : ClassId) (b96_134 : Addr) (k96_134 : ClassId) (p5 : Int32) (p6 : Int32) (p2 : Int32) (p3 : Int32) (p4 : Int32) (b15 : Addr) (b21_41_64_71 : Addr) (k21_41_64_71 : ClassId) (cs : Int32) (b525_534_552 : Addr) (k525_534_552 : ClassId) (h0 : Heap) (n0 : Nat) (Z0 : n0 ≤ h0.size) (F_slots_b73 : Fld Z h0 b73 xs1 "slots" "[I" (.ref b108_134)) (V_b108_134 : Arv Z h0 b108_134 k108_134 .int (8 : Int32) [(.int (0 : Int32)), (.int (1 : Int32)), (.int (2 : Int32)), (.int (0 : Int32)), (.int (0 : Int32)), (.int (0 : Int32)), (.int (0 : Int32)), (.int (0 : Int32))] (.int (0 : Int32))) (F_entries_b73 : Fld Z h0 b73 xs1 "entries" "[I" (.ref b96_134)) (V_b96_134 : Arv Z h0 b96_134 k96_134 .int (12 : Int32) [(.int (0 : Int32)), (.int (1 : Int32)), (.int p5), (.int p6), (.int p5), (.int (97 : Int32)), (.int (1 : Int32)), (.int (2 : Int32)), (.int p2), (.int p3), (.int p4), (.int (98 : Int32))] (.int (0 : Int32))) (F_text_b73 : Fld Z h0 b73 xs1 "text" xs19 (.ref b15)) (E_b15 : Exa Z h0 b15 xs23) (F_value_b15 : Fld Z h0 b15 xs23 "value" "[B" (.ref b21_41_64_71)) (V_b21_41_64_71 : Arv Z h0 b21_41_64_71 k21_41_64_71 .byte (2 : Int32) [(.int (97 : Int32)), (.int (98 : Int32))] (.int (0 : Int32))) (F_coder_b15 : Fld Z h0 b15 xs23 "coder" "B" (.int (0 : Int32))) (Z_S_COMPACT_STRINGS : Sta Z Z.heap xs23 xs24 "Z" (.int cs)) (O0 : Old Z n0 h0) (hcs : ¬ cs = (0 : Int32)) (E_b522_552 : Exa Z h0 b522_552 xs23) (F_value_b522_552 : Fld Z h0 b522_552 xs23 "value" "[B" (.ref b525_534_552)) (V_b525_534_552 : Arv Z h0 b525_534_552 k525_534_552 .byte (1 : Int32) [(.int (98 : Int32))] (.int (0 : Int32))) (F_coder_b522_552 : Fld Z h0 b522_552 xs23 "coder" "B" (.int (0 : Int32))) (E_b73 : Exa Z h0 b73 xs1) :
    MetFree l xm32 (head1 (Jvm.Cond.code xm32 prog_15_method_11_code 7 (some .int) :: ws) xr15) (fun a U => a = #[(.ref b73), (.ref b522_552), (.int (0 : Int32)), (.int (1 : Int32)), (.int (98 : Int32))] ∧ Z.Warmed39 U.vm ∧ U.heap = h0) (fun _ _ _ _ _ => True) (fun _ U o U' => ∃ v L, o = .returned v ∧ Q_PropertyIndex_slot_3 Z b73 b522_552 b108_134 k108_134 b96_134 k96_134 p5 p6 p2 p3 p4 b15 b21_41_64_71 k21_41_64_71 cs b525_534_552 k525_534_552 h0 n0 v U'.heap L ∧ FrameEnd U o U' L xr15.cells xr15.slots) := by
  refine MetFree.of_bodySF (plainFor_of_name pn_5) hisR ?_
  intro p e s m args below meth c s₁ Bd hml0 hP hK
  obtain ⟨rfl, hZ, hh⟩ := hP
  have hx := Bd.exec
  have hby := Bd.bytes
  have hlk : meth.locks = false := BodyLoose.notSynchronized Bd
  have hml : c.maxLocals = 7 := hml0
  have hown : s.vm.findClass xs1 = some m.cls := findClass_of_methodNamed Bd.named
  have hnm := (name_of_methodNamed Bd.named Bd.method).1
  have X0 : Stand p l e xr15 s m #[(.ref b73), (.ref b522_552), (.int (0 : Int32)), (.int (1 : Int32)), (.int (98 : Int32))] below meth c s₁ [] 0 0 := Stand.of_body Bd
  have e0 : s₁.heap = h0 := by rw [← hh, Bd.state]; rfl
  have N0 := Fr.nil n0
  show Go p e below s (Q_PropertyIndex_slot_3 Z b73 b522_552 b108_134 k108_134 b96_134 k96_134 p5 p6 p2 p3 p4 b15 b21_41_64_71 k21_41_64_71 cs b525_534_552 k525_534_552 h0 n0) xr15.cells xr15.slots s₁ (entryFrame m #[(.ref b73), (.ref b522_552), (.int (0 : Int32)), (.int (1 : Int32)), (.int (98 : Int32))] 7)
  refine Go.cast (ef_PropertyIndex_slot_3 m b73 b522_552 (0 : Int32) (1 : Int32) (98 : Int32)) ?_
  show Go p e below s _ _ _ s₁ (mkF m 0 #[.val (.ref b73), .val (.ref b522_552), .val (.int (0 : Int32)), .val (.int (1 : Int32)), .val (.int (98 : Int32)), .unset, .unset] [])
  refine Go.step (fun _ k => XS.aloadN X0.here hx rfl (hb hby d18_0) rfl rfl k) ?_
  show Go p e below s _ _ _ s₁ (mkF m 1 #[.val (.ref b73), .val (.ref b522_552), .val (.int (0 : Int32)), .val (.int (1 : Int32)), .val (.int (98 : Int32)), .unset, .unset] [(.ref b73)])
  obtain ⟨T617, X617, e617, st617⟩ := getF X0 hx hZ hown (host := "") (Or.inl (tw62 hw)) Via.refl e0 F_slots_b73 (g := (mkF m 1 #[.val (.ref b73), .val (.ref b522_552), .val (.int (0 : Int32)), .val (.int (1 : Int32)), .val (.int (98 : Int32)), .unset, .unset] [(.ref b73)])) rfl rfl (hb hby d18_1)
  refine Go.step (fun _ k => st617 _ k) ?_
  show Go p e below s _ _ _ T617 (mkF m 4 #[.val (.ref b73), .val (.ref b522_552), .val (.int (0 : Int32)), .val (.int (1 : Int32)), .val (.int (98 : Int32)), .unset, .unset] [(.ref b108_134)])
  obtain ⟨cl618, Ar618, -, Sz618, Ng618, -, -⟩ := id V_b108_134
  have aln618 := X617.arraylength hx (by rw [e617]; exact Ar618.1) (State.isArrayOf_alike hZ.alike Ar618.2.1) (g := (mkF m 4 #[.val (.ref b73), .val (.ref b522_552), .val (.int (0 : Int32)), .val (.int (1 : Int32)), .val (.int (98 : Int32)), .unset, .unset] [(.ref b108_134)])) rfl rfl (hb hby d18_4)
  rw [len_of Sz618 Ng618] at aln618
  refine Go.step (fun _ k => aln618 _ (XS.iconst X617.here hx rfl (hb hby d18_5) (XS.isub X617.here hx rfl (hb hby d18_6) rfl (XS.istore X617.here hx rfl (hb hby d18_7) rfl (l' := #[.val (.ref b73), .val (.ref b522_552), .val (.int (0 : Int32)), .val (.int (1 : Int32)), .val (.int (98 : Int32)), .val (.int (7 : Int32)), .unset]) rfl (XS.iload X617.here hx rfl (hb hby d18_9) rfl (XS.iload X617.here hx rfl (hb hby d18_11) rfl (XS.iand X617.here hx rfl (hb hby d18_13) rfl (XS.istore X617.here hx rfl (hb hby d18_14) rfl (l' := #[.val (.ref b73), .val (.ref b522_552), .val (.int (0 : Int32)), .val (.int (1 : Int32)), .val (.int (98 : Int32)), .val (.int (7 : Int32)), .val (.int (2 : Int32))]) rfl (XS.aloadN X617.here hx rfl (hb hby d18_16) rfl rfl k))))))))) ?_
  show Go p e below s _ _ _ T617 (mkF m 17 #[.val (.ref b73), .val (.ref b522_552), .val (.int (0 : Int32)), .val (.int (1 : Int32)), .val (.int (98 : Int32)), .val (.int (7 : Int32)), .val (.int (2 : Int32))] [(.ref b73)])
  obtain ⟨T619, X619, e619, st619⟩ := getF X617 hx hZ hown (host := "") (Or.inl (tw62 hw)) Via.refl e617 F_slots_b73 (g := (mkF m 17 #[.val (.ref b73), .val (.ref b522_552), .val (.int (0 : Int32)), .val (.int (1 : Int32)), .val (.int (98 : Int32)), .val (.int (7 : Int32)), .val (.int (2 : Int32))] [(.ref b73)])) rfl rfl (hb hby d18_17)
  refine Go.step (fun _ k => st619 _ (XS.iload X619.here hx rfl (hb hby d18_20) rfl k)) ?_
  show Go p e below s _ _ _ T619 (mkF m 22 #[.val (.ref b73), .val (.ref b522_552), .val (.int (0 : Int32)), .val (.int (1 : Int32)), .val (.int (98 : Int32)), .val (.int (7 : Int32)), .val (.int (2 : Int32))] [(.int (2 : Int32)), (.ref b108_134)])
  obtain ⟨cl620, Ar620, -, Sz620, Ng620, Hs620, Ft620⟩ := id V_b108_134
  have in620 : ¬ ((2 : Int32) < 0 ∨ cl620.slots.size ≤ ((2 : Int32)).toNatClampNeg) := (inb_of Sz620 ⟨by decide, by decide⟩)
  have at620 : cl620.slots[((2 : Int32)).toNatClampNeg]? = some (.int (2 : Int32)) := Hs620.at in620 rfl
  refine Go.step (fun _ k => X619.iaload hx (j := (2 : Int32)) (v := (.int (2 : Int32))) (by rw [e619]; exact Ar620.1) (State.isArrayOf_alike hZ.alike Ar620.2.1) Ar620.2.2 in620 at620 (g := (mkF m 22 #[.val (.ref b73), .val (.ref b522_552), .val (.int (0 : Int32)), .val (.int (1 : Int32)), .val (.int (98 : Int32)), .val (.int (7 : Int32)), .val (.int (2 : Int32))] [(.int (2 : Int32)), (.ref b108_134)])) rfl rfl (hb hby d18_22) _ (XS.ifNo X619.here hx rfl (hb hby d18_23) rfl ((if0 _ _).trans (feq (by decide)).1) (XS.aloadN X619.here hx rfl (hb hby d18_26) rfl rfl (XS.aloadN X619.here hx rfl (hb hby d18_27) rfl rfl k)))) ?_
  show Go p e below s _ _ _ T619 (mkF m 28 #[.val (.ref b73), .val (.ref b522_552), .val (.int (0 : Int32)), .val (.int (1 : Int32)), .val (.int (98 : Int32)), .val (.int (7 : Int32)), .val (.int (2 : Int32))] [(.ref b73), (.ref b73)])
  obtain ⟨T621, X621, e621, st621⟩ := getF X619 hx hZ hown (host := "") (Or.inl (tw62 hw)) Via.refl e619 F_slots_b73 (g := (mkF m 28 #[.val (.ref b73), .val (.ref b522_552), .val (.int (0 : Int32)), .val (.int (1 : Int32)), .val (.int (98 : Int32)), .val (.int (7 : Int32)), .val (.int (2 : Int32))] [(.ref b73), (.ref b73)])) rfl rfl (hb hby d18_28)
  refine Go.step (fun _ k => st621 _ (XS.iload X621.here hx rfl (hb hby d18_31) rfl k)) ?_
  show Go p e below s _ _ _ T621 (mkF m 33 #[.val (.ref b73), .val (.ref b522_552), .val (.int (0 : Int32)), .val (.int (1 : Int32)), .val (.int (98 : Int32)), .val (.int (7 : Int32)), .val (.int (2 : Int32))] [(.int (2 : Int32)), (.ref b108_134), (.ref b73)])
  obtain ⟨cl622, Ar622, -, Sz622, Ng622, Hs622, Ft622⟩ := id V_b108_134
  have in622 : ¬ ((2 : Int32) < 0 ∨ cl622.slots.size ≤ ((2 : Int32)).toNatClampNeg) := (inb_of Sz622 ⟨by decide, by decide⟩)
  have at622 : cl622.slots[((2 : Int32)).toNatClampNeg]? = some (.int (2 : Int32)) := Hs622.at in622 rfl
  refine Go.step (fun _ k => X621.iaload hx (j := (2 : Int32)) (v := (.int (2 : Int32))) (by rw [e621]; exact Ar622.1) (State.isArrayOf_alike hZ.alike Ar622.2.1) Ar622.2.2 in622 at622 (g := (mkF m 33 #[.val (.ref b73), .val (.ref b522_552), .val (.int (0 : Int32)), .val (.int (1 : Int32)), .val (.int (98 : Int32)), .val (.int (7 : Int32)), .val (.int (2 : Int32))] [(.int (2 : Int32)), (.ref b108_134), (.ref b73)])) rfl rfl (hb hby d18_33) _ (XS.iconst X621.here hx rfl (hb hby d18_34) (XS.isub X621.here hx rfl (hb hby d18_35) rfl (XS.aloadN X621.here hx rfl (hb hby d18_36) rfl rfl (XS.iloadN X621.here hx rfl (hb hby d18_37) rfl (XS.iloadN X621.here hx rfl (hb hby d18_38) rfl (XS.iload X621.here hx rfl (hb hby d18_39) rfl k))))))) ?_
  show Go p e below s _ _ _ T621 (mkF m 41 #[.val (.ref b73), .val (.ref b522_552), .val (.int (0 : Int32)), .val (.int (1 : Int32)), .val (.int (98 : Int32)), .val (.int (7 : Int32)), .val (.int (2 : Int32))] [(.int (98 : Int32)), (.int (1 : Int32)), (.int (0 : Int32)), (.ref b522_552), (.int (1 : Int32)), (.ref b73)])
  obtain ⟨cq646, q646, q646'⟩ := E_b73.cell
  obtain ⟨_, _, ⟨T646, L646, k646, n646⟩, -, X646, ⟨Lc646, hQ646, l646, y646, z646⟩, st646⟩ := X621.privateBack hx (y := xm30) hown (mvT hZ (tw155 hw)) (mvT hZ (tw156 hw)) (own_selP (mvT hZ (tw31 hw)) (Cond.privateMethod_at (mvP hZ (tw157 hw) (args := #[]))) (mvT hZ (tw156 hw)) (by decide)) (Cond.privateMethod_at (mvP hZ (tw157 hw) (args := #[]))) (mvT hZ (tw158 hw)) (by decide) (backOf (W := 0) (rm_PropertyIndex_named_1 l Z a0 hw [] b73 b522_552 b96_134 k96_134 p5 p6 p2 p3 p4 b15 b21_41_64_71 k21_41_64_71 cs b525_534_552 k525_534_552 h0 n0 Z0 F_entries_b73 V_b96_134 F_text_b73 E_b15 F_value_b15 V_b21_41_64_71 F_coder_b15 Z_S_COMPACT_STRINGS O0 hcs E_b522_552 F_value_b522_552 V_b525_534_552 F_coder_b522_552) hZ (tw158 hw) (tw32 hw) (by decide) (by decide)) (g := (mkF m 41 #[.val (.ref b73), .val (.ref b522_552), .val (.int (0 : Int32)), .val (.int (1 : Int32)), .val (.int (98 : Int32)), .val (.int (7 : Int32)), .val (.int (2 : Int32))] [(.int (98 : Int32)), (.int (1 : Int32)), (.int (0 : Int32)), (.ref b522_552), (.int (1 : Int32)), (.ref b73)])) rfl (by rw [hml]; rfl) (Steps.refl _) (a := b73) (by rw [e621]; exact q646) q646' (argsL := [(.int (1 : Int32)), (.ref b522_552), (.int (0 : Int32)), (.int (1 : Int32)), (.int (98 : Int32))]) (rest := []) (lenOf pd_26 rfl) rfl (by show 2 * 0 + _ ≤ _; exact Nat.le_of_eq rfl) (hb hby d18_41) (fun _ _ => ⟨rfl, e621, (by decide : 0 + 0 ≤ _), (by decide : 0 + 0 ≤ _)⟩)
  dsimp only [Pt.U, Pt.locs, Pt.cells, Pt.slots] at X646 l646 y646 z646 st646 hQ646
  subst l646 y646 z646
  obtain ⟨rfl, N646q, eq646⟩ := hQ646
  have N647 := Fr.app N0 N646q
  refine Go.step (fun _ k => st646.trans (XS.ifYes X646.here hx rfl (pc0 := 44) (pc' := 59) rfl (hb hby d18_44) rfl ((if0 _ _).trans (feq (by decide)).2) (by decide) (by decide) (XS.iload X646.here hx rfl (hb hby d18_59) rfl k))) ?_
  show Go p e below s _ _ _ T646 (mkF m 61 #[.val (.ref b73), .val (.ref b522_552), .val (.int (0 : Int32)), .val (.int (1 : Int32)), .val (.int (98 : Int32)), .val (.int (7 : Int32)), .val (.int (2 : Int32))] [(.int (2 : Int32))])
  exact Go.retI X646 hx hlk Bd.returns (hb hby d18_61) eq646 ⟨rfl, N647, rfl⟩ (by decide) (by decide)

theorem ef_PropertyIndex_find_1 (m : MethodId) (x0 : Addr) (x1 : Addr) : entryFrame m #[(.ref x0), (.ref x1)] 5 = mkF m 0 #[.val (.ref x0), .val (.ref x1), .unset, .unset, .unset] [] := by first | (simp [entryFrame, mkF, argsToLocals, Value.category]; done) | rfl
def Q_PropertyIndex_find_1 (Z : State) (b73 : Addr) (b522_552 : Addr) (b108_134 : Addr) (b525_534_552 : Addr) (k525_534_552 : ClassId) (cs : Int32) (fv : Value) (k108_134 : ClassId) (b96_134 : Addr) (k96_134 : ClassId) (p5 : Int32) (p6 : Int32) (p2 : Int32) (p3 : Int32) (p4 : Int32) (b15 : Addr) (b21_41_64_71 : Addr) (k21_41_64_71 : ClassId) (h0 : Heap) (n0 : Nat) (v : Option Value) (h : Heap) (L : List Loc) : Prop := v = some (.int (1 : Int32)) ∧ Fr n0 L ∧ h = h0
set_option maxRecDepth 65536 in
set_option maxHeartbeats 40000000 in
theorem rm_PropertyIndex_find_1 (l : Launch) (Z : State) (a0 : Array Value) (hw : ∀ d ∈ tables_1, d.before a0 Z = true) (ws : List Jvm.Cond) (b73 : Addr) (b522_552 : Addr) (b108_134 : Addr) (b525_534_552 : Addr) (k525_534_552 : ClassId) (cs : Int32) (fv : Value) (k108_134 : ClassId) (b96_134 : Addr) (k96_134 : ClassId) (p5 : Int32) (p6 : Int32) (p2 : Int32) (p3 : Int32) (p4 : Int32) (b15 : Addr) (b21_41_64_71 : Addr) (k21_41_64_71 : ClassId) (h0 : Heap) (n0 : Nat) (Z0 : n0 ≤ h0.size) (E_b522_552 : Exa Z h0 b522_552 xs23) (F_slots_b73 : Fld Z h0 b73 xs1 "slots" "[I" (.ref b108_134)) (F_value_b522_552 : Fld Z h0 b522_552 xs23 "value" "[B" (.ref b525_534_552)) (V_b525_534_552 : Arv Z h0 b525_534_552 k525_534_552 .byte (1 : Int32) [(.int (98 : Int32))] (.int (0 : Int32))) (F_coder_b522_552 : Fld Z h0 b522_552 xs23 "coder" "B" (.int (0 : Int32))) (Z_S_COMPACT_STRINGS : Sta Z Z.heap xs23 xs24 "Z" (.int cs)) (O0 : Old Z n0 h0) (hcs : ¬ cs = (0 : Int32)) (F_keyed_b73 : Fld Z h0 b73 xs1 "keyed" "Z" (.int (0 : Int32))) (Z_S_SIOOBE_FORMATTER : Sta Z Z.heap xs5 xs22 xs6 fv) (hfv : fv.isRef = true) (E_b73 : Exa Z h0 b73 xs1) (V_b108_134 : Arv Z h0 b108_134 k108_134 .int (8 : Int32) [(.int (0 : Int32)), (.int (1 : Int32)), (.int (2 : Int32)), (.int (0 : Int32)), (.int (0 : Int32)), (.int (0 : Int32)), (.int (0 : Int32)), (.int (0 : Int32))] (.int (0 : Int32))) (F_entries_b73 : Fld Z h0 b73 xs1 "entries" "[I" (.ref b96_134)) (V_b96_134 : Arv Z h0 b96_134 k96_134 .int (12 : Int32) [(.int (0 : Int32)), (.int (1 : Int32)), (.int p5), (.int p6), (.int p5), (.int (97 : Int32)), (.int (1 : Int32)), (.int (2 : Int32)), (.int p2), (.int p3), (.int p4), (.int (98 : Int32))] (.int (0 : Int32))) (F_text_b73 : Fld Z h0 b73 xs1 "text" xs19 (.ref b15)) (E_b15 : Exa Z h0 b15 xs23) (F_value_b15 : Fld Z h0 b15 xs23 "value" "[B" (.ref b21_41_64_71)) (V_b21_41_64_71 : Arv Z h0 b21_41_64_71 k21_41_64_71 .byte (2 : Int32) [(.int (97 : Int32)), (.int (98 : Int32))] (.int (0 : Int32))) (F_coder_b15 : Fld Z h0 b15 xs23 "coder" "B" (.int (0 : Int32))) :
    MetFree l xm31 (head1 (Jvm.Cond.code xm31 prog_15_method_10_code 5 (some .int) :: ws) xr16) (fun a U => a = #[(.ref b73), (.ref b522_552)] ∧ Z.Warmed39 U.vm ∧ U.heap = h0) (fun _ _ _ _ _ => True) (fun _ U o U' => ∃ v L, o = .returned v ∧ Q_PropertyIndex_find_1 Z b73 b522_552 b108_134 b525_534_552 k525_534_552 cs fv k108_134 b96_134 k96_134 p5 p6 p2 p3 p4 b15 b21_41_64_71 k21_41_64_71 h0 n0 v U'.heap L ∧ FrameEnd U o U' L xr16.cells xr16.slots) := by
  refine MetFree.of_bodySF (plainFor_of_name pn_5) hisR ?_
  intro p e s m args below meth c s₁ Bd hml0 hP hK
  obtain ⟨rfl, hZ, hh⟩ := hP
  have hx := Bd.exec
  have hby := Bd.bytes
  have hlk : meth.locks = false := BodyLoose.notSynchronized Bd
  have hml : c.maxLocals = 5 := hml0
  have hown : s.vm.findClass xs1 = some m.cls := findClass_of_methodNamed Bd.named
  have hnm := (name_of_methodNamed Bd.named Bd.method).1
  have X0 : Stand p l e xr16 s m #[(.ref b73), (.ref b522_552)] below meth c s₁ [] 0 0 := Stand.of_body Bd
  have e0 : s₁.heap = h0 := by rw [← hh, Bd.state]; rfl
  have N0 := Fr.nil n0
  show Go p e below s (Q_PropertyIndex_find_1 Z b73 b522_552 b108_134 b525_534_552 k525_534_552 cs fv k108_134 b96_134 k96_134 p5 p6 p2 p3 p4 b15 b21_41_64_71 k21_41_64_71 h0 n0) xr16.cells xr16.slots s₁ (entryFrame m #[(.ref b73), (.ref b522_552)] 5)
  refine Go.cast (ef_PropertyIndex_find_1 m b73 b522_552) ?_
  show Go p e below s _ _ _ s₁ (mkF m 0 #[.val (.ref b73), .val (.ref b522_552), .unset, .unset, .unset] [])
  refine Go.step (fun _ k => XS.iconst X0.here hx rfl (hb hby d27_0) (XS.istoreN X0.here hx rfl (hb hby d27_1) rfl (l' := #[.val (.ref b73), .val (.ref b522_552), .val (.int (-1 : Int32)), .unset, .unset]) rfl (XS.aloadN X0.here hx rfl (hb hby d27_2) rfl rfl k))) ?_
  show Go p e below s _ _ _ s₁ (mkF m 3 #[.val (.ref b73), .val (.ref b522_552), .val (.int (-1 : Int32)), .unset, .unset] [(.ref b522_552)])
  obtain ⟨T590, X590, e590, st590⟩ := instY X0 hx hZ hown (tw144 hw) e0 (Ins.self E_b522_552) (g := (mkF m 3 #[.val (.ref b73), .val (.ref b522_552), .val (.int (-1 : Int32)), .unset, .unset] [(.ref b522_552)])) rfl rfl (hb hby d27_3)
  refine Go.step (fun _ k => st590 _ (XS.ifNo X590.here hx rfl (hb hby d27_6) rfl ((if0 _ _).trans (feq (by decide)).1) (XS.aloadN X590.here hx rfl (hb hby d27_9) rfl rfl k))) ?_
  show Go p e below s _ _ _ T590 (mkF m 10 #[.val (.ref b73), .val (.ref b522_552), .val (.int (-1 : Int32)), .unset, .unset] [(.ref b522_552)])
  obtain ⟨T591, X591, e591, st591⟩ := castY X590 hx hZ hown (tw144 hw) e590 (Ins.self E_b522_552) (g := (mkF m 10 #[.val (.ref b73), .val (.ref b522_552), .val (.int (-1 : Int32)), .unset, .unset] [(.ref b522_552)])) rfl rfl (hb hby d27_10)
  refine Go.step (fun _ k => st591 _ (XS.astoreN X591.here hx rfl (hb hby d27_13) rfl rfl (l' := #[.val (.ref b73), .val (.ref b522_552), .val (.int (-1 : Int32)), .val (.ref b522_552), .unset]) rfl (XS.aloadN X591.here hx rfl (hb hby d27_14) rfl rfl k))) ?_
  show Go p e below s _ _ _ T591 (mkF m 15 #[.val (.ref b73), .val (.ref b522_552), .val (.int (-1 : Int32)), .val (.ref b522_552), .unset] [(.ref b73)])
  obtain ⟨T592, X592, e592, st592⟩ := getF X591 hx hZ hown (host := "") (Or.inl (tw62 hw)) Via.refl e591 F_slots_b73 (g := (mkF m 15 #[.val (.ref b73), .val (.ref b522_552), .val (.int (-1 : Int32)), .val (.ref b522_552), .unset] [(.ref b73)])) rfl rfl (hb hby d27_15)
  refine Go.step (fun _ k => st592 _ (XS.aloadN X592.here hx rfl (hb hby d27_18) rfl rfl (XS.aloadN X592.here hx rfl (hb hby d27_19) rfl rfl (XS.iconst X592.here hx rfl (hb hby d27_20) (XS.aloadN X592.here hx rfl (hb hby d27_21) rfl rfl k))))) ?_
  show Go p e below s _ _ _ T592 (mkF m 22 #[.val (.ref b73), .val (.ref b522_552), .val (.int (-1 : Int32)), .val (.ref b522_552), .unset] [(.ref b522_552), (.int (0 : Int32)), (.ref b522_552), (.ref b73), (.ref b108_134)])
  obtain ⟨cq597, kq597, q597a, q597b, q597c⟩ := isOf hZ e592 E_b522_552
  obtain ⟨_, _, ⟨T597, L597, k597, n597⟩, -, X597, ⟨Lc597, hQ597, l597, y597, z597⟩, st597⟩ := X592.virtualBack hx (y := xm21) (z := xm21) hown (mvT hZ (tw145 hw)) (mvT hZ (tw146 hw)) (notFace_of_selects (args := #[]) (mvT hZ (tw148 hw))) (mvT hZ (tw148 hw)) (mvT hZ (tw147 hw)) (by decide) (backOf (W := 4) (rm_String_length_2 l Z a0 hw [] b522_552 b525_534_552 k525_534_552 cs h0 n0 Z0 F_value_b522_552 V_b525_534_552 E_b522_552 F_coder_b522_552 Z_S_COMPACT_STRINGS O0 hcs) hZ (tw149 hw) (tw3 hw) (by decide) (by decide)) q597a q597c (g := (mkF m 22 #[.val (.ref b73), .val (.ref b522_552), .val (.int (-1 : Int32)), .val (.ref b522_552), .unset] [(.ref b522_552), (.int (0 : Int32)), (.ref b522_552), (.ref b73), (.ref b108_134)])) rfl (by rw [hml]; rfl) (Steps.refl _) (argsL := []) (rest := [(.int (0 : Int32)), (.ref b522_552), (.ref b73), (.ref b108_134)]) (lenOf pd_23 rfl) rfl (by show 2 * 0 + _ ≤ _; exact Nat.le_of_eq rfl) (hb hby d27_22) (fun _ _ => ⟨rfl, e592, (by decide : 0 + 0 ≤ _), (by decide : 0 + 0 ≤ _)⟩)
  dsimp only [Pt.U, Pt.locs, Pt.cells, Pt.slots] at X597 l597 y597 z597 st597 hQ597
  subst l597 y597 z597
  obtain ⟨rfl, N597q, eq597⟩ := hQ597
  have N598 := Fr.app N0 N597q
  refine Go.step (fun _ k => st597.trans (XS.aloadN X597.here hx rfl (hb hby d27_25) rfl rfl (XS.aloadN X597.here hx rfl (hb hby d27_26) rfl rfl (XS.iconst X597.here hx rfl (hb hby d27_27) (XS.aloadN X597.here hx rfl (hb hby d27_28) rfl rfl k))))) ?_
  show Go p e below s _ _ _ T597 (mkF m 29 #[.val (.ref b73), .val (.ref b522_552), .val (.int (-1 : Int32)), .val (.ref b522_552), .unset] [(.ref b522_552), (.int (0 : Int32)), (.ref b522_552), (.ref b73), (.int (1 : Int32)), (.int (0 : Int32)), (.ref b522_552), (.ref b73), (.ref b108_134)])
  obtain ⟨cq599, kq599, q599a, q599b, q599c⟩ := isOf hZ eq597 E_b522_552
  obtain ⟨_, _, ⟨T599, L599, k599, n599⟩, -, X599, ⟨Lc599, hQ599, l599, y599, z599⟩, st599⟩ := X597.virtualBack hx (y := xm21) (z := xm21) hown (mvT hZ (tw145 hw)) (mvT hZ (tw146 hw)) (notFace_of_selects (args := #[]) (mvT hZ (tw148 hw))) (mvT hZ (tw148 hw)) (mvT hZ (tw147 hw)) (by decide) (backOf (W := 8) (rm_String_length_2 l Z a0 hw [] b522_552 b525_534_552 k525_534_552 cs h0 n0 Z0 F_value_b522_552 V_b525_534_552 E_b522_552 F_coder_b522_552 Z_S_COMPACT_STRINGS O0 hcs) hZ (tw149 hw) (tw3 hw) (by decide) (by decide)) q599a q599c (g := (mkF m 29 #[.val (.ref b73), .val (.ref b522_552), .val (.int (-1 : Int32)), .val (.ref b522_552), .unset] [(.ref b522_552), (.int (0 : Int32)), (.ref b522_552), (.ref b73), (.int (1 : Int32)), (.int (0 : Int32)), (.ref b522_552), (.ref b73), (.ref b108_134)])) rfl (by rw [hml]; rfl) (Steps.refl _) (argsL := []) (rest := [(.int (0 : Int32)), (.ref b522_552), (.ref b73), (.int (1 : Int32)), (.int (0 : Int32)), (.ref b522_552), (.ref b73), (.ref b108_134)]) (lenOf pd_23 rfl) rfl (by show 2 * 0 + _ ≤ _; exact Nat.le_of_eq rfl) (hb hby d27_29) (fun _ _ => ⟨rfl, eq597, (by decide : 0 + 0 ≤ _), (by decide : 0 + 0 ≤ _)⟩)
  dsimp only [Pt.U, Pt.locs, Pt.cells, Pt.slots] at X599 l599 y599 z599 st599 hQ599
  subst l599 y599 z599
  obtain ⟨rfl, N599q, eq599⟩ := hQ599
  have N600 := Fr.app N598 N599q
  refine Go.step (fun _ k => st599.trans k) ?_
  show Go p e below s _ _ _ T599 (mkF m 32 #[.val (.ref b73), .val (.ref b522_552), .val (.int (-1 : Int32)), .val (.ref b522_552), .unset] [(.int (1 : Int32)), (.int (0 : Int32)), (.ref b522_552), (.ref b73), (.int (1 : Int32)), (.int (0 : Int32)), (.ref b522_552), (.ref b73), (.ref b108_134)])
  obtain ⟨cq615, q615, q615'⟩ := E_b73.cell
  obtain ⟨_, _, ⟨T615, L615, k615, n615⟩, -, X615, ⟨Lc615, hQ615, l615, y615, z615⟩, st615⟩ := X599.privateBack hx (y := xm29) hown (mvT hZ (tw69 hw)) (mvT hZ (tw70 hw)) (own_selP (mvT hZ (tw31 hw)) (Cond.privateMethod_at (mvP hZ (tw71 hw) (args := #[]))) (mvT hZ (tw70 hw)) (by decide)) (Cond.privateMethod_at (mvP hZ (tw71 hw) (args := #[]))) (mvT hZ (tw72 hw)) (by decide) (backOf (W := 5) (rm_PropertyIndex_hash_3 l Z a0 hw [] b73 b522_552 b525_534_552 k525_534_552 cs fv h0 n0 Z0 F_keyed_b73 E_b522_552 F_coder_b522_552 F_value_b522_552 V_b525_534_552 Z_S_COMPACT_STRINGS O0 hcs Z_S_SIOOBE_FORMATTER hfv) hZ (tw72 hw) (tw32 hw) (by decide) (by decide)) (g := (mkF m 32 #[.val (.ref b73), .val (.ref b522_552), .val (.int (-1 : Int32)), .val (.ref b522_552), .unset] [(.int (1 : Int32)), (.int (0 : Int32)), (.ref b522_552), (.ref b73), (.int (1 : Int32)), (.int (0 : Int32)), (.ref b522_552), (.ref b73), (.ref b108_134)])) rfl (by rw [hml]; rfl) (Steps.refl _) (a := b73) (by rw [eq599]; exact q615) q615' (argsL := [(.ref b522_552), (.int (0 : Int32)), (.int (1 : Int32))]) (rest := [(.int (1 : Int32)), (.int (0 : Int32)), (.ref b522_552), (.ref b73), (.ref b108_134)]) (lenOf pd_14 rfl) rfl (by show 2 * 0 + _ ≤ _; exact Nat.le_of_eq rfl) (hb hby d27_32) (fun _ _ => ⟨rfl, eq599, (by decide : 0 + 0 ≤ _), (by decide : 0 + 0 ≤ _)⟩)
  dsimp only [Pt.U, Pt.locs, Pt.cells, Pt.slots] at X615 l615 y615 z615 st615 hQ615
  subst l615 y615 z615
  obtain ⟨rfl, N615q, eq615⟩ := hQ615
  have N616 := Fr.app N600 N615q
  refine Go.step (fun _ k => st615.trans k) ?_
  show Go p e below s _ _ _ T615 (mkF m 35 #[.val (.ref b73), .val (.ref b522_552), .val (.int (-1 : Int32)), .val (.ref b522_552), .unset] [(.int (98 : Int32)), (.int (1 : Int32)), (.int (0 : Int32)), (.ref b522_552), (.ref b73), (.ref b108_134)])
  obtain ⟨cq648, q648, q648'⟩ := E_b73.cell
  obtain ⟨_, _, ⟨T648, L648, k648, n648⟩, -, X648, ⟨Lc648, hQ648, l648, y648, z648⟩, st648⟩ := X615.privateBack hx (y := xm32) hown (mvT hZ (tw100 hw)) (mvT hZ (tw101 hw)) (own_selP (mvT hZ (tw31 hw)) (Cond.privateMethod_at (mvP hZ (tw102 hw) (args := #[]))) (mvT hZ (tw101 hw)) (by decide)) (Cond.privateMethod_at (mvP hZ (tw102 hw) (args := #[]))) (mvT hZ (tw103 hw)) (by decide) (backOf (W := 1) (rm_PropertyIndex_slot_3 l Z a0 hw [] b73 b522_552 b108_134 k108_134 b96_134 k96_134 p5 p6 p2 p3 p4 b15 b21_41_64_71 k21_41_64_71 cs b525_534_552 k525_534_552 h0 n0 Z0 F_slots_b73 V_b108_134 F_entries_b73 V_b96_134 F_text_b73 E_b15 F_value_b15 V_b21_41_64_71 F_coder_b15 Z_S_COMPACT_STRINGS O0 hcs E_b522_552 F_value_b522_552 V_b525_534_552 F_coder_b522_552 E_b73) hZ (tw103 hw) (tw32 hw) (by decide) (by decide)) (g := (mkF m 35 #[.val (.ref b73), .val (.ref b522_552), .val (.int (-1 : Int32)), .val (.ref b522_552), .unset] [(.int (98 : Int32)), (.int (1 : Int32)), (.int (0 : Int32)), (.ref b522_552), (.ref b73), (.ref b108_134)])) rfl (by rw [hml]; rfl) (Steps.refl _) (a := b73) (by rw [eq615]; exact q648) q648' (argsL := [(.ref b522_552), (.int (0 : Int32)), (.int (1 : Int32)), (.int (98 : Int32))]) (rest := [(.ref b108_134)]) (lenOf pd_15 rfl) rfl (by show 2 * 0 + _ ≤ _; exact Nat.le_of_eq rfl) (hb hby d27_35) (fun _ _ => ⟨rfl, eq615, (by decide : 0 + 0 ≤ _), (by decide : 0 + 0 ≤ _)⟩)
  dsimp only [Pt.U, Pt.locs, Pt.cells, Pt.slots] at X648 l648 y648 z648 st648 hQ648
  subst l648 y648 z648
  obtain ⟨rfl, N648q, eq648⟩ := hQ648
  have N649 := Fr.app N616 N648q
  refine Go.step (fun _ k => st648.trans k) ?_
  show Go p e below s _ _ _ T648 (mkF m 38 #[.val (.ref b73), .val (.ref b522_552), .val (.int (-1 : Int32)), .val (.ref b522_552), .unset] [(.int (2 : Int32)), (.ref b108_134)])
  obtain ⟨cl650, Ar650, -, Sz650, Ng650, Hs650, Ft650⟩ := id V_b108_134
  have in650 : ¬ ((2 : Int32) < 0 ∨ cl650.slots.size ≤ ((2 : Int32)).toNatClampNeg) := (inb_of Sz650 ⟨by decide, by decide⟩)
  have at650 : cl650.slots[((2 : Int32)).toNatClampNeg]? = some (.int (2 : Int32)) := Hs650.at in650 rfl
  refine Go.step (fun _ k => X648.iaload hx (j := (2 : Int32)) (v := (.int (2 : Int32))) (by rw [eq648]; exact Ar650.1) (State.isArrayOf_alike hZ.alike Ar650.2.1) Ar650.2.2 in650 at650 (g := (mkF m 38 #[.val (.ref b73), .val (.ref b522_552), .val (.int (-1 : Int32)), .val (.ref b522_552), .unset] [(.int (2 : Int32)), (.ref b108_134)])) rfl rfl (hb hby d27_38) _ (XS.istore X648.here hx rfl (hb hby d27_39) rfl (l' := #[.val (.ref b73), .val (.ref b522_552), .val (.int (-1 : Int32)), .val (.ref b522_552), .val (.int (2 : Int32))]) rfl (XS.iload X648.here hx rfl (hb hby d27_41) rfl (XS.iconst X648.here hx rfl (hb hby d27_43) (XS.isub X648.here hx rfl (hb hby d27_44) rfl (XS.istoreN X648.here hx rfl (hb hby d27_45) rfl (l' := #[.val (.ref b73), .val (.ref b522_552), .val (.int (1 : Int32)), .val (.ref b522_552), .val (.int (2 : Int32))]) rfl (XS.iloadN X648.here hx rfl (hb hby d27_46) rfl k))))))) ?_
  show Go p e below s _ _ _ T648 (mkF m 47 #[.val (.ref b73), .val (.ref b522_552), .val (.int (1 : Int32)), .val (.ref b522_552), .val (.int (2 : Int32))] [(.int (1 : Int32))])
  exact Go.retI X648 hx hlk Bd.returns (hb hby d27_47) eq648 ⟨rfl, N649, rfl⟩ (by decide) (by decide)

theorem ef_PropertyIndex_valueStart_3 (m : MethodId) (x0 : Addr) (x1 : Int32) : entryFrame m #[(.ref x0), (.int x1)] 2 = mkF m 0 #[.val (.ref x0), .val (.int x1)] [] := by first | (simp [entryFrame, mkF, argsToLocals, Value.category]; done) | rfl
def Q_PropertyIndex_valueStart_3 (Z : State) (b73 : Addr) (b96_134 : Addr) (k96_134 : ClassId) (p5 : Int32) (p6 : Int32) (p2 : Int32) (p3 : Int32) (p4 : Int32) (h0 : Heap) (n0 : Nat) (v : Option Value) (h : Heap) (L : List Loc) : Prop := v = some (.int p5) ∧ Fr n0 L ∧ h = h0
set_option maxRecDepth 65536 in
set_option maxHeartbeats 40000000 in
theorem rm_PropertyIndex_valueStart_3 (l : Launch) (Z : State) (a0 : Array Value) (hw : ∀ d ∈ tables_1, d.before a0 Z = true) (ws : List Jvm.Cond) (b73 : Addr) (b96_134 : Addr) (k96_134 : ClassId) (p5 : Int32) (p6 : Int32) (p2 : Int32) (p3 : Int32) (p4 : Int32) (h0 : Heap) (n0 : Nat) (Z0 : n0 ≤ h0.size) (F_entries_b73 : Fld Z h0 b73 xs1 "entries" "[I" (.ref b96_134)) (V_b96_134 : Arv Z h0 b96_134 k96_134 .int (12 : Int32) [(.int (0 : Int32)), (.int (1 : Int32)), (.int p5), (.int p6), (.int p5), (.int (97 : Int32)), (.int (1 : Int32)), (.int (2 : Int32)), (.int p2), (.int p3), (.int p4), (.int (98 : Int32))] (.int (0 : Int32))) :
    MetFree l xm8 (head1 (Jvm.Cond.code xm8 prog_15_method_19_code 2 (some .int) :: ws) xr17) (fun a U => a = #[(.ref b73), (.int (0 : Int32))] ∧ Z.Warmed39 U.vm ∧ U.heap = h0) (fun _ _ _ _ _ => True) (fun _ U o U' => ∃ v L, o = .returned v ∧ Q_PropertyIndex_valueStart_3 Z b73 b96_134 k96_134 p5 p6 p2 p3 p4 h0 n0 v U'.heap L ∧ FrameEnd U o U' L xr17.cells xr17.slots) := by
  refine MetFree.of_bodySF (plainFor_of_name pn_5) hisR ?_
  intro p e s m args below meth c s₁ Bd hml0 hP hK
  obtain ⟨rfl, hZ, hh⟩ := hP
  have hx := Bd.exec
  have hby := Bd.bytes
  have hlk : meth.locks = false := BodyLoose.notSynchronized Bd
  have hml : c.maxLocals = 2 := hml0
  have hown : s.vm.findClass xs1 = some m.cls := findClass_of_methodNamed Bd.named
  have hnm := (name_of_methodNamed Bd.named Bd.method).1
  have X0 : Stand p l e xr17 s m #[(.ref b73), (.int (0 : Int32))] below meth c s₁ [] 0 0 := Stand.of_body Bd
  have e0 : s₁.heap = h0 := by rw [← hh, Bd.state]; rfl
  have N0 := Fr.nil n0
  show Go p e below s (Q_PropertyIndex_valueStart_3 Z b73 b96_134 k96_134 p5 p6 p2 p3 p4 h0 n0) xr17.cells xr17.slots s₁ (entryFrame m #[(.ref b73), (.int (0 : Int32))] 2)
  refine Go.cast (ef_PropertyIndex_valueStart_3 m b73 (0 : Int32)) ?_
  show Go p e below s _ _ _ s₁ (mkF m 0 #[.val (.ref b73), .val (.int (0 : Int32))] [])
  refine Go.step (fun _ k => XS.aloadN X0.here hx rfl (hb hby d24_0) rfl rfl k) ?_
  show Go p e below s _ _ _ s₁ (mkF m 1 #[.val (.ref b73), .val (.int (0 : Int32))] [(.ref b73)])
  obtain ⟨T668, X668, e668, st668⟩ := getF X0 hx hZ hown (host := "") (Or.inl (tw51 hw)) Via.refl e0 F_entries_b73 (g := (mkF m 1 #[.val (.ref b73), .val (.int (0 : Int32))] [(.ref b73)])) rfl rfl (hb hby d24_1)
  refine Go.step (fun _ k => st668 _ (XS.iloadN X668.here hx rfl (hb hby d24_4) rfl (XS.bipush X668.here hx rfl (hb hby d24_5) (XS.imul X668.here hx rfl (hb hby d24_7) rfl (XS.iconst X668.here hx rfl (hb hby d24_8) (XS.iadd X668.here hx rfl (hb hby d24_9) rfl k)))))) ?_
  show Go p e below s _ _ _ T668 (mkF m 10 #[.val (.ref b73), .val (.int (0 : Int32))] [(.int (2 : Int32)), (.ref b96_134)])
  obtain ⟨cl669, Ar669, -, Sz669, Ng669, Hs669, Ft669⟩ := id V_b96_134
  have in669 : ¬ ((2 : Int32) < 0 ∨ cl669.slots.size ≤ ((2 : Int32)).toNatClampNeg) := (inb_of Sz669 ⟨by decide, by decide⟩)
  have at669 : cl669.slots[((2 : Int32)).toNatClampNeg]? = some (.int p5) := Hs669.at in669 rfl
  refine Go.step (fun _ k => X668.iaload hx (j := (2 : Int32)) (v := (.int p5)) (by rw [e668]; exact Ar669.1) (State.isArrayOf_alike hZ.alike Ar669.2.1) Ar669.2.2 in669 at669 (g := (mkF m 10 #[.val (.ref b73), .val (.int (0 : Int32))] [(.int (2 : Int32)), (.ref b96_134)])) rfl rfl (hb hby d24_10) _ k) ?_
  show Go p e below s _ _ _ T668 (mkF m 11 #[.val (.ref b73), .val (.int (0 : Int32))] [(.int p5)])
  exact Go.retI X668 hx hlk Bd.returns (hb hby d24_11) e668 ⟨rfl, N0, rfl⟩ (by decide) (by decide)

theorem ef_PropertyIndex_valueEnd_3 (m : MethodId) (x0 : Addr) (x1 : Int32) : entryFrame m #[(.ref x0), (.int x1)] 2 = mkF m 0 #[.val (.ref x0), .val (.int x1)] [] := by first | (simp [entryFrame, mkF, argsToLocals, Value.category]; done) | rfl
def Q_PropertyIndex_valueEnd_3 (Z : State) (b73 : Addr) (b96_134 : Addr) (k96_134 : ClassId) (p5 : Int32) (p6 : Int32) (p2 : Int32) (p3 : Int32) (p4 : Int32) (h0 : Heap) (n0 : Nat) (v : Option Value) (h : Heap) (L : List Loc) : Prop := v = some (.int p6) ∧ Fr n0 L ∧ h = h0
set_option maxRecDepth 65536 in
set_option maxHeartbeats 40000000 in
theorem rm_PropertyIndex_valueEnd_3 (l : Launch) (Z : State) (a0 : Array Value) (hw : ∀ d ∈ tables_1, d.before a0 Z = true) (ws : List Jvm.Cond) (b73 : Addr) (b96_134 : Addr) (k96_134 : ClassId) (p5 : Int32) (p6 : Int32) (p2 : Int32) (p3 : Int32) (p4 : Int32) (h0 : Heap) (n0 : Nat) (Z0 : n0 ≤ h0.size) (F_entries_b73 : Fld Z h0 b73 xs1 "entries" "[I" (.ref b96_134)) (V_b96_134 : Arv Z h0 b96_134 k96_134 .int (12 : Int32) [(.int (0 : Int32)), (.int (1 : Int32)), (.int p5), (.int p6), (.int p5), (.int (97 : Int32)), (.int (1 : Int32)), (.int (2 : Int32)), (.int p2), (.int p3), (.int p4), (.int (98 : Int32))] (.int (0 : Int32))) :
    MetFree l xm14 (head1 (Jvm.Cond.code xm14 prog_15_method_20_code 2 (some .int) :: ws) xr17) (fun a U => a = #[(.ref b73), (.int (0 : Int32))] ∧ Z.Warmed39 U.vm ∧ U.heap = h0) (fun _ _ _ _ _ => True) (fun _ U o U' => ∃ v L, o = .returned v ∧ Q_PropertyIndex_valueEnd_3 Z b73 b96_134 k96_134 p5 p6 p2 p3 p4 h0 n0 v U'.heap L ∧ FrameEnd U o U' L xr17.cells xr17.slots) := by
  refine MetFree.of_bodySF (plainFor_of_name pn_5) hisR ?_
  intro p e s m args below meth c s₁ Bd hml0 hP hK
  obtain ⟨rfl, hZ, hh⟩ := hP
  have hx := Bd.exec
  have hby := Bd.bytes
  have hlk : meth.locks = false := BodyLoose.notSynchronized Bd
  have hml : c.maxLocals = 2 := hml0
  have hown : s.vm.findClass xs1 = some m.cls := findClass_of_methodNamed Bd.named
  have hnm := (name_of_methodNamed Bd.named Bd.method).1
  have X0 : Stand p l e xr17 s m #[(.ref b73), (.int (0 : Int32))] below meth c s₁ [] 0 0 := Stand.of_body Bd
  have e0 : s₁.heap = h0 := by rw [← hh, Bd.state]; rfl
  have N0 := Fr.nil n0
  show Go p e below s (Q_PropertyIndex_valueEnd_3 Z b73 b96_134 k96_134 p5 p6 p2 p3 p4 h0 n0) xr17.cells xr17.slots s₁ (entryFrame m #[(.ref b73), (.int (0 : Int32))] 2)
  refine Go.cast (ef_PropertyIndex_valueEnd_3 m b73 (0 : Int32)) ?_
  show Go p e below s _ _ _ s₁ (mkF m 0 #[.val (.ref b73), .val (.int (0 : Int32))] [])
  refine Go.step (fun _ k => XS.aloadN X0.here hx rfl (hb hby d25_0) rfl rfl k) ?_
  show Go p e below s _ _ _ s₁ (mkF m 1 #[.val (.ref b73), .val (.int (0 : Int32))] [(.ref b73)])
  obtain ⟨T672, X672, e672, st672⟩ := getF X0 hx hZ hown (host := "") (Or.inl (tw51 hw)) Via.refl e0 F_entries_b73 (g := (mkF m 1 #[.val (.ref b73), .val (.int (0 : Int32))] [(.ref b73)])) rfl rfl (hb hby d25_1)
  refine Go.step (fun _ k => st672 _ (XS.iloadN X672.here hx rfl (hb hby d25_4) rfl (XS.bipush X672.here hx rfl (hb hby d25_5) (XS.imul X672.here hx rfl (hb hby d25_7) rfl (XS.iconst X672.here hx rfl (hb hby d25_8) (XS.iadd X672.here hx rfl (hb hby d25_9) rfl k)))))) ?_
  show Go p e below s _ _ _ T672 (mkF m 10 #[.val (.ref b73), .val (.int (0 : Int32))] [(.int (3 : Int32)), (.ref b96_134)])
  obtain ⟨cl673, Ar673, -, Sz673, Ng673, Hs673, Ft673⟩ := id V_b96_134
  have in673 : ¬ ((3 : Int32) < 0 ∨ cl673.slots.size ≤ ((3 : Int32)).toNatClampNeg) := (inb_of Sz673 ⟨by decide, by decide⟩)
  have at673 : cl673.slots[((3 : Int32)).toNatClampNeg]? = some (.int p6) := Hs673.at in673 rfl
  refine Go.step (fun _ k => X672.iaload hx (j := (3 : Int32)) (v := (.int p6)) (by rw [e672]; exact Ar673.1) (State.isArrayOf_alike hZ.alike Ar673.2.1) Ar673.2.2 in673 at673 (g := (mkF m 10 #[.val (.ref b73), .val (.int (0 : Int32))] [(.int (3 : Int32)), (.ref b96_134)])) rfl rfl (hb hby d25_10) _ k) ?_
  show Go p e below s _ _ _ T672 (mkF m 11 #[.val (.ref b73), .val (.int (0 : Int32))] [(.int p6)])
  exact Go.retI X672 hx hlk Bd.returns (hb hby d25_11) e672 ⟨rfl, N0, rfl⟩ (by decide) (by decide)

theorem ef_PropertyIndex_line_3 (m : MethodId) (x0 : Addr) (x1 : Int32) : entryFrame m #[(.ref x0), (.int x1)] 2 = mkF m 0 #[.val (.ref x0), .val (.int x1)] [] := by first | (simp [entryFrame, mkF, argsToLocals, Value.category]; done) | rfl
def Q_PropertyIndex_line_3 (Z : State) (b73 : Addr) (b96_134 : Addr) (k96_134 : ClassId) (p5 : Int32) (p6 : Int32) (p2 : Int32) (p3 : Int32) (p4 : Int32) (h0 : Heap) (n0 : Nat) (v : Option Value) (h : Heap) (L : List Loc) : Prop := v = some (.int p5) ∧ Fr n0 L ∧ h = h0
set_option maxRecDepth 65536 in
set_option maxHeartbeats 40000000 in
theorem rm_PropertyIndex_line_3 (l : Launch) (Z : State) (a0 : Array Value) (hw : ∀ d ∈ tables_1, d.before a0 Z = true) (ws : List Jvm.Cond) (b73 : Addr) (b96_134 : Addr) (k96_134 : ClassId) (p5 : Int32) (p6 : Int32) (p2 : Int32) (p3 : Int32) (p4 : Int32) (h0 : Heap) (n0 : Nat) (Z0 : n0 ≤ h0.size) (F_entries_b73 : Fld Z h0 b73 xs1 "entries" "[I" (.ref b96_134)) (V_b96_134 : Arv Z h0 b96_134 k96_134 .int (12 : Int32) [(.int (0 : Int32)), (.int (1 : Int32)), (.int p5), (.int p6), (.int p5), (.int (97 : Int32)), (.int (1 : Int32)), (.int (2 : Int32)), (.int p2), (.int p3), (.int p4), (.int (98 : Int32))] (.int (0 : Int32))) :
    MetFree l xm26 (head1 (Jvm.Cond.code xm26 prog_15_method_18_code 2 (some .int) :: ws) xr17) (fun a U => a = #[(.ref b73), (.int (0 : Int32))] ∧ Z.Warmed39 U.vm ∧ U.heap = h0) (fun _ _ _ _ _ => True) (fun _ U o U' => ∃ v L, o = .returned v ∧ Q_PropertyIndex_line_3 Z b73 b96_134 k96_134 p5 p6 p2 p3 p4 h0 n0 v U'.heap L ∧ FrameEnd U o U' L xr17.cells xr17.slots) := by
  refine MetFree.of_bodySF (plainFor_of_name pn_5) hisR ?_
  intro p e s m args below meth c s₁ Bd hml0 hP hK
  obtain ⟨rfl, hZ, hh⟩ := hP
  have hx := Bd.exec
  have hby := Bd.bytes
  have hlk : meth.locks = false := BodyLoose.notSynchronized Bd
  have hml : c.maxLocals = 2 := hml0
  have hown : s.vm.findClass xs1 = some m.cls := findClass_of_methodNamed Bd.named
  have hnm := (name_of_methodNamed Bd.named Bd.method).1
  have X0 : Stand p l e xr17 s m #[(.ref b73), (.int (0 : Int32))] below meth c s₁ [] 0 0 := Stand.of_body Bd
  have e0 : s₁.heap = h0 := by rw [← hh, Bd.state]; rfl
  have N0 := Fr.nil n0
  show Go p e below s (Q_PropertyIndex_line_3 Z b73 b96_134 k96_134 p5 p6 p2 p3 p4 h0 n0) xr17.cells xr17.slots s₁ (entryFrame m #[(.ref b73), (.int (0 : Int32))] 2)
  refine Go.cast (ef_PropertyIndex_line_3 m b73 (0 : Int32)) ?_
  show Go p e below s _ _ _ s₁ (mkF m 0 #[.val (.ref b73), .val (.int (0 : Int32))] [])
  refine Go.step (fun _ k => XS.aloadN X0.here hx rfl (hb hby d26_0) rfl rfl k) ?_
  show Go p e below s _ _ _ s₁ (mkF m 1 #[.val (.ref b73), .val (.int (0 : Int32))] [(.ref b73)])
  obtain ⟨T676, X676, e676, st676⟩ := getF X0 hx hZ hown (host := "") (Or.inl (tw51 hw)) Via.refl e0 F_entries_b73 (g := (mkF m 1 #[.val (.ref b73), .val (.int (0 : Int32))] [(.ref b73)])) rfl rfl (hb hby d26_1)
  refine Go.step (fun _ k => st676 _ (XS.iloadN X676.here hx rfl (hb hby d26_4) rfl (XS.bipush X676.here hx rfl (hb hby d26_5) (XS.imul X676.here hx rfl (hb hby d26_7) rfl (XS.iconst X676.here hx rfl (hb hby d26_8) (XS.iadd X676.here hx rfl (hb hby d26_9) rfl k)))))) ?_
  show Go p e below s _ _ _ T676 (mkF m 10 #[.val (.ref b73), .val (.int (0 : Int32))] [(.int (4 : Int32)), (.ref b96_134)])
  obtain ⟨cl677, Ar677, -, Sz677, Ng677, Hs677, Ft677⟩ := id V_b96_134
  have in677 : ¬ ((4 : Int32) < 0 ∨ cl677.slots.size ≤ ((4 : Int32)).toNatClampNeg) := (inb_of Sz677 ⟨by decide, by decide⟩)
  have at677 : cl677.slots[((4 : Int32)).toNatClampNeg]? = some (.int p5) := Hs677.at in677 rfl
  refine Go.step (fun _ k => X676.iaload hx (j := (4 : Int32)) (v := (.int p5)) (by rw [e676]; exact Ar677.1) (State.isArrayOf_alike hZ.alike Ar677.2.1) Ar677.2.2 in677 at677 (g := (mkF m 10 #[.val (.ref b73), .val (.int (0 : Int32))] [(.int (4 : Int32)), (.ref b96_134)])) rfl rfl (hb hby d26_10) _ k) ?_
  show Go p e below s _ _ _ T676 (mkF m 11 #[.val (.ref b73), .val (.int (0 : Int32))] [(.int p5)])
  exact Go.retI X676 hx hlk Bd.returns (hb hby d26_11) e676 ⟨rfl, N0, rfl⟩ (by decide) (by decide)

theorem ef_law (m : MethodId) (x0 : Int32) (x1 : Int32) (x2 : Int32) (x3 : Int32) (x4 : Int32) (x5 : Int32) : entryFrame m #[(.int x0), (.int x1), (.int x2), (.int x3), (.int x4), (.int x5)] maxLocals = mkF m 0 #[.val (.int x0), .val (.int x1), .val (.int x2), .val (.int x3), .val (.int x4), .val (.int x5), .unset, .unset, .unset, .unset, .unset, .unset, .unset, .unset, .unset, .unset, .unset] [] := by first | (simp [entryFrame, mkF, argsToLocals, Value.category, maxLocals]; done) | rfl
def Q_law (Z : State) (p1 : Int32) (p2 : Int32) (p3 : Int32) (p4 : Int32) (p5 : Int32) (p6 : Int32) (cs : Int32) (fv : Value) (h0 : Heap) (n0 : Nat) (v : Option Value) (h : Heap) (L : List Loc) : Prop := v = some (.int (1 : Int32)) ∧ Fr n0 L
set_option maxRecDepth 65536 in
set_option maxHeartbeats 40000000 in
theorem rm_law (l : Launch) (Z : State) (a0 : Array Value) (hw : ∀ d ∈ tables_1, d.before a0 Z = true) (ws : List Jvm.Cond) (p1 : Int32) (p2 : Int32) (p3 : Int32) (p4 : Int32) (p5 : Int32) (p6 : Int32) (cs : Int32) (fv : Value) (h0 : Heap) (n0 : Nat) (Z0 : n0 ≤ h0.size) (O0 : Old Z n0 h0) (Z_S_COMPACT_STRINGS : Sta Z Z.heap xs23 xs24 "Z" (.int cs)) (hcs : ¬ cs = (0 : Int32)) (Z_S_SIOOBE_FORMATTER : Sta Z Z.heap xs5 xs22 xs6 fv) (hfv : fv.isRef = true) :
    MetFree l x (head1 (Jvm.Cond.code x code maxLocals ret :: ws) room_1) (fun a U => a = #[(.int p1), (.int p2), (.int p3), (.int p4), (.int p5), (.int p6)] ∧ Z.Warmed39 U.vm ∧ U.heap = h0) (fun _ _ _ _ _ => True) (fun _ U o U' => ∃ v L, o = .returned v ∧ Q_law Z p1 p2 p3 p4 p5 p6 cs fv h0 n0 v U'.heap L ∧ FrameEnd U o U' L room_1.cells room_1.slots) := by
  refine MetFree.of_bodySF (plainFor_of_name pn_8) hisR ?_
  intro p e s m args below meth c s₁ Bd hml0 hP hK
  obtain ⟨rfl, hZ, hh⟩ := hP
  have hx := Bd.exec
  have hby := Bd.bytes
  have hlk : meth.locks = false := BodyLoose.notSynchronized Bd
  have hml : c.maxLocals = 17 := hml0
  have hown : s.vm.findClass "com/example/vaatimus/vaatimus/io/PropertyIndexReplacePinLaw" = some m.cls := findClass_of_methodNamed Bd.named
  have hnm := (name_of_methodNamed Bd.named Bd.method).1
  have X0 : Stand p l e room_1 s m #[(.int p1), (.int p2), (.int p3), (.int p4), (.int p5), (.int p6)] below meth c s₁ [] 0 0 := Stand.of_body Bd
  have e0 : s₁.heap = h0 := by rw [← hh, Bd.state]; rfl
  have N0 := Fr.nil n0
  show Go p e below s (Q_law Z p1 p2 p3 p4 p5 p6 cs fv h0 n0) room_1.cells room_1.slots s₁ (entryFrame m #[(.int p1), (.int p2), (.int p3), (.int p4), (.int p5), (.int p6)] maxLocals)
  refine Go.cast (ef_law m p1 p2 p3 p4 p5 p6) ?_
  show Go p e below s _ _ _ s₁ (mkF m 0 #[.val (.int p1), .val (.int p2), .val (.int p3), .val (.int p4), .val (.int p5), .val (.int p6), .unset, .unset, .unset, .unset, .unset, .unset, .unset, .unset, .unset, .unset, .unset] [])
  refine Go.step (fun _ k => XS.iconst X0.here hx rfl (hb hby at_0) k) ?_
  show Go p e below s _ _ _ s₁ (mkF m 1 #[.val (.int p1), .val (.int p2), .val (.int p3), .val (.int p4), .val (.int p5), .val (.int p6), .unset, .unset, .unset, .unset, .unset, .unset, .unset, .unset, .unset, .unset, .unset] [(.int (2 : Int32))])
  obtain ⟨T6, h6, k6, X6, e6, E6, A6, st6⟩ := newP (aty := .char) X0 hx hZ (tw0 hw) e0 (g := (mkF m 1 #[.val (.int p1), .val (.int p2), .val (.int p3), .val (.int p4), .val (.int p5), .val (.int p6), .unset, .unset, .unset, .unset, .unset, .unset, .unset, .unset, .unset, .unset, .unset] [(.int (2 : Int32))])) rfl (hb hby at_1) rfl (by decide) (cap := 2) (by decide) (by decide) (by decide) (by decide)
  obtain ⟨b6, g6⟩ : ∃ z, z = h0.size := ⟨_, rfl⟩
  rw [← g6] at A6 st6
  have f7 : Arv Z h6 b6 k6 .char (2 : Int32) [(.int (0 : Int32)), (.int (0 : Int32))] (.int (0 : Int32)) := (Arv.new A6 (by decide)).pad (pad_rep [] (.int (0 : Int32)) 2)
  refine Go.step (fun _ k => st6 _ (XS.astore X6.here hx rfl (hb hby at_3) rfl rfl (l' := #[.val (.int p1), .val (.int p2), .val (.int p3), .val (.int p4), .val (.int p5), .val (.int p6), .val (.ref b6), .unset, .unset, .unset, .unset, .unset, .unset, .unset, .unset, .unset, .unset]) rfl (XS.aload X6.here hx rfl (hb hby at_5) rfl rfl (XS.iconst X6.here hx rfl (hb hby at_7) (XS.bipush X6.here hx rfl (hb hby at_8) k))))) ?_
  show Go p e below s _ _ _ T6 (mkF m 10 #[.val (.int p1), .val (.int p2), .val (.int p3), .val (.int p4), .val (.int p5), .val (.int p6), .val (.ref b6), .unset, .unset, .unset, .unset, .unset, .unset, .unset, .unset, .unset, .unset] [(.int (97 : Int32)), (.int (0 : Int32)), (.ref b6)])
  obtain ⟨cl8, Ar8, qq8, Sz8, Ng8, Hs8, Ft8⟩ := id f7
  have in8 : ¬ ((0 : Int32) < 0 ∨ cl8.slots.size ≤ ((0 : Int32)).toNatClampNeg) := (inb_of Sz8 ⟨by decide, by decide⟩)
  obtain ⟨T8, h8, X8, e8, W8, st8⟩ := stC X6 hx hZ e6 Ar8 (j := (0 : Int32)) in8 (g := (mkF m 10 #[.val (.int p1), .val (.int p2), .val (.int p3), .val (.int p4), .val (.int p5), .val (.int p6), .val (.ref b6), .unset, .unset, .unset, .unset, .unset, .unset, .unset, .unset, .unset, .unset] [(.int (97 : Int32)), (.int (0 : Int32)), (.ref b6)])) rfl rfl (hb hby at_10)
  have g9 := Nat.le_trans Z0 (Nat.le_of_eq g6.symm)
  have f10 : Arv Z h8 b6 k6 .char (2 : Int32) [(.int (97 : Int32)), (.int (0 : Int32))] (.int (0 : Int32)) := Arv.set Ar8 qq8 Sz8 Ng8 Hs8 Ft8 rfl W8 0 rfl (Nat.le_of_ble_eq_true rfl)
  have N11 := Fr.snoc X8 N0 g9
  refine Go.step (fun _ k => st8 _ (XS.aload X8.here hx rfl (hb hby at_11) rfl rfl (XS.iconst X8.here hx rfl (hb hby at_13) (XS.bipush X8.here hx rfl (hb hby at_14) k)))) ?_
  show Go p e below s _ _ _ T8 (mkF m 16 #[.val (.int p1), .val (.int p2), .val (.int p3), .val (.int p4), .val (.int p5), .val (.int p6), .val (.ref b6), .unset, .unset, .unset, .unset, .unset, .unset, .unset, .unset, .unset, .unset] [(.int (98 : Int32)), (.int (1 : Int32)), (.ref b6)])
  obtain ⟨cl12, Ar12, qq12, Sz12, Ng12, Hs12, Ft12⟩ := id f10
  have in12 : ¬ ((1 : Int32) < 0 ∨ cl12.slots.size ≤ ((1 : Int32)).toNatClampNeg) := (inb_of Sz12 ⟨by decide, by decide⟩)
  obtain ⟨T12, h12, X12, e12, W12, st12⟩ := stC X8 hx hZ e8 Ar12 (j := (1 : Int32)) in12 (g := (mkF m 16 #[.val (.int p1), .val (.int p2), .val (.int p3), .val (.int p4), .val (.int p5), .val (.int p6), .val (.ref b6), .unset, .unset, .unset, .unset, .unset, .unset, .unset, .unset, .unset, .unset] [(.int (98 : Int32)), (.int (1 : Int32)), (.ref b6)])) rfl rfl (hb hby at_16)
  have f13 : Arv Z h12 b6 k6 .char (2 : Int32) [(.int (97 : Int32)), (.int (98 : Int32))] (.int (0 : Int32)) := Arv.set Ar12 qq12 Sz12 Ng12 Hs12 Ft12 rfl W12 1 rfl (Nat.le_of_ble_eq_true rfl)
  have N14 := Fr.snoc X12 N11 g9
  refine Go.step (fun _ k => st12 _ k) ?_
  show Go p e below s _ _ _ T12 (mkF m 17 #[.val (.int p1), .val (.int p2), .val (.int p3), .val (.int p4), .val (.int p5), .val (.int p6), .val (.ref b6), .unset, .unset, .unset, .unset, .unset, .unset, .unset, .unset, .unset, .unset] [])
  obtain ⟨T15, h15, X15, e15, E15, A15, D15, -, st15⟩ := newO X12 hx hZ hown (tw1 hw) (tw2 hw) (tw3 hw) e12 (g := (mkF m 17 #[.val (.int p1), .val (.int p2), .val (.int p3), .val (.int p4), .val (.int p5), .val (.int p6), .val (.ref b6), .unset, .unset, .unset, .unset, .unset, .unset, .unset, .unset, .unset, .unset] [])) rfl (hb hby at_17) (by decide) (by decide)
  obtain ⟨b15, g15⟩ : ∃ z, z = h12.size := ⟨_, rfl⟩
  rw [← g15] at A15 D15 st15
  have f16 : Fld Z h15 b15 xs23 "coder" "B" (.int (0 : Int32)) := D15 (Or.inr (tw27 hw)) (ty := .byte) (by decide)
  have f17 : Fld Z h15 b15 xs23 "value" "[B" .null := D15 (Or.inr (tw29 hw)) (ty := (.array .byte)) (by decide)
  refine Go.step (fun _ k => st15 _ (XS.dup X15.here hx rfl (hb hby at_20) rfl rfl (XS.aload X15.here hx rfl (hb hby at_21) rfl rfl k))) ?_
  show Go p e below s _ _ _ T15 (mkF m 23 #[.val (.int p1), .val (.int p2), .val (.int p3), .val (.int p4), .val (.int p5), .val (.int p6), .val (.ref b6), .unset, .unset, .unset, .unset, .unset, .unset, .unset, .unset, .unset, .unset] [(.ref b6), (.ref b15), (.ref b15)])
  have f50 := (Nat.le_trans (Nat.le_trans (Nat.le_trans Z0 E6.1) (Keep.of_wr W8).1) (Keep.of_wr W12).1)
  have g51 := Nat.le_trans f50 (Nat.le_of_eq g15.symm)
  have f68 := ((((O0.ext E6).wr W8 g9).wr W12 g9).ext E15)
  have f69 := (Nat.le_trans f50 E15.1)
  have f70 := (f13.ext E15)
  obtain ⟨_, _, ⟨T71, L71, k71, n71⟩, -, X71, ⟨Lc71, hQ71, l71, y71, z71⟩, st71⟩ := X15.specialBack hx (y := xm12) rfl hown (mvT hZ (tw4 hw)) (mvT hZ (tw5 hw)) (mvT hZ (tw6 hw)) (by decide) (backOf (W := 1) (rm_String_new_0 l Z a0 hw [] b15 b6 k6 cs h15 n0 f69 f70 Z_S_COMPACT_STRINGS f68 hcs A15 f16 g51 f17) hZ (tw6 hw) (tw3 hw) (by decide) (by decide)) (g := (mkF m 23 #[.val (.int p1), .val (.int p2), .val (.int p3), .val (.int p4), .val (.int p5), .val (.int p6), .val (.ref b6), .unset, .unset, .unset, .unset, .unset, .unset, .unset, .unset, .unset, .unset] [(.ref b6), (.ref b15), (.ref b15)])) rfl (by rw [hml]; rfl) (Steps.refl _) (a := b15) (argsL := [(.ref b6)]) (rest := [(.ref b15)]) (lenOf pd_5 rfl) rfl (by show 2 * 0 + _ ≤ _; exact Nat.le_of_eq rfl) (hb hby at_23) (fun _ _ => ⟨rfl, e15, (by decide : 2 + 1 ≤ _), (by decide : 6 + 2 ≤ _)⟩)
  dsimp only [Pt.U, Pt.locs, Pt.cells, Pt.slots] at X71 l71 y71 z71 st71 hQ71
  subst l71 y71 z71
  obtain ⟨b21_41_64_71, k21_41_64_71, rfl, N71q, K71, P71_0, P71_1, P71_2, P71_3⟩ := hQ71
  have N72 := Fr.app N14 N71q
  refine Go.step (fun _ k => st71.trans (XS.astore X71.here hx rfl (hb hby at_26) rfl rfl (l' := #[.val (.int p1), .val (.int p2), .val (.int p3), .val (.int p4), .val (.int p5), .val (.int p6), .val (.ref b6), .val (.ref b15), .unset, .unset, .unset, .unset, .unset, .unset, .unset, .unset, .unset]) rfl k)) ?_
  show Go p e below s _ _ _ T71 (mkF m 28 #[.val (.int p1), .val (.int p2), .val (.int p3), .val (.int p4), .val (.int p5), .val (.int p6), .val (.ref b6), .val (.ref b15), .unset, .unset, .unset, .unset, .unset, .unset, .unset, .unset, .unset] [])
  obtain ⟨T73, h73, X73, e73, E73, A73, D73, -, st73⟩ := newO X71 hx hZ hown (tw30 hw) (tw31 hw) (tw32 hw) rfl (g := (mkF m 28 #[.val (.int p1), .val (.int p2), .val (.int p3), .val (.int p4), .val (.int p5), .val (.int p6), .val (.ref b6), .val (.ref b15), .unset, .unset, .unset, .unset, .unset, .unset, .unset, .unset, .unset] [])) rfl (hb hby at_28) (by decide) (by decide)
  obtain ⟨b73, g73⟩ : ∃ z, z = T71.heap.size := ⟨_, rfl⟩
  rw [← g73] at A73 D73 st73
  have f74 : Fld Z h73 b73 xs1 "text" xs19 .null := D73 (Or.inr (tw43 hw)) (ty := (.object xs23)) (by decide)
  have f75 : Fld Z h73 b73 xs1 "lineEnds" xs2 .null := D73 (Or.inr (tw45 hw)) (ty := (.object xs3)) (by decide)
  have f76 : Fld Z h73 b73 xs1 "entries" "[I" .null := D73 (Or.inl (tw52 hw)) (ty := (.array .int)) (by decide)
  have f77 : Fld Z h73 b73 xs1 "slots" "[I" .null := D73 (Or.inl (tw63 hw)) (ty := (.array .int)) (by decide)
  have f78 : Fld Z h73 b73 xs1 "keyed" "Z" (.int (0 : Int32)) := D73 (Or.inl (tw74 hw)) (ty := .boolean) (by decide)
  have f79 : Fld Z h73 b73 xs1 "size" "I" (.int (0 : Int32)) := D73 (Or.inl (tw105 hw)) (ty := .int) (by decide)
  refine Go.step (fun _ k => st73 _ (XS.dup X73.here hx rfl (hb hby at_31) rfl rfl (XS.aload X73.here hx rfl (hb hby at_32) rfl rfl (XS.aconstNull X73.here hx rfl (hb hby at_34) (XS.iconst X73.here hx rfl (hb hby at_35) k))))) ?_
  show Go p e below s _ _ _ T73 (mkF m 36 #[.val (.int p1), .val (.int p2), .val (.int p3), .val (.int p4), .val (.int p5), .val (.int p6), .val (.ref b6), .val (.ref b15), .unset, .unset, .unset, .unset, .unset, .unset, .unset, .unset, .unset] [(.int (2 : Int32)), .null, (.ref b15), (.ref b73), (.ref b73)])
  have f84 := (Nat.le_trans f69 K71.1)
  have g85 := Nat.le_trans f84 (Nat.le_of_eq g73.symm)
  have f133 := (Nat.le_trans f84 E73.1)
  obtain ⟨_, _, ⟨T134, L134, k134, n134⟩, -, X134, ⟨Lc134, hQ134, l134, y134, z134⟩, st134⟩ := X73.specialBack hx (y := xm28) rfl hown (mvT hZ (tw33 hw)) (mvT hZ (tw34 hw)) (mvT hZ (tw35 hw)) (by decide) (backOf (W := 1) (rm_PropertyIndex_new_0 l Z a0 hw [] b73 b15 h73 n0 f133 A73 f74 g85 f75 f76 f77 f78 f79) hZ (tw35 hw) (tw32 hw) (by decide) (by decide)) (g := (mkF m 36 #[.val (.int p1), .val (.int p2), .val (.int p3), .val (.int p4), .val (.int p5), .val (.int p6), .val (.ref b6), .val (.ref b15), .unset, .unset, .unset, .unset, .unset, .unset, .unset, .unset, .unset] [(.int (2 : Int32)), .null, (.ref b15), (.ref b73), (.ref b73)])) rfl (by rw [hml]; rfl) (Steps.refl _) (a := b73) (argsL := [(.ref b15), .null, (.int (2 : Int32))]) (rest := [(.ref b73)]) (lenOf pd_9 rfl) rfl (by show 2 * 0 + _ ≤ _; exact Nat.le_of_eq rfl) (hb hby at_36) (fun _ _ => ⟨rfl, e73, (by decide : 4 + 2 ≤ _), (by decide : 16 + 20 ≤ _)⟩)
  dsimp only [Pt.U, Pt.locs, Pt.cells, Pt.slots] at X134 l134 y134 z134 st134 hQ134
  subst l134 y134 z134
  obtain ⟨b96_134, k96_134, b108_134, k108_134, rfl, N134q, K134, P134_0, P134_1, P134_2, P134_3, P134_4, P134_5, P134_6, P134_7, P134_8, P134_9, P134_10⟩ := hQ134
  have N135 := Fr.app N72 N134q
  refine Go.step (fun _ k => st134.trans (XS.astore X134.here hx rfl (hb hby at_39) rfl rfl (l' := #[.val (.int p1), .val (.int p2), .val (.int p3), .val (.int p4), .val (.int p5), .val (.int p6), .val (.ref b6), .val (.ref b15), .val (.ref b73), .unset, .unset, .unset, .unset, .unset, .unset, .unset, .unset]) rfl (XS.aload X134.here hx rfl (hb hby at_41) rfl rfl (XS.iconst X134.here hx rfl (hb hby at_43) (XS.iconst X134.here hx rfl (hb hby at_44) (XS.iload X134.here hx rfl (hb hby at_45) rfl (XS.iload X134.here hx rfl (hb hby at_47) rfl (XS.iload X134.here hx rfl (hb hby at_49) rfl k)))))))) ?_
  show Go p e below s _ _ _ T134 (mkF m 51 #[.val (.int p1), .val (.int p2), .val (.int p3), .val (.int p4), .val (.int p5), .val (.int p6), .val (.ref b6), .val (.ref b15), .val (.ref b73), .unset, .unset, .unset, .unset, .unset, .unset, .unset, .unset] [(.int p5), (.int p6), (.int p5), (.int (1 : Int32)), (.int (0 : Int32)), (.ref b73)])
  have g173 := Nat.le_trans f133 P134_6
  have ne176 : b73 ≠ b96_134 := Nat.ne_of_lt (Nat.lt_of_lt_of_le A73.lt P134_6)
  have ne211 : b73 ≠ b108_134 := Nat.ne_of_lt (Nat.lt_of_lt_of_le A73.lt P134_8)
  have g214 := Nat.le_trans f133 P134_8
  have f228 := (((f68.keep K71 (allS g51 all0)).ext E73).keep K134 (allS g85 all0))
  have f229 := (Nat.le_trans f133 K134.1)
  have f230 := (((A15.keep K71).ext E73).keep K134)
  have f231 := (A15.keep K71)
  have ne232 : b15 ≠ b73 := Nat.ne_of_lt (Nat.lt_of_lt_of_le f231.lt (Nat.le_of_eq g73.symm))
  have f233 := ((P71_0.ext E73).keep K134 (ninS ne232 nin0))
  have f234 := ((P71_1.ext E73).keep K134 (ninS ne232 nin0))
  have ne235 : b21_41_64_71 ≠ b73 := Nat.ne_of_lt (Nat.lt_of_lt_of_le P71_3.lt (Nat.le_of_eq g73.symm))
  have f236 := ((P71_3.ext E73).keep K134 (ninS ne235 nin0))
  have f237 := (A73.keep K134)
  obtain ⟨cq238, kq238, q238a, q238b, q238c⟩ := isOf hZ rfl f237
  obtain ⟨_, _, ⟨T238, L238, k238, n238⟩, -, X238, ⟨Lc238, hQ238, l238, y238, z238⟩, st238⟩ := X134.virtualBack hx (y := xm18) (z := xm18) hown (mvT hZ (tw64 hw)) (mvT hZ (tw65 hw)) (notFace_of_selects (args := #[]) (mvT hZ (tw67 hw))) (mvT hZ (tw67 hw)) (mvT hZ (tw66 hw)) (by decide) (backOf (W := 0) (rm_PropertyIndex_add_0 l Z a0 hw [] b73 p5 p6 b15 cs b21_41_64_71 k21_41_64_71 fv b108_134 k108_134 b96_134 k96_134 T134.heap n0 f229 P134_0 P134_4 f230 Z_S_COMPACT_STRINGS f228 hcs f233 f234 f236 Z_S_SIOOBE_FORMATTER hfv f237 P134_3 P134_9 P134_5 P134_2 P134_7 g173 ne176 g85 (Ne.symm P134_10) (Ne.symm ne211) g214 P134_1) hZ (tw68 hw) (tw32 hw) (by decide) (by decide)) q238a q238c (g := (mkF m 51 #[.val (.int p1), .val (.int p2), .val (.int p3), .val (.int p4), .val (.int p5), .val (.int p6), .val (.ref b6), .val (.ref b15), .val (.ref b73), .unset, .unset, .unset, .unset, .unset, .unset, .unset, .unset] [(.int p5), (.int p6), (.int p5), (.int (1 : Int32)), (.int (0 : Int32)), (.ref b73)])) rfl (by rw [hml]; rfl) (Steps.refl _) (argsL := [(.int (0 : Int32)), (.int (1 : Int32)), (.int p5), (.int p6), (.int p5)]) (rest := []) (lenOf pd_16 rfl) rfl (by show 2 * 0 + _ ≤ _; exact Nat.le_of_eq rfl) (hb hby at_51) (fun _ _ => ⟨rfl, rfl, (by decide : 6 + 0 ≤ _), (by decide : 36 + 0 ≤ _)⟩)
  dsimp only [Pt.U, Pt.locs, Pt.cells, Pt.slots] at X238 l238 y238 z238 st238 hQ238
  subst l238 y238 z238
  obtain ⟨rfl, N238q, K238, P238_0, P238_1, P238_2, P238_3, P238_4, P238_5, P238_6, P238_7⟩ := hQ238
  have N239 := Fr.app N135 N238q
  refine Go.step (fun _ k => st238.trans (XS.pop X238.here hx rfl (hb hby at_54) rfl rfl (XS.aload X238.here hx rfl (hb hby at_55) rfl rfl (XS.iconst X238.here hx rfl (hb hby at_57) (XS.iconst X238.here hx rfl (hb hby at_58) (XS.iload X238.here hx rfl (hb hby at_59) rfl (XS.iload X238.here hx rfl (hb hby at_61) rfl (XS.iload X238.here hx rfl (hb hby at_63) rfl k)))))))) ?_
  show Go p e below s _ _ _ T238 (mkF m 65 #[.val (.int p1), .val (.int p2), .val (.int p3), .val (.int p4), .val (.int p5), .val (.int p6), .val (.ref b6), .val (.ref b15), .val (.ref b73), .unset, .unset, .unset, .unset, .unset, .unset, .unset, .unset] [(.int p6), (.int p5), (.int p6), (.int (2 : Int32)), (.int (1 : Int32)), (.ref b73)])
  have f326 := (f228.keep K238 (allS g173 (allS g85 (allS g214 all0))))
  have f327 := (Nat.le_trans f229 K238.1)
  have f328 := (f230.keep K238)
  have f329 := (f231.ext E73)
  have ne330 : b15 ≠ b108_134 := Nat.ne_of_lt (Nat.lt_of_lt_of_le f329.lt P134_8)
  have ne331 : b15 ≠ b96_134 := Nat.ne_of_lt (Nat.lt_of_lt_of_le f329.lt P134_6)
  have f332 := (f233.keep K238 (ninS ne331 (ninS ne232 (ninS ne330 nin0))))
  have f333 := (f234.keep K238 (ninS ne331 (ninS ne232 (ninS ne330 nin0))))
  have f334 := (P71_3.ext E73)
  have ne335 : b21_41_64_71 ≠ b108_134 := Nat.ne_of_lt (Nat.lt_of_lt_of_le f334.lt P134_8)
  have ne336 : b21_41_64_71 ≠ b96_134 := Nat.ne_of_lt (Nat.lt_of_lt_of_le f334.lt P134_6)
  have f337 := (f236.keep K238 (ninS ne336 (ninS ne235 (ninS ne335 nin0))))
  have f338 := (f237.keep K238)
  obtain ⟨cq339, kq339, q339a, q339b, q339c⟩ := isOf hZ rfl f338
  obtain ⟨_, _, ⟨T339, L339, k339, n339⟩, -, X339, ⟨Lc339, hQ339, l339, y339, z339⟩, st339⟩ := X238.virtualBack hx (y := xm18) (z := xm18) hown (mvT hZ (tw64 hw)) (mvT hZ (tw65 hw)) (notFace_of_selects (args := #[]) (mvT hZ (tw67 hw))) (mvT hZ (tw67 hw)) (mvT hZ (tw66 hw)) (by decide) (backOf (W := 0) (rm_PropertyIndex_add_1 l Z a0 hw [] b73 p6 p5 b15 cs b21_41_64_71 k21_41_64_71 fv b108_134 k108_134 b96_134 k96_134 T238.heap n0 f327 P238_1 P238_2 f328 f332 Z_S_COMPACT_STRINGS f326 hcs f333 f337 Z_S_SIOOBE_FORMATTER hfv f338 P238_3 P238_7 P238_4 P238_5 P238_0 g173 ne176 g85 (Ne.symm P134_10) (Ne.symm ne211) g214 P238_6) hZ (tw68 hw) (tw32 hw) (by decide) (by decide)) q339a q339c (g := (mkF m 65 #[.val (.int p1), .val (.int p2), .val (.int p3), .val (.int p4), .val (.int p5), .val (.int p6), .val (.ref b6), .val (.ref b15), .val (.ref b73), .unset, .unset, .unset, .unset, .unset, .unset, .unset, .unset] [(.int p6), (.int p5), (.int p6), (.int (2 : Int32)), (.int (1 : Int32)), (.ref b73)])) rfl (by rw [hml]; rfl) (Steps.refl _) (argsL := [(.int (1 : Int32)), (.int (2 : Int32)), (.int p6), (.int p5), (.int p6)]) (rest := []) (lenOf pd_16 rfl) rfl (by show 2 * 0 + _ ≤ _; exact Nat.le_of_eq rfl) (hb hby at_65) (fun _ _ => ⟨rfl, rfl, (by decide : 6 + 0 ≤ _), (by decide : 36 + 0 ≤ _)⟩)
  dsimp only [Pt.U, Pt.locs, Pt.cells, Pt.slots] at X339 l339 y339 z339 st339 hQ339
  subst l339 y339 z339
  obtain ⟨rfl, N339q, K339, P339_0, P339_1, P339_2, P339_3, P339_4, P339_5, P339_6, P339_7⟩ := hQ339
  have N340 := Fr.app N239 N339q
  refine Go.step (fun _ k => st339.trans (XS.pop X339.here hx rfl (hb hby at_68) rfl rfl (XS.iloadN X339.here hx rfl (hb hby at_69) rfl (XS.iconst X339.here hx rfl (hb hby at_70) (XS.iand X339.here hx rfl (hb hby at_71) rfl k))))) ?_
  show Go p e below s _ _ _ T339 (mkF m 72 #[.val (.int p1), .val (.int p2), .val (.int p3), .val (.int p4), .val (.int p5), .val (.int p6), .val (.ref b6), .val (.ref b15), .val (.ref b73), .unset, .unset, .unset, .unset, .unset, .unset, .unset, .unset] [(.int (p1 &&& (1 : Int32)))])
  rcases and_one p1 with ho | ho
  · rw [ho]
    refine Go.step (fun _ k => XS.istore X339.here hx rfl (hb hby at_72) rfl (l' := #[.val (.int p1), .val (.int p2), .val (.int p3), .val (.int p4), .val (.int p5), .val (.int p6), .val (.ref b6), .val (.ref b15), .val (.ref b73), .val (.int (0 : Int32)), .unset, .unset, .unset, .unset, .unset, .unset, .unset]) rfl (XS.iconst X339.here hx rfl (hb hby at_74) (XS.iload X339.here hx rfl (hb hby at_75) rfl (XS.isub X339.here hx rfl (hb hby at_77) rfl (XS.istore X339.here hx rfl (hb hby at_78) rfl (l' := #[.val (.int p1), .val (.int p2), .val (.int p3), .val (.int p4), .val (.int p5), .val (.int p6), .val (.ref b6), .val (.ref b15), .val (.ref b73), .val (.int (0 : Int32)), .val (.int (1 : Int32)), .unset, .unset, .unset, .unset, .unset, .unset]) rfl (XS.iload X339.here hx rfl (hb hby at_80) rfl (XS.ifNo X339.here hx rfl (hb hby at_82) rfl ((if0 _ _).trans (teq (by decide)).2) (XS.bipush X339.here hx rfl (hb hby at_85) (XS.goto X339.here hx rfl (pc0 := 87) (pc' := 92) rfl (hb hby at_87) (by decide) (by decide) k))))))))) ?_
    show Go p e below s _ _ _ T339 (mkF m 92 #[.val (.int p1), .val (.int p2), .val (.int p3), .val (.int p4), .val (.int p5), .val (.int p6), .val (.ref b6), .val (.ref b15), .val (.ref b73), .val (.int (0 : Int32)), .val (.int (1 : Int32)), .unset, .unset, .unset, .unset, .unset, .unset] [(.int (97 : Int32))])
    have f383 := (f326.keep K339 (allS g173 (allS g85 (allS g214 all0))))
    have f384 := (Nat.le_trans f327 K339.1)
    obtain ⟨_, _, ⟨T385, L385, k385, n385⟩, -, X385, ⟨Lc385, hQ385, l385, y385, z385⟩, st385⟩ := Jvm.LawKit.callS X339 hx (y := xm20) hown (mvT hZ (tw106 hw)) (mvT hZ (tw107 hw)) (mvT hZ (tw3 hw)) (mvT hZ (tw108 hw)) (by decide) (backOf (W := 0) (rm_String_valueOf_0 l Z a0 hw [] cs T339.heap n0 f384 Z_S_COMPACT_STRINGS f383 hcs) hZ (tw108 hw) (tw3 hw) (by decide) (by decide)) (g := (mkF m 92 #[.val (.int p1), .val (.int p2), .val (.int p3), .val (.int p4), .val (.int p5), .val (.int p6), .val (.ref b6), .val (.ref b15), .val (.ref b73), .val (.int (0 : Int32)), .val (.int (1 : Int32)), .unset, .unset, .unset, .unset, .unset, .unset] [(.int (97 : Int32))])) rfl (by rw [hml]; rfl) (argsL := [(.int (97 : Int32))]) (rest := []) (lenOf pd_20 rfl) rfl (by show 2 * 0 + _ ≤ _; exact Nat.le_of_eq rfl) (hb hby at_92) (fun _ _ => ⟨rfl, rfl, (by decide : 6 + 2 ≤ _), (by decide : 36 + 5 ≤ _)⟩)
    dsimp only [Pt.U, Pt.locs, Pt.cells, Pt.slots] at X385 l385 y385 z385 st385 hQ385
    subst l385 y385 z385
    obtain ⟨b344_385, b347_356_385, k347_356_385, rfl, N385q, K385, P385_0, P385_1, P385_2, P385_3, P385_4, P385_5, P385_6⟩ := hQ385
    have N386 := Fr.app N340 N385q
    refine Go.step (fun _ k => st385 _ (XS.astore X385.here hx rfl (hb hby at_95) rfl rfl (l' := #[.val (.int p1), .val (.int p2), .val (.int p3), .val (.int p4), .val (.int p5), .val (.int p6), .val (.ref b6), .val (.ref b15), .val (.ref b73), .val (.int (0 : Int32)), .val (.int (1 : Int32)), .val (.ref b344_385), .unset, .unset, .unset, .unset, .unset]) rfl (XS.aload X385.here hx rfl (hb hby at_97) rfl rfl (XS.iload X385.here hx rfl (hb hby at_99) rfl (XS.iloadN X385.here hx rfl (hb hby at_101) rfl (XS.iloadN X385.here hx rfl (hb hby at_102) rfl (XS.iloadN X385.here hx rfl (hb hby at_103) rfl k))))))) ?_
    show Go p e below s _ _ _ T385 (mkF m 104 #[.val (.int p1), .val (.int p2), .val (.int p3), .val (.int p4), .val (.int p5), .val (.int p6), .val (.ref b6), .val (.ref b15), .val (.ref b73), .val (.int (0 : Int32)), .val (.int (1 : Int32)), .val (.ref b344_385), .unset, .unset, .unset, .unset, .unset] [(.int p4), (.int p3), (.int p2), (.int (0 : Int32)), (.ref b73)])
    have f402 := (Nat.le_trans f384 K385.1)
    have f403 := (P339_5.keep K385 nin0)
    have f404 := (P339_0.keep K385 nin0)
    have f406 := ((f338.keep K339).keep K385)
    obtain ⟨cq405, kq405, q405a, q405b, q405c⟩ := isOf hZ rfl f406
    obtain ⟨_, _, ⟨T405, L405, k405, n405⟩, -, X405, ⟨Lc405, hQ405, l405, y405, z405⟩, st405⟩ := X385.virtualBack hx (y := xm7) (z := xm7) hown (mvT hZ (tw119 hw)) (mvT hZ (tw120 hw)) (notFace_of_selects (args := #[]) (mvT hZ (tw122 hw))) (mvT hZ (tw122 hw)) (mvT hZ (tw121 hw)) (by decide) (backOf (W := 0) (rm_PropertyIndex_replace_0 l Z a0 hw [] b73 p2 p3 p4 b96_134 k96_134 p5 p6 T385.heap n0 f402 f403 f404 g173 ne176) hZ (tw123 hw) (tw32 hw) (by decide) (by decide)) q405a q405c (g := (mkF m 104 #[.val (.int p1), .val (.int p2), .val (.int p3), .val (.int p4), .val (.int p5), .val (.int p6), .val (.ref b6), .val (.ref b15), .val (.ref b73), .val (.int (0 : Int32)), .val (.int (1 : Int32)), .val (.ref b344_385), .unset, .unset, .unset, .unset, .unset] [(.int p4), (.int p3), (.int p2), (.int (0 : Int32)), (.ref b73)])) rfl (by rw [hml]; rfl) (Steps.refl _) (argsL := [(.int (0 : Int32)), (.int p2), (.int p3), (.int p4)]) (rest := []) (lenOf pd_21 rfl) rfl (by show 2 * 0 + _ ≤ _; exact Nat.le_of_eq rfl) (hb hby at_104) (fun _ _ => ⟨rfl, rfl, (by decide : 8 + 0 ≤ _), (by decide : 41 + 0 ≤ _)⟩)
    dsimp only [Pt.U, Pt.locs, Pt.cells, Pt.slots] at X405 l405 y405 z405 st405 hQ405
    subst l405 y405 z405
    obtain ⟨rfl, N405q, K405, P405_0⟩ := hQ405
    have N407 := Fr.app N386 N405q
    refine Go.step (fun _ k => st405.trans (XS.aload X405.here hx rfl (hb hby at_107) rfl rfl (XS.iload X405.here hx rfl (hb hby at_109) rfl k))) ?_
    show Go p e below s _ _ _ T405 (mkF m 111 #[.val (.int p1), .val (.int p2), .val (.int p3), .val (.int p4), .val (.int p5), .val (.int p6), .val (.ref b6), .val (.ref b15), .val (.ref b73), .val (.int (0 : Int32)), .val (.int (1 : Int32)), .val (.ref b344_385), .unset, .unset, .unset, .unset, .unset] [(.int (0 : Int32)), (.ref b73)])
    have f410 := (Nat.le_trans f402 K405.1)
    have f411 := (f403.keep K405 (ninS ne176 nin0))
    have f413 := (f406.keep K405)
    obtain ⟨cq412, kq412, q412a, q412b, q412c⟩ := isOf hZ rfl f413
    obtain ⟨_, _, ⟨T412, L412, k412, n412⟩, -, X412, ⟨Lc412, hQ412, l412, y412, z412⟩, st412⟩ := X405.virtualBack hx (y := xm8) (z := xm8) hown (mvT hZ (tw124 hw)) (mvT hZ (tw125 hw)) (notFace_of_selects (args := #[]) (mvT hZ (tw127 hw))) (mvT hZ (tw127 hw)) (mvT hZ (tw126 hw)) (by decide) (backOf (W := 0) (rm_PropertyIndex_valueStart_0 l Z a0 hw [] b73 b96_134 k96_134 p2 p3 p4 p6 p5 T405.heap n0 f410 f411 P405_0) hZ (tw128 hw) (tw32 hw) (by decide) (by decide)) q412a q412c (g := (mkF m 111 #[.val (.int p1), .val (.int p2), .val (.int p3), .val (.int p4), .val (.int p5), .val (.int p6), .val (.ref b6), .val (.ref b15), .val (.ref b73), .val (.int (0 : Int32)), .val (.int (1 : Int32)), .val (.ref b344_385), .unset, .unset, .unset, .unset, .unset] [(.int (0 : Int32)), (.ref b73)])) rfl (by rw [hml]; rfl) (Steps.refl _) (argsL := [(.int (0 : Int32))]) (rest := []) (lenOf pd_8 rfl) rfl (by show 2 * 0 + _ ≤ _; exact Nat.le_of_eq rfl) (hb hby at_111) (fun _ _ => ⟨rfl, rfl, (by decide : 8 + 0 ≤ _), (by decide : 41 + 0 ≤ _)⟩)
    dsimp only [Pt.U, Pt.locs, Pt.cells, Pt.slots] at X412 l412 y412 z412 st412 hQ412
    subst l412 y412 z412
    obtain ⟨rfl, N412q, eq412⟩ := hQ412
    have N414 := Fr.app N407 N412q
    refine Go.step (fun _ k => st412.trans (XS.iloadN X412.here hx rfl (hb hby at_114) rfl (XS.icmpNo X412.here hx rfl (hb hby at_115) rfl (teq rfl).2 (XS.aload X412.here hx rfl (hb hby at_118) rfl rfl (XS.iload X412.here hx rfl (hb hby at_120) rfl k))))) ?_
    show Go p e below s _ _ _ T412 (mkF m 122 #[.val (.int p1), .val (.int p2), .val (.int p3), .val (.int p4), .val (.int p5), .val (.int p6), .val (.ref b6), .val (.ref b15), .val (.ref b73), .val (.int (0 : Int32)), .val (.int (1 : Int32)), .val (.ref b344_385), .unset, .unset, .unset, .unset, .unset] [(.int (0 : Int32)), (.ref b73)])
    obtain ⟨cq417, kq417, q417a, q417b, q417c⟩ := isOf hZ eq412 f413
    obtain ⟨_, _, ⟨T417, L417, k417, n417⟩, -, X417, ⟨Lc417, hQ417, l417, y417, z417⟩, st417⟩ := X412.virtualBack hx (y := xm14) (z := xm14) hown (mvT hZ (tw129 hw)) (mvT hZ (tw130 hw)) (notFace_of_selects (args := #[]) (mvT hZ (tw132 hw))) (mvT hZ (tw132 hw)) (mvT hZ (tw131 hw)) (by decide) (backOf (W := 0) (rm_PropertyIndex_valueEnd_0 l Z a0 hw [] b73 b96_134 k96_134 p2 p3 p4 p6 p5 T405.heap n0 f410 f411 P405_0) hZ (tw133 hw) (tw32 hw) (by decide) (by decide)) q417a q417c (g := (mkF m 122 #[.val (.int p1), .val (.int p2), .val (.int p3), .val (.int p4), .val (.int p5), .val (.int p6), .val (.ref b6), .val (.ref b15), .val (.ref b73), .val (.int (0 : Int32)), .val (.int (1 : Int32)), .val (.ref b344_385), .unset, .unset, .unset, .unset, .unset] [(.int (0 : Int32)), (.ref b73)])) rfl (by rw [hml]; rfl) (Steps.refl _) (argsL := [(.int (0 : Int32))]) (rest := []) (lenOf pd_8 rfl) rfl (by show 2 * 0 + _ ≤ _; exact Nat.le_of_eq rfl) (hb hby at_122) (fun _ _ => ⟨rfl, eq412, (by decide : 8 + 0 ≤ _), (by decide : 41 + 0 ≤ _)⟩)
    dsimp only [Pt.U, Pt.locs, Pt.cells, Pt.slots] at X417 l417 y417 z417 st417 hQ417
    subst l417 y417 z417
    obtain ⟨rfl, N417q, eq417⟩ := hQ417
    have N418 := Fr.app N414 N417q
    refine Go.step (fun _ k => st417.trans (XS.iloadN X417.here hx rfl (hb hby at_125) rfl (XS.icmpNo X417.here hx rfl (hb hby at_126) rfl (teq rfl).2 (XS.aload X417.here hx rfl (hb hby at_129) rfl rfl (XS.iload X417.here hx rfl (hb hby at_131) rfl k))))) ?_
    show Go p e below s _ _ _ T417 (mkF m 133 #[.val (.int p1), .val (.int p2), .val (.int p3), .val (.int p4), .val (.int p5), .val (.int p6), .val (.ref b6), .val (.ref b15), .val (.ref b73), .val (.int (0 : Int32)), .val (.int (1 : Int32)), .val (.ref b344_385), .unset, .unset, .unset, .unset, .unset] [(.int (0 : Int32)), (.ref b73)])
    obtain ⟨cq421, kq421, q421a, q421b, q421c⟩ := isOf hZ eq417 f413
    obtain ⟨_, _, ⟨T421, L421, k421, n421⟩, -, X421, ⟨Lc421, hQ421, l421, y421, z421⟩, st421⟩ := X417.virtualBack hx (y := xm26) (z := xm26) hown (mvT hZ (tw134 hw)) (mvT hZ (tw135 hw)) (notFace_of_selects (args := #[]) (mvT hZ (tw137 hw))) (mvT hZ (tw137 hw)) (mvT hZ (tw136 hw)) (by decide) (backOf (W := 0) (rm_PropertyIndex_line_0 l Z a0 hw [] b73 b96_134 k96_134 p2 p3 p4 p6 p5 T405.heap n0 f410 f411 P405_0) hZ (tw138 hw) (tw32 hw) (by decide) (by decide)) q421a q421c (g := (mkF m 133 #[.val (.int p1), .val (.int p2), .val (.int p3), .val (.int p4), .val (.int p5), .val (.int p6), .val (.ref b6), .val (.ref b15), .val (.ref b73), .val (.int (0 : Int32)), .val (.int (1 : Int32)), .val (.ref b344_385), .unset, .unset, .unset, .unset, .unset] [(.int (0 : Int32)), (.ref b73)])) rfl (by rw [hml]; rfl) (Steps.refl _) (argsL := [(.int (0 : Int32))]) (rest := []) (lenOf pd_8 rfl) rfl (by show 2 * 0 + _ ≤ _; exact Nat.le_of_eq rfl) (hb hby at_133) (fun _ _ => ⟨rfl, eq417, (by decide : 8 + 0 ≤ _), (by decide : 41 + 0 ≤ _)⟩)
    dsimp only [Pt.U, Pt.locs, Pt.cells, Pt.slots] at X421 l421 y421 z421 st421 hQ421
    subst l421 y421 z421
    obtain ⟨rfl, N421q, eq421⟩ := hQ421
    have N422 := Fr.app N418 N421q
    refine Go.step (fun _ k => st421.trans (XS.iloadN X421.here hx rfl (hb hby at_136) rfl (XS.icmpNo X421.here hx rfl (hb hby at_137) rfl (teq rfl).2 (XS.aload X421.here hx rfl (hb hby at_140) rfl rfl (XS.aload X421.here hx rfl (hb hby at_142) rfl rfl k))))) ?_
    show Go p e below s _ _ _ T421 (mkF m 144 #[.val (.int p1), .val (.int p2), .val (.int p3), .val (.int p4), .val (.int p5), .val (.int p6), .val (.ref b6), .val (.ref b15), .val (.ref b73), .val (.int (0 : Int32)), .val (.int (1 : Int32)), .val (.ref b344_385), .unset, .unset, .unset, .unset, .unset] [(.ref b344_385), (.ref b73)])
    have f490 := ((f383.keep K385 all0).keep K405 (allS g173 all0))
    have f491 := (P385_1.keep K405)
    have f492 := ((P339_3.keep K385 nin0).keep K405 (ninS ne176 nin0))
    have ne493 : b96_134 ≠ b344_385 := Nat.ne_of_lt (Nat.lt_of_lt_of_le P339_0.lt P385_0)
    have f494 := (P385_3.keep K405 (ninS (Ne.symm ne493) nin0))
    have ne495 : b96_134 ≠ b347_356_385 := Nat.ne_of_lt (Nat.lt_of_lt_of_le P339_0.lt P385_4)
    have f496 := (P385_5.keep K405 (ninS (Ne.symm ne495) nin0))
    have f497 := (P385_2.keep K405 (ninS (Ne.symm ne493) nin0))
    have f498 := ((P339_2.keep K385 nin0).keep K405 (ninS ne176 nin0))
    have f499 := ((P339_7.keep K385 nin0).keep K405 (ninS (Ne.symm P134_10) nin0))
    have f500 := ((P339_1.keep K385 nin0).keep K405 (ninS ne176 nin0))
    have f501 := (((f328.keep K339).keep K385).keep K405)
    have f502 := (((f333.keep K339 (ninS ne331 (ninS ne232 (ninS ne330 nin0)))).keep K385 nin0).keep K405 (ninS ne331 nin0))
    have f503 := (((f337.keep K339 (ninS ne336 (ninS ne235 (ninS ne335 nin0)))).keep K385 nin0).keep K405 (ninS ne336 nin0))
    have f504 := (((f332.keep K339 (ninS ne331 (ninS ne232 (ninS ne330 nin0)))).keep K385 nin0).keep K405 (ninS ne331 nin0))
    obtain ⟨cq505, kq505, q505a, q505b, q505c⟩ := isOf hZ eq421 f413
    obtain ⟨_, _, ⟨T505, L505, k505, n505⟩, -, X505, ⟨Lc505, hQ505, l505, y505, z505⟩, st505⟩ := X421.virtualBack hx (y := xm31) (z := xm31) hown (mvT hZ (tw139 hw)) (mvT hZ (tw140 hw)) (notFace_of_selects (args := #[]) (mvT hZ (tw142 hw))) (mvT hZ (tw142 hw)) (mvT hZ (tw141 hw)) (by decide) (backOf (W := 0) (rm_PropertyIndex_find_0 l Z a0 hw [] b73 b344_385 b108_134 b347_356_385 k347_356_385 cs fv k108_134 b96_134 k96_134 p2 p3 p4 p6 p5 b15 b21_41_64_71 k21_41_64_71 T405.heap n0 f410 f491 f492 f494 f496 Z_S_COMPACT_STRINGS f490 hcs f497 f498 Z_S_SIOOBE_FORMATTER hfv f413 f499 f411 P405_0 f500 f501 f502 f503 f504) hZ (tw143 hw) (tw32 hw) (by decide) (by decide)) q505a q505c (g := (mkF m 144 #[.val (.int p1), .val (.int p2), .val (.int p3), .val (.int p4), .val (.int p5), .val (.int p6), .val (.ref b6), .val (.ref b15), .val (.ref b73), .val (.int (0 : Int32)), .val (.int (1 : Int32)), .val (.ref b344_385), .unset, .unset, .unset, .unset, .unset] [(.ref b344_385), (.ref b73)])) rfl (by rw [hml]; rfl) (Steps.refl _) (argsL := [(.ref b344_385)]) (rest := []) (lenOf pd_27 rfl) rfl (by show 2 * 0 + _ ≤ _; exact Nat.le_of_eq rfl) (hb hby at_144) (fun _ _ => ⟨rfl, eq421, (by decide : 8 + 0 ≤ _), (by decide : 41 + 0 ≤ _)⟩)
    dsimp only [Pt.U, Pt.locs, Pt.cells, Pt.slots] at X505 l505 y505 z505 st505 hQ505
    subst l505 y505 z505
    obtain ⟨rfl, N505q, eq505⟩ := hQ505
    have N506 := Fr.app N422 N505q
    refine Go.step (fun _ k => st505.trans (XS.iload X505.here hx rfl (hb hby at_147) rfl (XS.icmpNo X505.here hx rfl (hb hby at_149) rfl (teq (by decide)).2 (XS.iconst X505.here hx rfl (hb hby at_152) (XS.goto X505.here hx rfl (pc0 := 153) (pc' := 157) rfl (hb hby at_153) (by decide) (by decide) (XS.istore X505.here hx rfl (hb hby at_157) rfl (l' := #[.val (.int p1), .val (.int p2), .val (.int p3), .val (.int p4), .val (.int p5), .val (.int p6), .val (.ref b6), .val (.ref b15), .val (.ref b73), .val (.int (0 : Int32)), .val (.int (1 : Int32)), .val (.ref b344_385), .val (.int (1 : Int32)), .unset, .unset, .unset, .unset]) rfl (XS.iload X505.here hx rfl (hb hby at_159) rfl (XS.ifYes X505.here hx rfl (pc0 := 161) (pc' := 169) rfl (hb hby at_161) rfl ((if0 _ _).trans (feq (by decide)).2) (by decide) (by decide) (XS.iload X505.here hx rfl (hb hby at_169) rfl (XS.istore X505.here hx rfl (hb hby at_171) rfl (l' := #[.val (.int p1), .val (.int p2), .val (.int p3), .val (.int p4), .val (.int p5), .val (.int p6), .val (.ref b6), .val (.ref b15), .val (.ref b73), .val (.int (0 : Int32)), .val (.int (1 : Int32)), .val (.ref b344_385), .val (.int (1 : Int32)), .val (.int p6), .unset, .unset, .unset]) rfl k)))))))))) ?_
    show Go p e below s _ _ _ T505 (mkF m 173 #[.val (.int p1), .val (.int p2), .val (.int p3), .val (.int p4), .val (.int p5), .val (.int p6), .val (.ref b6), .val (.ref b15), .val (.ref b73), .val (.int (0 : Int32)), .val (.int (1 : Int32)), .val (.ref b344_385), .val (.int (1 : Int32)), .val (.int p6), .unset, .unset, .unset] [])
    refine Go.step (fun _ k => XS.iload X505.here hx rfl (hb hby at_173) rfl (XS.ifYes X505.here hx rfl (pc0 := 175) (pc' := 183) rfl (hb hby at_175) rfl ((if0 _ _).trans (feq (by decide)).2) (by decide) (by decide) (XS.iload X505.here hx rfl (hb hby at_183) rfl (XS.istore X505.here hx rfl (hb hby at_185) rfl (l' := #[.val (.int p1), .val (.int p2), .val (.int p3), .val (.int p4), .val (.int p5), .val (.int p6), .val (.ref b6), .val (.ref b15), .val (.ref b73), .val (.int (0 : Int32)), .val (.int (1 : Int32)), .val (.ref b344_385), .val (.int (1 : Int32)), .val (.int p6), .val (.int p5), .unset, .unset]) rfl (XS.iload X505.here hx rfl (hb hby at_187) rfl (XS.ifYes X505.here hx rfl (pc0 := 189) (pc' := 197) rfl (hb hby at_189) rfl ((if0 _ _).trans (feq (by decide)).2) (by decide) (by decide) (XS.iload X505.here hx rfl (hb hby at_197) rfl (XS.istore X505.here hx rfl (hb hby at_199) rfl (l' := #[.val (.int p1), .val (.int p2), .val (.int p3), .val (.int p4), .val (.int p5), .val (.int p6), .val (.ref b6), .val (.ref b15), .val (.ref b73), .val (.int (0 : Int32)), .val (.int (1 : Int32)), .val (.ref b344_385), .val (.int (1 : Int32)), .val (.int p6), .val (.int p5), .val (.int p6), .unset]) rfl (XS.aload X505.here hx rfl (hb hby at_201) rfl rfl (XS.iload X505.here hx rfl (hb hby at_203) rfl k)))))))))) ?_
    show Go p e below s _ _ _ T505 (mkF m 205 #[.val (.int p1), .val (.int p2), .val (.int p3), .val (.int p4), .val (.int p5), .val (.int p6), .val (.ref b6), .val (.ref b15), .val (.ref b73), .val (.int (0 : Int32)), .val (.int (1 : Int32)), .val (.ref b344_385), .val (.int (1 : Int32)), .val (.int p6), .val (.int p5), .val (.int p6), .unset] [(.int (1 : Int32)), (.ref b73)])
    obtain ⟨cq509, kq509, q509a, q509b, q509c⟩ := isOf hZ eq505 f413
    obtain ⟨_, _, ⟨T509, L509, k509, n509⟩, -, X509, ⟨Lc509, hQ509, l509, y509, z509⟩, st509⟩ := X505.virtualBack hx (y := xm8) (z := xm8) hown (mvT hZ (tw124 hw)) (mvT hZ (tw125 hw)) (notFace_of_selects (args := #[]) (mvT hZ (tw127 hw))) (mvT hZ (tw127 hw)) (mvT hZ (tw126 hw)) (by decide) (backOf (W := 0) (rm_PropertyIndex_valueStart_1 l Z a0 hw [] b73 b96_134 k96_134 p2 p3 p4 p6 p5 T405.heap n0 f410 f411 P405_0) hZ (tw128 hw) (tw32 hw) (by decide) (by decide)) q509a q509c (g := (mkF m 205 #[.val (.int p1), .val (.int p2), .val (.int p3), .val (.int p4), .val (.int p5), .val (.int p6), .val (.ref b6), .val (.ref b15), .val (.ref b73), .val (.int (0 : Int32)), .val (.int (1 : Int32)), .val (.ref b344_385), .val (.int (1 : Int32)), .val (.int p6), .val (.int p5), .val (.int p6), .unset] [(.int (1 : Int32)), (.ref b73)])) rfl (by rw [hml]; rfl) (Steps.refl _) (argsL := [(.int (1 : Int32))]) (rest := []) (lenOf pd_8 rfl) rfl (by show 2 * 0 + _ ≤ _; exact Nat.le_of_eq rfl) (hb hby at_205) (fun _ _ => ⟨rfl, eq505, (by decide : 8 + 0 ≤ _), (by decide : 41 + 0 ≤ _)⟩)
    dsimp only [Pt.U, Pt.locs, Pt.cells, Pt.slots] at X509 l509 y509 z509 st509 hQ509
    subst l509 y509 z509
    obtain ⟨rfl, N509q, eq509⟩ := hQ509
    have N510 := Fr.app N506 N509q
    refine Go.step (fun _ k => st509.trans (XS.iload X509.here hx rfl (hb hby at_208) rfl (XS.icmpNo X509.here hx rfl (hb hby at_210) rfl (teq rfl).2 (XS.aload X509.here hx rfl (hb hby at_213) rfl rfl (XS.iload X509.here hx rfl (hb hby at_215) rfl k))))) ?_
    show Go p e below s _ _ _ T509 (mkF m 217 #[.val (.int p1), .val (.int p2), .val (.int p3), .val (.int p4), .val (.int p5), .val (.int p6), .val (.ref b6), .val (.ref b15), .val (.ref b73), .val (.int (0 : Int32)), .val (.int (1 : Int32)), .val (.ref b344_385), .val (.int (1 : Int32)), .val (.int p6), .val (.int p5), .val (.int p6), .unset] [(.int (1 : Int32)), (.ref b73)])
    obtain ⟨cq513, kq513, q513a, q513b, q513c⟩ := isOf hZ eq509 f413
    obtain ⟨_, _, ⟨T513, L513, k513, n513⟩, -, X513, ⟨Lc513, hQ513, l513, y513, z513⟩, st513⟩ := X509.virtualBack hx (y := xm14) (z := xm14) hown (mvT hZ (tw129 hw)) (mvT hZ (tw130 hw)) (notFace_of_selects (args := #[]) (mvT hZ (tw132 hw))) (mvT hZ (tw132 hw)) (mvT hZ (tw131 hw)) (by decide) (backOf (W := 0) (rm_PropertyIndex_valueEnd_1 l Z a0 hw [] b73 b96_134 k96_134 p2 p3 p4 p6 p5 T405.heap n0 f410 f411 P405_0) hZ (tw133 hw) (tw32 hw) (by decide) (by decide)) q513a q513c (g := (mkF m 217 #[.val (.int p1), .val (.int p2), .val (.int p3), .val (.int p4), .val (.int p5), .val (.int p6), .val (.ref b6), .val (.ref b15), .val (.ref b73), .val (.int (0 : Int32)), .val (.int (1 : Int32)), .val (.ref b344_385), .val (.int (1 : Int32)), .val (.int p6), .val (.int p5), .val (.int p6), .unset] [(.int (1 : Int32)), (.ref b73)])) rfl (by rw [hml]; rfl) (Steps.refl _) (argsL := [(.int (1 : Int32))]) (rest := []) (lenOf pd_8 rfl) rfl (by show 2 * 0 + _ ≤ _; exact Nat.le_of_eq rfl) (hb hby at_217) (fun _ _ => ⟨rfl, eq509, (by decide : 8 + 0 ≤ _), (by decide : 41 + 0 ≤ _)⟩)
    dsimp only [Pt.U, Pt.locs, Pt.cells, Pt.slots] at X513 l513 y513 z513 st513 hQ513
    subst l513 y513 z513
    obtain ⟨rfl, N513q, eq513⟩ := hQ513
    have N514 := Fr.app N510 N513q
    refine Go.step (fun _ k => st513.trans (XS.iload X513.here hx rfl (hb hby at_220) rfl (XS.icmpNo X513.here hx rfl (hb hby at_222) rfl (teq rfl).2 (XS.aload X513.here hx rfl (hb hby at_225) rfl rfl (XS.iload X513.here hx rfl (hb hby at_227) rfl k))))) ?_
    show Go p e below s _ _ _ T513 (mkF m 229 #[.val (.int p1), .val (.int p2), .val (.int p3), .val (.int p4), .val (.int p5), .val (.int p6), .val (.ref b6), .val (.ref b15), .val (.ref b73), .val (.int (0 : Int32)), .val (.int (1 : Int32)), .val (.ref b344_385), .val (.int (1 : Int32)), .val (.int p6), .val (.int p5), .val (.int p6), .unset] [(.int (1 : Int32)), (.ref b73)])
    obtain ⟨cq517, kq517, q517a, q517b, q517c⟩ := isOf hZ eq513 f413
    obtain ⟨_, _, ⟨T517, L517, k517, n517⟩, -, X517, ⟨Lc517, hQ517, l517, y517, z517⟩, st517⟩ := X513.virtualBack hx (y := xm26) (z := xm26) hown (mvT hZ (tw134 hw)) (mvT hZ (tw135 hw)) (notFace_of_selects (args := #[]) (mvT hZ (tw137 hw))) (mvT hZ (tw137 hw)) (mvT hZ (tw136 hw)) (by decide) (backOf (W := 0) (rm_PropertyIndex_line_1 l Z a0 hw [] b73 b96_134 k96_134 p2 p3 p4 p6 p5 T405.heap n0 f410 f411 P405_0) hZ (tw138 hw) (tw32 hw) (by decide) (by decide)) q517a q517c (g := (mkF m 229 #[.val (.int p1), .val (.int p2), .val (.int p3), .val (.int p4), .val (.int p5), .val (.int p6), .val (.ref b6), .val (.ref b15), .val (.ref b73), .val (.int (0 : Int32)), .val (.int (1 : Int32)), .val (.ref b344_385), .val (.int (1 : Int32)), .val (.int p6), .val (.int p5), .val (.int p6), .unset] [(.int (1 : Int32)), (.ref b73)])) rfl (by rw [hml]; rfl) (Steps.refl _) (argsL := [(.int (1 : Int32))]) (rest := []) (lenOf pd_8 rfl) rfl (by show 2 * 0 + _ ≤ _; exact Nat.le_of_eq rfl) (hb hby at_229) (fun _ _ => ⟨rfl, eq513, (by decide : 8 + 0 ≤ _), (by decide : 41 + 0 ≤ _)⟩)
    dsimp only [Pt.U, Pt.locs, Pt.cells, Pt.slots] at X517 l517 y517 z517 st517 hQ517
    subst l517 y517 z517
    obtain ⟨rfl, N517q, eq517⟩ := hQ517
    have N518 := Fr.app N514 N517q
    refine Go.step (fun _ k => st517.trans (XS.iload X517.here hx rfl (hb hby at_232) rfl (XS.icmpNo X517.here hx rfl (hb hby at_234) rfl (teq rfl).2 (XS.iconst X517.here hx rfl (hb hby at_237) (XS.goto X517.here hx rfl (pc0 := 238) (pc' := 242) rfl (hb hby at_238) (by decide) (by decide) (XS.istore X517.here hx rfl (hb hby at_242) rfl (l' := #[.val (.int p1), .val (.int p2), .val (.int p3), .val (.int p4), .val (.int p5), .val (.int p6), .val (.ref b6), .val (.ref b15), .val (.ref b73), .val (.int (0 : Int32)), .val (.int (1 : Int32)), .val (.ref b344_385), .val (.int (1 : Int32)), .val (.int p6), .val (.int p5), .val (.int p6), .val (.int (1 : Int32))]) rfl (XS.iload X517.here hx rfl (hb hby at_244) rfl (XS.ifNo X517.here hx rfl (hb hby at_246) rfl ((if0 _ _).trans (feq (by decide)).1) (XS.iload X517.here hx rfl (hb hby at_249) rfl (XS.ifNo X517.here hx rfl (hb hby at_251) rfl ((if0 _ _).trans (feq (by decide)).1) k)))))))))) ?_
    show Go p e below s _ _ _ T517 (mkF m 254 #[.val (.int p1), .val (.int p2), .val (.int p3), .val (.int p4), .val (.int p5), .val (.int p6), .val (.ref b6), .val (.ref b15), .val (.ref b73), .val (.int (0 : Int32)), .val (.int (1 : Int32)), .val (.ref b344_385), .val (.int (1 : Int32)), .val (.int p6), .val (.int p5), .val (.int p6), .val (.int (1 : Int32))] [])
    refine Go.step (fun _ k => XS.iconst X517.here hx rfl (hb hby at_254) (XS.goto X517.here hx rfl (pc0 := 255) (pc' := 259) rfl (hb hby at_255) (by decide) (by decide) k)) ?_
    show Go p e below s _ _ _ T517 (mkF m 259 #[.val (.int p1), .val (.int p2), .val (.int p3), .val (.int p4), .val (.int p5), .val (.int p6), .val (.ref b6), .val (.ref b15), .val (.ref b73), .val (.int (0 : Int32)), .val (.int (1 : Int32)), .val (.ref b344_385), .val (.int (1 : Int32)), .val (.int p6), .val (.int p5), .val (.int p6), .val (.int (1 : Int32))] [(.int (1 : Int32))])
    exact Go.retN X517 hx hlk (t := .boolean) Bd.returns (by simp) (hb hby at_259) eq517 ⟨rfl, N518⟩ (by decide) (by decide)
  · rw [ho]
    refine Go.step (fun _ k => XS.istore X339.here hx rfl (hb hby at_72) rfl (l' := #[.val (.int p1), .val (.int p2), .val (.int p3), .val (.int p4), .val (.int p5), .val (.int p6), .val (.ref b6), .val (.ref b15), .val (.ref b73), .val (.int (1 : Int32)), .unset, .unset, .unset, .unset, .unset, .unset, .unset]) rfl (XS.iconst X339.here hx rfl (hb hby at_74) (XS.iload X339.here hx rfl (hb hby at_75) rfl (XS.isub X339.here hx rfl (hb hby at_77) rfl (XS.istore X339.here hx rfl (hb hby at_78) rfl (l' := #[.val (.int p1), .val (.int p2), .val (.int p3), .val (.int p4), .val (.int p5), .val (.int p6), .val (.ref b6), .val (.ref b15), .val (.ref b73), .val (.int (1 : Int32)), .val (.int (0 : Int32)), .unset, .unset, .unset, .unset, .unset, .unset]) rfl (XS.iload X339.here hx rfl (hb hby at_80) rfl (XS.ifYes X339.here hx rfl (pc0 := 82) (pc' := 90) rfl (hb hby at_82) rfl ((if0 _ _).trans (feq (by decide)).2) (by decide) (by decide) (XS.bipush X339.here hx rfl (hb hby at_90) k)))))))) ?_
    show Go p e below s _ _ _ T339 (mkF m 92 #[.val (.int p1), .val (.int p2), .val (.int p3), .val (.int p4), .val (.int p5), .val (.int p6), .val (.ref b6), .val (.ref b15), .val (.ref b73), .val (.int (1 : Int32)), .val (.int (0 : Int32)), .unset, .unset, .unset, .unset, .unset, .unset] [(.int (98 : Int32))])
    have f550 := (f326.keep K339 (allS g173 (allS g85 (allS g214 all0))))
    have f551 := (Nat.le_trans f327 K339.1)
    obtain ⟨_, _, ⟨T552, L552, k552, n552⟩, -, X552, ⟨Lc552, hQ552, l552, y552, z552⟩, st552⟩ := Jvm.LawKit.callS X339 hx (y := xm20) hown (mvT hZ (tw106 hw)) (mvT hZ (tw107 hw)) (mvT hZ (tw3 hw)) (mvT hZ (tw108 hw)) (by decide) (backOf (W := 0) (rm_String_valueOf_1 l Z a0 hw [] cs T339.heap n0 f551 Z_S_COMPACT_STRINGS f550 hcs) hZ (tw108 hw) (tw3 hw) (by decide) (by decide)) (g := (mkF m 92 #[.val (.int p1), .val (.int p2), .val (.int p3), .val (.int p4), .val (.int p5), .val (.int p6), .val (.ref b6), .val (.ref b15), .val (.ref b73), .val (.int (1 : Int32)), .val (.int (0 : Int32)), .unset, .unset, .unset, .unset, .unset, .unset] [(.int (98 : Int32))])) rfl (by rw [hml]; rfl) (argsL := [(.int (98 : Int32))]) (rest := []) (lenOf pd_20 rfl) rfl (by show 2 * 0 + _ ≤ _; exact Nat.le_of_eq rfl) (hb hby at_92) (fun _ _ => ⟨rfl, rfl, (by decide : 6 + 2 ≤ _), (by decide : 36 + 5 ≤ _)⟩)
    dsimp only [Pt.U, Pt.locs, Pt.cells, Pt.slots] at X552 l552 y552 z552 st552 hQ552
    subst l552 y552 z552
    obtain ⟨b522_552, b525_534_552, k525_534_552, rfl, N552q, K552, P552_0, P552_1, P552_2, P552_3, P552_4, P552_5, P552_6⟩ := hQ552
    have N553 := Fr.app N340 N552q
    refine Go.step (fun _ k => st552 _ (XS.astore X552.here hx rfl (hb hby at_95) rfl rfl (l' := #[.val (.int p1), .val (.int p2), .val (.int p3), .val (.int p4), .val (.int p5), .val (.int p6), .val (.ref b6), .val (.ref b15), .val (.ref b73), .val (.int (1 : Int32)), .val (.int (0 : Int32)), .val (.ref b522_552), .unset, .unset, .unset, .unset, .unset]) rfl (XS.aload X552.here hx rfl (hb hby at_97) rfl rfl (XS.iload X552.here hx rfl (hb hby at_99) rfl (XS.iloadN X552.here hx rfl (hb hby at_101) rfl (XS.iloadN X552.here hx rfl (hb hby at_102) rfl (XS.iloadN X552.here hx rfl (hb hby at_103) rfl k))))))) ?_
    show Go p e below s _ _ _ T552 (mkF m 104 #[.val (.int p1), .val (.int p2), .val (.int p3), .val (.int p4), .val (.int p5), .val (.int p6), .val (.ref b6), .val (.ref b15), .val (.ref b73), .val (.int (1 : Int32)), .val (.int (0 : Int32)), .val (.ref b522_552), .unset, .unset, .unset, .unset, .unset] [(.int p4), (.int p3), (.int p2), (.int (1 : Int32)), (.ref b73)])
    have f569 := (Nat.le_trans f551 K552.1)
    have f570 := (P339_5.keep K552 nin0)
    have f571 := (P339_0.keep K552 nin0)
    have f573 := ((f338.keep K339).keep K552)
    obtain ⟨cq572, kq572, q572a, q572b, q572c⟩ := isOf hZ rfl f573
    obtain ⟨_, _, ⟨T572, L572, k572, n572⟩, -, X572, ⟨Lc572, hQ572, l572, y572, z572⟩, st572⟩ := X552.virtualBack hx (y := xm7) (z := xm7) hown (mvT hZ (tw119 hw)) (mvT hZ (tw120 hw)) (notFace_of_selects (args := #[]) (mvT hZ (tw122 hw))) (mvT hZ (tw122 hw)) (mvT hZ (tw121 hw)) (by decide) (backOf (W := 0) (rm_PropertyIndex_replace_1 l Z a0 hw [] b73 p2 p3 p4 b96_134 k96_134 p5 p6 T552.heap n0 f569 f570 f571 g173 ne176) hZ (tw123 hw) (tw32 hw) (by decide) (by decide)) q572a q572c (g := (mkF m 104 #[.val (.int p1), .val (.int p2), .val (.int p3), .val (.int p4), .val (.int p5), .val (.int p6), .val (.ref b6), .val (.ref b15), .val (.ref b73), .val (.int (1 : Int32)), .val (.int (0 : Int32)), .val (.ref b522_552), .unset, .unset, .unset, .unset, .unset] [(.int p4), (.int p3), (.int p2), (.int (1 : Int32)), (.ref b73)])) rfl (by rw [hml]; rfl) (Steps.refl _) (argsL := [(.int (1 : Int32)), (.int p2), (.int p3), (.int p4)]) (rest := []) (lenOf pd_21 rfl) rfl (by show 2 * 0 + _ ≤ _; exact Nat.le_of_eq rfl) (hb hby at_104) (fun _ _ => ⟨rfl, rfl, (by decide : 8 + 0 ≤ _), (by decide : 41 + 0 ≤ _)⟩)
    dsimp only [Pt.U, Pt.locs, Pt.cells, Pt.slots] at X572 l572 y572 z572 st572 hQ572
    subst l572 y572 z572
    obtain ⟨rfl, N572q, K572, P572_0⟩ := hQ572
    have N574 := Fr.app N553 N572q
    refine Go.step (fun _ k => st572.trans (XS.aload X572.here hx rfl (hb hby at_107) rfl rfl (XS.iload X572.here hx rfl (hb hby at_109) rfl k))) ?_
    show Go p e below s _ _ _ T572 (mkF m 111 #[.val (.int p1), .val (.int p2), .val (.int p3), .val (.int p4), .val (.int p5), .val (.int p6), .val (.ref b6), .val (.ref b15), .val (.ref b73), .val (.int (1 : Int32)), .val (.int (0 : Int32)), .val (.ref b522_552), .unset, .unset, .unset, .unset, .unset] [(.int (1 : Int32)), (.ref b73)])
    have f577 := (Nat.le_trans f569 K572.1)
    have f578 := (f570.keep K572 (ninS ne176 nin0))
    have f580 := (f573.keep K572)
    obtain ⟨cq579, kq579, q579a, q579b, q579c⟩ := isOf hZ rfl f580
    obtain ⟨_, _, ⟨T579, L579, k579, n579⟩, -, X579, ⟨Lc579, hQ579, l579, y579, z579⟩, st579⟩ := X572.virtualBack hx (y := xm8) (z := xm8) hown (mvT hZ (tw124 hw)) (mvT hZ (tw125 hw)) (notFace_of_selects (args := #[]) (mvT hZ (tw127 hw))) (mvT hZ (tw127 hw)) (mvT hZ (tw126 hw)) (by decide) (backOf (W := 0) (rm_PropertyIndex_valueStart_2 l Z a0 hw [] b73 b96_134 k96_134 p5 p6 p2 p3 p4 T572.heap n0 f577 f578 P572_0) hZ (tw128 hw) (tw32 hw) (by decide) (by decide)) q579a q579c (g := (mkF m 111 #[.val (.int p1), .val (.int p2), .val (.int p3), .val (.int p4), .val (.int p5), .val (.int p6), .val (.ref b6), .val (.ref b15), .val (.ref b73), .val (.int (1 : Int32)), .val (.int (0 : Int32)), .val (.ref b522_552), .unset, .unset, .unset, .unset, .unset] [(.int (1 : Int32)), (.ref b73)])) rfl (by rw [hml]; rfl) (Steps.refl _) (argsL := [(.int (1 : Int32))]) (rest := []) (lenOf pd_8 rfl) rfl (by show 2 * 0 + _ ≤ _; exact Nat.le_of_eq rfl) (hb hby at_111) (fun _ _ => ⟨rfl, rfl, (by decide : 8 + 0 ≤ _), (by decide : 41 + 0 ≤ _)⟩)
    dsimp only [Pt.U, Pt.locs, Pt.cells, Pt.slots] at X579 l579 y579 z579 st579 hQ579
    subst l579 y579 z579
    obtain ⟨rfl, N579q, eq579⟩ := hQ579
    have N581 := Fr.app N574 N579q
    refine Go.step (fun _ k => st579.trans (XS.iloadN X579.here hx rfl (hb hby at_114) rfl (XS.icmpNo X579.here hx rfl (hb hby at_115) rfl (teq rfl).2 (XS.aload X579.here hx rfl (hb hby at_118) rfl rfl (XS.iload X579.here hx rfl (hb hby at_120) rfl k))))) ?_
    show Go p e below s _ _ _ T579 (mkF m 122 #[.val (.int p1), .val (.int p2), .val (.int p3), .val (.int p4), .val (.int p5), .val (.int p6), .val (.ref b6), .val (.ref b15), .val (.ref b73), .val (.int (1 : Int32)), .val (.int (0 : Int32)), .val (.ref b522_552), .unset, .unset, .unset, .unset, .unset] [(.int (1 : Int32)), (.ref b73)])
    obtain ⟨cq584, kq584, q584a, q584b, q584c⟩ := isOf hZ eq579 f580
    obtain ⟨_, _, ⟨T584, L584, k584, n584⟩, -, X584, ⟨Lc584, hQ584, l584, y584, z584⟩, st584⟩ := X579.virtualBack hx (y := xm14) (z := xm14) hown (mvT hZ (tw129 hw)) (mvT hZ (tw130 hw)) (notFace_of_selects (args := #[]) (mvT hZ (tw132 hw))) (mvT hZ (tw132 hw)) (mvT hZ (tw131 hw)) (by decide) (backOf (W := 0) (rm_PropertyIndex_valueEnd_2 l Z a0 hw [] b73 b96_134 k96_134 p5 p6 p2 p3 p4 T572.heap n0 f577 f578 P572_0) hZ (tw133 hw) (tw32 hw) (by decide) (by decide)) q584a q584c (g := (mkF m 122 #[.val (.int p1), .val (.int p2), .val (.int p3), .val (.int p4), .val (.int p5), .val (.int p6), .val (.ref b6), .val (.ref b15), .val (.ref b73), .val (.int (1 : Int32)), .val (.int (0 : Int32)), .val (.ref b522_552), .unset, .unset, .unset, .unset, .unset] [(.int (1 : Int32)), (.ref b73)])) rfl (by rw [hml]; rfl) (Steps.refl _) (argsL := [(.int (1 : Int32))]) (rest := []) (lenOf pd_8 rfl) rfl (by show 2 * 0 + _ ≤ _; exact Nat.le_of_eq rfl) (hb hby at_122) (fun _ _ => ⟨rfl, eq579, (by decide : 8 + 0 ≤ _), (by decide : 41 + 0 ≤ _)⟩)
    dsimp only [Pt.U, Pt.locs, Pt.cells, Pt.slots] at X584 l584 y584 z584 st584 hQ584
    subst l584 y584 z584
    obtain ⟨rfl, N584q, eq584⟩ := hQ584
    have N585 := Fr.app N581 N584q
    refine Go.step (fun _ k => st584.trans (XS.iloadN X584.here hx rfl (hb hby at_125) rfl (XS.icmpNo X584.here hx rfl (hb hby at_126) rfl (teq rfl).2 (XS.aload X584.here hx rfl (hb hby at_129) rfl rfl (XS.iload X584.here hx rfl (hb hby at_131) rfl k))))) ?_
    show Go p e below s _ _ _ T584 (mkF m 133 #[.val (.int p1), .val (.int p2), .val (.int p3), .val (.int p4), .val (.int p5), .val (.int p6), .val (.ref b6), .val (.ref b15), .val (.ref b73), .val (.int (1 : Int32)), .val (.int (0 : Int32)), .val (.ref b522_552), .unset, .unset, .unset, .unset, .unset] [(.int (1 : Int32)), (.ref b73)])
    obtain ⟨cq588, kq588, q588a, q588b, q588c⟩ := isOf hZ eq584 f580
    obtain ⟨_, _, ⟨T588, L588, k588, n588⟩, -, X588, ⟨Lc588, hQ588, l588, y588, z588⟩, st588⟩ := X584.virtualBack hx (y := xm26) (z := xm26) hown (mvT hZ (tw134 hw)) (mvT hZ (tw135 hw)) (notFace_of_selects (args := #[]) (mvT hZ (tw137 hw))) (mvT hZ (tw137 hw)) (mvT hZ (tw136 hw)) (by decide) (backOf (W := 0) (rm_PropertyIndex_line_2 l Z a0 hw [] b73 b96_134 k96_134 p5 p6 p2 p3 p4 T572.heap n0 f577 f578 P572_0) hZ (tw138 hw) (tw32 hw) (by decide) (by decide)) q588a q588c (g := (mkF m 133 #[.val (.int p1), .val (.int p2), .val (.int p3), .val (.int p4), .val (.int p5), .val (.int p6), .val (.ref b6), .val (.ref b15), .val (.ref b73), .val (.int (1 : Int32)), .val (.int (0 : Int32)), .val (.ref b522_552), .unset, .unset, .unset, .unset, .unset] [(.int (1 : Int32)), (.ref b73)])) rfl (by rw [hml]; rfl) (Steps.refl _) (argsL := [(.int (1 : Int32))]) (rest := []) (lenOf pd_8 rfl) rfl (by show 2 * 0 + _ ≤ _; exact Nat.le_of_eq rfl) (hb hby at_133) (fun _ _ => ⟨rfl, eq584, (by decide : 8 + 0 ≤ _), (by decide : 41 + 0 ≤ _)⟩)
    dsimp only [Pt.U, Pt.locs, Pt.cells, Pt.slots] at X588 l588 y588 z588 st588 hQ588
    subst l588 y588 z588
    obtain ⟨rfl, N588q, eq588⟩ := hQ588
    have N589 := Fr.app N585 N588q
    refine Go.step (fun _ k => st588.trans (XS.iloadN X588.here hx rfl (hb hby at_136) rfl (XS.icmpNo X588.here hx rfl (hb hby at_137) rfl (teq rfl).2 (XS.aload X588.here hx rfl (hb hby at_140) rfl rfl (XS.aload X588.here hx rfl (hb hby at_142) rfl rfl k))))) ?_
    show Go p e below s _ _ _ T588 (mkF m 144 #[.val (.int p1), .val (.int p2), .val (.int p3), .val (.int p4), .val (.int p5), .val (.int p6), .val (.ref b6), .val (.ref b15), .val (.ref b73), .val (.int (1 : Int32)), .val (.int (0 : Int32)), .val (.ref b522_552), .unset, .unset, .unset, .unset, .unset] [(.ref b522_552), (.ref b73)])
    have f651 := ((f550.keep K552 all0).keep K572 (allS g173 all0))
    have f652 := (P552_1.keep K572)
    have f653 := ((P339_3.keep K552 nin0).keep K572 (ninS ne176 nin0))
    have ne654 : b96_134 ≠ b522_552 := Nat.ne_of_lt (Nat.lt_of_lt_of_le P339_0.lt P552_0)
    have f655 := (P552_3.keep K572 (ninS (Ne.symm ne654) nin0))
    have ne656 : b96_134 ≠ b525_534_552 := Nat.ne_of_lt (Nat.lt_of_lt_of_le P339_0.lt P552_4)
    have f657 := (P552_5.keep K572 (ninS (Ne.symm ne656) nin0))
    have f658 := (P552_2.keep K572 (ninS (Ne.symm ne654) nin0))
    have f659 := ((P339_2.keep K552 nin0).keep K572 (ninS ne176 nin0))
    have f660 := ((P339_7.keep K552 nin0).keep K572 (ninS (Ne.symm P134_10) nin0))
    have f661 := ((P339_1.keep K552 nin0).keep K572 (ninS ne176 nin0))
    have f662 := (((f328.keep K339).keep K552).keep K572)
    have f663 := (((f333.keep K339 (ninS ne331 (ninS ne232 (ninS ne330 nin0)))).keep K552 nin0).keep K572 (ninS ne331 nin0))
    have f664 := (((f337.keep K339 (ninS ne336 (ninS ne235 (ninS ne335 nin0)))).keep K552 nin0).keep K572 (ninS ne336 nin0))
    have f665 := (((f332.keep K339 (ninS ne331 (ninS ne232 (ninS ne330 nin0)))).keep K552 nin0).keep K572 (ninS ne331 nin0))
    obtain ⟨cq666, kq666, q666a, q666b, q666c⟩ := isOf hZ eq588 f580
    obtain ⟨_, _, ⟨T666, L666, k666, n666⟩, -, X666, ⟨Lc666, hQ666, l666, y666, z666⟩, st666⟩ := X588.virtualBack hx (y := xm31) (z := xm31) hown (mvT hZ (tw139 hw)) (mvT hZ (tw140 hw)) (notFace_of_selects (args := #[]) (mvT hZ (tw142 hw))) (mvT hZ (tw142 hw)) (mvT hZ (tw141 hw)) (by decide) (backOf (W := 0) (rm_PropertyIndex_find_1 l Z a0 hw [] b73 b522_552 b108_134 b525_534_552 k525_534_552 cs fv k108_134 b96_134 k96_134 p5 p6 p2 p3 p4 b15 b21_41_64_71 k21_41_64_71 T572.heap n0 f577 f652 f653 f655 f657 f658 Z_S_COMPACT_STRINGS f651 hcs f659 Z_S_SIOOBE_FORMATTER hfv f580 f660 f578 P572_0 f661 f662 f663 f664 f665) hZ (tw143 hw) (tw32 hw) (by decide) (by decide)) q666a q666c (g := (mkF m 144 #[.val (.int p1), .val (.int p2), .val (.int p3), .val (.int p4), .val (.int p5), .val (.int p6), .val (.ref b6), .val (.ref b15), .val (.ref b73), .val (.int (1 : Int32)), .val (.int (0 : Int32)), .val (.ref b522_552), .unset, .unset, .unset, .unset, .unset] [(.ref b522_552), (.ref b73)])) rfl (by rw [hml]; rfl) (Steps.refl _) (argsL := [(.ref b522_552)]) (rest := []) (lenOf pd_27 rfl) rfl (by show 2 * 0 + _ ≤ _; exact Nat.le_of_eq rfl) (hb hby at_144) (fun _ _ => ⟨rfl, eq588, (by decide : 8 + 0 ≤ _), (by decide : 41 + 0 ≤ _)⟩)
    dsimp only [Pt.U, Pt.locs, Pt.cells, Pt.slots] at X666 l666 y666 z666 st666 hQ666
    subst l666 y666 z666
    obtain ⟨rfl, N666q, eq666⟩ := hQ666
    have N667 := Fr.app N589 N666q
    refine Go.step (fun _ k => st666.trans (XS.iload X666.here hx rfl (hb hby at_147) rfl (XS.icmpNo X666.here hx rfl (hb hby at_149) rfl (teq (by decide)).2 (XS.iconst X666.here hx rfl (hb hby at_152) (XS.goto X666.here hx rfl (pc0 := 153) (pc' := 157) rfl (hb hby at_153) (by decide) (by decide) (XS.istore X666.here hx rfl (hb hby at_157) rfl (l' := #[.val (.int p1), .val (.int p2), .val (.int p3), .val (.int p4), .val (.int p5), .val (.int p6), .val (.ref b6), .val (.ref b15), .val (.ref b73), .val (.int (1 : Int32)), .val (.int (0 : Int32)), .val (.ref b522_552), .val (.int (1 : Int32)), .unset, .unset, .unset, .unset]) rfl (XS.iload X666.here hx rfl (hb hby at_159) rfl (XS.ifNo X666.here hx rfl (hb hby at_161) rfl ((if0 _ _).trans (teq (by decide)).2) (XS.iload X666.here hx rfl (hb hby at_164) rfl (XS.goto X666.here hx rfl (pc0 := 166) (pc' := 171) rfl (hb hby at_166) (by decide) (by decide) k)))))))))) ?_
    show Go p e below s _ _ _ T666 (mkF m 171 #[.val (.int p1), .val (.int p2), .val (.int p3), .val (.int p4), .val (.int p5), .val (.int p6), .val (.ref b6), .val (.ref b15), .val (.ref b73), .val (.int (1 : Int32)), .val (.int (0 : Int32)), .val (.ref b522_552), .val (.int (1 : Int32)), .unset, .unset, .unset, .unset] [(.int p5)])
    refine Go.step (fun _ k => XS.istore X666.here hx rfl (hb hby at_171) rfl (l' := #[.val (.int p1), .val (.int p2), .val (.int p3), .val (.int p4), .val (.int p5), .val (.int p6), .val (.ref b6), .val (.ref b15), .val (.ref b73), .val (.int (1 : Int32)), .val (.int (0 : Int32)), .val (.ref b522_552), .val (.int (1 : Int32)), .val (.int p5), .unset, .unset, .unset]) rfl (XS.iload X666.here hx rfl (hb hby at_173) rfl (XS.ifNo X666.here hx rfl (hb hby at_175) rfl ((if0 _ _).trans (teq (by decide)).2) (XS.iload X666.here hx rfl (hb hby at_178) rfl (XS.goto X666.here hx rfl (pc0 := 180) (pc' := 185) rfl (hb hby at_180) (by decide) (by decide) (XS.istore X666.here hx rfl (hb hby at_185) rfl (l' := #[.val (.int p1), .val (.int p2), .val (.int p3), .val (.int p4), .val (.int p5), .val (.int p6), .val (.ref b6), .val (.ref b15), .val (.ref b73), .val (.int (1 : Int32)), .val (.int (0 : Int32)), .val (.ref b522_552), .val (.int (1 : Int32)), .val (.int p5), .val (.int p6), .unset, .unset]) rfl (XS.iload X666.here hx rfl (hb hby at_187) rfl (XS.ifNo X666.here hx rfl (hb hby at_189) rfl ((if0 _ _).trans (teq (by decide)).2) (XS.iload X666.here hx rfl (hb hby at_192) rfl (XS.goto X666.here hx rfl (pc0 := 194) (pc' := 199) rfl (hb hby at_194) (by decide) (by decide) k)))))))))) ?_
    show Go p e below s _ _ _ T666 (mkF m 199 #[.val (.int p1), .val (.int p2), .val (.int p3), .val (.int p4), .val (.int p5), .val (.int p6), .val (.ref b6), .val (.ref b15), .val (.ref b73), .val (.int (1 : Int32)), .val (.int (0 : Int32)), .val (.ref b522_552), .val (.int (1 : Int32)), .val (.int p5), .val (.int p6), .unset, .unset] [(.int p5)])
    refine Go.step (fun _ k => XS.istore X666.here hx rfl (hb hby at_199) rfl (l' := #[.val (.int p1), .val (.int p2), .val (.int p3), .val (.int p4), .val (.int p5), .val (.int p6), .val (.ref b6), .val (.ref b15), .val (.ref b73), .val (.int (1 : Int32)), .val (.int (0 : Int32)), .val (.ref b522_552), .val (.int (1 : Int32)), .val (.int p5), .val (.int p6), .val (.int p5), .unset]) rfl (XS.aload X666.here hx rfl (hb hby at_201) rfl rfl (XS.iload X666.here hx rfl (hb hby at_203) rfl k))) ?_
    show Go p e below s _ _ _ T666 (mkF m 205 #[.val (.int p1), .val (.int p2), .val (.int p3), .val (.int p4), .val (.int p5), .val (.int p6), .val (.ref b6), .val (.ref b15), .val (.ref b73), .val (.int (1 : Int32)), .val (.int (0 : Int32)), .val (.ref b522_552), .val (.int (1 : Int32)), .val (.int p5), .val (.int p6), .val (.int p5), .unset] [(.int (0 : Int32)), (.ref b73)])
    obtain ⟨cq670, kq670, q670a, q670b, q670c⟩ := isOf hZ eq666 f580
    obtain ⟨_, _, ⟨T670, L670, k670, n670⟩, -, X670, ⟨Lc670, hQ670, l670, y670, z670⟩, st670⟩ := X666.virtualBack hx (y := xm8) (z := xm8) hown (mvT hZ (tw124 hw)) (mvT hZ (tw125 hw)) (notFace_of_selects (args := #[]) (mvT hZ (tw127 hw))) (mvT hZ (tw127 hw)) (mvT hZ (tw126 hw)) (by decide) (backOf (W := 0) (rm_PropertyIndex_valueStart_3 l Z a0 hw [] b73 b96_134 k96_134 p5 p6 p2 p3 p4 T572.heap n0 f577 f578 P572_0) hZ (tw128 hw) (tw32 hw) (by decide) (by decide)) q670a q670c (g := (mkF m 205 #[.val (.int p1), .val (.int p2), .val (.int p3), .val (.int p4), .val (.int p5), .val (.int p6), .val (.ref b6), .val (.ref b15), .val (.ref b73), .val (.int (1 : Int32)), .val (.int (0 : Int32)), .val (.ref b522_552), .val (.int (1 : Int32)), .val (.int p5), .val (.int p6), .val (.int p5), .unset] [(.int (0 : Int32)), (.ref b73)])) rfl (by rw [hml]; rfl) (Steps.refl _) (argsL := [(.int (0 : Int32))]) (rest := []) (lenOf pd_8 rfl) rfl (by show 2 * 0 + _ ≤ _; exact Nat.le_of_eq rfl) (hb hby at_205) (fun _ _ => ⟨rfl, eq666, (by decide : 8 + 0 ≤ _), (by decide : 41 + 0 ≤ _)⟩)
    dsimp only [Pt.U, Pt.locs, Pt.cells, Pt.slots] at X670 l670 y670 z670 st670 hQ670
    subst l670 y670 z670
    obtain ⟨rfl, N670q, eq670⟩ := hQ670
    have N671 := Fr.app N667 N670q
    refine Go.step (fun _ k => st670.trans (XS.iload X670.here hx rfl (hb hby at_208) rfl (XS.icmpNo X670.here hx rfl (hb hby at_210) rfl (teq rfl).2 (XS.aload X670.here hx rfl (hb hby at_213) rfl rfl (XS.iload X670.here hx rfl (hb hby at_215) rfl k))))) ?_
    show Go p e below s _ _ _ T670 (mkF m 217 #[.val (.int p1), .val (.int p2), .val (.int p3), .val (.int p4), .val (.int p5), .val (.int p6), .val (.ref b6), .val (.ref b15), .val (.ref b73), .val (.int (1 : Int32)), .val (.int (0 : Int32)), .val (.ref b522_552), .val (.int (1 : Int32)), .val (.int p5), .val (.int p6), .val (.int p5), .unset] [(.int (0 : Int32)), (.ref b73)])
    obtain ⟨cq674, kq674, q674a, q674b, q674c⟩ := isOf hZ eq670 f580
    obtain ⟨_, _, ⟨T674, L674, k674, n674⟩, -, X674, ⟨Lc674, hQ674, l674, y674, z674⟩, st674⟩ := X670.virtualBack hx (y := xm14) (z := xm14) hown (mvT hZ (tw129 hw)) (mvT hZ (tw130 hw)) (notFace_of_selects (args := #[]) (mvT hZ (tw132 hw))) (mvT hZ (tw132 hw)) (mvT hZ (tw131 hw)) (by decide) (backOf (W := 0) (rm_PropertyIndex_valueEnd_3 l Z a0 hw [] b73 b96_134 k96_134 p5 p6 p2 p3 p4 T572.heap n0 f577 f578 P572_0) hZ (tw133 hw) (tw32 hw) (by decide) (by decide)) q674a q674c (g := (mkF m 217 #[.val (.int p1), .val (.int p2), .val (.int p3), .val (.int p4), .val (.int p5), .val (.int p6), .val (.ref b6), .val (.ref b15), .val (.ref b73), .val (.int (1 : Int32)), .val (.int (0 : Int32)), .val (.ref b522_552), .val (.int (1 : Int32)), .val (.int p5), .val (.int p6), .val (.int p5), .unset] [(.int (0 : Int32)), (.ref b73)])) rfl (by rw [hml]; rfl) (Steps.refl _) (argsL := [(.int (0 : Int32))]) (rest := []) (lenOf pd_8 rfl) rfl (by show 2 * 0 + _ ≤ _; exact Nat.le_of_eq rfl) (hb hby at_217) (fun _ _ => ⟨rfl, eq670, (by decide : 8 + 0 ≤ _), (by decide : 41 + 0 ≤ _)⟩)
    dsimp only [Pt.U, Pt.locs, Pt.cells, Pt.slots] at X674 l674 y674 z674 st674 hQ674
    subst l674 y674 z674
    obtain ⟨rfl, N674q, eq674⟩ := hQ674
    have N675 := Fr.app N671 N674q
    refine Go.step (fun _ k => st674.trans (XS.iload X674.here hx rfl (hb hby at_220) rfl (XS.icmpNo X674.here hx rfl (hb hby at_222) rfl (teq rfl).2 (XS.aload X674.here hx rfl (hb hby at_225) rfl rfl (XS.iload X674.here hx rfl (hb hby at_227) rfl k))))) ?_
    show Go p e below s _ _ _ T674 (mkF m 229 #[.val (.int p1), .val (.int p2), .val (.int p3), .val (.int p4), .val (.int p5), .val (.int p6), .val (.ref b6), .val (.ref b15), .val (.ref b73), .val (.int (1 : Int32)), .val (.int (0 : Int32)), .val (.ref b522_552), .val (.int (1 : Int32)), .val (.int p5), .val (.int p6), .val (.int p5), .unset] [(.int (0 : Int32)), (.ref b73)])
    obtain ⟨cq678, kq678, q678a, q678b, q678c⟩ := isOf hZ eq674 f580
    obtain ⟨_, _, ⟨T678, L678, k678, n678⟩, -, X678, ⟨Lc678, hQ678, l678, y678, z678⟩, st678⟩ := X674.virtualBack hx (y := xm26) (z := xm26) hown (mvT hZ (tw134 hw)) (mvT hZ (tw135 hw)) (notFace_of_selects (args := #[]) (mvT hZ (tw137 hw))) (mvT hZ (tw137 hw)) (mvT hZ (tw136 hw)) (by decide) (backOf (W := 0) (rm_PropertyIndex_line_3 l Z a0 hw [] b73 b96_134 k96_134 p5 p6 p2 p3 p4 T572.heap n0 f577 f578 P572_0) hZ (tw138 hw) (tw32 hw) (by decide) (by decide)) q678a q678c (g := (mkF m 229 #[.val (.int p1), .val (.int p2), .val (.int p3), .val (.int p4), .val (.int p5), .val (.int p6), .val (.ref b6), .val (.ref b15), .val (.ref b73), .val (.int (1 : Int32)), .val (.int (0 : Int32)), .val (.ref b522_552), .val (.int (1 : Int32)), .val (.int p5), .val (.int p6), .val (.int p5), .unset] [(.int (0 : Int32)), (.ref b73)])) rfl (by rw [hml]; rfl) (Steps.refl _) (argsL := [(.int (0 : Int32))]) (rest := []) (lenOf pd_8 rfl) rfl (by show 2 * 0 + _ ≤ _; exact Nat.le_of_eq rfl) (hb hby at_229) (fun _ _ => ⟨rfl, eq674, (by decide : 8 + 0 ≤ _), (by decide : 41 + 0 ≤ _)⟩)
    dsimp only [Pt.U, Pt.locs, Pt.cells, Pt.slots] at X678 l678 y678 z678 st678 hQ678
    subst l678 y678 z678
    obtain ⟨rfl, N678q, eq678⟩ := hQ678
    have N679 := Fr.app N675 N678q
    refine Go.step (fun _ k => st678.trans (XS.iload X678.here hx rfl (hb hby at_232) rfl (XS.icmpNo X678.here hx rfl (hb hby at_234) rfl (teq rfl).2 (XS.iconst X678.here hx rfl (hb hby at_237) (XS.goto X678.here hx rfl (pc0 := 238) (pc' := 242) rfl (hb hby at_238) (by decide) (by decide) (XS.istore X678.here hx rfl (hb hby at_242) rfl (l' := #[.val (.int p1), .val (.int p2), .val (.int p3), .val (.int p4), .val (.int p5), .val (.int p6), .val (.ref b6), .val (.ref b15), .val (.ref b73), .val (.int (1 : Int32)), .val (.int (0 : Int32)), .val (.ref b522_552), .val (.int (1 : Int32)), .val (.int p5), .val (.int p6), .val (.int p5), .val (.int (1 : Int32))]) rfl (XS.iload X678.here hx rfl (hb hby at_244) rfl (XS.ifNo X678.here hx rfl (hb hby at_246) rfl ((if0 _ _).trans (feq (by decide)).1) (XS.iload X678.here hx rfl (hb hby at_249) rfl (XS.ifNo X678.here hx rfl (hb hby at_251) rfl ((if0 _ _).trans (feq (by decide)).1) k)))))))))) ?_
    show Go p e below s _ _ _ T678 (mkF m 254 #[.val (.int p1), .val (.int p2), .val (.int p3), .val (.int p4), .val (.int p5), .val (.int p6), .val (.ref b6), .val (.ref b15), .val (.ref b73), .val (.int (1 : Int32)), .val (.int (0 : Int32)), .val (.ref b522_552), .val (.int (1 : Int32)), .val (.int p5), .val (.int p6), .val (.int p5), .val (.int (1 : Int32))] [])
    refine Go.step (fun _ k => XS.iconst X678.here hx rfl (hb hby at_254) (XS.goto X678.here hx rfl (pc0 := 255) (pc' := 259) rfl (hb hby at_255) (by decide) (by decide) k)) ?_
    show Go p e below s _ _ _ T678 (mkF m 259 #[.val (.int p1), .val (.int p2), .val (.int p3), .val (.int p4), .val (.int p5), .val (.int p6), .val (.ref b6), .val (.ref b15), .val (.ref b73), .val (.int (1 : Int32)), .val (.int (0 : Int32)), .val (.ref b522_552), .val (.int (1 : Int32)), .val (.int p5), .val (.int p6), .val (.int p5), .val (.int (1 : Int32))] [(.int (1 : Int32))])
    exact Go.retN X678 hx hlk (t := .boolean) Bd.returns (by simp) (hb hby at_259) eq678 ⟨rfl, N679⟩ (by decide) (by decide)

set_option maxRecDepth 65536 in
set_option maxHeartbeats 40000000 in
theorem comes_1 {Post : Tables → Env → Array Value → State → Outcome → State → Prop} (hpost : ∀ tb e args s v u, (limb_1_1.after args s (.returned v) u = true ∧ limb_1_2.after args s (.returned v) u = true ∧ True) → FrameEnd s (.returned v) u (Jvm.fieldLocs frame_1_writes args s ++ Jvm.arrayLocs frame_1_arrays args s ++ Jvm.staticLocs frame_1_statics s) 24 192 → Post tb e args s (.returned v) u) :
    ArmFor flags0 classFile x code maxLocals ret World_1 tables_1 room_1 Calls_1 rest_1 Pre_1 Post := by
  intro l hfl _ _ p e ha hc hk s m args below hf hA hF happ hP
  obtain ⟨hcalls, hrest, hpre⟩ := hP
  obtain ⟨-, -, -, hnamed, -, -, -, hat⟩ := (Spec.applies_iff hf).mp happ
  obtain ⟨hg, hn⟩ := and_e (Cond.before_iff.mp (show (Jvm.Cond.and given_1 narrow_1).before args s = true from hpre))
  obtain ⟨gv1, gv2⟩ := and_e hg
  obtain ⟨gv3, gv4⟩ := and_e gv2
  obtain ⟨gv5, gv6⟩ := and_e gv4
  obtain ⟨gv7, gv8⟩ := and_e gv6
  obtain ⟨gv9, gv10⟩ := and_e gv8
  obtain ⟨gv11, gv12⟩ := and_e gv10
  obtain ⟨w0, w1, w2, w3, w4, w5, rfl⟩ : ∃ w0 w1 w2 w3 w4 w5 : Value, args = #[w0, w1, w2, w3, w4, w5] := by
    have hs : args.size = 6 := by simpa [Cond.value, given_1] using gv1
    obtain ⟨L⟩ := args
    match L, hs with
    | [w0, w1, w2, w3, w4, w5], _ => exact ⟨w0, w1, w2, w3, w4, w5, rfl⟩
  have hw := fun d (hd : d ∈ tables_1) => atoms_spec (ws := Jvm.Cond.code x code maxLocals ret :: tables_1) hat d (List.mem_cons_of_mem _ hd)
  have hfit : Fit s := fun {y c} hc i hi => by
    obtain ⟨ha, rfl⟩ := Array.getElem?_eq_some_iff.mp hc
    have q := List.all_eq_true.mp ((Array.all_eq_true_iff_forall_mem.mp hF) _ (Array.getElem_mem ha)) i (List.mem_range.mpr hi)
    simpa [Array.getElem?_eq_getElem hi] using q
  obtain ⟨i0, ei0⟩ := is_v gv3
  obtain rfl : w0 = (.int i0) := Option.some.inj ei0
  obtain ⟨i1, ei1⟩ := is_v gv5
  obtain rfl : w1 = (.int i1) := Option.some.inj ei1
  obtain ⟨i2, ei2⟩ := is_v gv7
  obtain rfl : w2 = (.int i2) := Option.some.inj ei2
  obtain ⟨i3, ei3⟩ := is_v gv9
  obtain rfl : w3 = (.int i3) := Option.some.inj ei3
  obtain ⟨i4, ei4⟩ := is_v gv11
  obtain rfl : w4 = (.int i4) := Option.some.inj ei4
  obtain ⟨i5, ei5⟩ := is_v gv12
  obtain rfl : w5 = (.int i5) := Option.some.inj ei5
  obtain ⟨hsets, hown0⟩ := atoms_of _ (rest_1_c_eq ▸ (show rest_1_c.before _ s = true from hrest))
  obtain ⟨cs, ecs⟩ := is_v (Cond.before_iff.mp (hsets _ (List.mem_of_getElem? (i := 1) rfl)))
  have Z_S_COMPACT_STRINGS := Sta.start ecs (Or.inl (hsets _ (List.mem_of_getElem? (i := 0) rfl)))
  have hcs : ¬ cs = (0 : Int32) := gotF (Cond.eq_ints ecs (Term.int_eval _)) (not_v (Cond.before_iff.mp (hsets _ (List.mem_of_getElem? (i := 2) rfl))))
  obtain ⟨fv, efv, hfv⟩ := isR_v (Cond.before_iff.mp (hsets _ (List.mem_of_getElem? (i := 8) rfl)))
  have Z_S_SIOOBE_FORMATTER := Sta.start efv (Or.inl (hsets _ (List.mem_of_getElem? (i := 7) rfl)))
  obtain ⟨n, o, h1, h2, h3, _, L, rfl, ⟨rfl, N⟩, hq⟩ := rm_law l s _ hw tables_1 i0 i1 i2 i3 i4 i5 cs fv s.heap s.heap.size (Nat.le_refl _) (Old.start s) Z_S_COMPACT_STRINGS hcs Z_S_SIOOBE_FORMATTER hfv p e ha hc hk s m _ below hf ((Spec.applies_iff_loose hf).mp happ).1 ⟨rfl, State.Warmed39.refl s, rfl⟩ trivial
  refine ⟨n, _, h1, h2, h3, hpost _ _ _ _ _ _ ⟨Cond.after_iff.mpr rfl, Cond.after_iff.mpr (eq_i res_at (Term.int_eval (1)) rfl), trivial⟩ ⟨hq.1, hq.2.1, (hq.2.2.sift fun y hy => Or.inr (N y hy)).mono (by decide) (by decide)⟩⟩
theorem main_1_1 : Claimed_1_1 := comes_1 fun _ _ _ _ _ _ h hF => ⟨h.1, hF⟩
theorem main_1_2 : Claimed_1_2 := comes_1 fun _ _ _ _ _ _ h hF => ⟨h.2.1, hF⟩
end Jvm.Pilot.@@N@@
namespace Jvm.Pilot.@@N@@
open Jvm Jvm.ClassFile Sem Op Lib Jvm.Free Jvm.Stand Jvm.Pilot.@@N@@.Jvm.D
/-! MADE BY PROGRAM (witnessworld.py) out of the Statement's table words and the real class files: 25 classes; the members and pool entries that the words name. The judged class is class 1, her method 1. -/
namespace start1
open Jvm.ClassFile
def u (s : String) : CpInfo := .utf8 (stringToUtf16 s)
/-- a pool by its gaps: so many unusable entries, then the entry; so many at the end -/
def gap : Nat → List CpInfo → List CpInfo
  | 0, r => r
  | n + 1, r => .unusable :: gap n r
def poolList (es : List (Nat × CpInfo)) (last : Nat) : List CpInfo := es.foldr (fun e r => gap e.1 (e.2 :: r)) (gap last [])
def pool (es : List (Nat × CpInfo)) (last : Nat) : Array CpInfo := ⟨poolList es last⟩
def fileOf (pool : Array CpInfo) (this : Nat) (attrs : Array Attribute := #[]) (ms : Array MethodInfo := #[]) (fl : Nat := 33) (sup : Nat := 0) (ifs : Array Nat := #[]) (fds : Array FieldInfo := #[]) : ClassFile where
  minorVersion := 0
  majorVersion := 65
  constantPool := pool
  accessFlags := fl
  thisClass := this
  superClass := sup
  interfaces := ifs
  fields := fds
  methods := ms
  attributes := attrs
def plain (name : String) (sup : Option ClassId) : Class where
  name := name
  kind := .ordinary
  loader := none
  accessFlags := 33
  super := sup
  interfaces := #[]
  cf := none
  fields := #[]
  methods := #[]
  instanceTypes := #[]
  staticTypes := #[]
  resolved := #[]
  callSites := []
  init := .initialized
  statics := none
  mirror := none

def pool0 : Array CpInfo := pool [(5, u "<init>"), (0, u "()V"), (1, .class_ 10), (1, u "java/lang/Object")] 113

def k0c0 : Code := { maxStack := 0, maxLocals := 1, code := object_method_1_code, exceptionTable := #[], attributes := #[] }
def k0m0 : Method := { name := "<init>", desc := "()V", sig := { parameters := [], returnType := none }, accessFlags := 1, code := some k0c0 }
/-- java/lang/Object -/
def k0 : Class := { plain "java/lang/Object" none with
  accessFlags := 33
  interfaces := #[]
  cf := some (fileOf pool0 8 #[] #[{ accessFlags := 1, nameIndex := 5, descriptorIndex := 6, attributes := #[] }] 33 0 #[] #[])
  fields := #[]
  methods := #[k0m0]
  instanceTypes := #[]
  staticTypes := #[]
  resolved := Array.replicate 124 none
  statics := none }

def pool1 : Array CpInfo := pool [(2, .class_ 4), (1, u "java/lang/Object"), (0, u "<init>"), (0, u "()V"), (0, .class_ 8), (0, u "java/lang/String"), (0, .methodref 7 10), (0, .nameAndType 5 11), (0, u "([C)V"), (0, .class_ 13), (0, u "com/example/vaatimus/vaatimus/io/PropertyIndex"), (0, .methodref 12 15), (0, .nameAndType 5 16), (0, u "(Ljava/lang/String;Lcom/example/vaatimus/vaatimus/io/LineEnds;I)V"), (0, .methodref 12 18), (0, .nameAndType 19 20), (0, u "add"), (0, u "(IIIII)I"), (0, .methodref 7 22), (0, .nameAndType 23 24), (0, u "valueOf"), (0, u "(C)Ljava/lang/String;"), (0, .methodref 12 26), (0, .nameAndType 27 28), (0, u "replace"), (0, u "(IIII)V"), (0, .methodref 12 30), (0, .nameAndType 31 32), (0, u "valueStart"), (0, u "(I)I"), (0, .methodref 12 34), (0, .nameAndType 35 32), (0, u "valueEnd"), (0, .methodref 12 37), (0, .nameAndType 38 32), (0, u "line"), (0, .methodref 12 40), (0, .nameAndType 41 42), (0, u "find"), (0, u "(Ljava/lang/Object;)I"), (0, .class_ 44), (0, u "com/example/vaatimus/vaatimus/io/PropertyIndexReplacePinLaw"), (2, u "law"), (0, u "(IIIIII)Z")] 5

def k1m0 : Method := { name := "<init>", desc := "()V", sig := { parameters := [], returnType := none }, accessFlags := 1, code := none }
def k1c1 : Code := { maxStack := 6, maxLocals := 17, code := code, exceptionTable := #[], attributes := #[] }
def k1m1 : Method := { name := "law", desc := "(IIIIII)Z", sig := { parameters := [.int, .int, .int, .int, .int, .int], returnType := some .boolean }, accessFlags := 9, code := some k1c1 }
/-- com/example/vaatimus/vaatimus/io/PropertyIndexReplacePinLaw -/
def k1 : Class := { plain "com/example/vaatimus/vaatimus/io/PropertyIndexReplacePinLaw" (some 0) with
  accessFlags := 49
  interfaces := #[]
  cf := some (fileOf pool1 43 #[] #[{ accessFlags := 1, nameIndex := 5, descriptorIndex := 6, attributes := #[] }, { accessFlags := 9, nameIndex := 47, descriptorIndex := 48, attributes := #[] }] 49 2 #[] #[])
  fields := #[]
  methods := #[k1m0, k1m1]
  instanceTypes := #[]
  staticTypes := #[]
  resolved := Array.replicate 54 none
  statics := none }

def pool2 : Array CpInfo := pool [(1, .class_ 2), (0, u "java/io/Serializable"), (0, .class_ 4), (0, u "java/lang/Object")] 2

/-- java/io/Serializable -/
def k2 : Class := { plain "java/io/Serializable" (some 0) with
  accessFlags := 1537
  interfaces := #[]
  cf := some (fileOf pool2 1 #[] #[] 1537 3 #[] #[])
  fields := #[]
  methods := #[]
  instanceTypes := #[]
  staticTypes := #[]
  resolved := Array.replicate 7 none
  statics := none }

def pool3 : Array CpInfo := pool [(1, .class_ 2), (0, u "java/lang/Comparable"), (0, .class_ 4), (0, u "java/lang/Object")] 7

/-- java/lang/Comparable -/
def k3 : Class := { plain "java/lang/Comparable" (some 0) with
  accessFlags := 1537
  interfaces := #[]
  cf := some (fileOf pool3 1 #[] #[] 1537 3 #[] #[])
  fields := #[]
  methods := #[]
  instanceTypes := #[]
  staticTypes := #[]
  resolved := Array.replicate 12 none
  statics := none }

def pool4 : Array CpInfo := pool [(2, .class_ 4), (1, u "java/lang/CharSequence"), (42, .class_ 48), (0, u "java/lang/CharSequence$1CodePointIterator"), (10, .class_ 60), (0, u "java/lang/CharSequence$1CharIterator"), (5, .class_ 67), (0, u "java/lang/Object")] 63

/-- java/lang/CharSequence -/
def k4 : Class := { plain "java/lang/CharSequence" (some 0) with
  accessFlags := 1537
  interfaces := #[]
  cf := some (fileOf pool4 2 #[.nestMembers #[47, 59]] #[] 1537 66 #[] #[])
  fields := #[]
  methods := #[]
  instanceTypes := #[]
  staticTypes := #[]
  resolved := Array.replicate 131 none
  statics := none }

def pool5 : Array CpInfo := pool [(1, .class_ 2), (0, u "java/lang/constant/Constable"), (0, .class_ 4), (0, u "java/lang/Object")] 6

/-- java/lang/constant/Constable -/
def k5 : Class := { plain "java/lang/constant/Constable" (some 0) with
  accessFlags := 1537
  interfaces := #[]
  cf := some (fileOf pool5 1 #[] #[] 1537 3 #[] #[])
  fields := #[]
  methods := #[]
  instanceTypes := #[]
  staticTypes := #[]
  resolved := Array.replicate 11 none
  statics := none }

def pool6 : Array CpInfo := pool [(1, .class_ 2), (0, u "java/lang/constant/ConstantDesc"), (0, .class_ 4), (0, u "java/lang/Object")] 32

/-- java/lang/constant/ConstantDesc -/
def k6 : Class := { plain "java/lang/constant/ConstantDesc" (some 0) with
  accessFlags := 1537
  interfaces := #[]
  cf := some (fileOf pool6 1 #[] #[] 1537 3 #[] #[])
  fields := #[]
  methods := #[]
  instanceTypes := #[]
  staticTypes := #[]
  resolved := Array.replicate 37 none
  statics := none }

def pool7 : Array CpInfo := pool [(1, .methodref 2 3), (0, .class_ 4), (0, .nameAndType 5 6), (0, u "java/lang/Object"), (0, u "<init>"), (0, u "()V"), (2, .fieldref 10 11), (0, .class_ 12), (0, .nameAndType 13 14), (0, u "java/lang/String"), (0, u "value"), (0, u "[B"), (0, .fieldref 10 16), (0, .nameAndType 17 18), (0, u "coder"), (0, u "B"), (2, u "hash"), (0, u "I"), (2, u "hashIsZero"), (0, u "Z"), (0, .methodref 10 28), (0, .nameAndType 5 29), (0, u "([CIILjava/lang/Void;)V"), (8, .fieldref 10 39), (0, .nameAndType 40 26), (0, u "COMPACT_STRINGS"), (1, .class_ 44), (1, u "java/lang/StringUTF16"), (0, u "compress"), (1, .methodref 42 48), (0, .nameAndType 49 50), (0, u "coderFromArrayLen"), (0, u "([BI)B"), (2, u "toBytes"), (53, .class_ 109), (1, u "java/lang/StringLatin1"), (32, u "()Z"), (34, .methodref 42 178), (0, .nameAndType 45 179), (0, u "([CII)[B"), (29, .methodref 10 210), (0, .nameAndType 5 211), (0, u "([BB)V"), (122, u "()I"), (0, .methodref 10 336), (0, .nameAndType 17 337), (0, u "()B"), (25, u "([BI)C"), (5, u "(C)Z"), (6, u "([BI[BII)I"), (14, u "(II)V"), (35, u "(I)C"), (64, .methodref 10 493), (0, .nameAndType 494 142), (0, u "isLatin1"), (0, .methodref 107 496), (0, .nameAndType 497 363), (0, u "charAt"), (3, u "checkIndex"), (3, .methodref 10 506), (0, .nameAndType 507 334), (0, u "length"), (51, .class_ 561), (1, u "jdk/internal/util/ArraysSupport"), (0, u "mismatch"), (12, .class_ 576), (0, u "java/lang/CharSequence"), (7, u "regionMatches"), (14, u "CASE_INSENSITIVE_ORDER"), (0, u "Ljava/util/Comparator;"), (6, .methodref 559 608), (0, .nameAndType 562 376), (3, u "(ILjava/lang/String;II)Z"), (169, u "valueOf"), (0, u "(C)Ljava/lang/String;"), (226, u "([C)V"), (4, .methodref 107 1016), (0, .nameAndType 1017 369), (0, u "canEncode"), (0, .methodref 107 1019), (0, .nameAndType 53 1020), (0, u "(C)[B"), (32, .fieldref 1054 1055), (0, .class_ 1056), (0, .nameAndType 1057 1058), (0, u "jdk/internal/util/Preconditions"), (0, u "SIOOBE_FORMATTER"), (0, u "Ljava/util/function/BiFunction;"), (0, .methodref 1054 1060), (0, .nameAndType 501 1061), (0, u "(IILjava/util/function/BiFunction;)I"), (39, u "serialPersistentFields"), (0, u "[Ljava/io/ObjectStreamField;"), (0, .class_ 1104), (0, u "java/lang/String$CaseInsensitiveComparator"), (1, .class_ 1107), (0, u "java/io/Serializable"), (0, .class_ 1109), (0, u "java/lang/Comparable"), (0, .class_ 1111), (0, u "java/lang/constant/Constable"), (0, .class_ 1113), (0, u "java/lang/constant/ConstantDesc"), (2, u "serialVersionUID"), (0, u "J"), (3, u "REPL"), (0, u "C"), (2, u "LATIN1"), (1, u "UTF16")] 323

def k7m0 : Method := { name := "<init>", desc := "()V", sig := { parameters := [], returnType := none }, accessFlags := 1, code := none }
def k7c1 : Code := { maxStack := 5, maxLocals := 2, code := jdk_42_method_3_code, exceptionTable := #[], attributes := #[] }
def k7m1 : Method := { name := "<init>", desc := "([C)V", sig := { parameters := [(.array .char)], returnType := none }, accessFlags := 1, code := some k7c1 }
def k7c2 : Code := { maxStack := 2, maxLocals := 1, code := jdk_42_method_54_code, exceptionTable := #[], attributes := #[] }
def k7m2 : Method := { name := "length", desc := "()I", sig := { parameters := [], returnType := some .int }, accessFlags := 1, code := some k7c2 }
def k7c3 : Code := { maxStack := 2, maxLocals := 2, code := jdk_42_method_56_code, exceptionTable := #[], attributes := #[] }
def k7m3 : Method := { name := "charAt", desc := "(I)C", sig := { parameters := [.int], returnType := some .char }, accessFlags := 1, code := some k7c3 }
def k7c4 : Code := { maxStack := 6, maxLocals := 8, code := jdk_42_method_73_code, exceptionTable := #[], attributes := #[] }
def k7m4 : Method := { name := "regionMatches", desc := "(ILjava/lang/String;II)Z", sig := { parameters := [.int, (.object "java/lang/String"), .int, .int], returnType := some .boolean }, accessFlags := 1, code := some k7c4 }
def k7c5 : Code := { maxStack := 4, maxLocals := 1, code := jdk_42_method_139_code, exceptionTable := #[], attributes := #[] }
def k7m5 : Method := { name := "valueOf", desc := "(C)Ljava/lang/String;", sig := { parameters := [.char], returnType := some (.object "java/lang/String") }, accessFlags := 9, code := some k7c5 }
def k7c6 : Code := { maxStack := 4, maxLocals := 6, code := jdk_42_method_149_code, exceptionTable := #[], attributes := #[] }
def k7m6 : Method := { name := "<init>", desc := "([CIILjava/lang/Void;)V", sig := { parameters := [(.array .char), .int, .int, (.object "java/lang/Void")], returnType := none }, accessFlags := 2, code := some k7c6 }
def k7c7 : Code := { maxStack := 2, maxLocals := 3, code := jdk_42_method_151_code, exceptionTable := #[], attributes := #[] }
def k7m7 : Method := { name := "<init>", desc := "([BB)V", sig := { parameters := [(.array .byte), .byte], returnType := none }, accessFlags := 0, code := some k7c7 }
def k7c8 : Code := { maxStack := 1, maxLocals := 1, code := jdk_42_method_152_code, exceptionTable := #[], attributes := #[] }
def k7m8 : Method := { name := "coder", desc := "()B", sig := { parameters := [], returnType := some .byte }, accessFlags := 0, code := some k7c8 }
def k7c9 : Code := { maxStack := 1, maxLocals := 1, code := jdk_42_method_154_code, exceptionTable := #[], attributes := #[] }
def k7m9 : Method := { name := "isLatin1", desc := "()Z", sig := { parameters := [], returnType := some .boolean }, accessFlags := 0, code := some k7c9 }
def k7c10 : Code := { maxStack := 3, maxLocals := 2, code := jdk_42_method_155_code, exceptionTable := #[], attributes := #[] }
def k7m10 : Method := { name := "checkIndex", desc := "(II)V", sig := { parameters := [.int, .int], returnType := none }, accessFlags := 8, code := some k7c10 }
/-- java/lang/String -/
def k7 : Class := { plain "java/lang/String" (some 0) with
  accessFlags := 49
  interfaces := #[2, 3, 4, 5, 6]
  cf := some (fileOf pool7 10 #[.nestMembers #[1103]] #[{ accessFlags := 1, nameIndex := 5, descriptorIndex := 6, attributes := #[] }, { accessFlags := 1, nameIndex := 5, descriptorIndex := 1010, attributes := #[] }, { accessFlags := 1, nameIndex := 507, descriptorIndex := 334, attributes := #[] }, { accessFlags := 1, nameIndex := 497, descriptorIndex := 427, attributes := #[] }, { accessFlags := 1, nameIndex := 584, descriptorIndex := 612, attributes := #[] }, { accessFlags := 9, nameIndex := 782, descriptorIndex := 783, attributes := #[] }, { accessFlags := 2, nameIndex := 5, descriptorIndex := 29, attributes := #[] }, { accessFlags := 0, nameIndex := 5, descriptorIndex := 211, attributes := #[] }, { accessFlags := 0, nameIndex := 17, descriptorIndex := 337, attributes := #[] }, { accessFlags := 0, nameIndex := 494, descriptorIndex := 142, attributes := #[] }, { accessFlags := 8, nameIndex := 501, descriptorIndex := 391, attributes := #[] }] 49 2 #[1106, 1108, 575, 1110, 1112] #[{ accessFlags := 18, nameIndex := 13, descriptorIndex := 14, attributes := #[] }, { accessFlags := 18, nameIndex := 17, descriptorIndex := 18, attributes := #[] }, { accessFlags := 2, nameIndex := 21, descriptorIndex := 22, attributes := #[] }, { accessFlags := 2, nameIndex := 25, descriptorIndex := 26, attributes := #[] }, { accessFlags := 26, nameIndex := 1116, descriptorIndex := 1117, attributes := #[] }, { accessFlags := 24, nameIndex := 40, descriptorIndex := 26, attributes := #[] }, { accessFlags := 26, nameIndex := 1101, descriptorIndex := 1102, attributes := #[] }, { accessFlags := 26, nameIndex := 1121, descriptorIndex := 1122, attributes := #[] }, { accessFlags := 25, nameIndex := 599, descriptorIndex := 600, attributes := #[] }, { accessFlags := 24, nameIndex := 1125, descriptorIndex := 18, attributes := #[] }, { accessFlags := 24, nameIndex := 1127, descriptorIndex := 18, attributes := #[] }])
  fields := #[{ name := "value", type := (.array .byte), accessFlags := 18, slot := 0, constantValue := 0 }, { name := "coder", type := .byte, accessFlags := 18, slot := 1, constantValue := 0 }, { name := "hash", type := .int, accessFlags := 2, slot := 2, constantValue := 0 }, { name := "hashIsZero", type := .boolean, accessFlags := 2, slot := 3, constantValue := 0 }, { name := "serialVersionUID", type := .long, accessFlags := 26, slot := 0, constantValue := 0 }, { name := "COMPACT_STRINGS", type := .boolean, accessFlags := 24, slot := 1, constantValue := 0 }, { name := "serialPersistentFields", type := (.array (.object "java/io/ObjectStreamField")), accessFlags := 26, slot := 2, constantValue := 0 }, { name := "REPL", type := .char, accessFlags := 26, slot := 3, constantValue := 0 }, { name := "CASE_INSENSITIVE_ORDER", type := (.object "java/util/Comparator"), accessFlags := 25, slot := 4, constantValue := 0 }, { name := "LATIN1", type := .byte, accessFlags := 24, slot := 5, constantValue := 0 }, { name := "UTF16", type := .byte, accessFlags := 24, slot := 6, constantValue := 0 }]
  methods := #[k7m0, k7m1, k7m2, k7m3, k7m4, k7m5, k7m6, k7m7, k7m8, k7m9, k7m10]
  instanceTypes := #[(.array .byte), .byte, .int, .boolean]
  staticTypes := #[.long, .boolean, (.array (.object "java/io/ObjectStreamField")), .char, (.object "java/util/Comparator"), .byte, .byte]
  resolved := Array.replicate 1451 none
  statics := some 0 }

def pool8 : Array CpInfo := pool [(6, .class_ 8), (1, u "java/lang/Object"), (0, u "<init>"), (0, u "()V"), (1, .class_ 14), (1, u "java/lang/StringUTF16"), (31, u "$assertionsDisabled"), (0, u "Z"), (13, u "HI_BYTE_SHIFT"), (0, u "I"), (2, u "LO_BYTE_SHIFT"), (49, .methodref 12 116), (0, .nameAndType 117 118), (0, u "compress"), (0, u "([CI[BII)I"), (3, u "([CII)[B"), (138, u "coderFromArrayLen"), (0, u "([BI)B"), (106, .class_ 371), (1, u "java/lang/StringUTF16$LinesSpliterator"), (58, u "MAX_LENGTH"), (196, .class_ 628), (0, u "java/lang/StringUTF16$CodePointsSpliterator"), (0, .class_ 630), (0, u "java/lang/StringUTF16$CharsSpliterator")] 4

def k8m0 : Method := { name := "<init>", desc := "()V", sig := { parameters := [], returnType := none }, accessFlags := 0, code := none }
def k8c1 : Code := { maxStack := 2, maxLocals := 2, code := jdk_52_method_15_code, exceptionTable := #[], attributes := #[] }
def k8m1 : Method := { name := "coderFromArrayLen", desc := "([BI)B", sig := { parameters := [(.array .byte), .int], returnType := some .byte }, accessFlags := 8, code := some k8c1 }
def k8c2 : Code := { maxStack := 5, maxLocals := 6, code := jdk_52_method_16_code, exceptionTable := #[], attributes := #[] }
def k8m2 : Method := { name := "compress", desc := "([CII)[B", sig := { parameters := [(.array .char), .int, .int], returnType := some (.array .byte) }, accessFlags := 9, code := some k8c2 }
def k8c3 : Code := { maxStack := 3, maxLocals := 7, code := jdk_52_method_21_code, exceptionTable := #[], attributes := #[] }
def k8m3 : Method := { name := "compress", desc := "([CI[BII)I", sig := { parameters := [(.array .char), .int, (.array .byte), .int, .int], returnType := some .int }, accessFlags := 9, code := some k8c3 }
/-- java/lang/StringUTF16 -/
def k8 : Class := { plain "java/lang/StringUTF16" (some 0) with
  accessFlags := 48
  interfaces := #[]
  cf := some (fileOf pool8 12 #[.nestMembers #[627, 629, 369]] #[{ accessFlags := 0, nameIndex := 9, descriptorIndex := 10, attributes := #[] }, { accessFlags := 8, nameIndex := 261, descriptorIndex := 262, attributes := #[] }, { accessFlags := 9, nameIndex := 117, descriptorIndex := 122, attributes := #[] }, { accessFlags := 9, nameIndex := 117, descriptorIndex := 118, attributes := #[] }] 48 6 #[] #[{ accessFlags := 26, nameIndex := 61, descriptorIndex := 62, attributes := #[] }, { accessFlags := 26, nameIndex := 65, descriptorIndex := 62, attributes := #[] }, { accessFlags := 24, nameIndex := 430, descriptorIndex := 62, attributes := #[] }, { accessFlags := 4120, nameIndex := 46, descriptorIndex := 47, attributes := #[] }])
  fields := #[{ name := "HI_BYTE_SHIFT", type := .int, accessFlags := 26, slot := 0, constantValue := 0 }, { name := "LO_BYTE_SHIFT", type := .int, accessFlags := 26, slot := 1, constantValue := 0 }, { name := "MAX_LENGTH", type := .int, accessFlags := 24, slot := 2, constantValue := 0 }, { name := "$assertionsDisabled", type := .boolean, accessFlags := 4120, slot := 3, constantValue := 0 }]
  methods := #[k8m0, k8m1, k8m2, k8m3]
  instanceTypes := #[]
  staticTypes := #[.int, .int, .int, .boolean]
  resolved := Array.replicate 635 none
  statics := none }

def pool9 : Array CpInfo := pool [(2, .class_ 4), (1, u "java/util/Map"), (31, .class_ 37), (0, u "java/util/Map$Entry"), (55, .class_ 94), (0, u "java/lang/Object")] 168

/-- java/util/Map -/
def k9 : Class := { plain "java/util/Map" (some 0) with
  accessFlags := 1537
  interfaces := #[]
  cf := some (fileOf pool9 2 #[.nestMembers #[36]] #[] 1537 93 #[] #[])
  fields := #[]
  methods := #[]
  instanceTypes := #[]
  staticTypes := #[]
  resolved := Array.replicate 263 none
  statics := none }

def pool10 : Array CpInfo := pool [(1, .methodref 2 3), (0, .class_ 4), (0, .nameAndType 5 6), (0, u "java/lang/Object"), (0, u "<init>"), (0, u "()V"), (1, .class_ 10), (1, u "java/util/AbstractMap"), (42, .class_ 54), (0, u "java/util/Map"), (9, u "keySet"), (0, u "Ljava/util/Set;"), (0, .class_ 67), (0, u "java/util/AbstractMap$1"), (5, u "values"), (0, u "Ljava/util/Collection;"), (0, .class_ 76), (0, u "java/util/AbstractMap$2"), (104, .class_ 182), (0, u "java/util/AbstractMap$ViewCollection"), (0, .class_ 184), (0, u "java/util/AbstractMap$SimpleImmutableEntry"), (0, .class_ 186), (0, u "java/util/AbstractMap$SimpleEntry"), (0, .class_ 188), (0, u "java/util/AbstractMap$2$1"), (0, .class_ 190), (0, u "java/util/AbstractMap$1$1")] 5

def k10c0 : Code := { maxStack := 1, maxLocals := 1, code := jdk_71_method_1_code, exceptionTable := #[], attributes := #[] }
def k10m0 : Method := { name := "<init>", desc := "()V", sig := { parameters := [], returnType := none }, accessFlags := 4, code := some k10c0 }
/-- java/util/AbstractMap -/
def k10 : Class := { plain "java/util/AbstractMap" (some 0) with
  accessFlags := 1057
  interfaces := #[9]
  cf := some (fileOf pool10 8 #[.nestMembers #[181, 183, 185, 75, 187, 66, 189]] #[{ accessFlags := 4, nameIndex := 5, descriptorIndex := 6, attributes := #[] }] 1057 2 #[53] #[{ accessFlags := 128, nameIndex := 64, descriptorIndex := 65, attributes := #[] }, { accessFlags := 128, nameIndex := 73, descriptorIndex := 74, attributes := #[] }])
  fields := #[{ name := "keySet", type := (.object "java/util/Set"), accessFlags := 128, slot := 0, constantValue := 0 }, { name := "values", type := (.object "java/util/Collection"), accessFlags := 128, slot := 1, constantValue := 0 }]
  methods := #[k10m0]
  instanceTypes := #[(.object "java/util/Set"), (.object "java/util/Collection")]
  staticTypes := #[]
  resolved := Array.replicate 196 none
  statics := none }

def pool11 : Array CpInfo := pool [(1, .methodref 2 3), (0, .class_ 4), (0, .nameAndType 5 6), (0, u "java/lang/String"), (0, u "length"), (0, u "()I"), (0, .class_ 8), (0, u "com/example/vaatimus/vaatimus/io/PropertyIndex"), (1, .class_ 12), (1, u "java/lang/Math"), (1, u "(II)I"), (2, u "<init>"), (0, u "(Ljava/lang/String;Lcom/example/vaatimus/vaatimus/io/LineEnds;I)V"), (0, .methodref 20 21), (0, .class_ 22), (0, .nameAndType 17 23), (0, u "java/util/AbstractMap"), (0, u "()V"), (0, .fieldref 7 25), (0, .nameAndType 26 27), (0, u "text"), (0, u "Ljava/lang/String;"), (0, .fieldref 7 29), (0, .nameAndType 30 31), (0, u "lineEnds"), (0, u "Lcom/example/vaatimus/vaatimus/io/LineEnds;"), (0, .methodref 10 33), (0, .nameAndType 34 14), (0, u "max"), (0, .fieldref 7 36), (0, .nameAndType 37 38), (0, u "entries"), (0, u "[I"), (0, .methodref 40 41), (0, .class_ 42), (0, .nameAndType 43 44), (0, u "java/lang/Integer"), (0, u "highestOneBit"), (0, u "(I)I"), (0, .fieldref 7 46), (0, .nameAndType 47 38), (0, u "slots"), (0, .methodref 7 49), (0, .nameAndType 50 51), (0, u "hash"), (0, u "(Ljava/lang/String;II)I"), (0, .methodref 7 53), (0, .nameAndType 54 55), (0, u "slot"), (0, u "(Ljava/lang/String;III)I"), (0, .fieldref 7 57), (0, .nameAndType 58 59), (0, u "keyed"), (0, u "Z"), (0, .fieldref 7 61), (0, .nameAndType 62 63), (0, u "size"), (0, u "I"), (12, u "find"), (0, u "(Ljava/lang/Object;)I"), (19, u "add"), (7, .methodref 7 106), (0, .nameAndType 107 108), (0, u "named"), (0, u "(ILjava/lang/String;III)Z"), (0, .methodref 2 110), (0, .nameAndType 111 112), (0, u "regionMatches"), (0, u "(ILjava/lang/String;II)Z"), (3, .methodref 7 117), (0, .nameAndType 118 51), (0, u "plainHash"), (0, .methodref 2 120), (0, .nameAndType 121 122), (0, u "charAt"), (0, u "(I)C"), (2, u "MULTIPLIER"), (0, u "J"), (30, u "NAME_START"), (2, u "NAME_END"), (1, u "VALUE_START"), (1, u "VALUE_END"), (1, u "LINE"), (1, u "HASH"), (1, u "WIDTH"), (1, u "LONGEST_PROBE"), (1, u "MOST_FIRST_ROOM"), (1, u "PRIME"), (3, u "(IIIII)I"), (2, u "replace"), (0, u "(IIII)V"), (5, u "line"), (0, u "valueStart"), (0, u "valueEnd")] 13

def k11c0 : Code := { maxStack := 3, maxLocals := 5, code := prog_15_method_2_code, exceptionTable := #[], attributes := #[] }
def k11m0 : Method := { name := "<init>", desc := "(Ljava/lang/String;Lcom/example/vaatimus/vaatimus/io/LineEnds;I)V", sig := { parameters := [(.object "java/lang/String"), (.object "com/example/vaatimus/vaatimus/io/LineEnds"), .int], returnType := none }, accessFlags := 0, code := some k11c0 }
def k11c1 : Code := { maxStack := 8, maxLocals := 10, code := prog_15_method_3_code, exceptionTable := #[], attributes := #[] }
def k11m1 : Method := { name := "add", desc := "(IIIII)I", sig := { parameters := [.int, .int, .int, .int, .int], returnType := some .int }, accessFlags := 0, code := some k11c1 }
def k11c2 : Code := { maxStack := 3, maxLocals := 6, code := prog_15_method_5_code, exceptionTable := #[], attributes := #[] }
def k11m2 : Method := { name := "replace", desc := "(IIII)V", sig := { parameters := [.int, .int, .int, .int], returnType := none }, accessFlags := 0, code := some k11c2 }
def k11c3 : Code := { maxStack := 9, maxLocals := 5, code := prog_15_method_10_code, exceptionTable := #[], attributes := #[] }
def k11m3 : Method := { name := "find", desc := "(Ljava/lang/Object;)I", sig := { parameters := [(.object "java/lang/Object")], returnType := some .int }, accessFlags := 0, code := some k11c3 }
def k11c4 : Code := { maxStack := 6, maxLocals := 7, code := prog_15_method_11_code, exceptionTable := #[], attributes := #[] }
def k11m4 : Method := { name := "slot", desc := "(Ljava/lang/String;III)I", sig := { parameters := [(.object "java/lang/String"), .int, .int, .int], returnType := some .int }, accessFlags := 2, code := some k11c4 }
def k11c5 : Code := { maxStack := 6, maxLocals := 8, code := prog_15_method_12_code, exceptionTable := #[], attributes := #[] }
def k11m5 : Method := { name := "named", desc := "(ILjava/lang/String;III)Z", sig := { parameters := [.int, (.object "java/lang/String"), .int, .int, .int], returnType := some .boolean }, accessFlags := 2, code := some k11c5 }
def k11c6 : Code := { maxStack := 3, maxLocals := 4, code := prog_15_method_14_code, exceptionTable := #[], attributes := #[] }
def k11m6 : Method := { name := "hash", desc := "(Ljava/lang/String;II)I", sig := { parameters := [(.object "java/lang/String"), .int, .int], returnType := some .int }, accessFlags := 2, code := some k11c6 }
def k11c7 : Code := { maxStack := 3, maxLocals := 5, code := prog_15_method_15_code, exceptionTable := #[], attributes := #[] }
def k11m7 : Method := { name := "plainHash", desc := "(Ljava/lang/String;II)I", sig := { parameters := [(.object "java/lang/String"), .int, .int], returnType := some .int }, accessFlags := 10, code := some k11c7 }
def k11c8 : Code := { maxStack := 3, maxLocals := 2, code := prog_15_method_18_code, exceptionTable := #[], attributes := #[] }
def k11m8 : Method := { name := "line", desc := "(I)I", sig := { parameters := [.int], returnType := some .int }, accessFlags := 0, code := some k11c8 }
def k11c9 : Code := { maxStack := 3, maxLocals := 2, code := prog_15_method_19_code, exceptionTable := #[], attributes := #[] }
def k11m9 : Method := { name := "valueStart", desc := "(I)I", sig := { parameters := [.int], returnType := some .int }, accessFlags := 0, code := some k11c9 }
def k11c10 : Code := { maxStack := 3, maxLocals := 2, code := prog_15_method_20_code, exceptionTable := #[], attributes := #[] }
def k11m10 : Method := { name := "valueEnd", desc := "(I)I", sig := { parameters := [.int], returnType := some .int }, accessFlags := 0, code := some k11c10 }
/-- com/example/vaatimus/vaatimus/io/PropertyIndex -/
def k11 : Class := { plain "com/example/vaatimus/vaatimus/io/PropertyIndex" (some 10) with
  accessFlags := 48
  interfaces := #[]
  cf := some (fileOf pool11 7 #[] #[{ accessFlags := 0, nameIndex := 17, descriptorIndex := 18, attributes := #[] }, { accessFlags := 0, nameIndex := 97, descriptorIndex := 180, attributes := #[] }, { accessFlags := 0, nameIndex := 183, descriptorIndex := 184, attributes := #[] }, { accessFlags := 0, nameIndex := 76, descriptorIndex := 77, attributes := #[] }, { accessFlags := 2, nameIndex := 54, descriptorIndex := 55, attributes := #[] }, { accessFlags := 2, nameIndex := 107, descriptorIndex := 108, attributes := #[] }, { accessFlags := 2, nameIndex := 50, descriptorIndex := 51, attributes := #[] }, { accessFlags := 10, nameIndex := 118, descriptorIndex := 51, attributes := #[] }, { accessFlags := 0, nameIndex := 190, descriptorIndex := 44, attributes := #[] }, { accessFlags := 0, nameIndex := 191, descriptorIndex := 44, attributes := #[] }, { accessFlags := 0, nameIndex := 192, descriptorIndex := 44, attributes := #[] }] 48 20 #[] #[{ accessFlags := 26, nameIndex := 157, descriptorIndex := 63, attributes := #[] }, { accessFlags := 26, nameIndex := 160, descriptorIndex := 63, attributes := #[] }, { accessFlags := 26, nameIndex := 162, descriptorIndex := 63, attributes := #[] }, { accessFlags := 26, nameIndex := 164, descriptorIndex := 63, attributes := #[] }, { accessFlags := 26, nameIndex := 166, descriptorIndex := 63, attributes := #[] }, { accessFlags := 26, nameIndex := 168, descriptorIndex := 63, attributes := #[] }, { accessFlags := 26, nameIndex := 170, descriptorIndex := 63, attributes := #[] }, { accessFlags := 26, nameIndex := 172, descriptorIndex := 63, attributes := #[] }, { accessFlags := 26, nameIndex := 174, descriptorIndex := 63, attributes := #[] }, { accessFlags := 26, nameIndex := 176, descriptorIndex := 126, attributes := #[] }, { accessFlags := 26, nameIndex := 125, descriptorIndex := 126, attributes := #[] }, { accessFlags := 18, nameIndex := 26, descriptorIndex := 27, attributes := #[] }, { accessFlags := 18, nameIndex := 30, descriptorIndex := 31, attributes := #[] }, { accessFlags := 2, nameIndex := 37, descriptorIndex := 38, attributes := #[] }, { accessFlags := 2, nameIndex := 62, descriptorIndex := 63, attributes := #[] }, { accessFlags := 2, nameIndex := 47, descriptorIndex := 38, attributes := #[] }, { accessFlags := 2, nameIndex := 58, descriptorIndex := 59, attributes := #[] }])
  fields := #[{ name := "NAME_START", type := .int, accessFlags := 26, slot := 0, constantValue := 0 }, { name := "NAME_END", type := .int, accessFlags := 26, slot := 1, constantValue := 0 }, { name := "VALUE_START", type := .int, accessFlags := 26, slot := 2, constantValue := 0 }, { name := "VALUE_END", type := .int, accessFlags := 26, slot := 3, constantValue := 0 }, { name := "LINE", type := .int, accessFlags := 26, slot := 4, constantValue := 0 }, { name := "HASH", type := .int, accessFlags := 26, slot := 5, constantValue := 0 }, { name := "WIDTH", type := .int, accessFlags := 26, slot := 6, constantValue := 0 }, { name := "LONGEST_PROBE", type := .int, accessFlags := 26, slot := 7, constantValue := 0 }, { name := "MOST_FIRST_ROOM", type := .int, accessFlags := 26, slot := 8, constantValue := 0 }, { name := "PRIME", type := .long, accessFlags := 26, slot := 9, constantValue := 0 }, { name := "MULTIPLIER", type := .long, accessFlags := 26, slot := 10, constantValue := 0 }, { name := "text", type := (.object "java/lang/String"), accessFlags := 18, slot := 2, constantValue := 0 }, { name := "lineEnds", type := (.object "com/example/vaatimus/vaatimus/io/LineEnds"), accessFlags := 18, slot := 3, constantValue := 0 }, { name := "entries", type := (.array .int), accessFlags := 2, slot := 4, constantValue := 0 }, { name := "size", type := .int, accessFlags := 2, slot := 5, constantValue := 0 }, { name := "slots", type := (.array .int), accessFlags := 2, slot := 6, constantValue := 0 }, { name := "keyed", type := .boolean, accessFlags := 2, slot := 7, constantValue := 0 }]
  methods := #[k11m0, k11m1, k11m2, k11m3, k11m4, k11m5, k11m6, k11m7, k11m8, k11m9, k11m10]
  instanceTypes := #[(.object "java/util/Set"), (.object "java/util/Collection"), (.object "java/lang/String"), (.object "com/example/vaatimus/vaatimus/io/LineEnds"), (.array .int), .int, (.array .int), .boolean]
  staticTypes := #[.int, .int, .int, .int, .int, .int, .int, .int, .int, .long, .long]
  resolved := Array.replicate 206 none
  statics := none }

def pool12 : Array CpInfo := pool [(1, .class_ 2), (0, u "java/lang/Math"), (1, .class_ 6), (1, u "java/lang/Object"), (0, u "<init>"), (0, u "()V"), (89, .class_ 100), (1, u "java/lang/Math$RandomNumberGeneratorHolder"), (71, u "negativeZeroFloatBits"), (0, u "J"), (2, u "negativeZeroDoubleBits"), (21, u "max"), (46, u "$assertionsDisabled"), (0, u "Z"), (88, u "(II)I"), (2, u "twoToTheDoubleScaleDown"), (0, u "D"), (4, u "twoToTheDoubleScaleUp"), (9, u "E"), (3, u "PI"), (2, u "TAU"), (2, u "DEGREES_TO_RADIANS"), (0, u "RADIANS_TO_DEGREES")] 94

def k12m0 : Method := { name := "<init>", desc := "()V", sig := { parameters := [], returnType := none }, accessFlags := 2, code := none }
def k12c1 : Code := { maxStack := 2, maxLocals := 2, code := jdk_29_method_65_code, exceptionTable := #[], attributes := #[] }
def k12m1 : Method := { name := "max", desc := "(II)I", sig := { parameters := [.int, .int], returnType := some .int }, accessFlags := 9, code := some k12c1 }
/-- java/lang/Math -/
def k12 : Class := { plain "java/lang/Math" (some 0) with
  accessFlags := 49
  interfaces := #[]
  cf := some (fileOf pool12 1 #[.nestMembers #[98]] #[{ accessFlags := 2, nameIndex := 7, descriptorIndex := 8, attributes := #[] }, { accessFlags := 9, nameIndex := 198, descriptorIndex := 335, attributes := #[] }] 49 4 #[] #[{ accessFlags := 25, nameIndex := 354, descriptorIndex := 339, attributes := #[] }, { accessFlags := 25, nameIndex := 358, descriptorIndex := 339, attributes := #[] }, { accessFlags := 25, nameIndex := 361, descriptorIndex := 339, attributes := #[] }, { accessFlags := 26, nameIndex := 364, descriptorIndex := 339, attributes := #[] }, { accessFlags := 26, nameIndex := 365, descriptorIndex := 339, attributes := #[] }, { accessFlags := 26, nameIndex := 172, descriptorIndex := 173, attributes := #[] }, { accessFlags := 26, nameIndex := 176, descriptorIndex := 173, attributes := #[] }, { accessFlags := 8, nameIndex := 344, descriptorIndex := 339, attributes := #[] }, { accessFlags := 8, nameIndex := 338, descriptorIndex := 339, attributes := #[] }, { accessFlags := 4120, nameIndex := 245, descriptorIndex := 246, attributes := #[] }])
  fields := #[{ name := "E", type := .double, accessFlags := 25, slot := 0, constantValue := 0 }, { name := "PI", type := .double, accessFlags := 25, slot := 1, constantValue := 0 }, { name := "TAU", type := .double, accessFlags := 25, slot := 2, constantValue := 0 }, { name := "DEGREES_TO_RADIANS", type := .double, accessFlags := 26, slot := 3, constantValue := 0 }, { name := "RADIANS_TO_DEGREES", type := .double, accessFlags := 26, slot := 4, constantValue := 0 }, { name := "negativeZeroFloatBits", type := .long, accessFlags := 26, slot := 5, constantValue := 0 }, { name := "negativeZeroDoubleBits", type := .long, accessFlags := 26, slot := 6, constantValue := 0 }, { name := "twoToTheDoubleScaleUp", type := .double, accessFlags := 8, slot := 7, constantValue := 0 }, { name := "twoToTheDoubleScaleDown", type := .double, accessFlags := 8, slot := 8, constantValue := 0 }, { name := "$assertionsDisabled", type := .boolean, accessFlags := 4120, slot := 9, constantValue := 0 }]
  methods := #[k12m0, k12m1]
  instanceTypes := #[]
  staticTypes := #[.double, .double, .double, .double, .double, .long, .long, .double, .double, .boolean]
  resolved := Array.replicate 460 none
  statics := none }

def pool13 : Array CpInfo := pool [(2, .class_ 4), (1, u "java/lang/Object"), (0, u "<init>"), (0, u "()V"), (1, .class_ 10), (1, u "java/lang/Number"), (2, .class_ 14), (0, u "java/io/Serializable"), (0, u "serialVersionUID"), (0, u "J")] 20

def k13m0 : Method := { name := "<init>", desc := "()V", sig := { parameters := [], returnType := none }, accessFlags := 1, code := none }
/-- java/lang/Number -/
def k13 : Class := { plain "java/lang/Number" (some 0) with
  accessFlags := 1057
  interfaces := #[2]
  cf := some (fileOf pool13 8 #[] #[{ accessFlags := 1, nameIndex := 5, descriptorIndex := 6, attributes := #[] }] 1057 2 #[13] #[{ accessFlags := 26, nameIndex := 15, descriptorIndex := 16, attributes := #[] }])
  fields := #[{ name := "serialVersionUID", type := .long, accessFlags := 26, slot := 0, constantValue := 0 }]
  methods := #[k13m0]
  instanceTypes := #[]
  staticTypes := #[.long]
  resolved := Array.replicate 37 none
  statics := none }

def pool14 : Array CpInfo := pool [(1, .class_ 2), (0, u "java/lang/Integer"), (16, u "digits"), (0, u "[C"), (30, .methodref 1 52), (0, .nameAndType 53 54), (0, u "numberOfLeadingZeros"), (0, u "(I)I"), (30, u "DigitOnes"), (0, u "[B"), (2, u "DigitTens"), (37, .integer 2147483648), (61, .class_ 190), (0, u "java/lang/Integer$IntegerCache"), (3, u "I"), (8, .class_ 204), (0, u "java/lang/Number"), (2, u "value"), (56, .integer 65536), (37, u "TYPE"), (0, u "Ljava/lang/Class;"), (0, .class_ 305), (0, u "java/lang/Comparable"), (0, .class_ 307), (0, u "java/lang/constant/Constable"), (0, .class_ 309), (0, u "java/lang/constant/ConstantDesc"), (0, u "MIN_VALUE"), (1, u "MAX_VALUE"), (3, u "SIZE"), (1, u "BYTES"), (1, u "serialVersionUID"), (0, u "J"), (81, u "highestOneBit")] 49

def k14c0 : Code := { maxStack := 3, maxLocals := 1, code := jdk_33_method_45_code, exceptionTable := #[], attributes := #[] }
def k14m0 : Method := { name := "highestOneBit", desc := "(I)I", sig := { parameters := [.int], returnType := some .int }, accessFlags := 9, code := some k14c0 }
def k14c1 : Code := { maxStack := 3, maxLocals := 2, code := jdk_33_method_47_code, exceptionTable := #[], attributes := #[] }
def k14m1 : Method := { name := "numberOfLeadingZeros", desc := "(I)I", sig := { parameters := [.int], returnType := some .int }, accessFlags := 9, code := some k14c1 }
/-- java/lang/Integer -/
def k14 : Class := { plain "java/lang/Integer" (some 13) with
  accessFlags := 49
  interfaces := #[3, 5, 6]
  cf := some (fileOf pool14 1 #[.nestMembers #[189]] #[{ accessFlags := 9, nameIndex := 403, descriptorIndex := 54, attributes := #[] }, { accessFlags := 9, nameIndex := 53, descriptorIndex := 54, attributes := #[] }] 49 203 #[304, 306, 308] #[{ accessFlags := 25, nameIndex := 310, descriptorIndex := 194, attributes := #[] }, { accessFlags := 25, nameIndex := 312, descriptorIndex := 194, attributes := #[] }, { accessFlags := 25, nameIndex := 302, descriptorIndex := 303, attributes := #[] }, { accessFlags := 24, nameIndex := 19, descriptorIndex := 20, attributes := #[] }, { accessFlags := 24, nameIndex := 89, descriptorIndex := 86, attributes := #[] }, { accessFlags := 24, nameIndex := 85, descriptorIndex := 86, attributes := #[] }, { accessFlags := 18, nameIndex := 207, descriptorIndex := 194, attributes := #[] }, { accessFlags := 25, nameIndex := 316, descriptorIndex := 194, attributes := #[] }, { accessFlags := 25, nameIndex := 318, descriptorIndex := 194, attributes := #[] }, { accessFlags := 26, nameIndex := 320, descriptorIndex := 321, attributes := #[] }])
  fields := #[{ name := "MIN_VALUE", type := .int, accessFlags := 25, slot := 0, constantValue := 0 }, { name := "MAX_VALUE", type := .int, accessFlags := 25, slot := 1, constantValue := 0 }, { name := "TYPE", type := (.object "java/lang/Class"), accessFlags := 25, slot := 2, constantValue := 0 }, { name := "digits", type := (.array .char), accessFlags := 24, slot := 3, constantValue := 0 }, { name := "DigitTens", type := (.array .byte), accessFlags := 24, slot := 4, constantValue := 0 }, { name := "DigitOnes", type := (.array .byte), accessFlags := 24, slot := 5, constantValue := 0 }, { name := "value", type := .int, accessFlags := 18, slot := 0, constantValue := 0 }, { name := "SIZE", type := .int, accessFlags := 25, slot := 6, constantValue := 0 }, { name := "BYTES", type := .int, accessFlags := 25, slot := 7, constantValue := 0 }, { name := "serialVersionUID", type := .long, accessFlags := 26, slot := 8, constantValue := 0 }]
  methods := #[k14m0, k14m1]
  instanceTypes := #[.int]
  staticTypes := #[.int, .int, (.object "java/lang/Class"), (.array .char), (.array .byte), (.array .byte), .int, .int, .long]
  resolved := Array.replicate 453 none
  statics := none }

def pool15 : Array CpInfo := pool [(1, .class_ 2), (0, u "java/lang/String"), (1, .class_ 6), (1, u "java/lang/Object"), (0, u "<init>"), (0, u "()V"), (0, .methodref 1 10), (0, .nameAndType 11 12), (0, u "checkIndex"), (0, u "(II)V"), (1, .class_ 16), (1, u "java/lang/StringLatin1"), (36, u "([BI)C"), (36, u "canEncode"), (14, u "(C)Z"), (15, u "$assertionsDisabled"), (0, u "Z"), (98, .class_ 223), (1, u "java/lang/StringLatin1$LinesSpliterator"), (28, u "charAt"), (127, u "toBytes"), (1, u "(C)[B"), (7, .class_ 391), (0, u "java/lang/StringLatin1$CharsSpliterator")] 3

def k15m0 : Method := { name := "<init>", desc := "()V", sig := { parameters := [], returnType := none }, accessFlags := 0, code := none }
def k15c1 : Code := { maxStack := 2, maxLocals := 2, code := jdk_43_method_2_code, exceptionTable := #[], attributes := #[] }
def k15m1 : Method := { name := "charAt", desc := "([BI)C", sig := { parameters := [(.array .byte), .int], returnType := some .char }, accessFlags := 9, code := some k15c1 }
def k15c2 : Code := { maxStack := 2, maxLocals := 1, code := jdk_43_method_3_code, exceptionTable := #[], attributes := #[] }
def k15m2 : Method := { name := "canEncode", desc := "(C)Z", sig := { parameters := [.char], returnType := some .boolean }, accessFlags := 9, code := some k15c2 }
def k15c3 : Code := { maxStack := 4, maxLocals := 1, code := jdk_43_method_46_code, exceptionTable := #[], attributes := #[] }
def k15m3 : Method := { name := "toBytes", desc := "(C)[B", sig := { parameters := [.char], returnType := some (.array .byte) }, accessFlags := 9, code := some k15c3 }
/-- java/lang/StringLatin1 -/
def k15 : Class := { plain "java/lang/StringLatin1" (some 0) with
  accessFlags := 48
  interfaces := #[]
  cf := some (fileOf pool15 14 #[.nestMembers #[390, 221]] #[{ accessFlags := 0, nameIndex := 7, descriptorIndex := 8, attributes := #[] }, { accessFlags := 9, nameIndex := 252, descriptorIndex := 53, attributes := #[] }, { accessFlags := 9, nameIndex := 90, descriptorIndex := 105, attributes := #[] }, { accessFlags := 9, nameIndex := 380, descriptorIndex := 382, attributes := #[] }] 48 4 #[] #[{ accessFlags := 4120, nameIndex := 121, descriptorIndex := 122, attributes := #[] }])
  fields := #[{ name := "$assertionsDisabled", type := .boolean, accessFlags := 4120, slot := 0, constantValue := 0 }]
  methods := #[k15m0, k15m1, k15m2, k15m3]
  instanceTypes := #[]
  staticTypes := #[.boolean]
  resolved := Array.replicate 395 none
  statics := none }

def pool16 : Array CpInfo := pool [(2, .class_ 4), (1, u "java/lang/Object"), (0, u "<init>"), (0, u "()V"), (17, .class_ 26), (1, u "jdk/internal/util/Preconditions"), (6, u "checkIndex"), (21, .class_ 56), (0, u "jdk/internal/util/Preconditions$4"), (57, .class_ 115), (0, u "jdk/internal/util/Preconditions$1"), (7, u "SIOOBE_FORMATTER"), (0, u "Ljava/util/function/BiFunction;"), (0, .class_ 126), (0, u "jdk/internal/util/Preconditions$2"), (3, u "AIOOBE_FORMATTER"), (0, .class_ 132), (0, u "jdk/internal/util/Preconditions$3"), (3, u "IOOBE_FORMATTER"), (41, u "(IILjava/util/function/BiFunction;)I")] 15

def k16m0 : Method := { name := "<init>", desc := "()V", sig := { parameters := [], returnType := none }, accessFlags := 1, code := none }
def k16c1 : Code := { maxStack := 3, maxLocals := 3, code := jdk_41_method_11_code, exceptionTable := #[], attributes := #[] }
def k16m1 : Method := { name := "checkIndex", desc := "(IILjava/util/function/BiFunction;)I", sig := { parameters := [.int, .int, (.object "java/util/function/BiFunction")], returnType := some .int }, accessFlags := 9, code := some k16c1 }
/-- jdk/internal/util/Preconditions -/
def k16 : Class := { plain "jdk/internal/util/Preconditions" (some 0) with
  accessFlags := 33
  interfaces := #[]
  cf := some (fileOf pool16 24 #[.nestMembers #[55, 131, 125, 114]] #[{ accessFlags := 1, nameIndex := 5, descriptorIndex := 6, attributes := #[] }, { accessFlags := 9, nameIndex := 33, descriptorIndex := 178, attributes := #[] }] 33 2 #[] #[{ accessFlags := 25, nameIndex := 123, descriptorIndex := 124, attributes := #[] }, { accessFlags := 25, nameIndex := 130, descriptorIndex := 124, attributes := #[] }, { accessFlags := 25, nameIndex := 136, descriptorIndex := 124, attributes := #[] }])
  fields := #[{ name := "SIOOBE_FORMATTER", type := (.object "java/util/function/BiFunction"), accessFlags := 25, slot := 0, constantValue := 0 }, { name := "AIOOBE_FORMATTER", type := (.object "java/util/function/BiFunction"), accessFlags := 25, slot := 1, constantValue := 0 }, { name := "IOOBE_FORMATTER", type := (.object "java/util/function/BiFunction"), accessFlags := 25, slot := 2, constantValue := 0 }]
  methods := #[k16m0, k16m1]
  instanceTypes := #[]
  staticTypes := #[(.object "java/util/function/BiFunction"), (.object "java/util/function/BiFunction"), (.object "java/util/function/BiFunction")]
  resolved := Array.replicate 194 none
  statics := some 1 }

def pool17 : Array CpInfo := pool [(9, u "<init>"), (6, .class_ 18), (1, u "java/lang/Object"), (0, u "()V"), (1, .class_ 23), (1, u "jdk/internal/util/ArraysSupport"), (0, u "LOG2_ARRAY_LONG_INDEX_SCALE"), (0, u "I"), (2, u "U"), (0, u "Ljdk/internal/misc/Unsafe;"), (8, u "BIG_ENDIAN"), (0, u "Z"), (8, u "LOG2_BYTE_BIT_SIZE"), (4, u "LOG2_ARRAY_INT_INDEX_SCALE"), (54, u "JLA"), (0, u "Ljdk/internal/access/JavaLangAccess;"), (11, u "LOG2_ARRAY_BOOLEAN_INDEX_SCALE"), (9, u "LOG2_ARRAY_BYTE_INDEX_SCALE"), (5, u "LOG2_ARRAY_CHAR_INDEX_SCALE"), (5, u "LOG2_ARRAY_SHORT_INDEX_SCALE"), (5, u "mismatch"), (12, u "LOG2_ARRAY_FLOAT_INDEX_SCALE"), (24, u "LOG2_ARRAY_DOUBLE_INDEX_SCALE"), (89, u "T_BOOLEAN"), (2, u "T_CHAR"), (1, u "T_FLOAT"), (1, u "T_DOUBLE"), (1, u "T_BYTE"), (1, u "T_SHORT"), (1, u "T_INT"), (1, u "T_LONG"), (1, u "SOFT_MAX_ARRAY_LENGTH"), (42, u "([BI[BII)I")] 40

def k17m0 : Method := { name := "<init>", desc := "()V", sig := { parameters := [], returnType := none }, accessFlags := 2, code := none }
def k17c1 : Code := { maxStack := 8, maxLocals := 8, code := jdk_48_method_14_code, exceptionTable := #[], attributes := #[] }
def k17m1 : Method := { name := "mismatch", desc := "([BI[BII)I", sig := { parameters := [(.array .byte), .int, (.array .byte), .int, .int], returnType := some .int }, accessFlags := 9, code := some k17c1 }
/-- jdk/internal/util/ArraysSupport -/
def k17 : Class := { plain "jdk/internal/util/ArraysSupport" (some 0) with
  accessFlags := 33
  interfaces := #[]
  cf := some (fileOf pool17 21 #[] #[{ accessFlags := 2, nameIndex := 9, descriptorIndex := 19, attributes := #[] }, { accessFlags := 9, nameIndex := 149, descriptorIndex := 337, attributes := #[] }] 33 16 #[] #[{ accessFlags := 24, nameIndex := 28, descriptorIndex := 29, attributes := #[] }, { accessFlags := 26, nameIndex := 38, descriptorIndex := 39, attributes := #[] }, { accessFlags := 25, nameIndex := 121, descriptorIndex := 25, attributes := #[] }, { accessFlags := 25, nameIndex := 131, descriptorIndex := 25, attributes := #[] }, { accessFlags := 25, nameIndex := 137, descriptorIndex := 25, attributes := #[] }, { accessFlags := 25, nameIndex := 143, descriptorIndex := 25, attributes := #[] }, { accessFlags := 25, nameIndex := 53, descriptorIndex := 25, attributes := #[] }, { accessFlags := 25, nameIndex := 24, descriptorIndex := 25, attributes := #[] }, { accessFlags := 25, nameIndex := 162, descriptorIndex := 25, attributes := #[] }, { accessFlags := 25, nameIndex := 187, descriptorIndex := 25, attributes := #[] }, { accessFlags := 26, nameIndex := 48, descriptorIndex := 25, attributes := #[] }, { accessFlags := 25, nameIndex := 277, descriptorIndex := 25, attributes := #[] }, { accessFlags := 25, nameIndex := 280, descriptorIndex := 25, attributes := #[] }, { accessFlags := 25, nameIndex := 282, descriptorIndex := 25, attributes := #[] }, { accessFlags := 25, nameIndex := 284, descriptorIndex := 25, attributes := #[] }, { accessFlags := 25, nameIndex := 286, descriptorIndex := 25, attributes := #[] }, { accessFlags := 25, nameIndex := 288, descriptorIndex := 25, attributes := #[] }, { accessFlags := 25, nameIndex := 290, descriptorIndex := 25, attributes := #[] }, { accessFlags := 25, nameIndex := 292, descriptorIndex := 25, attributes := #[] }, { accessFlags := 26, nameIndex := 108, descriptorIndex := 109, attributes := #[] }, { accessFlags := 25, nameIndex := 294, descriptorIndex := 25, attributes := #[] }])
  fields := #[{ name := "U", type := (.object "jdk/internal/misc/Unsafe"), accessFlags := 24, slot := 0, constantValue := 0 }, { name := "BIG_ENDIAN", type := .boolean, accessFlags := 26, slot := 1, constantValue := 0 }, { name := "LOG2_ARRAY_BOOLEAN_INDEX_SCALE", type := .int, accessFlags := 25, slot := 2, constantValue := 0 }, { name := "LOG2_ARRAY_BYTE_INDEX_SCALE", type := .int, accessFlags := 25, slot := 3, constantValue := 0 }, { name := "LOG2_ARRAY_CHAR_INDEX_SCALE", type := .int, accessFlags := 25, slot := 4, constantValue := 0 }, { name := "LOG2_ARRAY_SHORT_INDEX_SCALE", type := .int, accessFlags := 25, slot := 5, constantValue := 0 }, { name := "LOG2_ARRAY_INT_INDEX_SCALE", type := .int, accessFlags := 25, slot := 6, constantValue := 0 }, { name := "LOG2_ARRAY_LONG_INDEX_SCALE", type := .int, accessFlags := 25, slot := 7, constantValue := 0 }, { name := "LOG2_ARRAY_FLOAT_INDEX_SCALE", type := .int, accessFlags := 25, slot := 8, constantValue := 0 }, { name := "LOG2_ARRAY_DOUBLE_INDEX_SCALE", type := .int, accessFlags := 25, slot := 9, constantValue := 0 }, { name := "LOG2_BYTE_BIT_SIZE", type := .int, accessFlags := 26, slot := 10, constantValue := 0 }, { name := "T_BOOLEAN", type := .int, accessFlags := 25, slot := 11, constantValue := 0 }, { name := "T_CHAR", type := .int, accessFlags := 25, slot := 12, constantValue := 0 }, { name := "T_FLOAT", type := .int, accessFlags := 25, slot := 13, constantValue := 0 }, { name := "T_DOUBLE", type := .int, accessFlags := 25, slot := 14, constantValue := 0 }, { name := "T_BYTE", type := .int, accessFlags := 25, slot := 15, constantValue := 0 }, { name := "T_SHORT", type := .int, accessFlags := 25, slot := 16, constantValue := 0 }, { name := "T_INT", type := .int, accessFlags := 25, slot := 17, constantValue := 0 }, { name := "T_LONG", type := .int, accessFlags := 25, slot := 18, constantValue := 0 }, { name := "JLA", type := (.object "jdk/internal/access/JavaLangAccess"), accessFlags := 26, slot := 19, constantValue := 0 }, { name := "SOFT_MAX_ARRAY_LENGTH", type := .int, accessFlags := 25, slot := 20, constantValue := 0 }]
  methods := #[k17m0, k17m1]
  instanceTypes := #[]
  staticTypes := #[(.object "jdk/internal/misc/Unsafe"), .boolean, .int, .int, .int, .int, .int, .int, .int, .int, .int, .int, .int, .int, .int, .int, .int, .int, .int, (.object "jdk/internal/access/JavaLangAccess"), .int]
  resolved := Array.replicate 378 none
  statics := none }

def pool18 : Array CpInfo := pool [(1, u "java/lang/Cloneable"), (0, .class_ 1), (0, u "java/lang/Object"), (0, .class_ 3)] 3

/-- java/lang/Cloneable -/
def k18 : Class := { plain "java/lang/Cloneable" (some 0) with
  accessFlags := 1537
  interfaces := #[]
  cf := some (fileOf pool18 2 #[] #[] 1537 4 #[] #[])
  fields := #[]
  methods := #[]
  instanceTypes := #[]
  staticTypes := #[]
  resolved := Array.replicate 8 none
  statics := none }

/-- the primitive byte -/
def k19 : Class := { plain "byte" none with kind := .primitive 'B', accessFlags := 0x411 }
/-- [B -/
def k20 : Class := { plain "[B" (some 0) with kind := .array 19 .byte, interfaces := #[18, 2], accessFlags := 1041 }

/-- the primitive char -/
def k21 : Class := { plain "char" none with kind := .primitive 'C', accessFlags := 0x411 }
/-- [C -/
def k22 : Class := { plain "[C" (some 0) with kind := .array 21 .char, interfaces := #[18, 2], accessFlags := 1041 }

/-- the primitive int -/
def k23 : Class := { plain "int" none with kind := .primitive 'I', accessFlags := 0x411 }
/-- [I -/
def k24 : Class := { plain "[I" (some 0) with kind := .array 23 .int, interfaces := #[18, 2], accessFlags := 1041 }

def heap : Heap := #[{ cls := 7, slots := #[.long 0, .int 1, .null, .int 0, .null, .int 0, .int 0], vm := .statics 7 },
  { cls := 16, slots := #[.null, .null, .null], vm := .statics 16 }]
def classes : Array Class := #[k0, k1, k2, k3, k4, k5, k6, k7, k8, k9, k10, k11, k12, k13, k14, k15, k16, k17, k18, k19, k20, k21, k22, k23, k24]
def interned : List (Array UInt16 × Addr) := []
def slotsUsed : Nat := 10
def theMethod : MethodId := ⟨1, 1⟩
def args0 : Array Value := #[.int 1, .int 2, .int 3, .int 4, .int 5, .int 6]
def aboutOver (below : List Frame) : State where
  vm := { classes := classes, interned := interned.toArray }
  heap := heap
  slotsUsed := slotsUsed
  threads := #[{ frames := .invoking theMethod args0 :: below }]
def below0 : List Frame := [.native { method := ⟨0, 0⟩, args := #[] }]
def about1 : State := aboutOver below0
def p0 : Program := .bare "" "" ""
def e0 : Env := launch0.env 0 0 0
theorem w_frames : about1.frames = Frame.invoking theMethod args0 :: below0 := rfl
set_option maxRecDepth 65536 in
theorem w_args : argsFit about1.vm theMethod args0 = true := by decide +kernel
set_option maxRecDepth 65536 in
theorem w_heap : heapFits about1 = true := by decide +kernel
set_option maxRecDepth 65536 in
theorem w_runnable : about1.curStatus? = some .runnable := by decide +kernel
set_option maxRecDepth 65536 in
theorem w_alone : about1.alone = true := by decide +kernel
set_option maxRecDepth 65536 in
theorem w_named : about1.methodNamed? x = some theMethod := by decide +kernel
set_option maxRecDepth 65536 in
theorem w_hears : about1.hears theMethod below0 = true := by decide +kernel
set_option maxRecDepth 65536 in
theorem w_ripe : about1.ripe theMethod args0 below0 = true := by decide +kernel
theorem w_running : about1.status = .running := rfl
set_option maxRecDepth 65536 in
theorem w_room : about1.hasRoom e0.platform room_1 = true :=
  launch0.hasRoom_least _ room_1 (by decide +kernel) (by decide +kernel) (by decide +kernel) (by decide +kernel) (by decide +kernel) (by decide +kernel)
theorem allAtoms_all (ts : List Jvm.Cond) (a : Array Jvm.Value) (st : Jvm.State) : (allAtoms ts).before a st = ts.all (fun c => c.before a st) := by
  induction ts with
  | nil => rfl
  | cons c t ih =>
    show (Jvm.Cond.and c (allAtoms t)).before a st = _
    rw [Jvm.Cond.before_and, ih, List.all_cons]
def words1 : List Jvm.Cond := Jvm.Cond.code x code maxLocals ret :: tables_1
/-- a 'code' word, met by the world's own term for the bytes: nothing is compared byte by byte -/
theorem code_word {y : MethodName} {bytes : ByteArray} {mx : Nat} {rt : Option FieldType} {a : Array Value} {s : State} {m : MethodId} {meth : Method} {c : Code} (h1 : s.methodNamed? y = some m) (h2 : s.vm.method? m = some meth) (h3 : meth.code = some c) (h4 : c.code = bytes)
    (h5 : (c.maxLocals == mx && c.exceptionTable.isEmpty && decide (c.maxStack ≤ mostOperands) && decide (meth.sig.returnType = rt) && !meth.locks && decide (parseMethodDescriptor y.desc = some meth.sig)) = true) : (Jvm.Cond.code y bytes mx rt).before a s = true := by
  simp only [Bool.and_eq_true, beq_iff_eq, Bool.not_eq_true', decide_eq_true_eq] at h5
  obtain ⟨⟨⟨⟨⟨g1, g2⟩, g3⟩, g4⟩, g5⟩, g6⟩ := h5
  simp [Cond.before, Cond.holds, Cond.value, h1, h2, h3, h4, g1, g2, g3, g4, g5, g6]
def isCode : Jvm.Cond → Bool
  | .code _ _ _ _ => true
  | _ => false
theorem all_split {L : List Jvm.Cond} {P : Jvm.Cond → Bool} (h1 : L.all (fun c => isCode c || P c) = true) (h2 : ∀ c ∈ L.filter isCode, P c = true) : L.all P = true := by
  refine List.all_eq_true.mpr fun c hc => ?_
  have h := List.all_eq_true.mp h1 c hc
  rcases Bool.eq_false_or_eq_true (isCode c) with hi | hi
  · exact h2 c (List.mem_filter.mpr ⟨hc, hi⟩)
  · simpa [hi] using h
set_option maxRecDepth 65536 in
theorem w_c0 : (Jvm.Cond.code x code maxLocals ret).before args0 about1 = true := code_word (m := ⟨1, 1⟩) (meth := k1m1) (c := k1c1) (by decide +kernel) rfl rfl rfl (by decide +kernel)
set_option maxRecDepth 65536 in
theorem w_c1 : (Jvm.Cond.code ({ cls := "java/lang/String", name := "<init>", desc := "([C)V" } : Jvm.MethodName) jdk_42_method_3_code (2 : Nat) (Option.none : Option Jvm.ClassFile.FieldType)).before args0 about1 = true := code_word (m := ⟨7, 1⟩) (meth := k7m1) (c := k7c1) (by decide +kernel) rfl rfl rfl (by decide +kernel)
set_option maxRecDepth 65536 in
theorem w_c2 : (Jvm.Cond.code ({ cls := "java/lang/String", name := "<init>", desc := "([CIILjava/lang/Void;)V" } : Jvm.MethodName) jdk_42_method_149_code (6 : Nat) (Option.none : Option Jvm.ClassFile.FieldType)).before args0 about1 = true := code_word (m := ⟨7, 6⟩) (meth := k7m6) (c := k7c6) (by decide +kernel) rfl rfl rfl (by decide +kernel)
set_option maxRecDepth 65536 in
theorem w_c3 : (Jvm.Cond.code ({ cls := "java/lang/Object", name := "<init>", desc := "()V" } : Jvm.MethodName) object_method_1_code (1 : Nat) (Option.none : Option Jvm.ClassFile.FieldType)).before args0 about1 = true := code_word (m := ⟨0, 0⟩) (meth := k0m0) (c := k0c0) (by decide +kernel) rfl rfl rfl (by decide +kernel)
set_option maxRecDepth 65536 in
theorem w_c4 : (Jvm.Cond.code ({ cls := "java/lang/StringUTF16", name := "compress", desc := "([CII)[B" } : Jvm.MethodName) jdk_52_method_16_code (6 : Nat) (Option.some (Jvm.ClassFile.FieldType.array Jvm.ClassFile.FieldType.byte))).before args0 about1 = true := code_word (m := ⟨8, 2⟩) (meth := k8m2) (c := k8c2) (by decide +kernel) rfl rfl rfl (by decide +kernel)
set_option maxRecDepth 65536 in
theorem w_c5 : (Jvm.Cond.code ({ cls := "java/lang/StringUTF16", name := "compress", desc := "([CI[BII)I" } : Jvm.MethodName) jdk_52_method_21_code (7 : Nat) (Option.some Jvm.ClassFile.FieldType.int)).before args0 about1 = true := code_word (m := ⟨8, 3⟩) (meth := k8m3) (c := k8c3) (by decide +kernel) rfl rfl rfl (by decide +kernel)
set_option maxRecDepth 65536 in
theorem w_c6 : (Jvm.Cond.code ({ cls := "java/lang/StringUTF16", name := "coderFromArrayLen", desc := "([BI)B" } : Jvm.MethodName) jdk_52_method_15_code (2 : Nat) (Option.some Jvm.ClassFile.FieldType.byte)).before args0 about1 = true := code_word (m := ⟨8, 1⟩) (meth := k8m1) (c := k8c1) (by decide +kernel) rfl rfl rfl (by decide +kernel)
set_option maxRecDepth 65536 in
theorem w_c7 : (Jvm.Cond.code ({ cls := "com/example/vaatimus/vaatimus/io/PropertyIndex", name := "<init>", desc := "(Ljava/lang/String;Lcom/example/vaatimus/vaatimus/io/LineEnds;I)V" } : Jvm.MethodName) prog_15_method_2_code (5 : Nat) (Option.none : Option Jvm.ClassFile.FieldType)).before args0 about1 = true := code_word (m := ⟨11, 0⟩) (meth := k11m0) (c := k11c0) (by decide +kernel) rfl rfl rfl (by decide +kernel)
set_option maxRecDepth 65536 in
theorem w_c8 : (Jvm.Cond.code ({ cls := "java/util/AbstractMap", name := "<init>", desc := "()V" } : Jvm.MethodName) jdk_71_method_1_code (1 : Nat) (Option.none : Option Jvm.ClassFile.FieldType)).before args0 about1 = true := code_word (m := ⟨10, 0⟩) (meth := k10m0) (c := k10c0) (by decide +kernel) rfl rfl rfl (by decide +kernel)
set_option maxRecDepth 65536 in
theorem w_c9 : (Jvm.Cond.code ({ cls := "java/lang/Math", name := "max", desc := "(II)I" } : Jvm.MethodName) jdk_29_method_65_code (2 : Nat) (Option.some Jvm.ClassFile.FieldType.int)).before args0 about1 = true := code_word (m := ⟨12, 1⟩) (meth := k12m1) (c := k12c1) (by decide +kernel) rfl rfl rfl (by decide +kernel)
set_option maxRecDepth 65536 in
theorem w_c10 : (Jvm.Cond.code ({ cls := "java/lang/Integer", name := "highestOneBit", desc := "(I)I" } : Jvm.MethodName) jdk_33_method_45_code (1 : Nat) (Option.some Jvm.ClassFile.FieldType.int)).before args0 about1 = true := code_word (m := ⟨14, 0⟩) (meth := k14m0) (c := k14c0) (by decide +kernel) rfl rfl rfl (by decide +kernel)
set_option maxRecDepth 65536 in
theorem w_c11 : (Jvm.Cond.code ({ cls := "java/lang/Integer", name := "numberOfLeadingZeros", desc := "(I)I" } : Jvm.MethodName) jdk_33_method_47_code (2 : Nat) (Option.some Jvm.ClassFile.FieldType.int)).before args0 about1 = true := code_word (m := ⟨14, 1⟩) (meth := k14m1) (c := k14c1) (by decide +kernel) rfl rfl rfl (by decide +kernel)
set_option maxRecDepth 65536 in
theorem w_c12 : (Jvm.Cond.code ({ cls := "com/example/vaatimus/vaatimus/io/PropertyIndex", name := "add", desc := "(IIIII)I" } : Jvm.MethodName) prog_15_method_3_code (10 : Nat) (Option.some Jvm.ClassFile.FieldType.int)).before args0 about1 = true := code_word (m := ⟨11, 1⟩) (meth := k11m1) (c := k11c1) (by decide +kernel) rfl rfl rfl (by decide +kernel)
set_option maxRecDepth 65536 in
theorem w_c13 : (Jvm.Cond.code ({ cls := "com/example/vaatimus/vaatimus/io/PropertyIndex", name := "hash", desc := "(Ljava/lang/String;II)I" } : Jvm.MethodName) prog_15_method_14_code (4 : Nat) (Option.some Jvm.ClassFile.FieldType.int)).before args0 about1 = true := code_word (m := ⟨11, 6⟩) (meth := k11m6) (c := k11c6) (by decide +kernel) rfl rfl rfl (by decide +kernel)
set_option maxRecDepth 65536 in
theorem w_c14 : (Jvm.Cond.code ({ cls := "com/example/vaatimus/vaatimus/io/PropertyIndex", name := "plainHash", desc := "(Ljava/lang/String;II)I" } : Jvm.MethodName) prog_15_method_15_code (5 : Nat) (Option.some Jvm.ClassFile.FieldType.int)).before args0 about1 = true := code_word (m := ⟨11, 7⟩) (meth := k11m7) (c := k11c7) (by decide +kernel) rfl rfl rfl (by decide +kernel)
set_option maxRecDepth 65536 in
theorem w_c15 : (Jvm.Cond.code ({ cls := "java/lang/String", name := "charAt", desc := "(I)C" } : Jvm.MethodName) jdk_42_method_56_code (2 : Nat) (Option.some Jvm.ClassFile.FieldType.char)).before args0 about1 = true := code_word (m := ⟨7, 3⟩) (meth := k7m3) (c := k7c3) (by decide +kernel) rfl rfl rfl (by decide +kernel)
set_option maxRecDepth 65536 in
theorem w_c16 : (Jvm.Cond.code ({ cls := "java/lang/String", name := "isLatin1", desc := "()Z" } : Jvm.MethodName) jdk_42_method_154_code (1 : Nat) (Option.some Jvm.ClassFile.FieldType.boolean)).before args0 about1 = true := code_word (m := ⟨7, 9⟩) (meth := k7m9) (c := k7c9) (by decide +kernel) rfl rfl rfl (by decide +kernel)
set_option maxRecDepth 65536 in
theorem w_c17 : (Jvm.Cond.code ({ cls := "java/lang/StringLatin1", name := "charAt", desc := "([BI)C" } : Jvm.MethodName) jdk_43_method_2_code (2 : Nat) (Option.some Jvm.ClassFile.FieldType.char)).before args0 about1 = true := code_word (m := ⟨15, 1⟩) (meth := k15m1) (c := k15c1) (by decide +kernel) rfl rfl rfl (by decide +kernel)
set_option maxRecDepth 65536 in
theorem w_c18 : (Jvm.Cond.code ({ cls := "java/lang/String", name := "checkIndex", desc := "(II)V" } : Jvm.MethodName) jdk_42_method_155_code (2 : Nat) (Option.none : Option Jvm.ClassFile.FieldType)).before args0 about1 = true := code_word (m := ⟨7, 10⟩) (meth := k7m10) (c := k7c10) (by decide +kernel) rfl rfl rfl (by decide +kernel)
set_option maxRecDepth 65536 in
theorem w_c19 : (Jvm.Cond.code ({ cls := "jdk/internal/util/Preconditions", name := "checkIndex", desc := "(IILjava/util/function/BiFunction;)I" } : Jvm.MethodName) jdk_41_method_11_code (3 : Nat) (Option.some Jvm.ClassFile.FieldType.int)).before args0 about1 = true := code_word (m := ⟨16, 1⟩) (meth := k16m1) (c := k16c1) (by decide +kernel) rfl rfl rfl (by decide +kernel)
set_option maxRecDepth 65536 in
theorem w_c20 : (Jvm.Cond.code ({ cls := "com/example/vaatimus/vaatimus/io/PropertyIndex", name := "slot", desc := "(Ljava/lang/String;III)I" } : Jvm.MethodName) prog_15_method_11_code (7 : Nat) (Option.some Jvm.ClassFile.FieldType.int)).before args0 about1 = true := code_word (m := ⟨11, 4⟩) (meth := k11m4) (c := k11c4) (by decide +kernel) rfl rfl rfl (by decide +kernel)
set_option maxRecDepth 65536 in
theorem w_c21 : (Jvm.Cond.code ({ cls := "java/lang/String", name := "valueOf", desc := "(C)Ljava/lang/String;" } : Jvm.MethodName) jdk_42_method_139_code (1 : Nat) (Option.some (Jvm.ClassFile.FieldType.object "java/lang/String"))).before args0 about1 = true := code_word (m := ⟨7, 5⟩) (meth := k7m5) (c := k7c5) (by decide +kernel) rfl rfl rfl (by decide +kernel)
set_option maxRecDepth 65536 in
theorem w_c22 : (Jvm.Cond.code ({ cls := "java/lang/StringLatin1", name := "canEncode", desc := "(C)Z" } : Jvm.MethodName) jdk_43_method_3_code (1 : Nat) (Option.some Jvm.ClassFile.FieldType.boolean)).before args0 about1 = true := code_word (m := ⟨15, 2⟩) (meth := k15m2) (c := k15c2) (by decide +kernel) rfl rfl rfl (by decide +kernel)
set_option maxRecDepth 65536 in
theorem w_c23 : (Jvm.Cond.code ({ cls := "java/lang/StringLatin1", name := "toBytes", desc := "(C)[B" } : Jvm.MethodName) jdk_43_method_46_code (1 : Nat) (Option.some (Jvm.ClassFile.FieldType.array Jvm.ClassFile.FieldType.byte))).before args0 about1 = true := code_word (m := ⟨15, 3⟩) (meth := k15m3) (c := k15c3) (by decide +kernel) rfl rfl rfl (by decide +kernel)
set_option maxRecDepth 65536 in
theorem w_c24 : (Jvm.Cond.code ({ cls := "java/lang/String", name := "<init>", desc := "([BB)V" } : Jvm.MethodName) jdk_42_method_151_code (3 : Nat) (Option.none : Option Jvm.ClassFile.FieldType)).before args0 about1 = true := code_word (m := ⟨7, 7⟩) (meth := k7m7) (c := k7c7) (by decide +kernel) rfl rfl rfl (by decide +kernel)
set_option maxRecDepth 65536 in
theorem w_c25 : (Jvm.Cond.code ({ cls := "com/example/vaatimus/vaatimus/io/PropertyIndex", name := "replace", desc := "(IIII)V" } : Jvm.MethodName) prog_15_method_5_code (6 : Nat) (Option.none : Option Jvm.ClassFile.FieldType)).before args0 about1 = true := code_word (m := ⟨11, 2⟩) (meth := k11m2) (c := k11c2) (by decide +kernel) rfl rfl rfl (by decide +kernel)
set_option maxRecDepth 65536 in
theorem w_c26 : (Jvm.Cond.code ({ cls := "com/example/vaatimus/vaatimus/io/PropertyIndex", name := "valueStart", desc := "(I)I" } : Jvm.MethodName) prog_15_method_19_code (2 : Nat) (Option.some Jvm.ClassFile.FieldType.int)).before args0 about1 = true := code_word (m := ⟨11, 9⟩) (meth := k11m9) (c := k11c9) (by decide +kernel) rfl rfl rfl (by decide +kernel)
set_option maxRecDepth 65536 in
theorem w_c27 : (Jvm.Cond.code ({ cls := "com/example/vaatimus/vaatimus/io/PropertyIndex", name := "valueEnd", desc := "(I)I" } : Jvm.MethodName) prog_15_method_20_code (2 : Nat) (Option.some Jvm.ClassFile.FieldType.int)).before args0 about1 = true := code_word (m := ⟨11, 10⟩) (meth := k11m10) (c := k11c10) (by decide +kernel) rfl rfl rfl (by decide +kernel)
set_option maxRecDepth 65536 in
theorem w_c28 : (Jvm.Cond.code ({ cls := "com/example/vaatimus/vaatimus/io/PropertyIndex", name := "line", desc := "(I)I" } : Jvm.MethodName) prog_15_method_18_code (2 : Nat) (Option.some Jvm.ClassFile.FieldType.int)).before args0 about1 = true := code_word (m := ⟨11, 8⟩) (meth := k11m8) (c := k11c8) (by decide +kernel) rfl rfl rfl (by decide +kernel)
set_option maxRecDepth 65536 in
theorem w_c29 : (Jvm.Cond.code ({ cls := "com/example/vaatimus/vaatimus/io/PropertyIndex", name := "find", desc := "(Ljava/lang/Object;)I" } : Jvm.MethodName) prog_15_method_10_code (5 : Nat) (Option.some Jvm.ClassFile.FieldType.int)).before args0 about1 = true := code_word (m := ⟨11, 3⟩) (meth := k11m3) (c := k11c3) (by decide +kernel) rfl rfl rfl (by decide +kernel)
set_option maxRecDepth 65536 in
theorem w_c30 : (Jvm.Cond.code ({ cls := "java/lang/String", name := "length", desc := "()I" } : Jvm.MethodName) jdk_42_method_54_code (1 : Nat) (Option.some Jvm.ClassFile.FieldType.int)).before args0 about1 = true := code_word (m := ⟨7, 2⟩) (meth := k7m2) (c := k7c2) (by decide +kernel) rfl rfl rfl (by decide +kernel)
set_option maxRecDepth 65536 in
theorem w_c31 : (Jvm.Cond.code ({ cls := "java/lang/String", name := "coder", desc := "()B" } : Jvm.MethodName) jdk_42_method_152_code (1 : Nat) (Option.some Jvm.ClassFile.FieldType.byte)).before args0 about1 = true := code_word (m := ⟨7, 8⟩) (meth := k7m8) (c := k7c8) (by decide +kernel) rfl rfl rfl (by decide +kernel)
set_option maxRecDepth 65536 in
theorem w_c32 : (Jvm.Cond.code ({ cls := "com/example/vaatimus/vaatimus/io/PropertyIndex", name := "named", desc := "(ILjava/lang/String;III)Z" } : Jvm.MethodName) prog_15_method_12_code (8 : Nat) (Option.some Jvm.ClassFile.FieldType.boolean)).before args0 about1 = true := code_word (m := ⟨11, 5⟩) (meth := k11m5) (c := k11c5) (by decide +kernel) rfl rfl rfl (by decide +kernel)
set_option maxRecDepth 65536 in
theorem w_c33 : (Jvm.Cond.code ({ cls := "java/lang/String", name := "regionMatches", desc := "(ILjava/lang/String;II)Z" } : Jvm.MethodName) jdk_42_method_73_code (8 : Nat) (Option.some Jvm.ClassFile.FieldType.boolean)).before args0 about1 = true := code_word (m := ⟨7, 4⟩) (meth := k7m4) (c := k7c4) (by decide +kernel) rfl rfl rfl (by decide +kernel)
set_option maxRecDepth 65536 in
theorem w_c34 : (Jvm.Cond.code ({ cls := "jdk/internal/util/ArraysSupport", name := "mismatch", desc := "([BI[BII)I" } : Jvm.MethodName) jdk_48_method_14_code (8 : Nat) (Option.some Jvm.ClassFile.FieldType.int)).before args0 about1 = true := code_word (m := ⟨17, 1⟩) (meth := k17m1) (c := k17c1) (by decide +kernel) rfl rfl rfl (by decide +kernel)
def codes1 : List Jvm.Cond := [Jvm.Cond.code x code maxLocals ret, Jvm.Cond.code ({ cls := "java/lang/String", name := "<init>", desc := "([C)V" } : Jvm.MethodName) jdk_42_method_3_code (2 : Nat) (Option.none : Option Jvm.ClassFile.FieldType), Jvm.Cond.code ({ cls := "java/lang/String", name := "<init>", desc := "([CIILjava/lang/Void;)V" } : Jvm.MethodName) jdk_42_method_149_code (6 : Nat) (Option.none : Option Jvm.ClassFile.FieldType), Jvm.Cond.code ({ cls := "java/lang/Object", name := "<init>", desc := "()V" } : Jvm.MethodName) object_method_1_code (1 : Nat) (Option.none : Option Jvm.ClassFile.FieldType), Jvm.Cond.code ({ cls := "java/lang/StringUTF16", name := "compress", desc := "([CII)[B" } : Jvm.MethodName) jdk_52_method_16_code (6 : Nat) (Option.some (Jvm.ClassFile.FieldType.array Jvm.ClassFile.FieldType.byte)), Jvm.Cond.code ({ cls := "java/lang/StringUTF16", name := "compress", desc := "([CI[BII)I" } : Jvm.MethodName) jdk_52_method_21_code (7 : Nat) (Option.some Jvm.ClassFile.FieldType.int), Jvm.Cond.code ({ cls := "java/lang/StringUTF16", name := "coderFromArrayLen", desc := "([BI)B" } : Jvm.MethodName) jdk_52_method_15_code (2 : Nat) (Option.some Jvm.ClassFile.FieldType.byte), Jvm.Cond.code ({ cls := "com/example/vaatimus/vaatimus/io/PropertyIndex", name := "<init>", desc := "(Ljava/lang/String;Lcom/example/vaatimus/vaatimus/io/LineEnds;I)V" } : Jvm.MethodName) prog_15_method_2_code (5 : Nat) (Option.none : Option Jvm.ClassFile.FieldType), Jvm.Cond.code ({ cls := "java/util/AbstractMap", name := "<init>", desc := "()V" } : Jvm.MethodName) jdk_71_method_1_code (1 : Nat) (Option.none : Option Jvm.ClassFile.FieldType), Jvm.Cond.code ({ cls := "java/lang/Math", name := "max", desc := "(II)I" } : Jvm.MethodName) jdk_29_method_65_code (2 : Nat) (Option.some Jvm.ClassFile.FieldType.int), Jvm.Cond.code ({ cls := "java/lang/Integer", name := "highestOneBit", desc := "(I)I" } : Jvm.MethodName) jdk_33_method_45_code (1 : Nat) (Option.some Jvm.ClassFile.FieldType.int), Jvm.Cond.code ({ cls := "java/lang/Integer", name := "numberOfLeadingZeros", desc := "(I)I" } : Jvm.MethodName) jdk_33_method_47_code (2 : Nat) (Option.some Jvm.ClassFile.FieldType.int), Jvm.Cond.code ({ cls := "com/example/vaatimus/vaatimus/io/PropertyIndex", name := "add", desc := "(IIIII)I" } : Jvm.MethodName) prog_15_method_3_code (10 : Nat) (Option.some Jvm.ClassFile.FieldType.int), Jvm.Cond.code ({ cls := "com/example/vaatimus/vaatimus/io/PropertyIndex", name := "hash", desc := "(Ljava/lang/String;II)I" } : Jvm.MethodName) prog_15_method_14_code (4 : Nat) (Option.some Jvm.ClassFile.FieldType.int), Jvm.Cond.code ({ cls := "com/example/vaatimus/vaatimus/io/PropertyIndex", name := "plainHash", desc := "(Ljava/lang/String;II)I" } : Jvm.MethodName) prog_15_method_15_code (5 : Nat) (Option.some Jvm.ClassFile.FieldType.int), Jvm.Cond.code ({ cls := "java/lang/String", name := "charAt", desc := "(I)C" } : Jvm.MethodName) jdk_42_method_56_code (2 : Nat) (Option.some Jvm.ClassFile.FieldType.char), Jvm.Cond.code ({ cls := "java/lang/String", name := "isLatin1", desc := "()Z" } : Jvm.MethodName) jdk_42_method_154_code (1 : Nat) (Option.some Jvm.ClassFile.FieldType.boolean), Jvm.Cond.code ({ cls := "java/lang/StringLatin1", name := "charAt", desc := "([BI)C" } : Jvm.MethodName) jdk_43_method_2_code (2 : Nat) (Option.some Jvm.ClassFile.FieldType.char), Jvm.Cond.code ({ cls := "java/lang/String", name := "checkIndex", desc := "(II)V" } : Jvm.MethodName) jdk_42_method_155_code (2 : Nat) (Option.none : Option Jvm.ClassFile.FieldType), Jvm.Cond.code ({ cls := "jdk/internal/util/Preconditions", name := "checkIndex", desc := "(IILjava/util/function/BiFunction;)I" } : Jvm.MethodName) jdk_41_method_11_code (3 : Nat) (Option.some Jvm.ClassFile.FieldType.int), Jvm.Cond.code ({ cls := "com/example/vaatimus/vaatimus/io/PropertyIndex", name := "slot", desc := "(Ljava/lang/String;III)I" } : Jvm.MethodName) prog_15_method_11_code (7 : Nat) (Option.some Jvm.ClassFile.FieldType.int), Jvm.Cond.code ({ cls := "java/lang/String", name := "valueOf", desc := "(C)Ljava/lang/String;" } : Jvm.MethodName) jdk_42_method_139_code (1 : Nat) (Option.some (Jvm.ClassFile.FieldType.object "java/lang/String")), Jvm.Cond.code ({ cls := "java/lang/StringLatin1", name := "canEncode", desc := "(C)Z" } : Jvm.MethodName) jdk_43_method_3_code (1 : Nat) (Option.some Jvm.ClassFile.FieldType.boolean), Jvm.Cond.code ({ cls := "java/lang/StringLatin1", name := "toBytes", desc := "(C)[B" } : Jvm.MethodName) jdk_43_method_46_code (1 : Nat) (Option.some (Jvm.ClassFile.FieldType.array Jvm.ClassFile.FieldType.byte)), Jvm.Cond.code ({ cls := "java/lang/String", name := "<init>", desc := "([BB)V" } : Jvm.MethodName) jdk_42_method_151_code (3 : Nat) (Option.none : Option Jvm.ClassFile.FieldType), Jvm.Cond.code ({ cls := "com/example/vaatimus/vaatimus/io/PropertyIndex", name := "replace", desc := "(IIII)V" } : Jvm.MethodName) prog_15_method_5_code (6 : Nat) (Option.none : Option Jvm.ClassFile.FieldType), Jvm.Cond.code ({ cls := "com/example/vaatimus/vaatimus/io/PropertyIndex", name := "valueStart", desc := "(I)I" } : Jvm.MethodName) prog_15_method_19_code (2 : Nat) (Option.some Jvm.ClassFile.FieldType.int), Jvm.Cond.code ({ cls := "com/example/vaatimus/vaatimus/io/PropertyIndex", name := "valueEnd", desc := "(I)I" } : Jvm.MethodName) prog_15_method_20_code (2 : Nat) (Option.some Jvm.ClassFile.FieldType.int), Jvm.Cond.code ({ cls := "com/example/vaatimus/vaatimus/io/PropertyIndex", name := "line", desc := "(I)I" } : Jvm.MethodName) prog_15_method_18_code (2 : Nat) (Option.some Jvm.ClassFile.FieldType.int), Jvm.Cond.code ({ cls := "com/example/vaatimus/vaatimus/io/PropertyIndex", name := "find", desc := "(Ljava/lang/Object;)I" } : Jvm.MethodName) prog_15_method_10_code (5 : Nat) (Option.some Jvm.ClassFile.FieldType.int), Jvm.Cond.code ({ cls := "java/lang/String", name := "length", desc := "()I" } : Jvm.MethodName) jdk_42_method_54_code (1 : Nat) (Option.some Jvm.ClassFile.FieldType.int), Jvm.Cond.code ({ cls := "java/lang/String", name := "coder", desc := "()B" } : Jvm.MethodName) jdk_42_method_152_code (1 : Nat) (Option.some Jvm.ClassFile.FieldType.byte), Jvm.Cond.code ({ cls := "com/example/vaatimus/vaatimus/io/PropertyIndex", name := "named", desc := "(ILjava/lang/String;III)Z" } : Jvm.MethodName) prog_15_method_12_code (8 : Nat) (Option.some Jvm.ClassFile.FieldType.boolean), Jvm.Cond.code ({ cls := "java/lang/String", name := "regionMatches", desc := "(ILjava/lang/String;II)Z" } : Jvm.MethodName) jdk_42_method_73_code (8 : Nat) (Option.some Jvm.ClassFile.FieldType.boolean), Jvm.Cond.code ({ cls := "jdk/internal/util/ArraysSupport", name := "mismatch", desc := "([BI[BII)I" } : Jvm.MethodName) jdk_48_method_14_code (8 : Nat) (Option.some Jvm.ClassFile.FieldType.int)]
set_option maxRecDepth 65536 in
theorem codes_eq : words1.filter isCode = codes1 := rfl
theorem w_codes : ∀ c ∈ words1.filter isCode, c.before args0 about1 = true := by
  rw [codes_eq]
  intro c hc
  simp only [codes1, List.mem_cons, List.not_mem_nil, or_false] at hc
  rcases hc with rfl | rfl | rfl | rfl | rfl | rfl | rfl | rfl | rfl | rfl | rfl | rfl | rfl | rfl | rfl | rfl | rfl | rfl | rfl | rfl | rfl | rfl | rfl | rfl | rfl | rfl | rfl | rfl | rfl | rfl | rfl | rfl | rfl | rfl | rfl
  · exact w_c0
  · exact w_c1
  · exact w_c2
  · exact w_c3
  · exact w_c4
  · exact w_c5
  · exact w_c6
  · exact w_c7
  · exact w_c8
  · exact w_c9
  · exact w_c10
  · exact w_c11
  · exact w_c12
  · exact w_c13
  · exact w_c14
  · exact w_c15
  · exact w_c16
  · exact w_c17
  · exact w_c18
  · exact w_c19
  · exact w_c20
  · exact w_c21
  · exact w_c22
  · exact w_c23
  · exact w_c24
  · exact w_c25
  · exact w_c26
  · exact w_c27
  · exact w_c28
  · exact w_c29
  · exact w_c30
  · exact w_c31
  · exact w_c32
  · exact w_c33
  · exact w_c34
set_option maxRecDepth 65536 in
theorem w_t1 : (words1.take 24).all (fun c => isCode c || c.before args0 about1) = true := by decide +kernel
set_option maxRecDepth 65536 in
theorem w_t2 : ((words1.drop 24).take 24).all (fun c => isCode c || c.before args0 about1) = true := by decide +kernel
set_option maxRecDepth 65536 in
theorem w_t3 : (((words1.drop 24).drop 24).take 24).all (fun c => isCode c || c.before args0 about1) = true := by decide +kernel
set_option maxRecDepth 65536 in
theorem w_t4 : ((((words1.drop 24).drop 24).drop 24).take 24).all (fun c => isCode c || c.before args0 about1) = true := by decide +kernel
set_option maxRecDepth 65536 in
theorem w_t5 : (((((words1.drop 24).drop 24).drop 24).drop 24).take 24).all (fun c => isCode c || c.before args0 about1) = true := by decide +kernel
set_option maxRecDepth 65536 in
theorem w_t6 : ((((((words1.drop 24).drop 24).drop 24).drop 24).drop 24).take 24).all (fun c => isCode c || c.before args0 about1) = true := by decide +kernel
set_option maxRecDepth 65536 in
theorem w_t7 : (((((((words1.drop 24).drop 24).drop 24).drop 24).drop 24).drop 24).take 24).all (fun c => isCode c || c.before args0 about1) = true := by decide +kernel
set_option maxRecDepth 65536 in
theorem w_t8 : (((((((words1.drop 24).drop 24).drop 24).drop 24).drop 24).drop 24).drop 24).all (fun c => isCode c || c.before args0 about1) = true := by decide +kernel
theorem w_tables : (allAtoms (Jvm.Cond.code x code maxLocals ret :: tables_1)).before args0 about1 = true := by
  rw [allAtoms_all]
  show words1.all (fun c => c.before args0 about1) = true
  refine all_split ?_ w_codes
  rw [← List.take_append_drop 24 words1, List.all_append, w_t1, ← List.take_append_drop 24 (words1.drop 24), List.all_append, w_t2, ← List.take_append_drop 24 ((words1.drop 24).drop 24), List.all_append, w_t3, ← List.take_append_drop 24 (((words1.drop 24).drop 24).drop 24), List.all_append, w_t4, ← List.take_append_drop 24 ((((words1.drop 24).drop 24).drop 24).drop 24), List.all_append, w_t5, ← List.take_append_drop 24 (((((words1.drop 24).drop 24).drop 24).drop 24).drop 24), List.all_append, w_t6, ← List.take_append_drop 24 ((((((words1.drop 24).drop 24).drop 24).drop 24).drop 24).drop 24), List.all_append, w_t7, w_t8]
  rfl
set_option maxRecDepth 65536 in
theorem w_rest : rest_1_c.before args0 about1 = true := by decide +kernel
set_option maxRecDepth 65536 in
theorem w_case : (Jvm.Cond.and given_1 narrow_1).before args0 about1 = true := by decide +kernel
theorem w_applies : (headSpec (Jvm.Cond.code x code maxLocals ret :: tables_1) room_1).applies x e0.platform about1 = true :=
  (Spec.applies_iff w_frames).mpr ⟨w_running, w_runnable, w_alone, w_named, w_hears, w_ripe, w_room, w_tables⟩
theorem atStart : AtStart classFile x code maxLocals ret World_1 tables_1 room_1 Calls_1 rest_1 Pre_1 launch0 p0 e0 about1 theMethod args0 below0 :=
  ⟨lists_1, trivial, launch0.admits_env _ _ _, launch0.least_env, fairChoices_fair.cas, fairChoices_fair.clock, w_frames, w_args, w_heap, w_applies, trivial, w_rest, w_case⟩
end start1
theorem witness_1 : WitnessClaimed_1 := ⟨start1.p0, start1.e0, start1.about1, start1.theMethod, start1.args0, start1.below0, start1.atStart⟩
end Jvm.Pilot.@@N@@
