import JvmDerived
import JvmDerived.Pilot.@@N@@Statement
import JvmDerived.Pilot.@@N@@Code
set_option linter.unusedVariables false
set_option linter.unusedSimpArgs false
namespace Jvm.RoadKit
open Sem ClassFile Op Lib Jvm.Stand Jvm.Free Jvm.LawKit
section New
variable {p : Program} {l : Launch} {e : Env} {R : Room} {s : State} {m : MethodId} {args : Array Value} {below : List Frame} {meth : Method} {c : Code} {T T' : State} {locs : List Loc} {cells slots : Nat}
theorem retI (X : Stand p l e R s m args below meth c T locs cells slots) (hx : p.tables.exec = Jvm.exec) {pc : Nat} {Ls : Array Slot} {z : Int32} {rest : List Value} (hret : meth.sig.returnType = some .int) (hd : decode c.code pc = .ok (.ireturn, 1)) {fs : List Frame}
    (hl : ∀ (f : JFrame) (acts : List Action), f.method = m → f.locked = none → f.entered = [] → (doReturn e (T.setTop f) acts (some (.int z))).1 = T.setFrames fs) : Steps p.tables e below (T.setTop (mkF m pc Ls (.int z :: rest))) (T.setFrames fs) := by
  have hm' : T.vm.method? m = some meth := X.method'
  have hn : narrow .int (.int z) = .int z := rfl
  show Steps p.tables e below (T.setTop { method := m, pc := pc, locals := Ls, stack := _ :: rest, locked := none }) _
  jvm_step X.here [X.here.top, hx, hd, hm', hret, hn]
  first | (intro acts; rw [hl _ acts rfl rfl rfl]) | rw [hl _ _ rfl rfl rfl]
  exact Steps.refl _
/-- from here the run comes to its return, and Q holds of what it returns, of the heap and of what it wrote -/
def Go (p : Program) (e : Env) (below : List Frame) (s : State) (Q : Option Value → Heap → List Loc → Prop) (kc ks : Nat) (T : State) (g : JFrame) : Prop :=
  ∃ s₂ o, Steps p.tables e below (T.setTop g) s₂ ∧ s₂.status = .running ∧ Ended s₂ below o ∧ ∃ v L, o = .returned v ∧ Q v s₂.heap L ∧ FrameEnd s o s₂ L kc ks
variable {Q : Option Value → Heap → List Loc → Prop} {kc ks : Nat} {g g' : JFrame}
theorem Go.step (h : ∀ t, Steps p.tables e below (T'.setTop g') t → Steps p.tables e below (T.setTop g) t) (k : Go p e below s Q kc ks T' g') : Go p e below s Q kc ks T g := by
  obtain ⟨s₂, o, h1, r⟩ := k
  exact ⟨s₂, o, h _ h1, r⟩
theorem Go.cast (q : g = g') (k : Go p e below s Q kc ks T g') : Go p e below s Q kc ks T g := q ▸ k
theorem Go.done (X : Stand p l e R s m args below meth c T locs cells slots) (hlocks : meth.locks = false) {v : Option Value} (hv : meth.sig.returnType = none → v = none)
    (hret : ∀ fs, (∀ (f : JFrame) (acts : List Action), f.method = m → f.locked = none → f.entered = [] → (doReturn e (T.setTop f) acts v).1 = T.setFrames fs) → Steps p.tables e below (T.setTop g) (T.setFrames fs))
    {h : Heap} (eT : T.heap = h) (hQ : Q v h locs) (hc : cells ≤ kc) (hs : slots ≤ ks) : Go p e below s Q kc ks T g := by
  obtain ⟨fs, hr, hrun, hended, hW, hsame⟩ := X.leave hv hlocks
  refine ⟨_, _, hret fs hr, hrun, hended, _, _, rfl, ?_, ⟨_, rfl⟩, hW, hsame.mono hc hs⟩
  show Q v T.heap locs
  rw [eT]
  exact hQ
theorem Go.retV (X : Stand p l e R s m args below meth c T locs cells slots) (hx : p.tables.exec = Jvm.exec) (hlocks : meth.locks = false) (hr : meth.sig.returnType = none) {pc : Nat} {Ls : Array Slot} (hd : decode c.code pc = .ok (.return_, 1))
    {h : Heap} (eT : T.heap = h) (hQ : Q none h locs) (hc : cells ≤ kc) (hs : slots ≤ ks) : Go p e below s Q kc ks T (mkF m pc Ls []) :=
  Go.done X hlocks (fun _ => rfl) (fun fs k => X.returnOut hx hr hd k) eT hQ hc hs
theorem Go.retN (X : Stand p l e R s m args below meth c T locs cells slots) (hx : p.tables.exec = Jvm.exec) (hlocks : meth.locks = false) {t : FieldType} (hr : meth.sig.returnType = some t) (ht : t = .boolean ∨ t = .byte ∨ t = .char ∨ t = .short) {pc : Nat} {Ls : Array Slot} {z : Int32} {st : List Value} (hd : decode c.code pc = .ok (.ireturn, 1))
    {h : Heap} (eT : T.heap = h) (hQ : Q (some (.int (nar t z))) h locs) (hc : cells ≤ kc) (hs : slots ≤ ks) : Go p e below s Q kc ks T (mkF m pc Ls (.int z :: st)) :=
  Go.done X hlocks (fun q => by rw [hr] at q; cases q) (fun fs k => Jvm.RoadKit.retN X hx hr ht hd k) eT hQ hc hs
theorem Go.retI (X : Stand p l e R s m args below meth c T locs cells slots) (hx : p.tables.exec = Jvm.exec) (hlocks : meth.locks = false) (hr : meth.sig.returnType = some .int) {pc : Nat} {Ls : Array Slot} {z : Int32} {st : List Value} (hd : decode c.code pc = .ok (.ireturn, 1))
    {h : Heap} (eT : T.heap = h) (hQ : Q (some (.int z)) h locs) (hc : cells ≤ kc) (hs : slots ≤ ks) : Go p e below s Q kc ks T (mkF m pc Ls (.int z :: st)) :=
  Go.done X hlocks (fun q => by rw [hr] at q; cases q) (fun fs k => Jvm.RoadKit.retI X hx hr hd k) eT hQ hc hs
theorem Go.retJ (X : Stand p l e R s m args below meth c T locs cells slots) (hx : p.tables.exec = Jvm.exec) (hlocks : meth.locks = false) (hr : meth.sig.returnType = some .long) {pc : Nat} {Ls : Array Slot} {z : Int64} {st : List Value} (hd : decode c.code pc = .ok (.lreturn, 1))
    {h : Heap} (eT : T.heap = h) (hQ : Q (some (.long z)) h locs) (hc : cells ≤ kc) (hs : slots ≤ ks) : Go p e below s Q kc ks T (mkF m pc Ls (.long z :: st)) :=
  Go.done X hlocks (fun q => by rw [hr] at q; cases q) (fun fs k => retOut X hx hr rfl (Or.inr (Or.inl ⟨rfl, rfl, _, rfl⟩)) hd k) eT hQ hc hs
theorem Go.retA (X : Stand p l e R s m args below meth c T locs cells slots) (hx : p.tables.exec = Jvm.exec) (hlocks : meth.locks = false) {t : FieldType} (hr : meth.sig.returnType = some t) (ht : t.isReference = true) {w : Value} (hw : w.isRef = true) {pc : Nat} {Ls : Array Slot} {st : List Value} (hd : decode c.code pc = .ok (.areturn, 1))
    {h : Heap} (eT : T.heap = h) (hQ : Q (some w) h locs) (hc : cells ≤ kc) (hs : slots ≤ ks) : Go p e below s Q kc ks T (mkF m pc Ls (w :: st)) :=
  Go.done X hlocks (fun q => by rw [hr] at q; cases q) (fun fs k => retOut X hx hr (by cases t <;> first | (cases ht; done) | (rcases ref_cases hw with rfl | ⟨a, rfl⟩ <;> rfl)) (Or.inr (Or.inr (Or.inr (Or.inr ⟨rfl, ht, hw⟩)))) hd k) eT hQ hc hs
end New
end Jvm.RoadKit
namespace Jvm.Pilot.@@N@@
open Jvm Jvm.ClassFile Sem Op Lib Jvm.Free Jvm.Stand Jvm.LawKit Jvm.RoadKit Bundle Jvm.Pilot.@@N@@.Jvm.D
theorem own_selP {s : State} {args : Array Value} {y : MethodName} {n : Nat} (wi : (Cond.instantiable y.cls n).before args s = true) (hp : s.PrivateAt y) (hinst : (Cond.instanceMethod y).before args s = true) (hy : y.cls ≠ "java/lang/invoke/MethodHandle" ∧ y.cls ≠ "java/lang/invoke/VarHandle") : (Cond.selects y.cls y y).before args s = true := by
  obtain ⟨c, k, h1, h2, -, h4, -⟩ := Cond.instantiable_spec wi
  exact Jvm.Stand.selects_self_of_private h1 h2 (by simp only [Bool.or_eq_false_iff] at h4; exact h4.1) hp hinst hy
theorem own_selQ {s : State} {args : Array Value} {y : MethodName} {C : String} (w : (Cond.selects C y y).before args s = true) (hp : s.PrivateAt y) (hinst : (Cond.instanceMethod y).before args s = true) (hy : y.cls ≠ "java/lang/invoke/MethodHandle" ∧ y.cls ≠ "java/lang/invoke/VarHandle") : (Cond.selects y.cls y y).before args s = true := by
  obtain ⟨mk, methM, hnamed, -, -, -⟩ := Cond.instanceMethod_spec hinst
  obtain ⟨kr, h1, h2⟩ := notFace_of_selects w mk hnamed
  exact Jvm.Stand.selects_self_of_private (findClass_of_methodNamed hnamed) h1 h2 hp hinst hy
theorem d9_0 : decode jdk_29_method_65_code 0 = .ok (.iload_n 0, 1) := by decide +kernel
theorem d9_1 : decode jdk_29_method_65_code 1 = .ok (.iload_n 1, 1) := by decide +kernel
theorem d9_2 : decode jdk_29_method_65_code 2 = .ok (.if_icmp .lt 7, 3) := by decide +kernel
theorem d9_5 : decode jdk_29_method_65_code 5 = .ok (.iload_n 0, 1) := by decide +kernel
theorem d9_6 : decode jdk_29_method_65_code 6 = .ok (.goto 4, 3) := by decide +kernel
theorem d9_10 : decode jdk_29_method_65_code 10 = .ok (.ireturn, 1) := by decide +kernel
theorem d25_0 : decode jdk_29_method_69_code 0 = .ok (.iload_n 0, 1) := by decide +kernel
theorem d25_1 : decode jdk_29_method_69_code 1 = .ok (.iload_n 1, 1) := by decide +kernel
theorem d25_2 : decode jdk_29_method_69_code 2 = .ok (.if_icmp .gt 7, 3) := by decide +kernel
theorem d25_5 : decode jdk_29_method_69_code 5 = .ok (.iload_n 0, 1) := by decide +kernel
theorem d25_6 : decode jdk_29_method_69_code 6 = .ok (.goto 4, 3) := by decide +kernel
theorem d25_10 : decode jdk_29_method_69_code 10 = .ok (.ireturn, 1) := by decide +kernel
theorem d10_0 : decode jdk_33_method_45_code 0 = .ok (.iload_n 0, 1) := by decide +kernel
theorem d10_1 : decode jdk_33_method_45_code 1 = .ok (.ldc 127, 2) := by decide +kernel
theorem d10_3 : decode jdk_33_method_45_code 3 = .ok (.iload_n 0, 1) := by decide +kernel
theorem d10_4 : decode jdk_33_method_45_code 4 = .ok (.invokestatic 51, 3) := by decide +kernel
theorem d10_7 : decode jdk_33_method_45_code 7 = .ok (.iushr, 1) := by decide +kernel
theorem d10_8 : decode jdk_33_method_45_code 8 = .ok (.iand, 1) := by decide +kernel
theorem d10_9 : decode jdk_33_method_45_code 9 = .ok (.ireturn, 1) := by decide +kernel
theorem d11_0 : decode jdk_33_method_47_code 0 = .ok (.iload_n 0, 1) := by decide +kernel
theorem d11_1 : decode jdk_33_method_47_code 1 = .ok (.ifCond .gt 14, 3) := by decide +kernel
theorem d11_15 : decode jdk_33_method_47_code 15 = .ok (.bipush 31, 2) := by decide +kernel
theorem d11_17 : decode jdk_33_method_47_code 17 = .ok (.istore_n 1, 1) := by decide +kernel
theorem d11_18 : decode jdk_33_method_47_code 18 = .ok (.iload_n 0, 1) := by decide +kernel
theorem d11_19 : decode jdk_33_method_47_code 19 = .ok (.ldc_w 264, 3) := by decide +kernel
theorem d11_22 : decode jdk_33_method_47_code 22 = .ok (.if_icmp .lt 11, 3) := by decide +kernel
theorem d11_33 : decode jdk_33_method_47_code 33 = .ok (.iload_n 0, 1) := by decide +kernel
theorem d11_34 : decode jdk_33_method_47_code 34 = .ok (.sipush 256, 3) := by decide +kernel
theorem d11_37 : decode jdk_33_method_47_code 37 = .ok (.if_icmp .lt 11, 3) := by decide +kernel
theorem d11_48 : decode jdk_33_method_47_code 48 = .ok (.iload_n 0, 1) := by decide +kernel
theorem d11_49 : decode jdk_33_method_47_code 49 = .ok (.bipush 16, 2) := by decide +kernel
theorem d11_51 : decode jdk_33_method_47_code 51 = .ok (.if_icmp .lt 10, 3) := by decide +kernel
theorem d11_61 : decode jdk_33_method_47_code 61 = .ok (.iload_n 0, 1) := by decide +kernel
theorem d11_62 : decode jdk_33_method_47_code 62 = .ok (.iconst 4, 1) := by decide +kernel
theorem d11_63 : decode jdk_33_method_47_code 63 = .ok (.if_icmp .lt 10, 3) := by decide +kernel
theorem d11_73 : decode jdk_33_method_47_code 73 = .ok (.iload_n 1, 1) := by decide +kernel
theorem d11_74 : decode jdk_33_method_47_code 74 = .ok (.iload_n 0, 1) := by decide +kernel
theorem d11_75 : decode jdk_33_method_47_code 75 = .ok (.iconst 1, 1) := by decide +kernel
theorem d11_76 : decode jdk_33_method_47_code 76 = .ok (.iushr, 1) := by decide +kernel
theorem d11_77 : decode jdk_33_method_47_code 77 = .ok (.isub, 1) := by decide +kernel
theorem d11_78 : decode jdk_33_method_47_code 78 = .ok (.ireturn, 1) := by decide +kernel
theorem d0_0 : decode jdk_41_method_11_code 0 = .ok (.iload_n 0, 1) := by decide +kernel
theorem d0_1 : decode jdk_41_method_11_code 1 = .ok (.ifCond .lt 8, 3) := by decide +kernel
theorem d0_4 : decode jdk_41_method_11_code 4 = .ok (.iload_n 0, 1) := by decide +kernel
theorem d0_5 : decode jdk_41_method_11_code 5 = .ok (.iload_n 1, 1) := by decide +kernel
theorem d0_6 : decode jdk_41_method_11_code 6 = .ok (.if_icmp .lt 10, 3) := by decide +kernel
theorem d0_16 : decode jdk_41_method_11_code 16 = .ok (.iload_n 0, 1) := by decide +kernel
theorem d0_17 : decode jdk_41_method_11_code 17 = .ok (.ireturn, 1) := by decide +kernel
theorem d3_0 : decode jdk_42_method_149_code 0 = .ok (.aload_n 0, 1) := by decide +kernel
theorem d3_1 : decode jdk_42_method_149_code 1 = .ok (.invokespecial 1, 3) := by decide +kernel
theorem d3_4 : decode jdk_42_method_149_code 4 = .ok (.iload_n 3, 1) := by decide +kernel
theorem d3_5 : decode jdk_42_method_149_code 5 = .ok (.ifCond .ne 22, 3) := by decide +kernel
theorem d3_27 : decode jdk_42_method_149_code 27 = .ok (.getstatic 38, 3) := by decide +kernel
theorem d3_30 : decode jdk_42_method_149_code 30 = .ok (.ifCond .eq 28, 3) := by decide +kernel
theorem d3_33 : decode jdk_42_method_149_code 33 = .ok (.aload_n 1, 1) := by decide +kernel
theorem d3_34 : decode jdk_42_method_149_code 34 = .ok (.iload_n 2, 1) := by decide +kernel
theorem d3_35 : decode jdk_42_method_149_code 35 = .ok (.iload_n 3, 1) := by decide +kernel
theorem d3_36 : decode jdk_42_method_149_code 36 = .ok (.invokestatic 177, 3) := by decide +kernel
theorem d3_39 : decode jdk_42_method_149_code 39 = .ok (.astore 5, 2) := by decide +kernel
theorem d3_41 : decode jdk_42_method_149_code 41 = .ok (.aload_n 0, 1) := by decide +kernel
theorem d3_42 : decode jdk_42_method_149_code 42 = .ok (.aload 5, 2) := by decide +kernel
theorem d3_44 : decode jdk_42_method_149_code 44 = .ok (.iload_n 3, 1) := by decide +kernel
theorem d3_45 : decode jdk_42_method_149_code 45 = .ok (.invokestatic 47, 3) := by decide +kernel
theorem d3_48 : decode jdk_42_method_149_code 48 = .ok (.putfield 15, 3) := by decide +kernel
theorem d3_51 : decode jdk_42_method_149_code 51 = .ok (.aload_n 0, 1) := by decide +kernel
theorem d3_52 : decode jdk_42_method_149_code 52 = .ok (.aload 5, 2) := by decide +kernel
theorem d3_54 : decode jdk_42_method_149_code 54 = .ok (.putfield 9, 3) := by decide +kernel
theorem d3_57 : decode jdk_42_method_149_code 57 = .ok (.return_, 1) := by decide +kernel
theorem d16_0 : decode jdk_42_method_154_code 0 = .ok (.getstatic 38, 3) := by decide +kernel
theorem d16_3 : decode jdk_42_method_154_code 3 = .ok (.ifCond .eq 14, 3) := by decide +kernel
theorem d16_6 : decode jdk_42_method_154_code 6 = .ok (.aload_n 0, 1) := by decide +kernel
theorem d16_7 : decode jdk_42_method_154_code 7 = .ok (.getfield 15, 3) := by decide +kernel
theorem d16_10 : decode jdk_42_method_154_code 10 = .ok (.ifCond .ne 7, 3) := by decide +kernel
theorem d16_13 : decode jdk_42_method_154_code 13 = .ok (.iconst 1, 1) := by decide +kernel
theorem d16_14 : decode jdk_42_method_154_code 14 = .ok (.goto 4, 3) := by decide +kernel
theorem d16_18 : decode jdk_42_method_154_code 18 = .ok (.ireturn, 1) := by decide +kernel
theorem d1_0 : decode jdk_42_method_155_code 0 = .ok (.iload_n 0, 1) := by decide +kernel
theorem d1_1 : decode jdk_42_method_155_code 1 = .ok (.iload_n 1, 1) := by decide +kernel
theorem d1_2 : decode jdk_42_method_155_code 2 = .ok (.getstatic 1053, 3) := by decide +kernel
theorem d1_5 : decode jdk_42_method_155_code 5 = .ok (.invokestatic 1059, 3) := by decide +kernel
theorem d1_8 : decode jdk_42_method_155_code 8 = .ok (.pop, 1) := by decide +kernel
theorem d1_9 : decode jdk_42_method_155_code 9 = .ok (.return_, 1) := by decide +kernel
theorem d2_0 : decode jdk_42_method_3_code 0 = .ok (.aload_n 0, 1) := by decide +kernel
theorem d2_1 : decode jdk_42_method_3_code 1 = .ok (.aload_n 1, 1) := by decide +kernel
theorem d2_2 : decode jdk_42_method_3_code 2 = .ok (.iconst 0, 1) := by decide +kernel
theorem d2_3 : decode jdk_42_method_3_code 3 = .ok (.aload_n 1, 1) := by decide +kernel
theorem d2_4 : decode jdk_42_method_3_code 4 = .ok (.arraylength, 1) := by decide +kernel
theorem d2_5 : decode jdk_42_method_3_code 5 = .ok (.aconst_null, 1) := by decide +kernel
theorem d2_6 : decode jdk_42_method_3_code 6 = .ok (.invokespecial 27, 3) := by decide +kernel
theorem d2_9 : decode jdk_42_method_3_code 9 = .ok (.return_, 1) := by decide +kernel
theorem d15_0 : decode jdk_42_method_56_code 0 = .ok (.aload_n 0, 1) := by decide +kernel
theorem d15_1 : decode jdk_42_method_56_code 1 = .ok (.invokevirtual 492, 3) := by decide +kernel
theorem d15_4 : decode jdk_42_method_56_code 4 = .ok (.ifCond .eq 12, 3) := by decide +kernel
theorem d15_7 : decode jdk_42_method_56_code 7 = .ok (.aload_n 0, 1) := by decide +kernel
theorem d15_8 : decode jdk_42_method_56_code 8 = .ok (.getfield 9, 3) := by decide +kernel
theorem d15_11 : decode jdk_42_method_56_code 11 = .ok (.iload_n 1, 1) := by decide +kernel
theorem d15_12 : decode jdk_42_method_56_code 12 = .ok (.invokestatic 495, 3) := by decide +kernel
theorem d15_15 : decode jdk_42_method_56_code 15 = .ok (.ireturn, 1) := by decide +kernel
theorem d17_0 : decode jdk_43_method_2_code 0 = .ok (.iload_n 1, 1) := by decide +kernel
theorem d17_1 : decode jdk_43_method_2_code 1 = .ok (.aload_n 0, 1) := by decide +kernel
theorem d17_2 : decode jdk_43_method_2_code 2 = .ok (.arraylength, 1) := by decide +kernel
theorem d17_3 : decode jdk_43_method_2_code 3 = .ok (.invokestatic 9, 3) := by decide +kernel
theorem d17_6 : decode jdk_43_method_2_code 6 = .ok (.aload_n 0, 1) := by decide +kernel
theorem d17_7 : decode jdk_43_method_2_code 7 = .ok (.iload_n 1, 1) := by decide +kernel
theorem d17_8 : decode jdk_43_method_2_code 8 = .ok (.baload, 1) := by decide +kernel
theorem d17_9 : decode jdk_43_method_2_code 9 = .ok (.sipush 255, 3) := by decide +kernel
theorem d17_12 : decode jdk_43_method_2_code 12 = .ok (.iand, 1) := by decide +kernel
theorem d17_13 : decode jdk_43_method_2_code 13 = .ok (.i2c, 1) := by decide +kernel
theorem d17_14 : decode jdk_43_method_2_code 14 = .ok (.ireturn, 1) := by decide +kernel
theorem d6_0 : decode jdk_52_method_15_code 0 = .ok (.iload_n 1, 1) := by decide +kernel
theorem d6_1 : decode jdk_52_method_15_code 1 = .ok (.aload_n 0, 1) := by decide +kernel
theorem d6_2 : decode jdk_52_method_15_code 2 = .ok (.arraylength, 1) := by decide +kernel
theorem d6_3 : decode jdk_52_method_15_code 3 = .ok (.isub, 1) := by decide +kernel
theorem d6_4 : decode jdk_52_method_15_code 4 = .ok (.bipush 31, 2) := by decide +kernel
theorem d6_6 : decode jdk_52_method_15_code 6 = .ok (.iushr, 1) := by decide +kernel
theorem d6_7 : decode jdk_52_method_15_code 7 = .ok (.i2b, 1) := by decide +kernel
theorem d6_8 : decode jdk_52_method_15_code 8 = .ok (.ireturn, 1) := by decide +kernel
theorem d4_0 : decode jdk_52_method_16_code 0 = .ok (.iload_n 2, 1) := by decide +kernel
theorem d4_1 : decode jdk_52_method_16_code 1 = .ok (.newarray .byte, 2) := by decide +kernel
theorem d4_3 : decode jdk_52_method_16_code 3 = .ok (.astore_n 3, 1) := by decide +kernel
theorem d4_4 : decode jdk_52_method_16_code 4 = .ok (.aload_n 0, 1) := by decide +kernel
theorem d4_5 : decode jdk_52_method_16_code 5 = .ok (.iload_n 1, 1) := by decide +kernel
theorem d4_6 : decode jdk_52_method_16_code 6 = .ok (.aload_n 3, 1) := by decide +kernel
theorem d4_7 : decode jdk_52_method_16_code 7 = .ok (.iconst 0, 1) := by decide +kernel
theorem d4_8 : decode jdk_52_method_16_code 8 = .ok (.iload_n 2, 1) := by decide +kernel
theorem d4_9 : decode jdk_52_method_16_code 9 = .ok (.invokestatic 115, 3) := by decide +kernel
theorem d4_12 : decode jdk_52_method_16_code 12 = .ok (.istore 4, 2) := by decide +kernel
theorem d4_14 : decode jdk_52_method_16_code 14 = .ok (.iload 4, 2) := by decide +kernel
theorem d4_16 : decode jdk_52_method_16_code 16 = .ok (.iload_n 2, 1) := by decide +kernel
theorem d4_17 : decode jdk_52_method_16_code 17 = .ok (.if_icmp .eq 40, 3) := by decide +kernel
theorem d4_57 : decode jdk_52_method_16_code 57 = .ok (.aload_n 3, 1) := by decide +kernel
theorem d4_58 : decode jdk_52_method_16_code 58 = .ok (.areturn, 1) := by decide +kernel
theorem d5_0 : decode jdk_52_method_21_code 0 = .ok (.iconst 0, 1) := by decide +kernel
theorem d5_1 : decode jdk_52_method_21_code 1 = .ok (.istore 5, 2) := by decide +kernel
theorem d5_3 : decode jdk_52_method_21_code 3 = .ok (.iload 5, 2) := by decide +kernel
theorem d5_5 : decode jdk_52_method_21_code 5 = .ok (.iload 4, 2) := by decide +kernel
theorem d5_7 : decode jdk_52_method_21_code 7 = .ok (.if_icmp .ge 37, 3) := by decide +kernel
theorem d5_10 : decode jdk_52_method_21_code 10 = .ok (.aload_n 0, 1) := by decide +kernel
theorem d5_11 : decode jdk_52_method_21_code 11 = .ok (.iload_n 1, 1) := by decide +kernel
theorem d5_12 : decode jdk_52_method_21_code 12 = .ok (.caload, 1) := by decide +kernel
theorem d5_13 : decode jdk_52_method_21_code 13 = .ok (.istore 6, 2) := by decide +kernel
theorem d5_15 : decode jdk_52_method_21_code 15 = .ok (.iload 6, 2) := by decide +kernel
theorem d5_17 : decode jdk_52_method_21_code 17 = .ok (.sipush 255, 3) := by decide +kernel
theorem d5_20 : decode jdk_52_method_21_code 20 = .ok (.if_icmp .le 6, 3) := by decide +kernel
theorem d5_26 : decode jdk_52_method_21_code 26 = .ok (.aload_n 2, 1) := by decide +kernel
theorem d5_27 : decode jdk_52_method_21_code 27 = .ok (.iload_n 3, 1) := by decide +kernel
theorem d5_28 : decode jdk_52_method_21_code 28 = .ok (.iload 6, 2) := by decide +kernel
theorem d5_30 : decode jdk_52_method_21_code 30 = .ok (.i2b, 1) := by decide +kernel
theorem d5_31 : decode jdk_52_method_21_code 31 = .ok (.bastore, 1) := by decide +kernel
theorem d5_32 : decode jdk_52_method_21_code 32 = .ok (.iinc 1 1, 3) := by decide +kernel
theorem d5_35 : decode jdk_52_method_21_code 35 = .ok (.iinc 3 1, 3) := by decide +kernel
theorem d5_38 : decode jdk_52_method_21_code 38 = .ok (.iinc 5 1, 3) := by decide +kernel
theorem d5_41 : decode jdk_52_method_21_code 41 = .ok (.goto (-38), 3) := by decide +kernel
theorem d5_44 : decode jdk_52_method_21_code 44 = .ok (.iload 4, 2) := by decide +kernel
theorem d5_46 : decode jdk_52_method_21_code 46 = .ok (.ireturn, 1) := by decide +kernel
theorem d24_0 : decode jdk_65_method_123_code 0 = .ok (.iload_n 1, 1) := by decide +kernel
theorem d24_1 : decode jdk_65_method_123_code 1 = .ok (.aload_n 0, 1) := by decide +kernel
theorem d24_2 : decode jdk_65_method_123_code 2 = .ok (.arraylength, 1) := by decide +kernel
theorem d24_3 : decode jdk_65_method_123_code 3 = .ok (.if_icmp .ne 11, 3) := by decide +kernel
theorem d24_14 : decode jdk_65_method_123_code 14 = .ok (.iload_n 1, 1) := by decide +kernel
theorem d24_15 : decode jdk_65_method_123_code 15 = .ok (.newarray .int, 2) := by decide +kernel
theorem d24_17 : decode jdk_65_method_123_code 17 = .ok (.astore_n 2, 1) := by decide +kernel
theorem d24_18 : decode jdk_65_method_123_code 18 = .ok (.aload_n 0, 1) := by decide +kernel
theorem d24_19 : decode jdk_65_method_123_code 19 = .ok (.iconst 0, 1) := by decide +kernel
theorem d24_20 : decode jdk_65_method_123_code 20 = .ok (.aload_n 2, 1) := by decide +kernel
theorem d24_21 : decode jdk_65_method_123_code 21 = .ok (.iconst 0, 1) := by decide +kernel
theorem d24_22 : decode jdk_65_method_123_code 22 = .ok (.aload_n 0, 1) := by decide +kernel
theorem d24_23 : decode jdk_65_method_123_code 23 = .ok (.arraylength, 1) := by decide +kernel
theorem d24_24 : decode jdk_65_method_123_code 24 = .ok (.iload_n 1, 1) := by decide +kernel
theorem d24_25 : decode jdk_65_method_123_code 25 = .ok (.invokestatic 304, 3) := by decide +kernel
theorem d24_28 : decode jdk_65_method_123_code 28 = .ok (.invokestatic 150, 3) := by decide +kernel
theorem d24_31 : decode jdk_65_method_123_code 31 = .ok (.aload_n 2, 1) := by decide +kernel
theorem d24_32 : decode jdk_65_method_123_code 32 = .ok (.areturn, 1) := by decide +kernel
theorem d8_0 : decode jdk_71_method_1_code 0 = .ok (.aload_n 0, 1) := by decide +kernel
theorem d8_1 : decode jdk_71_method_1_code 1 = .ok (.invokespecial 1, 3) := by decide +kernel
theorem d8_4 : decode jdk_71_method_1_code 4 = .ok (.return_, 1) := by decide +kernel
theorem d18_0 : decode prog_15_method_11_code 0 = .ok (.aload_n 0, 1) := by decide +kernel
theorem d18_1 : decode prog_15_method_11_code 1 = .ok (.getfield 45, 3) := by decide +kernel
theorem d18_4 : decode prog_15_method_11_code 4 = .ok (.arraylength, 1) := by decide +kernel
theorem d18_5 : decode prog_15_method_11_code 5 = .ok (.iconst 1, 1) := by decide +kernel
theorem d18_6 : decode prog_15_method_11_code 6 = .ok (.isub, 1) := by decide +kernel
theorem d18_7 : decode prog_15_method_11_code 7 = .ok (.istore 5, 2) := by decide +kernel
theorem d18_9 : decode prog_15_method_11_code 9 = .ok (.iload 4, 2) := by decide +kernel
theorem d18_11 : decode prog_15_method_11_code 11 = .ok (.iload 5, 2) := by decide +kernel
theorem d18_13 : decode prog_15_method_11_code 13 = .ok (.iand, 1) := by decide +kernel
theorem d18_14 : decode prog_15_method_11_code 14 = .ok (.istore 6, 2) := by decide +kernel
theorem d18_16 : decode prog_15_method_11_code 16 = .ok (.aload_n 0, 1) := by decide +kernel
theorem d18_17 : decode prog_15_method_11_code 17 = .ok (.getfield 45, 3) := by decide +kernel
theorem d18_20 : decode prog_15_method_11_code 20 = .ok (.iload 6, 2) := by decide +kernel
theorem d18_22 : decode prog_15_method_11_code 22 = .ok (.iaload, 1) := by decide +kernel
theorem d18_23 : decode prog_15_method_11_code 23 = .ok (.ifCond .eq 36, 3) := by decide +kernel
theorem d18_59 : decode prog_15_method_11_code 59 = .ok (.iload 6, 2) := by decide +kernel
theorem d18_61 : decode prog_15_method_11_code 61 = .ok (.ireturn, 1) := by decide +kernel
theorem d13_0 : decode prog_15_method_14_code 0 = .ok (.aload_n 0, 1) := by decide +kernel
theorem d13_1 : decode prog_15_method_14_code 1 = .ok (.getfield 56, 3) := by decide +kernel
theorem d13_4 : decode prog_15_method_14_code 4 = .ok (.ifCond .eq 12, 3) := by decide +kernel
theorem d13_16 : decode prog_15_method_14_code 16 = .ok (.aload_n 1, 1) := by decide +kernel
theorem d13_17 : decode prog_15_method_14_code 17 = .ok (.iload_n 2, 1) := by decide +kernel
theorem d13_18 : decode prog_15_method_14_code 18 = .ok (.iload_n 3, 1) := by decide +kernel
theorem d13_19 : decode prog_15_method_14_code 19 = .ok (.invokestatic 116, 3) := by decide +kernel
theorem d13_22 : decode prog_15_method_14_code 22 = .ok (.ireturn, 1) := by decide +kernel
theorem d14_0 : decode prog_15_method_15_code 0 = .ok (.iconst 0, 1) := by decide +kernel
theorem d14_1 : decode prog_15_method_15_code 1 = .ok (.istore_n 3, 1) := by decide +kernel
theorem d14_2 : decode prog_15_method_15_code 2 = .ok (.iload_n 1, 1) := by decide +kernel
theorem d14_3 : decode prog_15_method_15_code 3 = .ok (.istore 4, 2) := by decide +kernel
theorem d14_5 : decode prog_15_method_15_code 5 = .ok (.iload 4, 2) := by decide +kernel
theorem d14_7 : decode prog_15_method_15_code 7 = .ok (.iload_n 2, 1) := by decide +kernel
theorem d14_8 : decode prog_15_method_15_code 8 = .ok (.if_icmp .ge 21, 3) := by decide +kernel
theorem d14_11 : decode prog_15_method_15_code 11 = .ok (.bipush 31, 2) := by decide +kernel
theorem d14_13 : decode prog_15_method_15_code 13 = .ok (.iload_n 3, 1) := by decide +kernel
theorem d14_14 : decode prog_15_method_15_code 14 = .ok (.imul, 1) := by decide +kernel
theorem d14_15 : decode prog_15_method_15_code 15 = .ok (.aload_n 0, 1) := by decide +kernel
theorem d14_16 : decode prog_15_method_15_code 16 = .ok (.iload 4, 2) := by decide +kernel
theorem d14_18 : decode prog_15_method_15_code 18 = .ok (.invokevirtual 119, 3) := by decide +kernel
theorem d14_21 : decode prog_15_method_15_code 21 = .ok (.iadd, 1) := by decide +kernel
theorem d14_22 : decode prog_15_method_15_code 22 = .ok (.istore_n 3, 1) := by decide +kernel
theorem d14_23 : decode prog_15_method_15_code 23 = .ok (.iinc 4 1, 3) := by decide +kernel
theorem d14_26 : decode prog_15_method_15_code 26 = .ok (.goto (-21), 3) := by decide +kernel
theorem d14_29 : decode prog_15_method_15_code 29 = .ok (.iload_n 3, 1) := by decide +kernel
theorem d14_30 : decode prog_15_method_15_code 30 = .ok (.iload_n 3, 1) := by decide +kernel
theorem d14_31 : decode prog_15_method_15_code 31 = .ok (.bipush 16, 2) := by decide +kernel
theorem d14_33 : decode prog_15_method_15_code 33 = .ok (.iushr, 1) := by decide +kernel
theorem d14_34 : decode prog_15_method_15_code 34 = .ok (.ixor, 1) := by decide +kernel
theorem d14_35 : decode prog_15_method_15_code 35 = .ok (.ireturn, 1) := by decide +kernel
theorem d23_0 : decode prog_15_method_18_code 0 = .ok (.aload_n 0, 1) := by decide +kernel
theorem d23_1 : decode prog_15_method_18_code 1 = .ok (.getfield 35, 3) := by decide +kernel
theorem d23_4 : decode prog_15_method_18_code 4 = .ok (.iload_n 1, 1) := by decide +kernel
theorem d23_5 : decode prog_15_method_18_code 5 = .ok (.bipush 6, 2) := by decide +kernel
theorem d23_7 : decode prog_15_method_18_code 7 = .ok (.imul, 1) := by decide +kernel
theorem d23_8 : decode prog_15_method_18_code 8 = .ok (.iconst 4, 1) := by decide +kernel
theorem d23_9 : decode prog_15_method_18_code 9 = .ok (.iadd, 1) := by decide +kernel
theorem d23_10 : decode prog_15_method_18_code 10 = .ok (.iaload, 1) := by decide +kernel
theorem d23_11 : decode prog_15_method_18_code 11 = .ok (.ireturn, 1) := by decide +kernel
theorem d22_0 : decode prog_15_method_19_code 0 = .ok (.aload_n 0, 1) := by decide +kernel
theorem d22_1 : decode prog_15_method_19_code 1 = .ok (.getfield 35, 3) := by decide +kernel
theorem d22_4 : decode prog_15_method_19_code 4 = .ok (.iload_n 1, 1) := by decide +kernel
theorem d22_5 : decode prog_15_method_19_code 5 = .ok (.bipush 6, 2) := by decide +kernel
theorem d22_7 : decode prog_15_method_19_code 7 = .ok (.imul, 1) := by decide +kernel
theorem d22_8 : decode prog_15_method_19_code 8 = .ok (.iconst 2, 1) := by decide +kernel
theorem d22_9 : decode prog_15_method_19_code 9 = .ok (.iadd, 1) := by decide +kernel
theorem d22_10 : decode prog_15_method_19_code 10 = .ok (.iaload, 1) := by decide +kernel
theorem d22_11 : decode prog_15_method_19_code 11 = .ok (.ireturn, 1) := by decide +kernel
theorem d21_0 : decode prog_15_method_20_code 0 = .ok (.aload_n 0, 1) := by decide +kernel
theorem d21_1 : decode prog_15_method_20_code 1 = .ok (.getfield 35, 3) := by decide +kernel
theorem d21_4 : decode prog_15_method_20_code 4 = .ok (.iload_n 1, 1) := by decide +kernel
theorem d21_5 : decode prog_15_method_20_code 5 = .ok (.bipush 6, 2) := by decide +kernel
theorem d21_7 : decode prog_15_method_20_code 7 = .ok (.imul, 1) := by decide +kernel
theorem d21_8 : decode prog_15_method_20_code 8 = .ok (.iconst 3, 1) := by decide +kernel
theorem d21_9 : decode prog_15_method_20_code 9 = .ok (.iadd, 1) := by decide +kernel
theorem d21_10 : decode prog_15_method_20_code 10 = .ok (.iaload, 1) := by decide +kernel
theorem d21_11 : decode prog_15_method_20_code 11 = .ok (.ireturn, 1) := by decide +kernel
theorem d7_0 : decode prog_15_method_2_code 0 = .ok (.aload_n 0, 1) := by decide +kernel
theorem d7_1 : decode prog_15_method_2_code 1 = .ok (.invokespecial 19, 3) := by decide +kernel
theorem d7_4 : decode prog_15_method_2_code 4 = .ok (.aload_n 0, 1) := by decide +kernel
theorem d7_5 : decode prog_15_method_2_code 5 = .ok (.aload_n 1, 1) := by decide +kernel
theorem d7_6 : decode prog_15_method_2_code 6 = .ok (.putfield 24, 3) := by decide +kernel
theorem d7_9 : decode prog_15_method_2_code 9 = .ok (.aload_n 0, 1) := by decide +kernel
theorem d7_10 : decode prog_15_method_2_code 10 = .ok (.aload_n 2, 1) := by decide +kernel
theorem d7_11 : decode prog_15_method_2_code 11 = .ok (.putfield 28, 3) := by decide +kernel
theorem d7_14 : decode prog_15_method_2_code 14 = .ok (.iload_n 3, 1) := by decide +kernel
theorem d7_15 : decode prog_15_method_2_code 15 = .ok (.iconst 1, 1) := by decide +kernel
theorem d7_16 : decode prog_15_method_2_code 16 = .ok (.invokestatic 32, 3) := by decide +kernel
theorem d7_19 : decode prog_15_method_2_code 19 = .ok (.istore 4, 2) := by decide +kernel
theorem d7_21 : decode prog_15_method_2_code 21 = .ok (.aload_n 0, 1) := by decide +kernel
theorem d7_22 : decode prog_15_method_2_code 22 = .ok (.iload 4, 2) := by decide +kernel
theorem d7_24 : decode prog_15_method_2_code 24 = .ok (.bipush 6, 2) := by decide +kernel
theorem d7_26 : decode prog_15_method_2_code 26 = .ok (.imul, 1) := by decide +kernel
theorem d7_27 : decode prog_15_method_2_code 27 = .ok (.newarray .int, 2) := by decide +kernel
theorem d7_29 : decode prog_15_method_2_code 29 = .ok (.putfield 35, 3) := by decide +kernel
theorem d7_32 : decode prog_15_method_2_code 32 = .ok (.aload_n 0, 1) := by decide +kernel
theorem d7_33 : decode prog_15_method_2_code 33 = .ok (.iload 4, 2) := by decide +kernel
theorem d7_35 : decode prog_15_method_2_code 35 = .ok (.invokestatic 39, 3) := by decide +kernel
theorem d7_38 : decode prog_15_method_2_code 38 = .ok (.iconst 4, 1) := by decide +kernel
theorem d7_39 : decode prog_15_method_2_code 39 = .ok (.imul, 1) := by decide +kernel
theorem d7_40 : decode prog_15_method_2_code 40 = .ok (.newarray .int, 2) := by decide +kernel
theorem d7_42 : decode prog_15_method_2_code 42 = .ok (.putfield 45, 3) := by decide +kernel
theorem d7_45 : decode prog_15_method_2_code 45 = .ok (.return_, 1) := by decide +kernel
theorem d12_0 : decode prog_15_method_3_code 0 = .ok (.aload_n 0, 1) := by decide +kernel
theorem d12_1 : decode prog_15_method_3_code 1 = .ok (.aload_n 0, 1) := by decide +kernel
theorem d12_2 : decode prog_15_method_3_code 2 = .ok (.getfield 24, 3) := by decide +kernel
theorem d12_5 : decode prog_15_method_3_code 5 = .ok (.iload_n 1, 1) := by decide +kernel
theorem d12_6 : decode prog_15_method_3_code 6 = .ok (.iload_n 2, 1) := by decide +kernel
theorem d12_7 : decode prog_15_method_3_code 7 = .ok (.invokevirtual 48, 3) := by decide +kernel
theorem d12_10 : decode prog_15_method_3_code 10 = .ok (.istore 6, 2) := by decide +kernel
theorem d12_12 : decode prog_15_method_3_code 12 = .ok (.aload_n 0, 1) := by decide +kernel
theorem d12_13 : decode prog_15_method_3_code 13 = .ok (.aload_n 0, 1) := by decide +kernel
theorem d12_14 : decode prog_15_method_3_code 14 = .ok (.getfield 24, 3) := by decide +kernel
theorem d12_17 : decode prog_15_method_3_code 17 = .ok (.iload_n 1, 1) := by decide +kernel
theorem d12_18 : decode prog_15_method_3_code 18 = .ok (.iload_n 2, 1) := by decide +kernel
theorem d12_19 : decode prog_15_method_3_code 19 = .ok (.iload 6, 2) := by decide +kernel
theorem d12_21 : decode prog_15_method_3_code 21 = .ok (.invokevirtual 52, 3) := by decide +kernel
theorem d12_24 : decode prog_15_method_3_code 24 = .ok (.istore 7, 2) := by decide +kernel
theorem d12_26 : decode prog_15_method_3_code 26 = .ok (.aload_n 0, 1) := by decide +kernel
theorem d12_27 : decode prog_15_method_3_code 27 = .ok (.getfield 56, 3) := by decide +kernel
theorem d12_30 : decode prog_15_method_3_code 30 = .ok (.ifCond .ne 121, 3) := by decide +kernel
theorem d12_33 : decode prog_15_method_3_code 33 = .ok (.iload 7, 2) := by decide +kernel
theorem d12_35 : decode prog_15_method_3_code 35 = .ok (.iload 6, 2) := by decide +kernel
theorem d12_37 : decode prog_15_method_3_code 37 = .ok (.isub, 1) := by decide +kernel
theorem d12_38 : decode prog_15_method_3_code 38 = .ok (.aload_n 0, 1) := by decide +kernel
theorem d12_39 : decode prog_15_method_3_code 39 = .ok (.getfield 45, 3) := by decide +kernel
theorem d12_42 : decode prog_15_method_3_code 42 = .ok (.arraylength, 1) := by decide +kernel
theorem d12_43 : decode prog_15_method_3_code 43 = .ok (.iconst 1, 1) := by decide +kernel
theorem d12_44 : decode prog_15_method_3_code 44 = .ok (.isub, 1) := by decide +kernel
theorem d12_45 : decode prog_15_method_3_code 45 = .ok (.iand, 1) := by decide +kernel
theorem d12_46 : decode prog_15_method_3_code 46 = .ok (.bipush 64, 2) := by decide +kernel
theorem d12_48 : decode prog_15_method_3_code 48 = .ok (.if_icmp .le 103, 3) := by decide +kernel
theorem d12_151 : decode prog_15_method_3_code 151 = .ok (.aload_n 0, 1) := by decide +kernel
theorem d12_152 : decode prog_15_method_3_code 152 = .ok (.getfield 45, 3) := by decide +kernel
theorem d12_155 : decode prog_15_method_3_code 155 = .ok (.iload 7, 2) := by decide +kernel
theorem d12_157 : decode prog_15_method_3_code 157 = .ok (.iaload, 1) := by decide +kernel
theorem d12_158 : decode prog_15_method_3_code 158 = .ok (.ifCond .eq 13, 3) := by decide +kernel
theorem d12_171 : decode prog_15_method_3_code 171 = .ok (.aload_n 0, 1) := by decide +kernel
theorem d12_172 : decode prog_15_method_3_code 172 = .ok (.getfield 60, 3) := by decide +kernel
theorem d12_175 : decode prog_15_method_3_code 175 = .ok (.iconst 1, 1) := by decide +kernel
theorem d12_176 : decode prog_15_method_3_code 176 = .ok (.iadd, 1) := by decide +kernel
theorem d12_177 : decode prog_15_method_3_code 177 = .ok (.bipush 6, 2) := by decide +kernel
theorem d12_179 : decode prog_15_method_3_code 179 = .ok (.imul, 1) := by decide +kernel
theorem d12_180 : decode prog_15_method_3_code 180 = .ok (.aload_n 0, 1) := by decide +kernel
theorem d12_181 : decode prog_15_method_3_code 181 = .ok (.getfield 35, 3) := by decide +kernel
theorem d12_184 : decode prog_15_method_3_code 184 = .ok (.arraylength, 1) := by decide +kernel
theorem d12_185 : decode prog_15_method_3_code 185 = .ok (.if_icmp .le 21, 3) := by decide +kernel
theorem d12_188 : decode prog_15_method_3_code 188 = .ok (.aload_n 0, 1) := by decide +kernel
theorem d12_189 : decode prog_15_method_3_code 189 = .ok (.aload_n 0, 1) := by decide +kernel
theorem d12_190 : decode prog_15_method_3_code 190 = .ok (.getfield 35, 3) := by decide +kernel
theorem d12_193 : decode prog_15_method_3_code 193 = .ok (.aload_n 0, 1) := by decide +kernel
theorem d12_194 : decode prog_15_method_3_code 194 = .ok (.getfield 35, 3) := by decide +kernel
theorem d12_197 : decode prog_15_method_3_code 197 = .ok (.arraylength, 1) := by decide +kernel
theorem d12_198 : decode prog_15_method_3_code 198 = .ok (.iconst 2, 1) := by decide +kernel
theorem d12_199 : decode prog_15_method_3_code 199 = .ok (.imul, 1) := by decide +kernel
theorem d12_200 : decode prog_15_method_3_code 200 = .ok (.invokestatic 68, 3) := by decide +kernel
theorem d12_203 : decode prog_15_method_3_code 203 = .ok (.putfield 35, 3) := by decide +kernel
theorem d12_206 : decode prog_15_method_3_code 206 = .ok (.aload_n 0, 1) := by decide +kernel
theorem d12_207 : decode prog_15_method_3_code 207 = .ok (.getfield 60, 3) := by decide +kernel
theorem d12_210 : decode prog_15_method_3_code 210 = .ok (.bipush 6, 2) := by decide +kernel
theorem d12_212 : decode prog_15_method_3_code 212 = .ok (.imul, 1) := by decide +kernel
theorem d12_213 : decode prog_15_method_3_code 213 = .ok (.istore 8, 2) := by decide +kernel
theorem d12_215 : decode prog_15_method_3_code 215 = .ok (.aload_n 0, 1) := by decide +kernel
theorem d12_216 : decode prog_15_method_3_code 216 = .ok (.getfield 35, 3) := by decide +kernel
theorem d12_219 : decode prog_15_method_3_code 219 = .ok (.iload 8, 2) := by decide +kernel
theorem d12_221 : decode prog_15_method_3_code 221 = .ok (.iconst 0, 1) := by decide +kernel
theorem d12_222 : decode prog_15_method_3_code 222 = .ok (.iadd, 1) := by decide +kernel
theorem d12_223 : decode prog_15_method_3_code 223 = .ok (.iload_n 1, 1) := by decide +kernel
theorem d12_224 : decode prog_15_method_3_code 224 = .ok (.iastore, 1) := by decide +kernel
theorem d12_225 : decode prog_15_method_3_code 225 = .ok (.aload_n 0, 1) := by decide +kernel
theorem d12_226 : decode prog_15_method_3_code 226 = .ok (.getfield 35, 3) := by decide +kernel
theorem d12_229 : decode prog_15_method_3_code 229 = .ok (.iload 8, 2) := by decide +kernel
theorem d12_231 : decode prog_15_method_3_code 231 = .ok (.iconst 1, 1) := by decide +kernel
theorem d12_232 : decode prog_15_method_3_code 232 = .ok (.iadd, 1) := by decide +kernel
theorem d12_233 : decode prog_15_method_3_code 233 = .ok (.iload_n 2, 1) := by decide +kernel
theorem d12_234 : decode prog_15_method_3_code 234 = .ok (.iastore, 1) := by decide +kernel
theorem d12_235 : decode prog_15_method_3_code 235 = .ok (.aload_n 0, 1) := by decide +kernel
theorem d12_236 : decode prog_15_method_3_code 236 = .ok (.getfield 35, 3) := by decide +kernel
theorem d12_239 : decode prog_15_method_3_code 239 = .ok (.iload 8, 2) := by decide +kernel
theorem d12_241 : decode prog_15_method_3_code 241 = .ok (.iconst 2, 1) := by decide +kernel
theorem d12_242 : decode prog_15_method_3_code 242 = .ok (.iadd, 1) := by decide +kernel
theorem d12_243 : decode prog_15_method_3_code 243 = .ok (.iload_n 3, 1) := by decide +kernel
theorem d12_244 : decode prog_15_method_3_code 244 = .ok (.iastore, 1) := by decide +kernel
theorem d12_245 : decode prog_15_method_3_code 245 = .ok (.aload_n 0, 1) := by decide +kernel
theorem d12_246 : decode prog_15_method_3_code 246 = .ok (.getfield 35, 3) := by decide +kernel
theorem d12_249 : decode prog_15_method_3_code 249 = .ok (.iload 8, 2) := by decide +kernel
theorem d12_251 : decode prog_15_method_3_code 251 = .ok (.iconst 3, 1) := by decide +kernel
theorem d12_252 : decode prog_15_method_3_code 252 = .ok (.iadd, 1) := by decide +kernel
theorem d12_253 : decode prog_15_method_3_code 253 = .ok (.iload 4, 2) := by decide +kernel
theorem d12_255 : decode prog_15_method_3_code 255 = .ok (.iastore, 1) := by decide +kernel
theorem d12_256 : decode prog_15_method_3_code 256 = .ok (.aload_n 0, 1) := by decide +kernel
theorem d12_257 : decode prog_15_method_3_code 257 = .ok (.getfield 35, 3) := by decide +kernel
theorem d12_260 : decode prog_15_method_3_code 260 = .ok (.iload 8, 2) := by decide +kernel
theorem d12_262 : decode prog_15_method_3_code 262 = .ok (.iconst 4, 1) := by decide +kernel
theorem d12_263 : decode prog_15_method_3_code 263 = .ok (.iadd, 1) := by decide +kernel
theorem d12_264 : decode prog_15_method_3_code 264 = .ok (.iload 5, 2) := by decide +kernel
theorem d12_266 : decode prog_15_method_3_code 266 = .ok (.iastore, 1) := by decide +kernel
theorem d12_267 : decode prog_15_method_3_code 267 = .ok (.aload_n 0, 1) := by decide +kernel
theorem d12_268 : decode prog_15_method_3_code 268 = .ok (.getfield 35, 3) := by decide +kernel
theorem d12_271 : decode prog_15_method_3_code 271 = .ok (.iload 8, 2) := by decide +kernel
theorem d12_273 : decode prog_15_method_3_code 273 = .ok (.iconst 5, 1) := by decide +kernel
theorem d12_274 : decode prog_15_method_3_code 274 = .ok (.iadd, 1) := by decide +kernel
theorem d12_275 : decode prog_15_method_3_code 275 = .ok (.iload 6, 2) := by decide +kernel
theorem d12_277 : decode prog_15_method_3_code 277 = .ok (.iastore, 1) := by decide +kernel
theorem d12_278 : decode prog_15_method_3_code 278 = .ok (.aload_n 0, 1) := by decide +kernel
theorem d12_279 : decode prog_15_method_3_code 279 = .ok (.dup, 1) := by decide +kernel
theorem d12_280 : decode prog_15_method_3_code 280 = .ok (.getfield 60, 3) := by decide +kernel
theorem d12_283 : decode prog_15_method_3_code 283 = .ok (.iconst 1, 1) := by decide +kernel
theorem d12_284 : decode prog_15_method_3_code 284 = .ok (.iadd, 1) := by decide +kernel
theorem d12_285 : decode prog_15_method_3_code 285 = .ok (.putfield 60, 3) := by decide +kernel
theorem d12_288 : decode prog_15_method_3_code 288 = .ok (.aload_n 0, 1) := by decide +kernel
theorem d12_289 : decode prog_15_method_3_code 289 = .ok (.getfield 45, 3) := by decide +kernel
theorem d12_292 : decode prog_15_method_3_code 292 = .ok (.iload 7, 2) := by decide +kernel
theorem d12_294 : decode prog_15_method_3_code 294 = .ok (.aload_n 0, 1) := by decide +kernel
theorem d12_295 : decode prog_15_method_3_code 295 = .ok (.getfield 60, 3) := by decide +kernel
theorem d12_298 : decode prog_15_method_3_code 298 = .ok (.iastore, 1) := by decide +kernel
theorem d12_299 : decode prog_15_method_3_code 299 = .ok (.aload_n 0, 1) := by decide +kernel
theorem d12_300 : decode prog_15_method_3_code 300 = .ok (.getfield 60, 3) := by decide +kernel
theorem d12_303 : decode prog_15_method_3_code 303 = .ok (.iconst 2, 1) := by decide +kernel
theorem d12_304 : decode prog_15_method_3_code 304 = .ok (.imul, 1) := by decide +kernel
theorem d12_305 : decode prog_15_method_3_code 305 = .ok (.aload_n 0, 1) := by decide +kernel
theorem d12_306 : decode prog_15_method_3_code 306 = .ok (.getfield 45, 3) := by decide +kernel
theorem d12_309 : decode prog_15_method_3_code 309 = .ok (.arraylength, 1) := by decide +kernel
theorem d12_310 : decode prog_15_method_3_code 310 = .ok (.if_icmp .le 14, 3) := by decide +kernel
theorem d12_324 : decode prog_15_method_3_code 324 = .ok (.iconst (-1), 1) := by decide +kernel
theorem d12_325 : decode prog_15_method_3_code 325 = .ok (.ireturn, 1) := by decide +kernel
theorem d19_0 : decode prog_15_method_4_code 0 = .ok (.aload_n 0, 1) := by decide +kernel
theorem d19_1 : decode prog_15_method_4_code 1 = .ok (.getfield 35, 3) := by decide +kernel
theorem d19_4 : decode prog_15_method_4_code 4 = .ok (.aload_n 0, 1) := by decide +kernel
theorem d19_5 : decode prog_15_method_4_code 5 = .ok (.getfield 60, 3) := by decide +kernel
theorem d19_8 : decode prog_15_method_4_code 8 = .ok (.iconst 1, 1) := by decide +kernel
theorem d19_9 : decode prog_15_method_4_code 9 = .ok (.isub, 1) := by decide +kernel
theorem d19_10 : decode prog_15_method_4_code 10 = .ok (.bipush 6, 2) := by decide +kernel
theorem d19_12 : decode prog_15_method_4_code 12 = .ok (.imul, 1) := by decide +kernel
theorem d19_13 : decode prog_15_method_4_code 13 = .ok (.iconst 3, 1) := by decide +kernel
theorem d19_14 : decode prog_15_method_4_code 14 = .ok (.iadd, 1) := by decide +kernel
theorem d19_15 : decode prog_15_method_4_code 15 = .ok (.iload_n 1, 1) := by decide +kernel
theorem d19_16 : decode prog_15_method_4_code 16 = .ok (.iastore, 1) := by decide +kernel
theorem d19_17 : decode prog_15_method_4_code 17 = .ok (.return_, 1) := by decide +kernel
theorem d20_0 : decode prog_15_method_8_code 0 = .ok (.aload_n 0, 1) := by decide +kernel
theorem d20_1 : decode prog_15_method_8_code 1 = .ok (.getfield 60, 3) := by decide +kernel
theorem d20_4 : decode prog_15_method_8_code 4 = .ok (.ireturn, 1) := by decide +kernel
theorem tw0 {Z : State} {a0 : Array Value} (hw : ∀ d ∈ tables_1, d.before a0 Z = true) : (Jvm.Cond.classLink "com/example/vaatimus/vaatimus/io/PropertyIndexEndValuePinLaw" (7 : Nat) "java/lang/String").before a0 Z = true := hw _ (List.mem_of_getElem? (i := 0) rfl)
theorem tw1 {Z : State} {a0 : Array Value} (hw : ∀ d ∈ tables_1, d.before a0 Z = true) : (Jvm.Cond.instantiable "java/lang/String" (4 : Nat)).before a0 Z = true := hw _ (List.mem_of_getElem? (i := 1) rfl)
theorem tw2 {Z : State} {a0 : Array Value} (hw : ∀ d ∈ tables_1, d.before a0 Z = true) : (Jvm.Cond.initialized "java/lang/String").before a0 Z = true := hw _ (List.mem_of_getElem? (i := 2) rfl)
theorem tw3 {Z : State} {a0 : Array Value} (hw : ∀ d ∈ tables_1, d.before a0 Z = true) : (Jvm.Cond.arrayClass Jvm.ClassFile.FieldType.char).before a0 Z = true := hw _ (List.mem_of_getElem? (i := 3) rfl)
theorem tw4 {Z : State} {a0 : Array Value} (hw : ∀ d ∈ tables_1, d.before a0 Z = true) : (Jvm.Cond.methodLink "com/example/vaatimus/vaatimus/io/PropertyIndexEndValuePinLaw" (9 : Nat) ({ cls := "java/lang/String", name := "<init>", desc := "([C)V" } : Jvm.MethodName)).before a0 Z = true := hw _ (List.mem_of_getElem? (i := 4) rfl)
theorem tw5 {Z : State} {a0 : Array Value} (hw : ∀ d ∈ tables_1, d.before a0 Z = true) : (Jvm.Cond.instanceMethod ({ cls := "java/lang/String", name := "<init>", desc := "([C)V" } : Jvm.MethodName)).before a0 Z = true := hw _ (List.mem_of_getElem? (i := 5) rfl)
theorem tw6 {Z : State} {a0 : Array Value} (hw : ∀ d ∈ tables_1, d.before a0 Z = true) : (Jvm.Cond.code ({ cls := "java/lang/String", name := "<init>", desc := "([C)V" } : Jvm.MethodName) jdk_42_method_3_code (2 : Nat) (Option.none : Option Jvm.ClassFile.FieldType)).before a0 Z = true := hw _ (List.mem_of_getElem? (i := 6) rfl)
theorem tw7 {Z : State} {a0 : Array Value} (hw : ∀ d ∈ tables_1, d.before a0 Z = true) : (Jvm.Cond.methodLink "java/lang/String" (27 : Nat) ({ cls := "java/lang/String", name := "<init>", desc := "([CIILjava/lang/Void;)V" } : Jvm.MethodName)).before a0 Z = true := hw _ (List.mem_of_getElem? (i := 7) rfl)
theorem tw8 {Z : State} {a0 : Array Value} (hw : ∀ d ∈ tables_1, d.before a0 Z = true) : (Jvm.Cond.instanceMethod ({ cls := "java/lang/String", name := "<init>", desc := "([CIILjava/lang/Void;)V" } : Jvm.MethodName)).before a0 Z = true := hw _ (List.mem_of_getElem? (i := 8) rfl)
theorem tw10 {Z : State} {a0 : Array Value} (hw : ∀ d ∈ tables_1, d.before a0 Z = true) : (Jvm.Cond.code ({ cls := "java/lang/String", name := "<init>", desc := "([CIILjava/lang/Void;)V" } : Jvm.MethodName) jdk_42_method_149_code (6 : Nat) (Option.none : Option Jvm.ClassFile.FieldType)).before a0 Z = true := hw _ (List.mem_of_getElem? (i := 10) rfl)
theorem tw11 {Z : State} {a0 : Array Value} (hw : ∀ d ∈ tables_1, d.before a0 Z = true) : (Jvm.Cond.methodLink "java/lang/String" (1 : Nat) ({ cls := "java/lang/Object", name := "<init>", desc := "()V" } : Jvm.MethodName)).before a0 Z = true := hw _ (List.mem_of_getElem? (i := 11) rfl)
theorem tw12 {Z : State} {a0 : Array Value} (hw : ∀ d ∈ tables_1, d.before a0 Z = true) : (Jvm.Cond.instanceMethod ({ cls := "java/lang/Object", name := "<init>", desc := "()V" } : Jvm.MethodName)).before a0 Z = true := hw _ (List.mem_of_getElem? (i := 12) rfl)
theorem tw13 {Z : State} {a0 : Array Value} (hw : ∀ d ∈ tables_1, d.before a0 Z = true) : (Jvm.Cond.code ({ cls := "java/lang/Object", name := "<init>", desc := "()V" } : Jvm.MethodName) object_method_1_code (1 : Nat) (Option.none : Option Jvm.ClassFile.FieldType)).before a0 Z = true := hw _ (List.mem_of_getElem? (i := 13) rfl)
theorem tw14 {Z : State} {a0 : Array Value} (hw : ∀ d ∈ tables_1, d.before a0 Z = true) : (Jvm.Cond.fieldLink "java/lang/String" (38 : Nat) "java/lang/String" "COMPACT_STRINGS" "Z").before a0 Z = true := hw _ (List.mem_of_getElem? (i := 14) rfl)
theorem tw15 {Z : State} {a0 : Array Value} (hw : ∀ d ∈ tables_1, d.before a0 Z = true) : (Jvm.Cond.methodLink "java/lang/String" (177 : Nat) ({ cls := "java/lang/StringUTF16", name := "compress", desc := "([CII)[B" } : Jvm.MethodName)).before a0 Z = true := hw _ (List.mem_of_getElem? (i := 15) rfl)
theorem tw16 {Z : State} {a0 : Array Value} (hw : ∀ d ∈ tables_1, d.before a0 Z = true) : (Jvm.Cond.static ({ cls := "java/lang/StringUTF16", name := "compress", desc := "([CII)[B" } : Jvm.MethodName)).before a0 Z = true := hw _ (List.mem_of_getElem? (i := 16) rfl)
theorem tw17 {Z : State} {a0 : Array Value} (hw : ∀ d ∈ tables_1, d.before a0 Z = true) : (Jvm.Cond.initialized "java/lang/StringUTF16").before a0 Z = true := hw _ (List.mem_of_getElem? (i := 17) rfl)
theorem tw18 {Z : State} {a0 : Array Value} (hw : ∀ d ∈ tables_1, d.before a0 Z = true) : (Jvm.Cond.code ({ cls := "java/lang/StringUTF16", name := "compress", desc := "([CII)[B" } : Jvm.MethodName) jdk_52_method_16_code (6 : Nat) (Option.some (Jvm.ClassFile.FieldType.array Jvm.ClassFile.FieldType.byte))).before a0 Z = true := hw _ (List.mem_of_getElem? (i := 18) rfl)
theorem tw19 {Z : State} {a0 : Array Value} (hw : ∀ d ∈ tables_1, d.before a0 Z = true) : (Jvm.Cond.arrayClass Jvm.ClassFile.FieldType.byte).before a0 Z = true := hw _ (List.mem_of_getElem? (i := 19) rfl)
theorem tw20 {Z : State} {a0 : Array Value} (hw : ∀ d ∈ tables_1, d.before a0 Z = true) : (Jvm.Cond.methodLink "java/lang/StringUTF16" (115 : Nat) ({ cls := "java/lang/StringUTF16", name := "compress", desc := "([CI[BII)I" } : Jvm.MethodName)).before a0 Z = true := hw _ (List.mem_of_getElem? (i := 20) rfl)
theorem tw21 {Z : State} {a0 : Array Value} (hw : ∀ d ∈ tables_1, d.before a0 Z = true) : (Jvm.Cond.static ({ cls := "java/lang/StringUTF16", name := "compress", desc := "([CI[BII)I" } : Jvm.MethodName)).before a0 Z = true := hw _ (List.mem_of_getElem? (i := 21) rfl)
theorem tw22 {Z : State} {a0 : Array Value} (hw : ∀ d ∈ tables_1, d.before a0 Z = true) : (Jvm.Cond.code ({ cls := "java/lang/StringUTF16", name := "compress", desc := "([CI[BII)I" } : Jvm.MethodName) jdk_52_method_21_code (7 : Nat) (Option.some Jvm.ClassFile.FieldType.int)).before a0 Z = true := hw _ (List.mem_of_getElem? (i := 22) rfl)
theorem tw23 {Z : State} {a0 : Array Value} (hw : ∀ d ∈ tables_1, d.before a0 Z = true) : (Jvm.Cond.methodLink "java/lang/String" (47 : Nat) ({ cls := "java/lang/StringUTF16", name := "coderFromArrayLen", desc := "([BI)B" } : Jvm.MethodName)).before a0 Z = true := hw _ (List.mem_of_getElem? (i := 23) rfl)
theorem tw24 {Z : State} {a0 : Array Value} (hw : ∀ d ∈ tables_1, d.before a0 Z = true) : (Jvm.Cond.static ({ cls := "java/lang/StringUTF16", name := "coderFromArrayLen", desc := "([BI)B" } : Jvm.MethodName)).before a0 Z = true := hw _ (List.mem_of_getElem? (i := 24) rfl)
theorem tw25 {Z : State} {a0 : Array Value} (hw : ∀ d ∈ tables_1, d.before a0 Z = true) : (Jvm.Cond.code ({ cls := "java/lang/StringUTF16", name := "coderFromArrayLen", desc := "([BI)B" } : Jvm.MethodName) jdk_52_method_15_code (2 : Nat) (Option.some Jvm.ClassFile.FieldType.byte)).before a0 Z = true := hw _ (List.mem_of_getElem? (i := 25) rfl)
theorem tw26 {Z : State} {a0 : Array Value} (hw : ∀ d ∈ tables_1, d.before a0 Z = true) : (Jvm.Cond.fieldLink "java/lang/String" (15 : Nat) "java/lang/String" "coder" "B").before a0 Z = true := hw _ (List.mem_of_getElem? (i := 26) rfl)
theorem tw27 {Z : State} {a0 : Array Value} (hw : ∀ d ∈ tables_1, d.before a0 Z = true) : (Jvm.Cond.laysFinal "java/lang/String" "java/lang/String" "coder" "B").before a0 Z = true := hw _ (List.mem_of_getElem? (i := 27) rfl)
theorem tw28 {Z : State} {a0 : Array Value} (hw : ∀ d ∈ tables_1, d.before a0 Z = true) : (Jvm.Cond.fieldLink "java/lang/String" (9 : Nat) "java/lang/String" "value" "[B").before a0 Z = true := hw _ (List.mem_of_getElem? (i := 28) rfl)
theorem tw29 {Z : State} {a0 : Array Value} (hw : ∀ d ∈ tables_1, d.before a0 Z = true) : (Jvm.Cond.laysFinal "java/lang/String" "java/lang/String" "value" "[B").before a0 Z = true := hw _ (List.mem_of_getElem? (i := 29) rfl)
theorem tw30 {Z : State} {a0 : Array Value} (hw : ∀ d ∈ tables_1, d.before a0 Z = true) : (Jvm.Cond.classLink "com/example/vaatimus/vaatimus/io/PropertyIndexEndValuePinLaw" (12 : Nat) "com/example/vaatimus/vaatimus/io/PropertyIndex").before a0 Z = true := hw _ (List.mem_of_getElem? (i := 30) rfl)
theorem tw31 {Z : State} {a0 : Array Value} (hw : ∀ d ∈ tables_1, d.before a0 Z = true) : (Jvm.Cond.instantiable "com/example/vaatimus/vaatimus/io/PropertyIndex" (8 : Nat)).before a0 Z = true := hw _ (List.mem_of_getElem? (i := 31) rfl)
theorem tw32 {Z : State} {a0 : Array Value} (hw : ∀ d ∈ tables_1, d.before a0 Z = true) : (Jvm.Cond.initialized "com/example/vaatimus/vaatimus/io/PropertyIndex").before a0 Z = true := hw _ (List.mem_of_getElem? (i := 32) rfl)
theorem tw33 {Z : State} {a0 : Array Value} (hw : ∀ d ∈ tables_1, d.before a0 Z = true) : (Jvm.Cond.methodLink "com/example/vaatimus/vaatimus/io/PropertyIndexEndValuePinLaw" (14 : Nat) ({ cls := "com/example/vaatimus/vaatimus/io/PropertyIndex", name := "<init>", desc := "(Ljava/lang/String;Lcom/example/vaatimus/vaatimus/io/LineEnds;I)V" } : Jvm.MethodName)).before a0 Z = true := hw _ (List.mem_of_getElem? (i := 33) rfl)
theorem tw34 {Z : State} {a0 : Array Value} (hw : ∀ d ∈ tables_1, d.before a0 Z = true) : (Jvm.Cond.instanceMethod ({ cls := "com/example/vaatimus/vaatimus/io/PropertyIndex", name := "<init>", desc := "(Ljava/lang/String;Lcom/example/vaatimus/vaatimus/io/LineEnds;I)V" } : Jvm.MethodName)).before a0 Z = true := hw _ (List.mem_of_getElem? (i := 34) rfl)
theorem tw35 {Z : State} {a0 : Array Value} (hw : ∀ d ∈ tables_1, d.before a0 Z = true) : (Jvm.Cond.code ({ cls := "com/example/vaatimus/vaatimus/io/PropertyIndex", name := "<init>", desc := "(Ljava/lang/String;Lcom/example/vaatimus/vaatimus/io/LineEnds;I)V" } : Jvm.MethodName) prog_15_method_2_code (5 : Nat) (Option.none : Option Jvm.ClassFile.FieldType)).before a0 Z = true := hw _ (List.mem_of_getElem? (i := 35) rfl)
theorem tw36 {Z : State} {a0 : Array Value} (hw : ∀ d ∈ tables_1, d.before a0 Z = true) : (Jvm.Cond.methodLink "com/example/vaatimus/vaatimus/io/PropertyIndex" (19 : Nat) ({ cls := "java/util/AbstractMap", name := "<init>", desc := "()V" } : Jvm.MethodName)).before a0 Z = true := hw _ (List.mem_of_getElem? (i := 36) rfl)
theorem tw37 {Z : State} {a0 : Array Value} (hw : ∀ d ∈ tables_1, d.before a0 Z = true) : (Jvm.Cond.instanceMethod ({ cls := "java/util/AbstractMap", name := "<init>", desc := "()V" } : Jvm.MethodName)).before a0 Z = true := hw _ (List.mem_of_getElem? (i := 37) rfl)
theorem tw39 {Z : State} {a0 : Array Value} (hw : ∀ d ∈ tables_1, d.before a0 Z = true) : (Jvm.Cond.initialized "java/util/AbstractMap").before a0 Z = true := hw _ (List.mem_of_getElem? (i := 39) rfl)
theorem tw40 {Z : State} {a0 : Array Value} (hw : ∀ d ∈ tables_1, d.before a0 Z = true) : (Jvm.Cond.code ({ cls := "java/util/AbstractMap", name := "<init>", desc := "()V" } : Jvm.MethodName) jdk_71_method_1_code (1 : Nat) (Option.none : Option Jvm.ClassFile.FieldType)).before a0 Z = true := hw _ (List.mem_of_getElem? (i := 40) rfl)
theorem tw41 {Z : State} {a0 : Array Value} (hw : ∀ d ∈ tables_1, d.before a0 Z = true) : (Jvm.Cond.methodLink "java/util/AbstractMap" (1 : Nat) ({ cls := "java/lang/Object", name := "<init>", desc := "()V" } : Jvm.MethodName)).before a0 Z = true := hw _ (List.mem_of_getElem? (i := 41) rfl)
theorem tw42 {Z : State} {a0 : Array Value} (hw : ∀ d ∈ tables_1, d.before a0 Z = true) : (Jvm.Cond.fieldLink "com/example/vaatimus/vaatimus/io/PropertyIndex" (24 : Nat) "com/example/vaatimus/vaatimus/io/PropertyIndex" "text" "Ljava/lang/String;").before a0 Z = true := hw _ (List.mem_of_getElem? (i := 42) rfl)
theorem tw43 {Z : State} {a0 : Array Value} (hw : ∀ d ∈ tables_1, d.before a0 Z = true) : (Jvm.Cond.laysFinal "com/example/vaatimus/vaatimus/io/PropertyIndex" "com/example/vaatimus/vaatimus/io/PropertyIndex" "text" "Ljava/lang/String;").before a0 Z = true := hw _ (List.mem_of_getElem? (i := 43) rfl)
theorem tw44 {Z : State} {a0 : Array Value} (hw : ∀ d ∈ tables_1, d.before a0 Z = true) : (Jvm.Cond.fieldLink "com/example/vaatimus/vaatimus/io/PropertyIndex" (28 : Nat) "com/example/vaatimus/vaatimus/io/PropertyIndex" "lineEnds" "Lcom/example/vaatimus/vaatimus/io/LineEnds;").before a0 Z = true := hw _ (List.mem_of_getElem? (i := 44) rfl)
theorem tw45 {Z : State} {a0 : Array Value} (hw : ∀ d ∈ tables_1, d.before a0 Z = true) : (Jvm.Cond.laysFinal "com/example/vaatimus/vaatimus/io/PropertyIndex" "com/example/vaatimus/vaatimus/io/PropertyIndex" "lineEnds" "Lcom/example/vaatimus/vaatimus/io/LineEnds;").before a0 Z = true := hw _ (List.mem_of_getElem? (i := 45) rfl)
theorem tw46 {Z : State} {a0 : Array Value} (hw : ∀ d ∈ tables_1, d.before a0 Z = true) : (Jvm.Cond.methodLink "com/example/vaatimus/vaatimus/io/PropertyIndex" (32 : Nat) ({ cls := "java/lang/Math", name := "max", desc := "(II)I" } : Jvm.MethodName)).before a0 Z = true := hw _ (List.mem_of_getElem? (i := 46) rfl)
theorem tw47 {Z : State} {a0 : Array Value} (hw : ∀ d ∈ tables_1, d.before a0 Z = true) : (Jvm.Cond.static ({ cls := "java/lang/Math", name := "max", desc := "(II)I" } : Jvm.MethodName)).before a0 Z = true := hw _ (List.mem_of_getElem? (i := 47) rfl)
theorem tw48 {Z : State} {a0 : Array Value} (hw : ∀ d ∈ tables_1, d.before a0 Z = true) : (Jvm.Cond.initialized "java/lang/Math").before a0 Z = true := hw _ (List.mem_of_getElem? (i := 48) rfl)
theorem tw49 {Z : State} {a0 : Array Value} (hw : ∀ d ∈ tables_1, d.before a0 Z = true) : (Jvm.Cond.code ({ cls := "java/lang/Math", name := "max", desc := "(II)I" } : Jvm.MethodName) jdk_29_method_65_code (2 : Nat) (Option.some Jvm.ClassFile.FieldType.int)).before a0 Z = true := hw _ (List.mem_of_getElem? (i := 49) rfl)
theorem tw50 {Z : State} {a0 : Array Value} (hw : ∀ d ∈ tables_1, d.before a0 Z = true) : (Jvm.Cond.arrayClass Jvm.ClassFile.FieldType.int).before a0 Z = true := hw _ (List.mem_of_getElem? (i := 50) rfl)
theorem tw51 {Z : State} {a0 : Array Value} (hw : ∀ d ∈ tables_1, d.before a0 Z = true) : (Jvm.Cond.fieldLink "com/example/vaatimus/vaatimus/io/PropertyIndex" (35 : Nat) "com/example/vaatimus/vaatimus/io/PropertyIndex" "entries" "[I").before a0 Z = true := hw _ (List.mem_of_getElem? (i := 51) rfl)
theorem tw52 {Z : State} {a0 : Array Value} (hw : ∀ d ∈ tables_1, d.before a0 Z = true) : (Jvm.Cond.lays "com/example/vaatimus/vaatimus/io/PropertyIndex" "com/example/vaatimus/vaatimus/io/PropertyIndex" "entries" "[I").before a0 Z = true := hw _ (List.mem_of_getElem? (i := 52) rfl)
theorem tw53 {Z : State} {a0 : Array Value} (hw : ∀ d ∈ tables_1, d.before a0 Z = true) : (Jvm.Cond.methodLink "com/example/vaatimus/vaatimus/io/PropertyIndex" (39 : Nat) ({ cls := "java/lang/Integer", name := "highestOneBit", desc := "(I)I" } : Jvm.MethodName)).before a0 Z = true := hw _ (List.mem_of_getElem? (i := 53) rfl)
theorem tw54 {Z : State} {a0 : Array Value} (hw : ∀ d ∈ tables_1, d.before a0 Z = true) : (Jvm.Cond.static ({ cls := "java/lang/Integer", name := "highestOneBit", desc := "(I)I" } : Jvm.MethodName)).before a0 Z = true := hw _ (List.mem_of_getElem? (i := 54) rfl)
theorem tw55 {Z : State} {a0 : Array Value} (hw : ∀ d ∈ tables_1, d.before a0 Z = true) : (Jvm.Cond.initialized "java/lang/Integer").before a0 Z = true := hw _ (List.mem_of_getElem? (i := 55) rfl)
theorem tw56 {Z : State} {a0 : Array Value} (hw : ∀ d ∈ tables_1, d.before a0 Z = true) : (Jvm.Cond.code ({ cls := "java/lang/Integer", name := "highestOneBit", desc := "(I)I" } : Jvm.MethodName) jdk_33_method_45_code (1 : Nat) (Option.some Jvm.ClassFile.FieldType.int)).before a0 Z = true := hw _ (List.mem_of_getElem? (i := 56) rfl)
theorem tw57 {Z : State} {a0 : Array Value} (hw : ∀ d ∈ tables_1, d.before a0 Z = true) : (Jvm.Cond.constant "java/lang/Integer" (127 : Nat) (-2147483648 : Int32)).before a0 Z = true := hw _ (List.mem_of_getElem? (i := 57) rfl)
theorem tw58 {Z : State} {a0 : Array Value} (hw : ∀ d ∈ tables_1, d.before a0 Z = true) : (Jvm.Cond.methodLink "java/lang/Integer" (51 : Nat) ({ cls := "java/lang/Integer", name := "numberOfLeadingZeros", desc := "(I)I" } : Jvm.MethodName)).before a0 Z = true := hw _ (List.mem_of_getElem? (i := 58) rfl)
theorem tw59 {Z : State} {a0 : Array Value} (hw : ∀ d ∈ tables_1, d.before a0 Z = true) : (Jvm.Cond.static ({ cls := "java/lang/Integer", name := "numberOfLeadingZeros", desc := "(I)I" } : Jvm.MethodName)).before a0 Z = true := hw _ (List.mem_of_getElem? (i := 59) rfl)
theorem tw60 {Z : State} {a0 : Array Value} (hw : ∀ d ∈ tables_1, d.before a0 Z = true) : (Jvm.Cond.code ({ cls := "java/lang/Integer", name := "numberOfLeadingZeros", desc := "(I)I" } : Jvm.MethodName) jdk_33_method_47_code (2 : Nat) (Option.some Jvm.ClassFile.FieldType.int)).before a0 Z = true := hw _ (List.mem_of_getElem? (i := 60) rfl)
theorem tw61 {Z : State} {a0 : Array Value} (hw : ∀ d ∈ tables_1, d.before a0 Z = true) : (Jvm.Cond.constant "java/lang/Integer" (264 : Nat) (65536 : Int32)).before a0 Z = true := hw _ (List.mem_of_getElem? (i := 61) rfl)
theorem tw62 {Z : State} {a0 : Array Value} (hw : ∀ d ∈ tables_1, d.before a0 Z = true) : (Jvm.Cond.fieldLink "com/example/vaatimus/vaatimus/io/PropertyIndex" (45 : Nat) "com/example/vaatimus/vaatimus/io/PropertyIndex" "slots" "[I").before a0 Z = true := hw _ (List.mem_of_getElem? (i := 62) rfl)
theorem tw63 {Z : State} {a0 : Array Value} (hw : ∀ d ∈ tables_1, d.before a0 Z = true) : (Jvm.Cond.lays "com/example/vaatimus/vaatimus/io/PropertyIndex" "com/example/vaatimus/vaatimus/io/PropertyIndex" "slots" "[I").before a0 Z = true := hw _ (List.mem_of_getElem? (i := 63) rfl)
theorem tw64 {Z : State} {a0 : Array Value} (hw : ∀ d ∈ tables_1, d.before a0 Z = true) : (Jvm.Cond.methodLink "com/example/vaatimus/vaatimus/io/PropertyIndexEndValuePinLaw" (17 : Nat) ({ cls := "com/example/vaatimus/vaatimus/io/PropertyIndex", name := "add", desc := "(IIIII)I" } : Jvm.MethodName)).before a0 Z = true := hw _ (List.mem_of_getElem? (i := 64) rfl)
theorem tw65 {Z : State} {a0 : Array Value} (hw : ∀ d ∈ tables_1, d.before a0 Z = true) : (Jvm.Cond.declares ({ cls := "com/example/vaatimus/vaatimus/io/PropertyIndex", name := "add", desc := "(IIIII)I" } : Jvm.MethodName)).before a0 Z = true := hw _ (List.mem_of_getElem? (i := 65) rfl)
theorem tw66 {Z : State} {a0 : Array Value} (hw : ∀ d ∈ tables_1, d.before a0 Z = true) : (Jvm.Cond.instanceMethod ({ cls := "com/example/vaatimus/vaatimus/io/PropertyIndex", name := "add", desc := "(IIIII)I" } : Jvm.MethodName)).before a0 Z = true := hw _ (List.mem_of_getElem? (i := 66) rfl)
theorem tw67 {Z : State} {a0 : Array Value} (hw : ∀ d ∈ tables_1, d.before a0 Z = true) : (Jvm.Cond.selects "com/example/vaatimus/vaatimus/io/PropertyIndex" ({ cls := "com/example/vaatimus/vaatimus/io/PropertyIndex", name := "add", desc := "(IIIII)I" } : Jvm.MethodName) ({ cls := "com/example/vaatimus/vaatimus/io/PropertyIndex", name := "add", desc := "(IIIII)I" } : Jvm.MethodName)).before a0 Z = true := hw _ (List.mem_of_getElem? (i := 67) rfl)
theorem tw68 {Z : State} {a0 : Array Value} (hw : ∀ d ∈ tables_1, d.before a0 Z = true) : (Jvm.Cond.code ({ cls := "com/example/vaatimus/vaatimus/io/PropertyIndex", name := "add", desc := "(IIIII)I" } : Jvm.MethodName) prog_15_method_3_code (10 : Nat) (Option.some Jvm.ClassFile.FieldType.int)).before a0 Z = true := hw _ (List.mem_of_getElem? (i := 68) rfl)
theorem tw69 {Z : State} {a0 : Array Value} (hw : ∀ d ∈ tables_1, d.before a0 Z = true) : (Jvm.Cond.methodLink "com/example/vaatimus/vaatimus/io/PropertyIndex" (48 : Nat) ({ cls := "com/example/vaatimus/vaatimus/io/PropertyIndex", name := "hash", desc := "(Ljava/lang/String;II)I" } : Jvm.MethodName)).before a0 Z = true := hw _ (List.mem_of_getElem? (i := 69) rfl)
theorem tw70 {Z : State} {a0 : Array Value} (hw : ∀ d ∈ tables_1, d.before a0 Z = true) : (Jvm.Cond.instanceMethod ({ cls := "com/example/vaatimus/vaatimus/io/PropertyIndex", name := "hash", desc := "(Ljava/lang/String;II)I" } : Jvm.MethodName)).before a0 Z = true := hw _ (List.mem_of_getElem? (i := 70) rfl)
theorem tw71 {Z : State} {a0 : Array Value} (hw : ∀ d ∈ tables_1, d.before a0 Z = true) : (Jvm.Cond.privateMethod ({ cls := "com/example/vaatimus/vaatimus/io/PropertyIndex", name := "hash", desc := "(Ljava/lang/String;II)I" } : Jvm.MethodName)).before a0 Z = true := hw _ (List.mem_of_getElem? (i := 71) rfl)
theorem tw72 {Z : State} {a0 : Array Value} (hw : ∀ d ∈ tables_1, d.before a0 Z = true) : (Jvm.Cond.code ({ cls := "com/example/vaatimus/vaatimus/io/PropertyIndex", name := "hash", desc := "(Ljava/lang/String;II)I" } : Jvm.MethodName) prog_15_method_14_code (4 : Nat) (Option.some Jvm.ClassFile.FieldType.int)).before a0 Z = true := hw _ (List.mem_of_getElem? (i := 72) rfl)
theorem tw73 {Z : State} {a0 : Array Value} (hw : ∀ d ∈ tables_1, d.before a0 Z = true) : (Jvm.Cond.fieldLink "com/example/vaatimus/vaatimus/io/PropertyIndex" (56 : Nat) "com/example/vaatimus/vaatimus/io/PropertyIndex" "keyed" "Z").before a0 Z = true := hw _ (List.mem_of_getElem? (i := 73) rfl)
theorem tw74 {Z : State} {a0 : Array Value} (hw : ∀ d ∈ tables_1, d.before a0 Z = true) : (Jvm.Cond.lays "com/example/vaatimus/vaatimus/io/PropertyIndex" "com/example/vaatimus/vaatimus/io/PropertyIndex" "keyed" "Z").before a0 Z = true := hw _ (List.mem_of_getElem? (i := 74) rfl)
theorem tw75 {Z : State} {a0 : Array Value} (hw : ∀ d ∈ tables_1, d.before a0 Z = true) : (Jvm.Cond.methodLink "com/example/vaatimus/vaatimus/io/PropertyIndex" (116 : Nat) ({ cls := "com/example/vaatimus/vaatimus/io/PropertyIndex", name := "plainHash", desc := "(Ljava/lang/String;II)I" } : Jvm.MethodName)).before a0 Z = true := hw _ (List.mem_of_getElem? (i := 75) rfl)
theorem tw76 {Z : State} {a0 : Array Value} (hw : ∀ d ∈ tables_1, d.before a0 Z = true) : (Jvm.Cond.static ({ cls := "com/example/vaatimus/vaatimus/io/PropertyIndex", name := "plainHash", desc := "(Ljava/lang/String;II)I" } : Jvm.MethodName)).before a0 Z = true := hw _ (List.mem_of_getElem? (i := 76) rfl)
theorem tw77 {Z : State} {a0 : Array Value} (hw : ∀ d ∈ tables_1, d.before a0 Z = true) : (Jvm.Cond.code ({ cls := "com/example/vaatimus/vaatimus/io/PropertyIndex", name := "plainHash", desc := "(Ljava/lang/String;II)I" } : Jvm.MethodName) prog_15_method_15_code (5 : Nat) (Option.some Jvm.ClassFile.FieldType.int)).before a0 Z = true := hw _ (List.mem_of_getElem? (i := 77) rfl)
theorem tw78 {Z : State} {a0 : Array Value} (hw : ∀ d ∈ tables_1, d.before a0 Z = true) : (Jvm.Cond.methodLink "com/example/vaatimus/vaatimus/io/PropertyIndex" (119 : Nat) ({ cls := "java/lang/String", name := "charAt", desc := "(I)C" } : Jvm.MethodName)).before a0 Z = true := hw _ (List.mem_of_getElem? (i := 78) rfl)
theorem tw79 {Z : State} {a0 : Array Value} (hw : ∀ d ∈ tables_1, d.before a0 Z = true) : (Jvm.Cond.declares ({ cls := "java/lang/String", name := "charAt", desc := "(I)C" } : Jvm.MethodName)).before a0 Z = true := hw _ (List.mem_of_getElem? (i := 79) rfl)
theorem tw80 {Z : State} {a0 : Array Value} (hw : ∀ d ∈ tables_1, d.before a0 Z = true) : (Jvm.Cond.instanceMethod ({ cls := "java/lang/String", name := "charAt", desc := "(I)C" } : Jvm.MethodName)).before a0 Z = true := hw _ (List.mem_of_getElem? (i := 80) rfl)
theorem tw81 {Z : State} {a0 : Array Value} (hw : ∀ d ∈ tables_1, d.before a0 Z = true) : (Jvm.Cond.selects "java/lang/String" ({ cls := "java/lang/String", name := "charAt", desc := "(I)C" } : Jvm.MethodName) ({ cls := "java/lang/String", name := "charAt", desc := "(I)C" } : Jvm.MethodName)).before a0 Z = true := hw _ (List.mem_of_getElem? (i := 81) rfl)
theorem tw82 {Z : State} {a0 : Array Value} (hw : ∀ d ∈ tables_1, d.before a0 Z = true) : (Jvm.Cond.code ({ cls := "java/lang/String", name := "charAt", desc := "(I)C" } : Jvm.MethodName) jdk_42_method_56_code (2 : Nat) (Option.some Jvm.ClassFile.FieldType.char)).before a0 Z = true := hw _ (List.mem_of_getElem? (i := 82) rfl)
theorem tw83 {Z : State} {a0 : Array Value} (hw : ∀ d ∈ tables_1, d.before a0 Z = true) : (Jvm.Cond.methodLink "java/lang/String" (492 : Nat) ({ cls := "java/lang/String", name := "isLatin1", desc := "()Z" } : Jvm.MethodName)).before a0 Z = true := hw _ (List.mem_of_getElem? (i := 83) rfl)
theorem tw84 {Z : State} {a0 : Array Value} (hw : ∀ d ∈ tables_1, d.before a0 Z = true) : (Jvm.Cond.declares ({ cls := "java/lang/String", name := "isLatin1", desc := "()Z" } : Jvm.MethodName)).before a0 Z = true := hw _ (List.mem_of_getElem? (i := 84) rfl)
theorem tw85 {Z : State} {a0 : Array Value} (hw : ∀ d ∈ tables_1, d.before a0 Z = true) : (Jvm.Cond.instanceMethod ({ cls := "java/lang/String", name := "isLatin1", desc := "()Z" } : Jvm.MethodName)).before a0 Z = true := hw _ (List.mem_of_getElem? (i := 85) rfl)
theorem tw86 {Z : State} {a0 : Array Value} (hw : ∀ d ∈ tables_1, d.before a0 Z = true) : (Jvm.Cond.selects "java/lang/String" ({ cls := "java/lang/String", name := "isLatin1", desc := "()Z" } : Jvm.MethodName) ({ cls := "java/lang/String", name := "isLatin1", desc := "()Z" } : Jvm.MethodName)).before a0 Z = true := hw _ (List.mem_of_getElem? (i := 86) rfl)
theorem tw87 {Z : State} {a0 : Array Value} (hw : ∀ d ∈ tables_1, d.before a0 Z = true) : (Jvm.Cond.code ({ cls := "java/lang/String", name := "isLatin1", desc := "()Z" } : Jvm.MethodName) jdk_42_method_154_code (1 : Nat) (Option.some Jvm.ClassFile.FieldType.boolean)).before a0 Z = true := hw _ (List.mem_of_getElem? (i := 87) rfl)
theorem tw88 {Z : State} {a0 : Array Value} (hw : ∀ d ∈ tables_1, d.before a0 Z = true) : (Jvm.Cond.methodLink "java/lang/String" (495 : Nat) ({ cls := "java/lang/StringLatin1", name := "charAt", desc := "([BI)C" } : Jvm.MethodName)).before a0 Z = true := hw _ (List.mem_of_getElem? (i := 88) rfl)
theorem tw89 {Z : State} {a0 : Array Value} (hw : ∀ d ∈ tables_1, d.before a0 Z = true) : (Jvm.Cond.static ({ cls := "java/lang/StringLatin1", name := "charAt", desc := "([BI)C" } : Jvm.MethodName)).before a0 Z = true := hw _ (List.mem_of_getElem? (i := 89) rfl)
theorem tw90 {Z : State} {a0 : Array Value} (hw : ∀ d ∈ tables_1, d.before a0 Z = true) : (Jvm.Cond.initialized "java/lang/StringLatin1").before a0 Z = true := hw _ (List.mem_of_getElem? (i := 90) rfl)
theorem tw91 {Z : State} {a0 : Array Value} (hw : ∀ d ∈ tables_1, d.before a0 Z = true) : (Jvm.Cond.code ({ cls := "java/lang/StringLatin1", name := "charAt", desc := "([BI)C" } : Jvm.MethodName) jdk_43_method_2_code (2 : Nat) (Option.some Jvm.ClassFile.FieldType.char)).before a0 Z = true := hw _ (List.mem_of_getElem? (i := 91) rfl)
theorem tw92 {Z : State} {a0 : Array Value} (hw : ∀ d ∈ tables_1, d.before a0 Z = true) : (Jvm.Cond.methodLink "java/lang/StringLatin1" (9 : Nat) ({ cls := "java/lang/String", name := "checkIndex", desc := "(II)V" } : Jvm.MethodName)).before a0 Z = true := hw _ (List.mem_of_getElem? (i := 92) rfl)
theorem tw93 {Z : State} {a0 : Array Value} (hw : ∀ d ∈ tables_1, d.before a0 Z = true) : (Jvm.Cond.static ({ cls := "java/lang/String", name := "checkIndex", desc := "(II)V" } : Jvm.MethodName)).before a0 Z = true := hw _ (List.mem_of_getElem? (i := 93) rfl)
theorem tw94 {Z : State} {a0 : Array Value} (hw : ∀ d ∈ tables_1, d.before a0 Z = true) : (Jvm.Cond.code ({ cls := "java/lang/String", name := "checkIndex", desc := "(II)V" } : Jvm.MethodName) jdk_42_method_155_code (2 : Nat) (Option.none : Option Jvm.ClassFile.FieldType)).before a0 Z = true := hw _ (List.mem_of_getElem? (i := 94) rfl)
theorem tw95 {Z : State} {a0 : Array Value} (hw : ∀ d ∈ tables_1, d.before a0 Z = true) : (Jvm.Cond.fieldLink "java/lang/String" (1053 : Nat) "jdk/internal/util/Preconditions" "SIOOBE_FORMATTER" "Ljava/util/function/BiFunction;").before a0 Z = true := hw _ (List.mem_of_getElem? (i := 95) rfl)
theorem tw96 {Z : State} {a0 : Array Value} (hw : ∀ d ∈ tables_1, d.before a0 Z = true) : (Jvm.Cond.initialized "jdk/internal/util/Preconditions").before a0 Z = true := hw _ (List.mem_of_getElem? (i := 96) rfl)
theorem tw97 {Z : State} {a0 : Array Value} (hw : ∀ d ∈ tables_1, d.before a0 Z = true) : (Jvm.Cond.methodLink "java/lang/String" (1059 : Nat) ({ cls := "jdk/internal/util/Preconditions", name := "checkIndex", desc := "(IILjava/util/function/BiFunction;)I" } : Jvm.MethodName)).before a0 Z = true := hw _ (List.mem_of_getElem? (i := 97) rfl)
theorem tw98 {Z : State} {a0 : Array Value} (hw : ∀ d ∈ tables_1, d.before a0 Z = true) : (Jvm.Cond.static ({ cls := "jdk/internal/util/Preconditions", name := "checkIndex", desc := "(IILjava/util/function/BiFunction;)I" } : Jvm.MethodName)).before a0 Z = true := hw _ (List.mem_of_getElem? (i := 98) rfl)
theorem tw99 {Z : State} {a0 : Array Value} (hw : ∀ d ∈ tables_1, d.before a0 Z = true) : (Jvm.Cond.code ({ cls := "jdk/internal/util/Preconditions", name := "checkIndex", desc := "(IILjava/util/function/BiFunction;)I" } : Jvm.MethodName) jdk_41_method_11_code (3 : Nat) (Option.some Jvm.ClassFile.FieldType.int)).before a0 Z = true := hw _ (List.mem_of_getElem? (i := 99) rfl)
theorem tw100 {Z : State} {a0 : Array Value} (hw : ∀ d ∈ tables_1, d.before a0 Z = true) : (Jvm.Cond.methodLink "com/example/vaatimus/vaatimus/io/PropertyIndex" (52 : Nat) ({ cls := "com/example/vaatimus/vaatimus/io/PropertyIndex", name := "slot", desc := "(Ljava/lang/String;III)I" } : Jvm.MethodName)).before a0 Z = true := hw _ (List.mem_of_getElem? (i := 100) rfl)
theorem tw101 {Z : State} {a0 : Array Value} (hw : ∀ d ∈ tables_1, d.before a0 Z = true) : (Jvm.Cond.instanceMethod ({ cls := "com/example/vaatimus/vaatimus/io/PropertyIndex", name := "slot", desc := "(Ljava/lang/String;III)I" } : Jvm.MethodName)).before a0 Z = true := hw _ (List.mem_of_getElem? (i := 101) rfl)
theorem tw102 {Z : State} {a0 : Array Value} (hw : ∀ d ∈ tables_1, d.before a0 Z = true) : (Jvm.Cond.privateMethod ({ cls := "com/example/vaatimus/vaatimus/io/PropertyIndex", name := "slot", desc := "(Ljava/lang/String;III)I" } : Jvm.MethodName)).before a0 Z = true := hw _ (List.mem_of_getElem? (i := 102) rfl)
theorem tw103 {Z : State} {a0 : Array Value} (hw : ∀ d ∈ tables_1, d.before a0 Z = true) : (Jvm.Cond.code ({ cls := "com/example/vaatimus/vaatimus/io/PropertyIndex", name := "slot", desc := "(Ljava/lang/String;III)I" } : Jvm.MethodName) prog_15_method_11_code (7 : Nat) (Option.some Jvm.ClassFile.FieldType.int)).before a0 Z = true := hw _ (List.mem_of_getElem? (i := 103) rfl)
theorem tw104 {Z : State} {a0 : Array Value} (hw : ∀ d ∈ tables_1, d.before a0 Z = true) : (Jvm.Cond.fieldLink "com/example/vaatimus/vaatimus/io/PropertyIndex" (60 : Nat) "com/example/vaatimus/vaatimus/io/PropertyIndex" "size" "I").before a0 Z = true := hw _ (List.mem_of_getElem? (i := 104) rfl)
theorem tw105 {Z : State} {a0 : Array Value} (hw : ∀ d ∈ tables_1, d.before a0 Z = true) : (Jvm.Cond.lays "com/example/vaatimus/vaatimus/io/PropertyIndex" "com/example/vaatimus/vaatimus/io/PropertyIndex" "size" "I").before a0 Z = true := hw _ (List.mem_of_getElem? (i := 105) rfl)
theorem tw106 {Z : State} {a0 : Array Value} (hw : ∀ d ∈ tables_1, d.before a0 Z = true) : (Jvm.Cond.methodLink "com/example/vaatimus/vaatimus/io/PropertyIndexEndValuePinLaw" (21 : Nat) ({ cls := "com/example/vaatimus/vaatimus/io/PropertyIndex", name := "endValue", desc := "(I)V" } : Jvm.MethodName)).before a0 Z = true := hw _ (List.mem_of_getElem? (i := 106) rfl)
theorem tw107 {Z : State} {a0 : Array Value} (hw : ∀ d ∈ tables_1, d.before a0 Z = true) : (Jvm.Cond.declares ({ cls := "com/example/vaatimus/vaatimus/io/PropertyIndex", name := "endValue", desc := "(I)V" } : Jvm.MethodName)).before a0 Z = true := hw _ (List.mem_of_getElem? (i := 107) rfl)
theorem tw108 {Z : State} {a0 : Array Value} (hw : ∀ d ∈ tables_1, d.before a0 Z = true) : (Jvm.Cond.instanceMethod ({ cls := "com/example/vaatimus/vaatimus/io/PropertyIndex", name := "endValue", desc := "(I)V" } : Jvm.MethodName)).before a0 Z = true := hw _ (List.mem_of_getElem? (i := 108) rfl)
theorem tw109 {Z : State} {a0 : Array Value} (hw : ∀ d ∈ tables_1, d.before a0 Z = true) : (Jvm.Cond.selects "com/example/vaatimus/vaatimus/io/PropertyIndex" ({ cls := "com/example/vaatimus/vaatimus/io/PropertyIndex", name := "endValue", desc := "(I)V" } : Jvm.MethodName) ({ cls := "com/example/vaatimus/vaatimus/io/PropertyIndex", name := "endValue", desc := "(I)V" } : Jvm.MethodName)).before a0 Z = true := hw _ (List.mem_of_getElem? (i := 109) rfl)
theorem tw110 {Z : State} {a0 : Array Value} (hw : ∀ d ∈ tables_1, d.before a0 Z = true) : (Jvm.Cond.code ({ cls := "com/example/vaatimus/vaatimus/io/PropertyIndex", name := "endValue", desc := "(I)V" } : Jvm.MethodName) prog_15_method_4_code (2 : Nat) (Option.none : Option Jvm.ClassFile.FieldType)).before a0 Z = true := hw _ (List.mem_of_getElem? (i := 110) rfl)
theorem tw111 {Z : State} {a0 : Array Value} (hw : ∀ d ∈ tables_1, d.before a0 Z = true) : (Jvm.Cond.methodLink "com/example/vaatimus/vaatimus/io/PropertyIndexEndValuePinLaw" (25 : Nat) ({ cls := "com/example/vaatimus/vaatimus/io/PropertyIndex", name := "size", desc := "()I" } : Jvm.MethodName)).before a0 Z = true := hw _ (List.mem_of_getElem? (i := 111) rfl)
theorem tw112 {Z : State} {a0 : Array Value} (hw : ∀ d ∈ tables_1, d.before a0 Z = true) : (Jvm.Cond.declares ({ cls := "com/example/vaatimus/vaatimus/io/PropertyIndex", name := "size", desc := "()I" } : Jvm.MethodName)).before a0 Z = true := hw _ (List.mem_of_getElem? (i := 112) rfl)
theorem tw113 {Z : State} {a0 : Array Value} (hw : ∀ d ∈ tables_1, d.before a0 Z = true) : (Jvm.Cond.instanceMethod ({ cls := "com/example/vaatimus/vaatimus/io/PropertyIndex", name := "size", desc := "()I" } : Jvm.MethodName)).before a0 Z = true := hw _ (List.mem_of_getElem? (i := 113) rfl)
theorem tw114 {Z : State} {a0 : Array Value} (hw : ∀ d ∈ tables_1, d.before a0 Z = true) : (Jvm.Cond.selects "com/example/vaatimus/vaatimus/io/PropertyIndex" ({ cls := "com/example/vaatimus/vaatimus/io/PropertyIndex", name := "size", desc := "()I" } : Jvm.MethodName) ({ cls := "com/example/vaatimus/vaatimus/io/PropertyIndex", name := "size", desc := "()I" } : Jvm.MethodName)).before a0 Z = true := hw _ (List.mem_of_getElem? (i := 114) rfl)
theorem tw115 {Z : State} {a0 : Array Value} (hw : ∀ d ∈ tables_1, d.before a0 Z = true) : (Jvm.Cond.code ({ cls := "com/example/vaatimus/vaatimus/io/PropertyIndex", name := "size", desc := "()I" } : Jvm.MethodName) prog_15_method_8_code (1 : Nat) (Option.some Jvm.ClassFile.FieldType.int)).before a0 Z = true := hw _ (List.mem_of_getElem? (i := 115) rfl)
theorem tw116 {Z : State} {a0 : Array Value} (hw : ∀ d ∈ tables_1, d.before a0 Z = true) : (Jvm.Cond.methodLink "com/example/vaatimus/vaatimus/io/PropertyIndexEndValuePinLaw" (29 : Nat) ({ cls := "com/example/vaatimus/vaatimus/io/PropertyIndex", name := "valueEnd", desc := "(I)I" } : Jvm.MethodName)).before a0 Z = true := hw _ (List.mem_of_getElem? (i := 116) rfl)
theorem tw117 {Z : State} {a0 : Array Value} (hw : ∀ d ∈ tables_1, d.before a0 Z = true) : (Jvm.Cond.declares ({ cls := "com/example/vaatimus/vaatimus/io/PropertyIndex", name := "valueEnd", desc := "(I)I" } : Jvm.MethodName)).before a0 Z = true := hw _ (List.mem_of_getElem? (i := 117) rfl)
theorem tw118 {Z : State} {a0 : Array Value} (hw : ∀ d ∈ tables_1, d.before a0 Z = true) : (Jvm.Cond.instanceMethod ({ cls := "com/example/vaatimus/vaatimus/io/PropertyIndex", name := "valueEnd", desc := "(I)I" } : Jvm.MethodName)).before a0 Z = true := hw _ (List.mem_of_getElem? (i := 118) rfl)
theorem tw119 {Z : State} {a0 : Array Value} (hw : ∀ d ∈ tables_1, d.before a0 Z = true) : (Jvm.Cond.selects "com/example/vaatimus/vaatimus/io/PropertyIndex" ({ cls := "com/example/vaatimus/vaatimus/io/PropertyIndex", name := "valueEnd", desc := "(I)I" } : Jvm.MethodName) ({ cls := "com/example/vaatimus/vaatimus/io/PropertyIndex", name := "valueEnd", desc := "(I)I" } : Jvm.MethodName)).before a0 Z = true := hw _ (List.mem_of_getElem? (i := 119) rfl)
theorem tw120 {Z : State} {a0 : Array Value} (hw : ∀ d ∈ tables_1, d.before a0 Z = true) : (Jvm.Cond.code ({ cls := "com/example/vaatimus/vaatimus/io/PropertyIndex", name := "valueEnd", desc := "(I)I" } : Jvm.MethodName) prog_15_method_20_code (2 : Nat) (Option.some Jvm.ClassFile.FieldType.int)).before a0 Z = true := hw _ (List.mem_of_getElem? (i := 120) rfl)
theorem tw121 {Z : State} {a0 : Array Value} (hw : ∀ d ∈ tables_1, d.before a0 Z = true) : (Jvm.Cond.methodLink "com/example/vaatimus/vaatimus/io/PropertyIndexEndValuePinLaw" (33 : Nat) ({ cls := "com/example/vaatimus/vaatimus/io/PropertyIndex", name := "valueStart", desc := "(I)I" } : Jvm.MethodName)).before a0 Z = true := hw _ (List.mem_of_getElem? (i := 121) rfl)
theorem tw122 {Z : State} {a0 : Array Value} (hw : ∀ d ∈ tables_1, d.before a0 Z = true) : (Jvm.Cond.declares ({ cls := "com/example/vaatimus/vaatimus/io/PropertyIndex", name := "valueStart", desc := "(I)I" } : Jvm.MethodName)).before a0 Z = true := hw _ (List.mem_of_getElem? (i := 122) rfl)
theorem tw123 {Z : State} {a0 : Array Value} (hw : ∀ d ∈ tables_1, d.before a0 Z = true) : (Jvm.Cond.instanceMethod ({ cls := "com/example/vaatimus/vaatimus/io/PropertyIndex", name := "valueStart", desc := "(I)I" } : Jvm.MethodName)).before a0 Z = true := hw _ (List.mem_of_getElem? (i := 123) rfl)
theorem tw124 {Z : State} {a0 : Array Value} (hw : ∀ d ∈ tables_1, d.before a0 Z = true) : (Jvm.Cond.selects "com/example/vaatimus/vaatimus/io/PropertyIndex" ({ cls := "com/example/vaatimus/vaatimus/io/PropertyIndex", name := "valueStart", desc := "(I)I" } : Jvm.MethodName) ({ cls := "com/example/vaatimus/vaatimus/io/PropertyIndex", name := "valueStart", desc := "(I)I" } : Jvm.MethodName)).before a0 Z = true := hw _ (List.mem_of_getElem? (i := 124) rfl)
theorem tw125 {Z : State} {a0 : Array Value} (hw : ∀ d ∈ tables_1, d.before a0 Z = true) : (Jvm.Cond.code ({ cls := "com/example/vaatimus/vaatimus/io/PropertyIndex", name := "valueStart", desc := "(I)I" } : Jvm.MethodName) prog_15_method_19_code (2 : Nat) (Option.some Jvm.ClassFile.FieldType.int)).before a0 Z = true := hw _ (List.mem_of_getElem? (i := 125) rfl)
theorem tw126 {Z : State} {a0 : Array Value} (hw : ∀ d ∈ tables_1, d.before a0 Z = true) : (Jvm.Cond.methodLink "com/example/vaatimus/vaatimus/io/PropertyIndexEndValuePinLaw" (36 : Nat) ({ cls := "com/example/vaatimus/vaatimus/io/PropertyIndex", name := "line", desc := "(I)I" } : Jvm.MethodName)).before a0 Z = true := hw _ (List.mem_of_getElem? (i := 126) rfl)
theorem tw127 {Z : State} {a0 : Array Value} (hw : ∀ d ∈ tables_1, d.before a0 Z = true) : (Jvm.Cond.declares ({ cls := "com/example/vaatimus/vaatimus/io/PropertyIndex", name := "line", desc := "(I)I" } : Jvm.MethodName)).before a0 Z = true := hw _ (List.mem_of_getElem? (i := 127) rfl)
theorem tw128 {Z : State} {a0 : Array Value} (hw : ∀ d ∈ tables_1, d.before a0 Z = true) : (Jvm.Cond.instanceMethod ({ cls := "com/example/vaatimus/vaatimus/io/PropertyIndex", name := "line", desc := "(I)I" } : Jvm.MethodName)).before a0 Z = true := hw _ (List.mem_of_getElem? (i := 128) rfl)
theorem tw129 {Z : State} {a0 : Array Value} (hw : ∀ d ∈ tables_1, d.before a0 Z = true) : (Jvm.Cond.selects "com/example/vaatimus/vaatimus/io/PropertyIndex" ({ cls := "com/example/vaatimus/vaatimus/io/PropertyIndex", name := "line", desc := "(I)I" } : Jvm.MethodName) ({ cls := "com/example/vaatimus/vaatimus/io/PropertyIndex", name := "line", desc := "(I)I" } : Jvm.MethodName)).before a0 Z = true := hw _ (List.mem_of_getElem? (i := 129) rfl)
theorem tw130 {Z : State} {a0 : Array Value} (hw : ∀ d ∈ tables_1, d.before a0 Z = true) : (Jvm.Cond.code ({ cls := "com/example/vaatimus/vaatimus/io/PropertyIndex", name := "line", desc := "(I)I" } : Jvm.MethodName) prog_15_method_18_code (2 : Nat) (Option.some Jvm.ClassFile.FieldType.int)).before a0 Z = true := hw _ (List.mem_of_getElem? (i := 130) rfl)
theorem tw131 {Z : State} {a0 : Array Value} (hw : ∀ d ∈ tables_1, d.before a0 Z = true) : (Jvm.Cond.methodLink "com/example/vaatimus/vaatimus/io/PropertyIndex" (68 : Nat) ({ cls := "java/util/Arrays", name := "copyOf", desc := "([II)[I" } : Jvm.MethodName)).before a0 Z = true := hw _ (List.mem_of_getElem? (i := 131) rfl)
theorem tw132 {Z : State} {a0 : Array Value} (hw : ∀ d ∈ tables_1, d.before a0 Z = true) : (Jvm.Cond.static ({ cls := "java/util/Arrays", name := "copyOf", desc := "([II)[I" } : Jvm.MethodName)).before a0 Z = true := hw _ (List.mem_of_getElem? (i := 132) rfl)
theorem tw133 {Z : State} {a0 : Array Value} (hw : ∀ d ∈ tables_1, d.before a0 Z = true) : (Jvm.Cond.initialized "java/util/Arrays").before a0 Z = true := hw _ (List.mem_of_getElem? (i := 133) rfl)
theorem tw134 {Z : State} {a0 : Array Value} (hw : ∀ d ∈ tables_1, d.before a0 Z = true) : (Jvm.Cond.code ({ cls := "java/util/Arrays", name := "copyOf", desc := "([II)[I" } : Jvm.MethodName) jdk_65_method_123_code (3 : Nat) (Option.some (Jvm.ClassFile.FieldType.array Jvm.ClassFile.FieldType.int))).before a0 Z = true := hw _ (List.mem_of_getElem? (i := 134) rfl)
theorem tw135 {Z : State} {a0 : Array Value} (hw : ∀ d ∈ tables_1, d.before a0 Z = true) : (Jvm.Cond.methodLink "java/util/Arrays" (304 : Nat) ({ cls := "java/lang/Math", name := "min", desc := "(II)I" } : Jvm.MethodName)).before a0 Z = true := hw _ (List.mem_of_getElem? (i := 135) rfl)
theorem tw136 {Z : State} {a0 : Array Value} (hw : ∀ d ∈ tables_1, d.before a0 Z = true) : (Jvm.Cond.static ({ cls := "java/lang/Math", name := "min", desc := "(II)I" } : Jvm.MethodName)).before a0 Z = true := hw _ (List.mem_of_getElem? (i := 136) rfl)
theorem tw137 {Z : State} {a0 : Array Value} (hw : ∀ d ∈ tables_1, d.before a0 Z = true) : (Jvm.Cond.code ({ cls := "java/lang/Math", name := "min", desc := "(II)I" } : Jvm.MethodName) jdk_29_method_69_code (2 : Nat) (Option.some Jvm.ClassFile.FieldType.int)).before a0 Z = true := hw _ (List.mem_of_getElem? (i := 137) rfl)
theorem tw138 {Z : State} {a0 : Array Value} (hw : ∀ d ∈ tables_1, d.before a0 Z = true) : (Jvm.Cond.methodLink "java/util/Arrays" (150 : Nat) ({ cls := "java/lang/System", name := "arraycopy", desc := "(Ljava/lang/Object;ILjava/lang/Object;II)V" } : Jvm.MethodName)).before a0 Z = true := hw _ (List.mem_of_getElem? (i := 138) rfl)
theorem tw139 {Z : State} {a0 : Array Value} (hw : ∀ d ∈ tables_1, d.before a0 Z = true) : (Jvm.Cond.static ({ cls := "java/lang/System", name := "arraycopy", desc := "(Ljava/lang/Object;ILjava/lang/Object;II)V" } : Jvm.MethodName)).before a0 Z = true := hw _ (List.mem_of_getElem? (i := 139) rfl)
theorem tw140 {Z : State} {a0 : Array Value} (hw : ∀ d ∈ tables_1, d.before a0 Z = true) : (Jvm.Cond.initialized "java/lang/System").before a0 Z = true := hw _ (List.mem_of_getElem? (i := 140) rfl)
theorem tw141 {Z : State} {a0 : Array Value} (hw : ∀ d ∈ tables_1, d.before a0 Z = true) : (Jvm.Cond.native ({ cls := "java/lang/System", name := "arraycopy", desc := "(Ljava/lang/Object;ILjava/lang/Object;II)V" } : Jvm.MethodName)).before a0 Z = true := hw _ (List.mem_of_getElem? (i := 141) rfl)
theorem pd_0 : parseMethodDescriptor "(IILjava/util/function/BiFunction;)I" = some ⟨[.int, .int, (.object "java/util/function/BiFunction")], some .int⟩ := by decide +kernel
theorem pd_1 : parseMethodDescriptor "([CI[BII)I" = some ⟨[(.array .char), .int, (.array .byte), .int, .int], some .int⟩ := by decide +kernel
theorem pd_2 : parseMethodDescriptor "([CII)[B" = some ⟨[(.array .char), .int, .int], some (.array .byte)⟩ := by decide +kernel
theorem pd_3 : parseMethodDescriptor "([BI)B" = some ⟨[(.array .byte), .int], some .byte⟩ := by decide +kernel
theorem pd_4 : parseMethodDescriptor "([CIILjava/lang/Void;)V" = some ⟨[(.array .char), .int, .int, (.object "java/lang/Void")], none⟩ := by decide +kernel
theorem pd_5 : parseMethodDescriptor "([C)V" = some ⟨[(.array .char)], none⟩ := by decide +kernel
theorem pd_6 : parseMethodDescriptor "()V" = some ⟨[], none⟩ := by decide +kernel
theorem pd_7 : parseMethodDescriptor "(II)I" = some ⟨[.int, .int], some .int⟩ := by decide +kernel
theorem pd_8 : parseMethodDescriptor "(I)I" = some ⟨[.int], some .int⟩ := by decide +kernel
theorem pd_9 : parseMethodDescriptor "(Ljava/lang/String;Lcom/example/vaatimus/vaatimus/io/LineEnds;I)V" = some ⟨[(.object "java/lang/String"), (.object "com/example/vaatimus/vaatimus/io/LineEnds"), .int], none⟩ := by decide +kernel
theorem pd_10 : parseMethodDescriptor "()Z" = some ⟨[], some .boolean⟩ := by decide +kernel
theorem pd_11 : parseMethodDescriptor "(II)V" = some ⟨[.int, .int], none⟩ := by decide +kernel
theorem pd_12 : parseMethodDescriptor "([BI)C" = some ⟨[(.array .byte), .int], some .char⟩ := by decide +kernel
theorem pd_13 : parseMethodDescriptor "(I)C" = some ⟨[.int], some .char⟩ := by decide +kernel
theorem pd_14 : parseMethodDescriptor "(Ljava/lang/String;II)I" = some ⟨[(.object "java/lang/String"), .int, .int], some .int⟩ := by decide +kernel
theorem pd_15 : parseMethodDescriptor "(Ljava/lang/String;III)I" = some ⟨[(.object "java/lang/String"), .int, .int, .int], some .int⟩ := by decide +kernel
theorem pd_16 : parseMethodDescriptor "(IIIII)I" = some ⟨[.int, .int, .int, .int, .int], some .int⟩ := by decide +kernel
theorem pd_17 : parseMethodDescriptor "(I)V" = some ⟨[.int], none⟩ := by decide +kernel
theorem pd_18 : parseMethodDescriptor "()I" = some ⟨[], some .int⟩ := by decide +kernel
theorem pd_19 : parseMethodDescriptor "([II)[I" = some ⟨[(.array .int), .int], some (.array .int)⟩ := by decide +kernel
theorem pn_0 : plainName "jdk/internal/util/Preconditions" = true := by first | (simp [plainName, overriddenIn]; done) | decide +kernel
theorem pn_1 : plainName "java/lang/String" = true := by first | (simp [plainName, overriddenIn]; done) | decide +kernel
theorem pn_2 : plainName "java/lang/StringUTF16" = true := by first | (simp [plainName, overriddenIn]; done) | decide +kernel
theorem pn_3 : plainName "java/util/AbstractMap" = true := by first | (simp [plainName, overriddenIn]; done) | decide +kernel
theorem pn_4 : plainName "java/lang/Integer" = true := by first | (simp [plainName, overriddenIn]; done) | decide +kernel
theorem pn_5 : plainName "com/example/vaatimus/vaatimus/io/PropertyIndex" = true := by first | (simp [plainName, overriddenIn]; done) | decide +kernel
theorem pn_6 : plainName "java/lang/StringLatin1" = true := by first | (simp [plainName, overriddenIn]; done) | decide +kernel
theorem pn_7 : plainName "java/util/Arrays" = true := by first | (simp [plainName, overriddenIn]; done) | decide +kernel
theorem pn_8 : plainName "com/example/vaatimus/vaatimus/io/PropertyIndexEndValuePinLaw" = true := by first | (simp [plainName, overriddenIn]; done) | decide +kernel
abbrev xs0 : String := "(Ljava/lang/String;Lcom/example/vaatimus/vaatimus/io/LineEnds;I)V"
abbrev xs1 : String := "com/example/vaatimus/vaatimus/io/PropertyIndex"
abbrev xs2 : String := "Lcom/example/vaatimus/vaatimus/io/LineEnds;"
abbrev xs3 : String := "com/example/vaatimus/vaatimus/io/LineEnds"
abbrev xs4 : String := "(IILjava/util/function/BiFunction;)I"
abbrev xs5 : String := "jdk/internal/util/Preconditions"
abbrev xs6 : String := "Ljava/util/function/BiFunction;"
abbrev xs7 : String := "(Ljava/lang/String;III)I"
abbrev xs8 : String := "([CIILjava/lang/Void;)V"
abbrev xs9 : String := "(Ljava/lang/String;II)I"
abbrev xs10 : String := "java/lang/StringLatin1"
abbrev xs11 : String := "java/lang/StringUTF16"
abbrev xs12 : String := "java/util/AbstractMap"
abbrev xs13 : String := "numberOfLeadingZeros"
abbrev xs14 : String := "Ljava/lang/String;"
abbrev xs15 : String := "coderFromArrayLen"
abbrev xs16 : String := "java/lang/Integer"
abbrev xs17 : String := "SIOOBE_FORMATTER"
abbrev xs18 : String := "java/lang/String"
abbrev xs19 : String := "java/util/Arrays"
abbrev xs20 : String := "COMPACT_STRINGS"
abbrev xs21 : String := "java/lang/Math"
abbrev xm0 : MethodName := (⟨xs11, "compress", "([CI[BII)I"⟩ : MethodName)
abbrev xm1 : MethodName := (⟨xs16, "highestOneBit", "(I)I"⟩ : MethodName)
abbrev xm2 : MethodName := (⟨xs11, "compress", "([CII)[B"⟩ : MethodName)
abbrev xm3 : MethodName := (⟨xs18, "checkIndex", "(II)V"⟩ : MethodName)
abbrev xm4 : MethodName := (⟨xs1, "valueStart", "(I)I"⟩ : MethodName)
abbrev xm5 : MethodName := (⟨xs19, "copyOf", "([II)[I"⟩ : MethodName)
abbrev xm6 : MethodName := (⟨xs10, "charAt", "([BI)C"⟩ : MethodName)
abbrev xm7 : MethodName := (⟨xs18, "<init>", "([C)V"⟩ : MethodName)
abbrev xm8 : MethodName := (⟨xs18, "isLatin1", "()Z"⟩ : MethodName)
abbrev xm9 : MethodName := (⟨xs1, "endValue", "(I)V"⟩ : MethodName)
abbrev xm10 : MethodName := (⟨xs1, "valueEnd", "(I)I"⟩ : MethodName)
abbrev xm11 : MethodName := (⟨xs5, "checkIndex", xs4⟩ : MethodName)
abbrev xm12 : MethodName := (⟨xs18, "charAt", "(I)C"⟩ : MethodName)
abbrev xm13 : MethodName := (⟨xs1, "add", "(IIIII)I"⟩ : MethodName)
abbrev xm14 : MethodName := (⟨xs12, "<init>", "()V"⟩ : MethodName)
abbrev xm15 : MethodName := (⟨xs1, "plainHash", xs9⟩ : MethodName)
abbrev xm16 : MethodName := (⟨xs11, xs15, "([BI)B"⟩ : MethodName)
abbrev xm17 : MethodName := (⟨xs21, "max", "(II)I"⟩ : MethodName)
abbrev xm18 : MethodName := (⟨xs21, "min", "(II)I"⟩ : MethodName)
abbrev xm19 : MethodName := (⟨xs18, "<init>", xs8⟩ : MethodName)
abbrev xm20 : MethodName := (⟨xs1, "line", "(I)I"⟩ : MethodName)
abbrev xm21 : MethodName := (⟨xs16, xs13, "(I)I"⟩ : MethodName)
abbrev xm22 : MethodName := (⟨xs1, "<init>", xs0⟩ : MethodName)
abbrev xm23 : MethodName := (⟨xs1, "size", "()I"⟩ : MethodName)
abbrev xm24 : MethodName := (⟨xs1, "hash", xs9⟩ : MethodName)
abbrev xm25 : MethodName := (⟨xs1, "slot", xs7⟩ : MethodName)
abbrev xr0 : Room := ({ frames := 2, cells := 2, slots := 10, locals := 28 } : Room)
abbrev xr1 : Room := ({ frames := 1, cells := 1, slots := 12, locals := 18 } : Room)
abbrev xr2 : Room := ({ frames := 6, cells := 1, slots := 12, locals := 85 } : Room)
abbrev xr3 : Room := ({ frames := 1, cells := 0, slots := 0, locals := 14 } : Room)
abbrev xr4 : Room := ({ frames := 1, cells := 1, slots := 2, locals := 18 } : Room)
abbrev xr5 : Room := ({ frames := 2, cells := 1, slots := 2, locals := 35 } : Room)
abbrev xr6 : Room := ({ frames := 3, cells := 1, slots := 2, locals := 52 } : Room)
abbrev xr7 : Room := ({ frames := 1, cells := 0, slots := 0, locals := 12 } : Room)
abbrev xr8 : Room := ({ frames := 1, cells := 0, slots := 0, locals := 15 } : Room)
abbrev xr9 : Room := ({ frames := 2, cells := 0, slots := 0, locals := 27 } : Room)
abbrev xr10 : Room := ({ frames := 3, cells := 0, slots := 0, locals := 40 } : Room)
abbrev xr11 : Room := ({ frames := 4, cells := 0, slots := 0, locals := 54 } : Room)
abbrev xr12 : Room := ({ frames := 5, cells := 0, slots := 0, locals := 70 } : Room)
abbrev xr13 : Room := ({ frames := 6, cells := 0, slots := 0, locals := 85 } : Room)
abbrev xr14 : Room := ({ frames := 0, cells := 0, slots := 0, locals := 0 } : Room)
theorem ef_pchk_n (m : MethodId) (x0 : Int32) (x1 : Int32) : entryFrame m #[(.int x0), (.int x1), .null] 3 = mkF m 0 #[.val (.int x0), .val (.int x1), .val .null] [] := by first | (simp [entryFrame, mkF, argsToLocals, Value.category]; done) | rfl
def Q_pchk_n (Z : State) (ix : Int32) (ln : Int32) (h0 : Heap) (n0 : Nat) (v : Option Value) (h : Heap) (L : List Loc) : Prop := v = some (.int ix) ∧ Fr n0 L ∧ h = h0
set_option maxRecDepth 65536 in
set_option maxHeartbeats 40000000 in
theorem rm_pchk_n (l : Launch) (Z : State) (a0 : Array Value) (hw : ∀ d ∈ tables_1, d.before a0 Z = true) (ws : List Jvm.Cond) (ix : Int32) (ln : Int32) (h0 : Heap) (n0 : Nat) (Z0 : n0 ≤ h0.size) (h1 : ¬ ix < (0 : Int32)) (h2 : ix < ln) :
    MetFree l xm11 (head1 (Jvm.Cond.code xm11 jdk_41_method_11_code 3 (some .int) :: ws) xr14) (fun a U => a = #[(.int ix), (.int ln), .null] ∧ Z.Warmed39 U.vm ∧ U.heap = h0) (fun _ _ _ _ _ => True) (fun _ U o U' => ∃ v L, o = .returned v ∧ Q_pchk_n Z ix ln h0 n0 v U'.heap L ∧ FrameEnd U o U' L xr14.cells xr14.slots) := by
  refine MetFree.of_bodySF (plainFor_of_name pn_0) hisR ?_
  intro p e s m args below meth c s₁ Bd hml0 hP hK
  obtain ⟨rfl, hZ, hh⟩ := hP
  have hx := Bd.exec
  have hby := Bd.bytes
  have hlk : meth.locks = false := BodyLoose.notSynchronized Bd
  have hml : c.maxLocals = 3 := hml0
  have hown : s.vm.findClass xs5 = some m.cls := findClass_of_methodNamed Bd.named
  have hnm := (name_of_methodNamed Bd.named Bd.method).1
  have X0 : Stand p l e xr14 s m #[(.int ix), (.int ln), .null] below meth c s₁ [] 0 0 := Stand.of_body Bd
  have e0 : s₁.heap = h0 := by rw [← hh, Bd.state]; rfl
  have N0 := Fr.nil n0
  show Go p e below s (Q_pchk_n Z ix ln h0 n0) xr14.cells xr14.slots s₁ (entryFrame m #[(.int ix), (.int ln), .null] 3)
  refine Go.cast (ef_pchk_n m ix ln) ?_
  show Go p e below s _ _ _ s₁ (mkF m 0 #[.val (.int ix), .val (.int ln), .val .null] [])
  refine Go.step (fun _ k => XS.iloadN X0.here hx rfl (hb hby d0_0) rfl (XS.ifNo X0.here hx rfl (hb hby d0_1) rfl ((if0 _ _).trans (flt h1).1) (XS.iloadN X0.here hx rfl (hb hby d0_4) rfl (XS.iloadN X0.here hx rfl (hb hby d0_5) rfl (XS.icmpYes X0.here hx rfl (pc0 := 6) (pc' := 16) rfl (hb hby d0_6) rfl (tlt h2).1 (by decide) (by decide) (XS.iloadN X0.here hx rfl (hb hby d0_16) rfl k)))))) ?_
  show Go p e below s _ _ _ s₁ (mkF m 17 #[.val (.int ix), .val (.int ln), .val .null] [(.int ix)])
  exact Go.retI X0 hx hlk Bd.returns (hb hby d0_17) e0 ⟨rfl, N0, rfl⟩ (by decide) (by decide)

theorem ef_pchk_r (m : MethodId) (x0 : Int32) (x1 : Int32) (x2 : Addr) : entryFrame m #[(.int x0), (.int x1), (.ref x2)] 3 = mkF m 0 #[.val (.int x0), .val (.int x1), .val (.ref x2)] [] := by first | (simp [entryFrame, mkF, argsToLocals, Value.category]; done) | rfl
def Q_pchk_r (Z : State) (ix : Int32) (ln : Int32) (fa : Addr) (h0 : Heap) (n0 : Nat) (v : Option Value) (h : Heap) (L : List Loc) : Prop := v = some (.int ix) ∧ Fr n0 L ∧ h = h0
set_option maxRecDepth 65536 in
set_option maxHeartbeats 40000000 in
theorem rm_pchk_r (l : Launch) (Z : State) (a0 : Array Value) (hw : ∀ d ∈ tables_1, d.before a0 Z = true) (ws : List Jvm.Cond) (ix : Int32) (ln : Int32) (fa : Addr) (h0 : Heap) (n0 : Nat) (Z0 : n0 ≤ h0.size) (h1 : ¬ ix < (0 : Int32)) (h2 : ix < ln) :
    MetFree l xm11 (head1 (Jvm.Cond.code xm11 jdk_41_method_11_code 3 (some .int) :: ws) xr14) (fun a U => a = #[(.int ix), (.int ln), (.ref fa)] ∧ Z.Warmed39 U.vm ∧ U.heap = h0) (fun _ _ _ _ _ => True) (fun _ U o U' => ∃ v L, o = .returned v ∧ Q_pchk_r Z ix ln fa h0 n0 v U'.heap L ∧ FrameEnd U o U' L xr14.cells xr14.slots) := by
  refine MetFree.of_bodySF (plainFor_of_name pn_0) hisR ?_
  intro p e s m args below meth c s₁ Bd hml0 hP hK
  obtain ⟨rfl, hZ, hh⟩ := hP
  have hx := Bd.exec
  have hby := Bd.bytes
  have hlk : meth.locks = false := BodyLoose.notSynchronized Bd
  have hml : c.maxLocals = 3 := hml0
  have hown : s.vm.findClass xs5 = some m.cls := findClass_of_methodNamed Bd.named
  have hnm := (name_of_methodNamed Bd.named Bd.method).1
  have X0 : Stand p l e xr14 s m #[(.int ix), (.int ln), (.ref fa)] below meth c s₁ [] 0 0 := Stand.of_body Bd
  have e0 : s₁.heap = h0 := by rw [← hh, Bd.state]; rfl
  have N0 := Fr.nil n0
  show Go p e below s (Q_pchk_r Z ix ln fa h0 n0) xr14.cells xr14.slots s₁ (entryFrame m #[(.int ix), (.int ln), (.ref fa)] 3)
  refine Go.cast (ef_pchk_r m ix ln fa) ?_
  show Go p e below s _ _ _ s₁ (mkF m 0 #[.val (.int ix), .val (.int ln), .val (.ref fa)] [])
  refine Go.step (fun _ k => XS.iloadN X0.here hx rfl (hb hby d0_0) rfl (XS.ifNo X0.here hx rfl (hb hby d0_1) rfl ((if0 _ _).trans (flt h1).1) (XS.iloadN X0.here hx rfl (hb hby d0_4) rfl (XS.iloadN X0.here hx rfl (hb hby d0_5) rfl (XS.icmpYes X0.here hx rfl (pc0 := 6) (pc' := 16) rfl (hb hby d0_6) rfl (tlt h2).1 (by decide) (by decide) (XS.iloadN X0.here hx rfl (hb hby d0_16) rfl k)))))) ?_
  show Go p e below s _ _ _ s₁ (mkF m 17 #[.val (.int ix), .val (.int ln), .val (.ref fa)] [(.int ix)])
  exact Go.retI X0 hx hlk Bd.returns (hb hby d0_17) e0 ⟨rfl, N0, rfl⟩ (by decide) (by decide)

theorem ef_schk (m : MethodId) (x0 : Int32) (x1 : Int32) : entryFrame m #[(.int x0), (.int x1)] 2 = mkF m 0 #[.val (.int x0), .val (.int x1)] [] := by first | (simp [entryFrame, mkF, argsToLocals, Value.category]; done) | rfl
def Q_schk (Z : State) (ix : Int32) (ln : Int32) (fv : Value) (h0 : Heap) (n0 : Nat) (v : Option Value) (h : Heap) (L : List Loc) : Prop := v = none ∧ Fr n0 L ∧ h = h0
set_option maxRecDepth 65536 in
set_option maxHeartbeats 40000000 in
theorem rm_schk (l : Launch) (Z : State) (a0 : Array Value) (hw : ∀ d ∈ tables_1, d.before a0 Z = true) (ws : List Jvm.Cond) (ix : Int32) (ln : Int32) (fv : Value) (h0 : Heap) (n0 : Nat) (Z0 : n0 ≤ h0.size) (O0 : Old Z n0 h0) (Z_S_SIOOBE_FORMATTER : Sta Z Z.heap xs5 xs17 xs6 fv) (hfv : fv.isRef = true) (h1 : ¬ ix < (0 : Int32)) (h2 : ix < ln) :
    MetFree l xm3 (head1 (Jvm.Cond.code xm3 jdk_42_method_155_code 2 none :: ws) xr3) (fun a U => a = #[(.int ix), (.int ln)] ∧ Z.Warmed39 U.vm ∧ U.heap = h0) (fun _ _ _ _ _ => True) (fun _ U o U' => ∃ v L, o = .returned v ∧ Q_schk Z ix ln fv h0 n0 v U'.heap L ∧ FrameEnd U o U' L xr3.cells xr3.slots) := by
  refine MetFree.of_bodySF (plainFor_of_name pn_1) hisR ?_
  intro p e s m args below meth c s₁ Bd hml0 hP hK
  obtain ⟨rfl, hZ, hh⟩ := hP
  have hx := Bd.exec
  have hby := Bd.bytes
  have hlk : meth.locks = false := BodyLoose.notSynchronized Bd
  have hml : c.maxLocals = 2 := hml0
  have hown : s.vm.findClass xs18 = some m.cls := findClass_of_methodNamed Bd.named
  have hnm := (name_of_methodNamed Bd.named Bd.method).1
  have X0 : Stand p l e xr3 s m #[(.int ix), (.int ln)] below meth c s₁ [] 0 0 := Stand.of_body Bd
  have e0 : s₁.heap = h0 := by rw [← hh, Bd.state]; rfl
  have N0 := Fr.nil n0
  show Go p e below s (Q_schk Z ix ln fv h0 n0) xr3.cells xr3.slots s₁ (entryFrame m #[(.int ix), (.int ln)] 2)
  refine Go.cast (ef_schk m ix ln) ?_
  show Go p e below s _ _ _ s₁ (mkF m 0 #[.val (.int ix), .val (.int ln)] [])
  refine Go.step (fun _ k => XS.iloadN X0.here hx rfl (hb hby d1_0) rfl (XS.iloadN X0.here hx rfl (hb hby d1_1) rfl k)) ?_
  show Go p e below s _ _ _ s₁ (mkF m 2 #[.val (.int ix), .val (.int ln)] [(.int ln), (.int ix)])
  obtain ⟨T1, X1, e1, st1⟩ := getS2 X0 hx hZ hown (host := "") (Or.inl (tw95 hw)) Via.refl e0 (Z_S_SIOOBE_FORMATTER.ext O0.2) (g := (mkF m 2 #[.val (.int ix), .val (.int ln)] [(.int ln), (.int ix)])) rfl (hb hby d1_2)
  refine Go.step (fun _ k => st1 _ k) ?_
  show Go p e below s _ _ _ T1 (mkF m 5 #[.val (.int ix), .val (.int ln)] [fv, (.int ln), (.int ix)])
  rcases ref_cases hfv with rfl | ⟨fa, rfl⟩
  · show Go p e below s _ _ _ T1 (mkF m 5 #[.val (.int ix), .val (.int ln)] [.null, (.int ln), (.int ix)])
    obtain ⟨_, _, ⟨T2, L2, k2, n2⟩, -, X2, ⟨Lc2, hQ2, l2, y2, z2⟩, st2⟩ := Jvm.LawKit.callS X1 hx (y := xm11) hown (mvT hZ (tw97 hw)) (mvT hZ (tw98 hw)) (mvT hZ (tw96 hw)) (mvT hZ (tw99 hw)) (by decide) (backOf (W := 0) (rm_pchk_n l Z a0 hw [] ix ln h0 n0 Z0 h1 h2) hZ (tw99 hw) (tw96 hw) (by decide) (by decide)) (g := (mkF m 5 #[.val (.int ix), .val (.int ln)] [.null, (.int ln), (.int ix)])) rfl (by rw [hml]; rfl) (argsL := [(.int ix), (.int ln), .null]) (rest := []) (lenOf pd_0 rfl) rfl (by show 2 * 0 + _ ≤ _; exact Nat.le_of_eq rfl) (hb hby d1_5) (fun _ _ => ⟨rfl, e1, (by decide : 0 + 0 ≤ _), (by decide : 0 + 0 ≤ _)⟩)
    dsimp only [Pt.U, Pt.locs, Pt.cells, Pt.slots] at X2 l2 y2 z2 st2 hQ2
    subst l2 y2 z2
    obtain ⟨rfl, N2q, eq2⟩ := hQ2
    have N3 := Fr.app N0 N2q
    refine Go.step (fun _ k => st2 _ (XS.pop X2.here hx rfl (hb hby d1_8) rfl rfl k)) ?_
    show Go p e below s _ _ _ T2 (mkF m 9 #[.val (.int ix), .val (.int ln)] [])
    exact Go.retV X2 hx hlk Bd.returns (hb hby d1_9) eq2 ⟨rfl, N3, rfl⟩ (by decide) (by decide)
  · show Go p e below s _ _ _ T1 (mkF m 5 #[.val (.int ix), .val (.int ln)] [(.ref fa), (.int ln), (.int ix)])
    obtain ⟨_, _, ⟨T4, L4, k4, n4⟩, -, X4, ⟨Lc4, hQ4, l4, y4, z4⟩, st4⟩ := Jvm.LawKit.callS X1 hx (y := xm11) hown (mvT hZ (tw97 hw)) (mvT hZ (tw98 hw)) (mvT hZ (tw96 hw)) (mvT hZ (tw99 hw)) (by decide) (backOf (W := 0) (rm_pchk_r l Z a0 hw [] ix ln fa h0 n0 Z0 h1 h2) hZ (tw99 hw) (tw96 hw) (by decide) (by decide)) (g := (mkF m 5 #[.val (.int ix), .val (.int ln)] [(.ref fa), (.int ln), (.int ix)])) rfl (by rw [hml]; rfl) (argsL := [(.int ix), (.int ln), (.ref fa)]) (rest := []) (lenOf pd_0 rfl) rfl (by show 2 * 0 + _ ≤ _; exact Nat.le_of_eq rfl) (hb hby d1_5) (fun _ _ => ⟨rfl, e1, (by decide : 0 + 0 ≤ _), (by decide : 0 + 0 ≤ _)⟩)
    dsimp only [Pt.U, Pt.locs, Pt.cells, Pt.slots] at X4 l4 y4 z4 st4 hQ4
    subst l4 y4 z4
    obtain ⟨rfl, N4q, eq4⟩ := hQ4
    have N5 := Fr.app N0 N4q
    refine Go.step (fun _ k => st4 _ (XS.pop X4.here hx rfl (hb hby d1_8) rfl rfl k)) ?_
    show Go p e below s _ _ _ T4 (mkF m 9 #[.val (.int ix), .val (.int ln)] [])
    exact Go.retV X4 hx hlk Bd.returns (hb hby d1_9) eq4 ⟨rfl, N5, rfl⟩ (by decide) (by decide)

theorem ef_StringUTF16_compress_1 (m : MethodId) (x0 : Addr) (x1 : Int32) (x2 : Addr) (x3 : Int32) (x4 : Int32) : entryFrame m #[(.ref x0), (.int x1), (.ref x2), (.int x3), (.int x4)] 7 = mkF m 0 #[.val (.ref x0), .val (.int x1), .val (.ref x2), .val (.int x3), .val (.int x4), .unset, .unset] [] := by first | (simp [entryFrame, mkF, argsToLocals, Value.category]; done) | rfl
def Q_StringUTF16_compress_1 (Z : State) (b9 : Addr) (b22 : Addr) (k9 : ClassId) (k22 : ClassId) (h0 : Heap) (n0 : Nat) (v : Option Value) (h : Heap) (L : List Loc) : Prop := v = some (.int (2 : Int32)) ∧ Fr n0 L ∧ Keep h0 h [b22] ∧ Arv Z h b22 k22 .byte (2 : Int32) [(.int (97 : Int32)), (.int (98 : Int32))] (.int (0 : Int32))
set_option maxRecDepth 65536 in
set_option maxHeartbeats 40000000 in
theorem rm_StringUTF16_compress_1 (l : Launch) (Z : State) (a0 : Array Value) (hw : ∀ d ∈ tables_1, d.before a0 Z = true) (ws : List Jvm.Cond) (b9 : Addr) (b22 : Addr) (k9 : ClassId) (k22 : ClassId) (h0 : Heap) (n0 : Nat) (Z0 : n0 ≤ h0.size) (V_b9 : Arv Z h0 b9 k9 .char (2 : Int32) [(.int (97 : Int32)), (.int (98 : Int32))] (.int (0 : Int32))) (V_b22 : Arv Z h0 b22 k22 .byte (2 : Int32) [(.int (0 : Int32)), (.int (0 : Int32))] (.int (0 : Int32))) (g_b22 : n0 ≤ b22) (ne_b9_b22 : b9 ≠ b22) :
    MetFree l xm0 (head1 (Jvm.Cond.code xm0 jdk_52_method_21_code 7 (some .int) :: ws) xr14) (fun a U => a = #[(.ref b9), (.int (0 : Int32)), (.ref b22), (.int (0 : Int32)), (.int (2 : Int32))] ∧ Z.Warmed39 U.vm ∧ U.heap = h0) (fun _ _ _ _ _ => True) (fun _ U o U' => ∃ v L, o = .returned v ∧ Q_StringUTF16_compress_1 Z b9 b22 k9 k22 h0 n0 v U'.heap L ∧ FrameEnd U o U' L xr14.cells xr14.slots) := by
  refine MetFree.of_bodySF (plainFor_of_name pn_2) hisR ?_
  intro p e s m args below meth c s₁ Bd hml0 hP hK
  obtain ⟨rfl, hZ, hh⟩ := hP
  have hx := Bd.exec
  have hby := Bd.bytes
  have hlk : meth.locks = false := BodyLoose.notSynchronized Bd
  have hml : c.maxLocals = 7 := hml0
  have hown : s.vm.findClass xs11 = some m.cls := findClass_of_methodNamed Bd.named
  have hnm := (name_of_methodNamed Bd.named Bd.method).1
  have X0 : Stand p l e xr14 s m #[(.ref b9), (.int (0 : Int32)), (.ref b22), (.int (0 : Int32)), (.int (2 : Int32))] below meth c s₁ [] 0 0 := Stand.of_body Bd
  have e0 : s₁.heap = h0 := by rw [← hh, Bd.state]; rfl
  have N0 := Fr.nil n0
  show Go p e below s (Q_StringUTF16_compress_1 Z b9 b22 k9 k22 h0 n0) xr14.cells xr14.slots s₁ (entryFrame m #[(.ref b9), (.int (0 : Int32)), (.ref b22), (.int (0 : Int32)), (.int (2 : Int32))] 7)
  refine Go.cast (ef_StringUTF16_compress_1 m b9 (0 : Int32) b22 (0 : Int32) (2 : Int32)) ?_
  show Go p e below s _ _ _ s₁ (mkF m 0 #[.val (.ref b9), .val (.int (0 : Int32)), .val (.ref b22), .val (.int (0 : Int32)), .val (.int (2 : Int32)), .unset, .unset] [])
  refine Go.step (fun _ k => XS.iconst X0.here hx rfl (hb hby d5_0) (XS.istore X0.here hx rfl (hb hby d5_1) rfl (l' := #[.val (.ref b9), .val (.int (0 : Int32)), .val (.ref b22), .val (.int (0 : Int32)), .val (.int (2 : Int32)), .val (.int (0 : Int32)), .unset]) rfl (XS.iload X0.here hx rfl (hb hby d5_3) rfl (XS.iload X0.here hx rfl (hb hby d5_5) rfl (XS.icmpNo X0.here hx rfl (hb hby d5_7) rfl (tlt (by decide)).2.1 (XS.aloadN X0.here hx rfl (hb hby d5_10) rfl rfl (XS.iloadN X0.here hx rfl (hb hby d5_11) rfl k))))))) ?_
  show Go p e below s _ _ _ s₁ (mkF m 12 #[.val (.ref b9), .val (.int (0 : Int32)), .val (.ref b22), .val (.int (0 : Int32)), .val (.int (2 : Int32)), .val (.int (0 : Int32)), .unset] [(.int (0 : Int32)), (.ref b9)])
  obtain ⟨cl24, Ar24, -, Sz24, Ng24, Hs24, Ft24⟩ := id V_b9
  have in24 : ¬ ((0 : Int32) < 0 ∨ cl24.slots.size ≤ ((0 : Int32)).toNatClampNeg) := (inb_of Sz24 ⟨by decide, by decide⟩)
  have at24 : cl24.slots[((0 : Int32)).toNatClampNeg]? = some (.int (97 : Int32)) := Hs24.at in24 rfl
  refine Go.step (fun _ k => X0.caload hx (j := (0 : Int32)) (v := (.int (97 : Int32))) (by rw [e0]; exact Ar24.1) (State.isArrayOf_alike hZ.alike Ar24.2.1) Ar24.2.2 in24 at24 (g := (mkF m 12 #[.val (.ref b9), .val (.int (0 : Int32)), .val (.ref b22), .val (.int (0 : Int32)), .val (.int (2 : Int32)), .val (.int (0 : Int32)), .unset] [(.int (0 : Int32)), (.ref b9)])) rfl rfl (hb hby d5_12) _ (XS.istore X0.here hx rfl (hb hby d5_13) rfl (l' := #[.val (.ref b9), .val (.int (0 : Int32)), .val (.ref b22), .val (.int (0 : Int32)), .val (.int (2 : Int32)), .val (.int (0 : Int32)), .val (.int (97 : Int32))]) rfl (XS.iload X0.here hx rfl (hb hby d5_15) rfl (XS.sipush X0.here hx rfl (hb hby d5_17) (XS.icmpYes X0.here hx rfl (pc0 := 20) (pc' := 26) rfl (hb hby d5_20) rfl (flt (by decide)).2.2.2 (by decide) (by decide) (XS.aloadN X0.here hx rfl (hb hby d5_26) rfl rfl (XS.iloadN X0.here hx rfl (hb hby d5_27) rfl (XS.iload X0.here hx rfl (hb hby d5_28) rfl (XS.i2b X0.here hx rfl (hb hby d5_30) rfl k))))))))) ?_
  show Go p e below s _ _ _ s₁ (mkF m 31 #[.val (.ref b9), .val (.int (0 : Int32)), .val (.ref b22), .val (.int (0 : Int32)), .val (.int (2 : Int32)), .val (.int (0 : Int32)), .val (.int (97 : Int32))] [(.int (97 : Int32)), (.int (0 : Int32)), (.ref b22)])
  obtain ⟨cl25, Ar25, qq25, Sz25, Ng25, Hs25, Ft25⟩ := id V_b22
  have in25 : ¬ ((0 : Int32) < 0 ∨ cl25.slots.size ≤ ((0 : Int32)).toNatClampNeg) := (inb_of Sz25 ⟨by decide, by decide⟩)
  obtain ⟨T25, h25, X25, e25, W25, st25⟩ := stB X0 hx hZ e0 Ar25 (j := (0 : Int32)) in25 (g := (mkF m 31 #[.val (.ref b9), .val (.int (0 : Int32)), .val (.ref b22), .val (.int (0 : Int32)), .val (.int (2 : Int32)), .val (.int (0 : Int32)), .val (.int (97 : Int32))] [(.int (97 : Int32)), (.int (0 : Int32)), (.ref b22)])) rfl rfl (hb hby d5_31)
  have f27 : Arv Z h25 b22 k22 .byte (2 : Int32) [(.int (97 : Int32)), (.int (0 : Int32))] (.int (0 : Int32)) := Arv.set Ar25 qq25 Sz25 Ng25 Hs25 Ft25 rfl W25 0 rfl (Nat.le_of_ble_eq_true rfl)
  have N28 := Fr.snoc X25 N0 g_b22
  refine Go.step (fun _ k => st25 _ (XS.iinc X25.here hx rfl (hb hby d5_32) rfl (l' := #[.val (.ref b9), .val (.int ((0 : Int32) + (1 : Int32))), .val (.ref b22), .val (.int (0 : Int32)), .val (.int (2 : Int32)), .val (.int (0 : Int32)), .val (.int (97 : Int32))]) rfl (XS.iinc X25.here hx rfl (hb hby d5_35) rfl (l' := #[.val (.ref b9), .val (.int (1 : Int32)), .val (.ref b22), .val (.int ((0 : Int32) + (1 : Int32))), .val (.int (2 : Int32)), .val (.int (0 : Int32)), .val (.int (97 : Int32))]) rfl (XS.iinc X25.here hx rfl (hb hby d5_38) rfl (l' := #[.val (.ref b9), .val (.int (1 : Int32)), .val (.ref b22), .val (.int (1 : Int32)), .val (.int (2 : Int32)), .val (.int ((0 : Int32) + (1 : Int32))), .val (.int (97 : Int32))]) rfl (XS.goto X25.here hx rfl (pc0 := 41) (pc' := 3) rfl (hb hby d5_41) (by decide) (by decide) (XS.iload X25.here hx rfl (hb hby d5_3) rfl (XS.iload X25.here hx rfl (hb hby d5_5) rfl (XS.icmpNo X25.here hx rfl (hb hby d5_7) rfl (tlt (by decide)).2.1 (XS.aloadN X25.here hx rfl (hb hby d5_10) rfl rfl (XS.iloadN X25.here hx rfl (hb hby d5_11) rfl k)))))))))) ?_
  show Go p e below s _ _ _ T25 (mkF m 12 #[.val (.ref b9), .val (.int (1 : Int32)), .val (.ref b22), .val (.int (1 : Int32)), .val (.int (2 : Int32)), .val (.int (1 : Int32)), .val (.int (97 : Int32))] [(.int (1 : Int32)), (.ref b9)])
  have f30 := (V_b9.other W25 ne_b9_b22)
  obtain ⟨cl31, Ar31, -, Sz31, Ng31, Hs31, Ft31⟩ := id f30
  have in31 : ¬ ((1 : Int32) < 0 ∨ cl31.slots.size ≤ ((1 : Int32)).toNatClampNeg) := (inb_of Sz31 ⟨by decide, by decide⟩)
  have at31 : cl31.slots[((1 : Int32)).toNatClampNeg]? = some (.int (98 : Int32)) := Hs31.at in31 rfl
  refine Go.step (fun _ k => X25.caload hx (j := (1 : Int32)) (v := (.int (98 : Int32))) (by rw [e25]; exact Ar31.1) (State.isArrayOf_alike hZ.alike Ar31.2.1) Ar31.2.2 in31 at31 (g := (mkF m 12 #[.val (.ref b9), .val (.int (1 : Int32)), .val (.ref b22), .val (.int (1 : Int32)), .val (.int (2 : Int32)), .val (.int (1 : Int32)), .val (.int (97 : Int32))] [(.int (1 : Int32)), (.ref b9)])) rfl rfl (hb hby d5_12) _ (XS.istore X25.here hx rfl (hb hby d5_13) rfl (l' := #[.val (.ref b9), .val (.int (1 : Int32)), .val (.ref b22), .val (.int (1 : Int32)), .val (.int (2 : Int32)), .val (.int (1 : Int32)), .val (.int (98 : Int32))]) rfl (XS.iload X25.here hx rfl (hb hby d5_15) rfl (XS.sipush X25.here hx rfl (hb hby d5_17) (XS.icmpYes X25.here hx rfl (pc0 := 20) (pc' := 26) rfl (hb hby d5_20) rfl (flt (by decide)).2.2.2 (by decide) (by decide) (XS.aloadN X25.here hx rfl (hb hby d5_26) rfl rfl (XS.iloadN X25.here hx rfl (hb hby d5_27) rfl (XS.iload X25.here hx rfl (hb hby d5_28) rfl (XS.i2b X25.here hx rfl (hb hby d5_30) rfl k))))))))) ?_
  show Go p e below s _ _ _ T25 (mkF m 31 #[.val (.ref b9), .val (.int (1 : Int32)), .val (.ref b22), .val (.int (1 : Int32)), .val (.int (2 : Int32)), .val (.int (1 : Int32)), .val (.int (98 : Int32))] [(.int (98 : Int32)), (.int (1 : Int32)), (.ref b22)])
  obtain ⟨cl32, Ar32, qq32, Sz32, Ng32, Hs32, Ft32⟩ := id f27
  have in32 : ¬ ((1 : Int32) < 0 ∨ cl32.slots.size ≤ ((1 : Int32)).toNatClampNeg) := (inb_of Sz32 ⟨by decide, by decide⟩)
  obtain ⟨T32, h32, X32, e32, W32, st32⟩ := stB X25 hx hZ e25 Ar32 (j := (1 : Int32)) in32 (g := (mkF m 31 #[.val (.ref b9), .val (.int (1 : Int32)), .val (.ref b22), .val (.int (1 : Int32)), .val (.int (2 : Int32)), .val (.int (1 : Int32)), .val (.int (98 : Int32))] [(.int (98 : Int32)), (.int (1 : Int32)), (.ref b22)])) rfl rfl (hb hby d5_31)
  have f33 : Arv Z h32 b22 k22 .byte (2 : Int32) [(.int (97 : Int32)), (.int (98 : Int32))] (.int (0 : Int32)) := Arv.set Ar32 qq32 Sz32 Ng32 Hs32 Ft32 rfl W32 1 rfl (Nat.le_of_ble_eq_true rfl)
  have N34 := Fr.snoc X32 N28 g_b22
  refine Go.step (fun _ k => st32 _ (XS.iinc X32.here hx rfl (hb hby d5_32) rfl (l' := #[.val (.ref b9), .val (.int ((1 : Int32) + (1 : Int32))), .val (.ref b22), .val (.int (1 : Int32)), .val (.int (2 : Int32)), .val (.int (1 : Int32)), .val (.int (98 : Int32))]) rfl (XS.iinc X32.here hx rfl (hb hby d5_35) rfl (l' := #[.val (.ref b9), .val (.int (2 : Int32)), .val (.ref b22), .val (.int ((1 : Int32) + (1 : Int32))), .val (.int (2 : Int32)), .val (.int (1 : Int32)), .val (.int (98 : Int32))]) rfl (XS.iinc X32.here hx rfl (hb hby d5_38) rfl (l' := #[.val (.ref b9), .val (.int (2 : Int32)), .val (.ref b22), .val (.int (2 : Int32)), .val (.int (2 : Int32)), .val (.int ((1 : Int32) + (1 : Int32))), .val (.int (98 : Int32))]) rfl (XS.goto X32.here hx rfl (pc0 := 41) (pc' := 3) rfl (hb hby d5_41) (by decide) (by decide) (XS.iload X32.here hx rfl (hb hby d5_3) rfl (XS.iload X32.here hx rfl (hb hby d5_5) rfl (XS.icmpYes X32.here hx rfl (pc0 := 7) (pc' := 44) rfl (hb hby d5_7) rfl (flt (by decide)).2.1 (by decide) (by decide) (XS.iload X32.here hx rfl (hb hby d5_44) rfl k))))))))) ?_
  show Go p e below s _ _ _ T32 (mkF m 46 #[.val (.ref b9), .val (.int (2 : Int32)), .val (.ref b22), .val (.int (2 : Int32)), .val (.int (2 : Int32)), .val (.int (2 : Int32)), .val (.int (98 : Int32))] [(.int (2 : Int32))])
  have f35 := (((Keep.refl h0 [b22]).wr W25 (Or.inl (List.mem_of_getElem? (i := 0) rfl))).wr W32 (Or.inl (List.mem_of_getElem? (i := 0) rfl)))
  exact Go.retI X32 hx hlk Bd.returns (hb hby d5_46) e32 ⟨rfl, N34, f35, f33⟩ (by decide) (by decide)

theorem ef_StringUTF16_compress_0 (m : MethodId) (x0 : Addr) (x1 : Int32) (x2 : Int32) : entryFrame m #[(.ref x0), (.int x1), (.int x2)] 6 = mkF m 0 #[.val (.ref x0), .val (.int x1), .val (.int x2), .unset, .unset, .unset] [] := by first | (simp [entryFrame, mkF, argsToLocals, Value.category]; done) | rfl
def Q_StringUTF16_compress_0 (Z : State) (b9 : Addr) (k9 : ClassId) (h0 : Heap) (n0 : Nat) (v : Option Value) (h : Heap) (L : List Loc) : Prop := ∃ (b22 : Addr) (k22 : ClassId), v = some (.ref b22) ∧ Fr n0 L ∧ Keep h0 h [] ∧ h0.size ≤ b22 ∧ Arv Z h b22 k22 .byte (2 : Int32) [(.int (97 : Int32)), (.int (98 : Int32))] (.int (0 : Int32))
set_option maxRecDepth 65536 in
set_option maxHeartbeats 40000000 in
theorem rm_StringUTF16_compress_0 (l : Launch) (Z : State) (a0 : Array Value) (hw : ∀ d ∈ tables_1, d.before a0 Z = true) (ws : List Jvm.Cond) (b9 : Addr) (k9 : ClassId) (h0 : Heap) (n0 : Nat) (Z0 : n0 ≤ h0.size) (V_b9 : Arv Z h0 b9 k9 .char (2 : Int32) [(.int (97 : Int32)), (.int (98 : Int32))] (.int (0 : Int32))) :
    MetFree l xm2 (head1 (Jvm.Cond.code xm2 jdk_52_method_16_code 6 (some (.array .byte)) :: ws) xr4) (fun a U => a = #[(.ref b9), (.int (0 : Int32)), (.int (2 : Int32))] ∧ Z.Warmed39 U.vm ∧ U.heap = h0) (fun _ _ _ _ _ => True) (fun _ U o U' => ∃ v L, o = .returned v ∧ Q_StringUTF16_compress_0 Z b9 k9 h0 n0 v U'.heap L ∧ FrameEnd U o U' L xr4.cells xr4.slots) := by
  refine MetFree.of_bodySF (plainFor_of_name pn_2) hisR ?_
  intro p e s m args below meth c s₁ Bd hml0 hP hK
  obtain ⟨rfl, hZ, hh⟩ := hP
  have hx := Bd.exec
  have hby := Bd.bytes
  have hlk : meth.locks = false := BodyLoose.notSynchronized Bd
  have hml : c.maxLocals = 6 := hml0
  have hown : s.vm.findClass xs11 = some m.cls := findClass_of_methodNamed Bd.named
  have hnm := (name_of_methodNamed Bd.named Bd.method).1
  have X0 : Stand p l e xr4 s m #[(.ref b9), (.int (0 : Int32)), (.int (2 : Int32))] below meth c s₁ [] 0 0 := Stand.of_body Bd
  have e0 : s₁.heap = h0 := by rw [← hh, Bd.state]; rfl
  have N0 := Fr.nil n0
  show Go p e below s (Q_StringUTF16_compress_0 Z b9 k9 h0 n0) xr4.cells xr4.slots s₁ (entryFrame m #[(.ref b9), (.int (0 : Int32)), (.int (2 : Int32))] 6)
  refine Go.cast (ef_StringUTF16_compress_0 m b9 (0 : Int32) (2 : Int32)) ?_
  show Go p e below s _ _ _ s₁ (mkF m 0 #[.val (.ref b9), .val (.int (0 : Int32)), .val (.int (2 : Int32)), .unset, .unset, .unset] [])
  refine Go.step (fun _ k => XS.iloadN X0.here hx rfl (hb hby d4_0) rfl k) ?_
  show Go p e below s _ _ _ s₁ (mkF m 1 #[.val (.ref b9), .val (.int (0 : Int32)), .val (.int (2 : Int32)), .unset, .unset, .unset] [(.int (2 : Int32))])
  obtain ⟨T22, h22, k22, X22, e22, E22, A22, st22⟩ := newP (aty := .byte) X0 hx hZ (tw19 hw) e0 (g := (mkF m 1 #[.val (.ref b9), .val (.int (0 : Int32)), .val (.int (2 : Int32)), .unset, .unset, .unset] [(.int (2 : Int32))])) rfl (hb hby d4_1) rfl (by decide) (cap := 2) (by decide) (by decide) (by decide) (by decide)
  obtain ⟨b22, g22⟩ : ∃ z, z = h0.size := ⟨_, rfl⟩
  rw [← g22] at A22 st22
  have f23 : Arv Z h22 b22 k22 .byte (2 : Int32) [(.int (0 : Int32)), (.int (0 : Int32))] (.int (0 : Int32)) := (Arv.new A22 (by decide)).pad (pad_rep [] (.int (0 : Int32)) 2)
  refine Go.step (fun _ k => st22 _ (XS.astoreN X22.here hx rfl (hb hby d4_3) rfl rfl (l' := #[.val (.ref b9), .val (.int (0 : Int32)), .val (.int (2 : Int32)), .val (.ref b22), .unset, .unset]) rfl (XS.aloadN X22.here hx rfl (hb hby d4_4) rfl rfl (XS.iloadN X22.here hx rfl (hb hby d4_5) rfl (XS.aloadN X22.here hx rfl (hb hby d4_6) rfl rfl (XS.iconst X22.here hx rfl (hb hby d4_7) (XS.iloadN X22.here hx rfl (hb hby d4_8) rfl k))))))) ?_
  show Go p e below s _ _ _ T22 (mkF m 9 #[.val (.ref b9), .val (.int (0 : Int32)), .val (.int (2 : Int32)), .val (.ref b22), .unset, .unset] [(.int (2 : Int32)), (.int (0 : Int32)), (.ref b22), (.int (0 : Int32)), (.ref b9)])
  have g26 := Nat.le_trans Z0 (Nat.le_of_eq g22.symm)
  have ne29 : b9 ≠ b22 := Nat.ne_of_lt (Nat.lt_of_lt_of_le V_b9.lt (Nat.le_of_eq g22.symm))
  have f36 := (Nat.le_trans Z0 E22.1)
  have f37 := (V_b9.ext E22)
  obtain ⟨_, _, ⟨T38, L38, k38, n38⟩, -, X38, ⟨Lc38, hQ38, l38, y38, z38⟩, st38⟩ := Jvm.LawKit.callS X22 hx (y := xm0) hown (mvT hZ (tw20 hw)) (mvT hZ (tw21 hw)) (mvT hZ (tw17 hw)) (mvT hZ (tw22 hw)) (by decide) (backOf (W := 0) (rm_StringUTF16_compress_1 l Z a0 hw [] b9 b22 k9 k22 h22 n0 f36 f37 f23 g26 ne29) hZ (tw22 hw) (tw17 hw) (by decide) (by decide)) (g := (mkF m 9 #[.val (.ref b9), .val (.int (0 : Int32)), .val (.int (2 : Int32)), .val (.ref b22), .unset, .unset] [(.int (2 : Int32)), (.int (0 : Int32)), (.ref b22), (.int (0 : Int32)), (.ref b9)])) rfl (by rw [hml]; rfl) (argsL := [(.ref b9), (.int (0 : Int32)), (.ref b22), (.int (0 : Int32)), (.int (2 : Int32))]) (rest := []) (lenOf pd_1 rfl) rfl (by show 2 * 0 + _ ≤ _; exact Nat.le_of_eq rfl) (hb hby d4_9) (fun _ _ => ⟨rfl, e22, (by decide : 1 + 0 ≤ _), (by decide : 2 + 0 ≤ _)⟩)
  dsimp only [Pt.U, Pt.locs, Pt.cells, Pt.slots] at X38 l38 y38 z38 st38 hQ38
  subst l38 y38 z38
  obtain ⟨rfl, N38q, K38, P38_0⟩ := hQ38
  have N39 := Fr.app N0 N38q
  refine Go.step (fun _ k => st38 _ (XS.istore X38.here hx rfl (hb hby d4_12) rfl (l' := #[.val (.ref b9), .val (.int (0 : Int32)), .val (.int (2 : Int32)), .val (.ref b22), .val (.int (2 : Int32)), .unset]) rfl (XS.iload X38.here hx rfl (hb hby d4_14) rfl (XS.iloadN X38.here hx rfl (hb hby d4_16) rfl (XS.icmpYes X38.here hx rfl (pc0 := 17) (pc' := 57) rfl (hb hby d4_17) rfl (teq (by decide)).1 (by decide) (by decide) (XS.aloadN X38.here hx rfl (hb hby d4_57) rfl rfl k)))))) ?_
  show Go p e below s _ _ _ T38 (mkF m 58 #[.val (.ref b9), .val (.int (0 : Int32)), .val (.int (2 : Int32)), .val (.ref b22), .val (.int (2 : Int32)), .unset] [(.ref b22)])
  have z40 := Nat.le_trans (Nat.le_refl _) (Nat.le_of_eq g22.symm)
  have f41 := (((Keep.refl h0 []).ext E22).trans K38 (allS (Or.inr z40) all0))
  exact Go.retA X38 hx hlk Bd.returns rfl rfl (hb hby d4_58) rfl ⟨b22, k22, rfl, N39, f41, z40, P38_0⟩ (by decide) (by decide)

theorem ef_StringUTF16_coderFromArrayLen_0 (m : MethodId) (x0 : Addr) (x1 : Int32) : entryFrame m #[(.ref x0), (.int x1)] 2 = mkF m 0 #[.val (.ref x0), .val (.int x1)] [] := by first | (simp [entryFrame, mkF, argsToLocals, Value.category]; done) | rfl
def Q_StringUTF16_coderFromArrayLen_0 (Z : State) (b22_42 : Addr) (k22_42 : ClassId) (h0 : Heap) (n0 : Nat) (v : Option Value) (h : Heap) (L : List Loc) : Prop := v = some (.int (0 : Int32)) ∧ Fr n0 L ∧ h = h0
set_option maxRecDepth 65536 in
set_option maxHeartbeats 40000000 in
theorem rm_StringUTF16_coderFromArrayLen_0 (l : Launch) (Z : State) (a0 : Array Value) (hw : ∀ d ∈ tables_1, d.before a0 Z = true) (ws : List Jvm.Cond) (b22_42 : Addr) (k22_42 : ClassId) (h0 : Heap) (n0 : Nat) (Z0 : n0 ≤ h0.size) (V_b22_42 : Arv Z h0 b22_42 k22_42 .byte (2 : Int32) [(.int (97 : Int32)), (.int (98 : Int32))] (.int (0 : Int32))) :
    MetFree l xm16 (head1 (Jvm.Cond.code xm16 jdk_52_method_15_code 2 (some .byte) :: ws) xr14) (fun a U => a = #[(.ref b22_42), (.int (2 : Int32))] ∧ Z.Warmed39 U.vm ∧ U.heap = h0) (fun _ _ _ _ _ => True) (fun _ U o U' => ∃ v L, o = .returned v ∧ Q_StringUTF16_coderFromArrayLen_0 Z b22_42 k22_42 h0 n0 v U'.heap L ∧ FrameEnd U o U' L xr14.cells xr14.slots) := by
  refine MetFree.of_bodySF (plainFor_of_name pn_2) hisR ?_
  intro p e s m args below meth c s₁ Bd hml0 hP hK
  obtain ⟨rfl, hZ, hh⟩ := hP
  have hx := Bd.exec
  have hby := Bd.bytes
  have hlk : meth.locks = false := BodyLoose.notSynchronized Bd
  have hml : c.maxLocals = 2 := hml0
  have hown : s.vm.findClass xs11 = some m.cls := findClass_of_methodNamed Bd.named
  have hnm := (name_of_methodNamed Bd.named Bd.method).1
  have X0 : Stand p l e xr14 s m #[(.ref b22_42), (.int (2 : Int32))] below meth c s₁ [] 0 0 := Stand.of_body Bd
  have e0 : s₁.heap = h0 := by rw [← hh, Bd.state]; rfl
  have N0 := Fr.nil n0
  show Go p e below s (Q_StringUTF16_coderFromArrayLen_0 Z b22_42 k22_42 h0 n0) xr14.cells xr14.slots s₁ (entryFrame m #[(.ref b22_42), (.int (2 : Int32))] 2)
  refine Go.cast (ef_StringUTF16_coderFromArrayLen_0 m b22_42 (2 : Int32)) ?_
  show Go p e below s _ _ _ s₁ (mkF m 0 #[.val (.ref b22_42), .val (.int (2 : Int32))] [])
  refine Go.step (fun _ k => XS.iloadN X0.here hx rfl (hb hby d6_0) rfl (XS.aloadN X0.here hx rfl (hb hby d6_1) rfl rfl k)) ?_
  show Go p e below s _ _ _ s₁ (mkF m 2 #[.val (.ref b22_42), .val (.int (2 : Int32))] [(.ref b22_42), (.int (2 : Int32))])
  obtain ⟨cl44, Ar44, -, Sz44, Ng44, -, -⟩ := id V_b22_42
  have aln44 := X0.arraylength hx (by rw [e0]; exact Ar44.1) (State.isArrayOf_alike hZ.alike Ar44.2.1) (g := (mkF m 2 #[.val (.ref b22_42), .val (.int (2 : Int32))] [(.ref b22_42), (.int (2 : Int32))])) rfl rfl (hb hby d6_2)
  rw [len_of Sz44 Ng44] at aln44
  refine Go.step (fun _ k => aln44 _ (XS.isub X0.here hx rfl (hb hby d6_3) rfl (XS.bipush X0.here hx rfl (hb hby d6_4) (XS.iushr X0.here hx rfl (hb hby d6_6) rfl (XS.i2b X0.here hx rfl (hb hby d6_7) rfl k))))) ?_
  show Go p e below s _ _ _ s₁ (mkF m 8 #[.val (.ref b22_42), .val (.int (2 : Int32))] [(.int (0 : Int32))])
  exact Go.retN X0 hx hlk (t := .byte) Bd.returns (by simp) (hb hby d6_8) e0 ⟨rfl, N0, rfl⟩ (by decide) (by decide)

theorem ef_String_new_1 (m : MethodId) (x0 : Addr) (x1 : Addr) (x2 : Int32) (x3 : Int32) : entryFrame m #[(.ref x0), (.ref x1), (.int x2), (.int x3), .null] 6 = mkF m 0 #[.val (.ref x0), .val (.ref x1), .val (.int x2), .val (.int x3), .val .null, .unset] [] := by first | (simp [entryFrame, mkF, argsToLocals, Value.category]; done) | rfl
def Q_String_new_1 (Z : State) (b6 : Addr) (b9 : Addr) (cs : Int32) (k9 : ClassId) (h0 : Heap) (n0 : Nat) (v : Option Value) (h : Heap) (L : List Loc) : Prop := ∃ (b22_42 : Addr) (k22_42 : ClassId), v = none ∧ Fr n0 L ∧ Keep h0 h [b6] ∧ Fld Z h b6 xs18 "coder" "B" (.int (0 : Int32)) ∧ Fld Z h b6 xs18 "value" "[B" (.ref b22_42) ∧ h0.size ≤ b22_42 ∧ Arv Z h b22_42 k22_42 .byte (2 : Int32) [(.int (97 : Int32)), (.int (98 : Int32))] (.int (0 : Int32))
set_option maxRecDepth 65536 in
set_option maxHeartbeats 40000000 in
theorem rm_String_new_1 (l : Launch) (Z : State) (a0 : Array Value) (hw : ∀ d ∈ tables_1, d.before a0 Z = true) (ws : List Jvm.Cond) (b6 : Addr) (b9 : Addr) (cs : Int32) (k9 : ClassId) (h0 : Heap) (n0 : Nat) (Z0 : n0 ≤ h0.size) (Z_S_COMPACT_STRINGS : Sta Z Z.heap xs18 xs20 "Z" (.int cs)) (O0 : Old Z n0 h0) (hcs : ¬ cs = (0 : Int32)) (V_b9 : Arv Z h0 b9 k9 .char (2 : Int32) [(.int (97 : Int32)), (.int (98 : Int32))] (.int (0 : Int32))) (E_b6 : Exa Z h0 b6 xs18) (F_coder_b6 : Fld Z h0 b6 xs18 "coder" "B" (.int (0 : Int32))) (g_b6 : n0 ≤ b6) (F_value_b6 : Fld Z h0 b6 xs18 "value" "[B" .null) :
    MetFree l xm19 (head1 (Jvm.Cond.code xm19 jdk_42_method_149_code 6 none :: ws) xr5) (fun a U => a = #[(.ref b6), (.ref b9), (.int (0 : Int32)), (.int (2 : Int32)), .null] ∧ Z.Warmed39 U.vm ∧ U.heap = h0) (fun _ _ _ _ _ => True) (fun _ U o U' => ∃ v L, o = .returned v ∧ Q_String_new_1 Z b6 b9 cs k9 h0 n0 v U'.heap L ∧ FrameEnd U o U' L xr5.cells xr5.slots) := by
  refine MetFree.of_bodySF (plainFor_of_name pn_1) hisR ?_
  intro p e s m args below meth c s₁ Bd hml0 hP hK
  obtain ⟨rfl, hZ, hh⟩ := hP
  have hx := Bd.exec
  have hby := Bd.bytes
  have hlk : meth.locks = false := BodyLoose.notSynchronized Bd
  have hml : c.maxLocals = 6 := hml0
  have hown : s.vm.findClass xs18 = some m.cls := findClass_of_methodNamed Bd.named
  have hnm := (name_of_methodNamed Bd.named Bd.method).1
  have X0 : Stand p l e xr5 s m #[(.ref b6), (.ref b9), (.int (0 : Int32)), (.int (2 : Int32)), .null] below meth c s₁ [] 0 0 := Stand.of_body Bd
  have e0 : s₁.heap = h0 := by rw [← hh, Bd.state]; rfl
  have N0 := Fr.nil n0
  show Go p e below s (Q_String_new_1 Z b6 b9 cs k9 h0 n0) xr5.cells xr5.slots s₁ (entryFrame m #[(.ref b6), (.ref b9), (.int (0 : Int32)), (.int (2 : Int32)), .null] 6)
  refine Go.cast (ef_String_new_1 m b6 b9 (0 : Int32) (2 : Int32)) ?_
  show Go p e below s _ _ _ s₁ (mkF m 0 #[.val (.ref b6), .val (.ref b9), .val (.int (0 : Int32)), .val (.int (2 : Int32)), .val .null, .unset] [])
  refine Go.step (fun _ k => XS.aloadN X0.here hx rfl (hb hby d3_0) rfl rfl k) ?_
  show Go p e below s _ _ _ s₁ (mkF m 1 #[.val (.ref b6), .val (.ref b9), .val (.int (0 : Int32)), .val (.int (2 : Int32)), .val .null, .unset] [(.ref b6)])
  obtain ⟨T20, X20, e20, st20⟩ := initO X0 hx hZ hown (tw11 hw) (tw12 hw) (tw13 hw) e0 (g := (mkF m 1 #[.val (.ref b6), .val (.ref b9), .val (.int (0 : Int32)), .val (.int (2 : Int32)), .val .null, .unset] [(.ref b6)])) rfl (by rw [hml]; rfl) rfl (hb hby d3_1) (by decide) (W := 0) (by show 2 * 0 + _ ≤ _; exact Nat.le_of_eq rfl) (by decide)
  refine Go.step (fun _ k => st20 _ (XS.iloadN X20.here hx rfl (hb hby d3_4) rfl (XS.ifYes X20.here hx rfl (pc0 := 5) (pc' := 27) rfl (hb hby d3_5) rfl ((if0 _ _).trans (feq (by decide)).2) (by decide) (by decide) k))) ?_
  show Go p e below s _ _ _ T20 (mkF m 27 #[.val (.ref b6), .val (.ref b9), .val (.int (0 : Int32)), .val (.int (2 : Int32)), .val .null, .unset] [])
  obtain ⟨T21, X21, e21, st21⟩ := getS2 X20 hx hZ hown (host := "") (Or.inl (tw14 hw)) Via.refl e20 (Z_S_COMPACT_STRINGS.ext O0.2) (g := (mkF m 27 #[.val (.ref b6), .val (.ref b9), .val (.int (0 : Int32)), .val (.int (2 : Int32)), .val .null, .unset] [])) rfl (hb hby d3_27)
  refine Go.step (fun _ k => st21 _ (XS.ifNo X21.here hx rfl (hb hby d3_30) rfl ((if0 _ _).trans (feq hcs).1) (XS.aloadN X21.here hx rfl (hb hby d3_33) rfl rfl (XS.iloadN X21.here hx rfl (hb hby d3_34) rfl (XS.iloadN X21.here hx rfl (hb hby d3_35) rfl k))))) ?_
  show Go p e below s _ _ _ T21 (mkF m 36 #[.val (.ref b6), .val (.ref b9), .val (.int (0 : Int32)), .val (.int (2 : Int32)), .val .null, .unset] [(.int (2 : Int32)), (.int (0 : Int32)), (.ref b9)])
  obtain ⟨_, _, ⟨T42, L42, k42, n42⟩, -, X42, ⟨Lc42, hQ42, l42, y42, z42⟩, st42⟩ := Jvm.LawKit.callS X21 hx (y := xm2) hown (mvT hZ (tw15 hw)) (mvT hZ (tw16 hw)) (mvT hZ (tw17 hw)) (mvT hZ (tw18 hw)) (by decide) (backOf (W := 0) (rm_StringUTF16_compress_0 l Z a0 hw [] b9 k9 h0 n0 Z0 V_b9) hZ (tw18 hw) (tw17 hw) (by decide) (by decide)) (g := (mkF m 36 #[.val (.ref b6), .val (.ref b9), .val (.int (0 : Int32)), .val (.int (2 : Int32)), .val .null, .unset] [(.int (2 : Int32)), (.int (0 : Int32)), (.ref b9)])) rfl (by rw [hml]; rfl) (argsL := [(.ref b9), (.int (0 : Int32)), (.int (2 : Int32))]) (rest := []) (lenOf pd_2 rfl) rfl (by show 2 * 0 + _ ≤ _; exact Nat.le_of_eq rfl) (hb hby d3_36) (fun _ _ => ⟨rfl, e21, (by decide : 0 + 1 ≤ _), (by decide : 0 + 2 ≤ _)⟩)
  dsimp only [Pt.U, Pt.locs, Pt.cells, Pt.slots] at X42 l42 y42 z42 st42 hQ42
  subst l42 y42 z42
  obtain ⟨b22_42, k22_42, rfl, N42q, K42, P42_0, P42_1⟩ := hQ42
  have N43 := Fr.app N0 N42q
  refine Go.step (fun _ k => st42 _ (XS.astore X42.here hx rfl (hb hby d3_39) rfl rfl (l' := #[.val (.ref b6), .val (.ref b9), .val (.int (0 : Int32)), .val (.int (2 : Int32)), .val .null, .val (.ref b22_42)]) rfl (XS.aloadN X42.here hx rfl (hb hby d3_41) rfl rfl (XS.aload X42.here hx rfl (hb hby d3_42) rfl rfl (XS.iloadN X42.here hx rfl (hb hby d3_44) rfl k))))) ?_
  show Go p e below s _ _ _ T42 (mkF m 45 #[.val (.ref b6), .val (.ref b9), .val (.int (0 : Int32)), .val (.int (2 : Int32)), .val .null, .val (.ref b22_42)] [(.int (2 : Int32)), (.ref b22_42), (.ref b6)])
  have f45 := (Nat.le_trans Z0 K42.1)
  obtain ⟨_, _, ⟨T46, L46, k46, n46⟩, -, X46, ⟨Lc46, hQ46, l46, y46, z46⟩, st46⟩ := Jvm.LawKit.callS X42 hx (y := xm16) hown (mvT hZ (tw23 hw)) (mvT hZ (tw24 hw)) (mvT hZ (tw17 hw)) (mvT hZ (tw25 hw)) (by decide) (backOf (W := 1) (rm_StringUTF16_coderFromArrayLen_0 l Z a0 hw [] b22_42 k22_42 T42.heap n0 f45 P42_1) hZ (tw25 hw) (tw17 hw) (by decide) (by decide)) (g := (mkF m 45 #[.val (.ref b6), .val (.ref b9), .val (.int (0 : Int32)), .val (.int (2 : Int32)), .val .null, .val (.ref b22_42)] [(.int (2 : Int32)), (.ref b22_42), (.ref b6)])) rfl (by rw [hml]; rfl) (argsL := [(.ref b22_42), (.int (2 : Int32))]) (rest := [(.ref b6)]) (lenOf pd_3 rfl) rfl (by show 2 * 0 + _ ≤ _; exact Nat.le_of_eq rfl) (hb hby d3_45) (fun _ _ => ⟨rfl, rfl, (by decide : 1 + 0 ≤ _), (by decide : 2 + 0 ≤ _)⟩)
  dsimp only [Pt.U, Pt.locs, Pt.cells, Pt.slots] at X46 l46 y46 z46 st46 hQ46
  subst l46 y46 z46
  obtain ⟨rfl, N46q, eq46⟩ := hQ46
  have N47 := Fr.app N43 N46q
  refine Go.step (fun _ k => st46 _ k) ?_
  show Go p e below s _ _ _ T46 (mkF m 48 #[.val (.ref b6), .val (.ref b9), .val (.int (0 : Int32)), .val (.int (2 : Int32)), .val .null, .val (.ref b22_42)] [(.int (0 : Int32)), (.ref b6)])
  have f48 := (F_coder_b6.keep K42 nin0)
  have f49 := (E_b6.keep K42)
  obtain ⟨T50, h50, X50, e50, W50, st50⟩ := putFN X46 hx hZ hown (tw26 hw) Via.refl eq46 f48 f49 (Or.inr ⟨(tw27 hw), rfl, hnm⟩) (tw1 hw) (ty := .byte) (v' := (.int (0 : Int32))) (by decide) rfl rfl (g := (mkF m 48 #[.val (.ref b6), .val (.ref b9), .val (.int (0 : Int32)), .val (.int (2 : Int32)), .val .null, .val (.ref b22_42)] [(.int (0 : Int32)), (.ref b6)])) rfl rfl (hb hby d3_48)
  have f52 := f48.same W50
  have N53 := Fr.snoc X50 N47 g_b6
  refine Go.step (fun _ k => st50 _ (XS.aloadN X50.here hx rfl (hb hby d3_51) rfl rfl (XS.aload X50.here hx rfl (hb hby d3_52) rfl rfl k))) ?_
  show Go p e below s _ _ _ T50 (mkF m 54 #[.val (.ref b6), .val (.ref b9), .val (.int (0 : Int32)), .val (.int (2 : Int32)), .val .null, .val (.ref b22_42)] [(.ref b22_42), (.ref b6)])
  have f54 := ((F_value_b6.keep K42 nin0).other W50 (Or.inr (slot_ne (Or.inr (tw29 hw)) (Or.inr (tw27 hw)) (by decide) (t := (.array .byte)) (t' := .byte) (by decide) (by decide))))
  have f55 := (f49.wr W50)
  obtain ⟨T56, h56, X56, e56, W56, st56⟩ := putF X50 hx hZ hown (host := "") (Or.inl (tw28 hw)) Via.refl e50 f54 f55 (Or.inr ⟨(tw29 hw), rfl, hnm⟩) (tw1 hw) (ty := (.array .byte)) (by decide) rfl rfl (g := (mkF m 54 #[.val (.ref b6), .val (.ref b9), .val (.int (0 : Int32)), .val (.int (2 : Int32)), .val .null, .val (.ref b22_42)] [(.ref b22_42), (.ref b6)])) rfl rfl (hb hby d3_54)
  have f57 := f54.same W56
  have N58 := Fr.snoc X56 N53 g_b6
  refine Go.step (fun _ k => st56 _ k) ?_
  show Go p e below s _ _ _ T56 (mkF m 57 #[.val (.ref b6), .val (.ref b9), .val (.int (0 : Int32)), .val (.int (2 : Int32)), .val .null, .val (.ref b22_42)] [])
  have f59 := ((((Keep.refl h0 [b6]).trans K42 all0).wr W50 (Or.inl (List.mem_of_getElem? (i := 0) rfl))).wr W56 (Or.inl (List.mem_of_getElem? (i := 0) rfl)))
  have f60 := (f52.other W56 (Or.inr (slot_ne (Or.inr (tw27 hw)) (Or.inr (tw29 hw)) (by decide) (t := .byte) (t' := (.array .byte)) (by decide) (by decide))))
  have z61 := Nat.le_trans (Nat.le_refl _) P42_0
  have ne62 : b6 ≠ b22_42 := Nat.ne_of_lt (Nat.lt_of_lt_of_le E_b6.lt P42_0)
  have f63 := ((P42_1.other W50 (Ne.symm ne62)).other W56 (Ne.symm ne62))
  exact Go.retV X56 hx hlk Bd.returns (hb hby d3_57) e56 ⟨b22_42, k22_42, rfl, N58, f59, f60, f57, z61, f63⟩ (by decide) (by decide)

theorem ef_String_new_0 (m : MethodId) (x0 : Addr) (x1 : Addr) : entryFrame m #[(.ref x0), (.ref x1)] 2 = mkF m 0 #[.val (.ref x0), .val (.ref x1)] [] := by first | (simp [entryFrame, mkF, argsToLocals, Value.category]; done) | rfl
def Q_String_new_0 (Z : State) (b6 : Addr) (b9 : Addr) (k9 : ClassId) (cs : Int32) (h0 : Heap) (n0 : Nat) (v : Option Value) (h : Heap) (L : List Loc) : Prop := ∃ (b22_42_64 : Addr) (k22_42_64 : ClassId), v = none ∧ Fr n0 L ∧ Keep h0 h [b6] ∧ Fld Z h b6 xs18 "coder" "B" (.int (0 : Int32)) ∧ Fld Z h b6 xs18 "value" "[B" (.ref b22_42_64) ∧ h0.size ≤ b22_42_64 ∧ Arv Z h b22_42_64 k22_42_64 .byte (2 : Int32) [(.int (97 : Int32)), (.int (98 : Int32))] (.int (0 : Int32))
set_option maxRecDepth 65536 in
set_option maxHeartbeats 40000000 in
theorem rm_String_new_0 (l : Launch) (Z : State) (a0 : Array Value) (hw : ∀ d ∈ tables_1, d.before a0 Z = true) (ws : List Jvm.Cond) (b6 : Addr) (b9 : Addr) (k9 : ClassId) (cs : Int32) (h0 : Heap) (n0 : Nat) (Z0 : n0 ≤ h0.size) (V_b9 : Arv Z h0 b9 k9 .char (2 : Int32) [(.int (97 : Int32)), (.int (98 : Int32))] (.int (0 : Int32))) (Z_S_COMPACT_STRINGS : Sta Z Z.heap xs18 xs20 "Z" (.int cs)) (O0 : Old Z n0 h0) (hcs : ¬ cs = (0 : Int32)) (E_b6 : Exa Z h0 b6 xs18) (F_coder_b6 : Fld Z h0 b6 xs18 "coder" "B" (.int (0 : Int32))) (g_b6 : n0 ≤ b6) (F_value_b6 : Fld Z h0 b6 xs18 "value" "[B" .null) :
    MetFree l xm7 (head1 (Jvm.Cond.code xm7 jdk_42_method_3_code 2 none :: ws) xr6) (fun a U => a = #[(.ref b6), (.ref b9)] ∧ Z.Warmed39 U.vm ∧ U.heap = h0) (fun _ _ _ _ _ => True) (fun _ U o U' => ∃ v L, o = .returned v ∧ Q_String_new_0 Z b6 b9 k9 cs h0 n0 v U'.heap L ∧ FrameEnd U o U' L xr6.cells xr6.slots) := by
  refine MetFree.of_bodySF (plainFor_of_name pn_1) hisR ?_
  intro p e s m args below meth c s₁ Bd hml0 hP hK
  obtain ⟨rfl, hZ, hh⟩ := hP
  have hx := Bd.exec
  have hby := Bd.bytes
  have hlk : meth.locks = false := BodyLoose.notSynchronized Bd
  have hml : c.maxLocals = 2 := hml0
  have hown : s.vm.findClass xs18 = some m.cls := findClass_of_methodNamed Bd.named
  have hnm := (name_of_methodNamed Bd.named Bd.method).1
  have X0 : Stand p l e xr6 s m #[(.ref b6), (.ref b9)] below meth c s₁ [] 0 0 := Stand.of_body Bd
  have e0 : s₁.heap = h0 := by rw [← hh, Bd.state]; rfl
  have N0 := Fr.nil n0
  show Go p e below s (Q_String_new_0 Z b6 b9 k9 cs h0 n0) xr6.cells xr6.slots s₁ (entryFrame m #[(.ref b6), (.ref b9)] 2)
  refine Go.cast (ef_String_new_0 m b6 b9) ?_
  show Go p e below s _ _ _ s₁ (mkF m 0 #[.val (.ref b6), .val (.ref b9)] [])
  refine Go.step (fun _ k => XS.aloadN X0.here hx rfl (hb hby d2_0) rfl rfl (XS.aloadN X0.here hx rfl (hb hby d2_1) rfl rfl (XS.iconst X0.here hx rfl (hb hby d2_2) (XS.aloadN X0.here hx rfl (hb hby d2_3) rfl rfl k)))) ?_
  show Go p e below s _ _ _ s₁ (mkF m 4 #[.val (.ref b6), .val (.ref b9)] [(.ref b9), (.int (0 : Int32)), (.ref b9), (.ref b6)])
  obtain ⟨cl19, Ar19, -, Sz19, Ng19, -, -⟩ := id V_b9
  have aln19 := X0.arraylength hx (by rw [e0]; exact Ar19.1) (State.isArrayOf_alike hZ.alike Ar19.2.1) (g := (mkF m 4 #[.val (.ref b6), .val (.ref b9)] [(.ref b9), (.int (0 : Int32)), (.ref b9), (.ref b6)])) rfl rfl (hb hby d2_4)
  rw [len_of Sz19 Ng19] at aln19
  refine Go.step (fun _ k => aln19 _ (XS.aconstNull X0.here hx rfl (hb hby d2_5) k)) ?_
  show Go p e below s _ _ _ s₁ (mkF m 6 #[.val (.ref b6), .val (.ref b9)] [.null, (.int (2 : Int32)), (.int (0 : Int32)), (.ref b9), (.ref b6)])
  obtain ⟨_, _, ⟨T64, L64, k64, n64⟩, -, X64, ⟨Lc64, hQ64, l64, y64, z64⟩, st64⟩ := X0.specialBack hx (y := xm19) rfl hown (mvT hZ (tw7 hw)) (mvT hZ (tw8 hw)) (mvT hZ (tw10 hw)) (by decide) (backOf (W := 0) (rm_String_new_1 l Z a0 hw [] b6 b9 cs k9 h0 n0 Z0 Z_S_COMPACT_STRINGS O0 hcs V_b9 E_b6 F_coder_b6 g_b6 F_value_b6) hZ (tw10 hw) (tw2 hw) (by decide) (by decide)) (g := (mkF m 6 #[.val (.ref b6), .val (.ref b9)] [.null, (.int (2 : Int32)), (.int (0 : Int32)), (.ref b9), (.ref b6)])) rfl (by rw [hml]; rfl) (Steps.refl _) (a := b6) (argsL := [(.ref b9), (.int (0 : Int32)), (.int (2 : Int32)), .null]) (rest := []) (lenOf pd_4 rfl) rfl (by show 2 * 0 + _ ≤ _; exact Nat.le_of_eq rfl) (hb hby d2_6) (fun _ _ => ⟨rfl, e0, (by decide : 0 + 1 ≤ _), (by decide : 0 + 2 ≤ _)⟩)
  dsimp only [Pt.U, Pt.locs, Pt.cells, Pt.slots] at X64 l64 y64 z64 st64 hQ64
  subst l64 y64 z64
  obtain ⟨b22_42_64, k22_42_64, rfl, N64q, K64, P64_0, P64_1, P64_2, P64_3⟩ := hQ64
  have N65 := Fr.app N0 N64q
  refine Go.step (fun _ k => st64.trans k) ?_
  show Go p e below s _ _ _ T64 (mkF m 9 #[.val (.ref b6), .val (.ref b9)] [])
  have f66 := ((Keep.refl h0 [b6]).trans K64 (allS (Or.inl (List.mem_of_getElem? (i := 0) rfl)) all0))
  have z67 := Nat.le_trans (Nat.le_refl _) P64_2
  exact Go.retV X64 hx hlk Bd.returns (hb hby d2_9) rfl ⟨b22_42_64, k22_42_64, rfl, N65, f66, P64_0, P64_1, z67, P64_3⟩ (by decide) (by decide)

theorem ef_AbstractMap_new_0 (m : MethodId) (x0 : Addr) : entryFrame m #[(.ref x0)] 1 = mkF m 0 #[.val (.ref x0)] [] := by first | (simp [entryFrame, mkF, argsToLocals, Value.category]; done) | rfl
def Q_AbstractMap_new_0 (Z : State) (b76 : Addr) (h0 : Heap) (n0 : Nat) (v : Option Value) (h : Heap) (L : List Loc) : Prop := v = none ∧ Fr n0 L ∧ h = h0
set_option maxRecDepth 65536 in
set_option maxHeartbeats 40000000 in
theorem rm_AbstractMap_new_0 (l : Launch) (Z : State) (a0 : Array Value) (hw : ∀ d ∈ tables_1, d.before a0 Z = true) (ws : List Jvm.Cond) (b76 : Addr) (h0 : Heap) (n0 : Nat) (Z0 : n0 ≤ h0.size) :
    MetFree l xm14 (head1 (Jvm.Cond.code xm14 jdk_71_method_1_code 1 none :: ws) xr7) (fun a U => a = #[(.ref b76)] ∧ Z.Warmed39 U.vm ∧ U.heap = h0) (fun _ _ _ _ _ => True) (fun _ U o U' => ∃ v L, o = .returned v ∧ Q_AbstractMap_new_0 Z b76 h0 n0 v U'.heap L ∧ FrameEnd U o U' L xr7.cells xr7.slots) := by
  refine MetFree.of_bodySF (plainFor_of_name pn_3) hisR ?_
  intro p e s m args below meth c s₁ Bd hml0 hP hK
  obtain ⟨rfl, hZ, hh⟩ := hP
  have hx := Bd.exec
  have hby := Bd.bytes
  have hlk : meth.locks = false := BodyLoose.notSynchronized Bd
  have hml : c.maxLocals = 1 := hml0
  have hown : s.vm.findClass xs12 = some m.cls := findClass_of_methodNamed Bd.named
  have hnm := (name_of_methodNamed Bd.named Bd.method).1
  have X0 : Stand p l e xr7 s m #[(.ref b76)] below meth c s₁ [] 0 0 := Stand.of_body Bd
  have e0 : s₁.heap = h0 := by rw [← hh, Bd.state]; rfl
  have N0 := Fr.nil n0
  show Go p e below s (Q_AbstractMap_new_0 Z b76 h0 n0) xr7.cells xr7.slots s₁ (entryFrame m #[(.ref b76)] 1)
  refine Go.cast (ef_AbstractMap_new_0 m b76) ?_
  show Go p e below s _ _ _ s₁ (mkF m 0 #[.val (.ref b76)] [])
  refine Go.step (fun _ k => XS.aloadN X0.here hx rfl (hb hby d8_0) rfl rfl k) ?_
  show Go p e below s _ _ _ s₁ (mkF m 1 #[.val (.ref b76)] [(.ref b76)])
  obtain ⟨T83, X83, e83, st83⟩ := initO X0 hx hZ hown (tw41 hw) (tw12 hw) (tw13 hw) e0 (g := (mkF m 1 #[.val (.ref b76)] [(.ref b76)])) rfl (by rw [hml]; rfl) rfl (hb hby d8_1) (by decide) (W := 0) (by show 2 * 0 + _ ≤ _; exact Nat.le_of_eq rfl) (by decide)
  refine Go.step (fun _ k => st83 _ k) ?_
  show Go p e below s _ _ _ T83 (mkF m 4 #[.val (.ref b76)] [])
  exact Go.retV X83 hx hlk Bd.returns (hb hby d8_4) e83 ⟨rfl, N0, rfl⟩ (by decide) (by decide)

theorem ef_Math_max_0 (m : MethodId) (x0 : Int32) (x1 : Int32) : entryFrame m #[(.int x0), (.int x1)] 2 = mkF m 0 #[.val (.int x0), .val (.int x1)] [] := by first | (simp [entryFrame, mkF, argsToLocals, Value.category]; done) | rfl
def Q_Math_max_0 (Z : State)  (h0 : Heap) (n0 : Nat) (v : Option Value) (h : Heap) (L : List Loc) : Prop := v = some (.int (1 : Int32)) ∧ Fr n0 L ∧ h = h0
set_option maxRecDepth 65536 in
set_option maxHeartbeats 40000000 in
theorem rm_Math_max_0 (l : Launch) (Z : State) (a0 : Array Value) (hw : ∀ d ∈ tables_1, d.before a0 Z = true) (ws : List Jvm.Cond)  (h0 : Heap) (n0 : Nat) (Z0 : n0 ≤ h0.size) :
    MetFree l xm17 (head1 (Jvm.Cond.code xm17 jdk_29_method_65_code 2 (some .int) :: ws) xr14) (fun a U => a = #[(.int (1 : Int32)), (.int (1 : Int32))] ∧ Z.Warmed39 U.vm ∧ U.heap = h0) (fun _ _ _ _ _ => True) (fun _ U o U' => ∃ v L, o = .returned v ∧ Q_Math_max_0 Z  h0 n0 v U'.heap L ∧ FrameEnd U o U' L xr14.cells xr14.slots) := by
  refine MetFree.of_bodySF (Jvm.Free.JP.mathPlain rfl (by decide +kernel)) hisR ?_
  intro p e s m args below meth c s₁ Bd hml0 hP hK
  obtain ⟨rfl, hZ, hh⟩ := hP
  have hx := Bd.exec
  have hby := Bd.bytes
  have hlk : meth.locks = false := BodyLoose.notSynchronized Bd
  have hml : c.maxLocals = 2 := hml0
  have hown : s.vm.findClass xs21 = some m.cls := findClass_of_methodNamed Bd.named
  have hnm := (name_of_methodNamed Bd.named Bd.method).1
  have X0 : Stand p l e xr14 s m #[(.int (1 : Int32)), (.int (1 : Int32))] below meth c s₁ [] 0 0 := Stand.of_body Bd
  have e0 : s₁.heap = h0 := by rw [← hh, Bd.state]; rfl
  have N0 := Fr.nil n0
  show Go p e below s (Q_Math_max_0 Z  h0 n0) xr14.cells xr14.slots s₁ (entryFrame m #[(.int (1 : Int32)), (.int (1 : Int32))] 2)
  refine Go.cast (ef_Math_max_0 m (1 : Int32) (1 : Int32)) ?_
  show Go p e below s _ _ _ s₁ (mkF m 0 #[.val (.int (1 : Int32)), .val (.int (1 : Int32))] [])
  refine Go.step (fun _ k => XS.iloadN X0.here hx rfl (hb hby d9_0) rfl (XS.iloadN X0.here hx rfl (hb hby d9_1) rfl (XS.icmpNo X0.here hx rfl (hb hby d9_2) rfl (flt (by decide)).1 (XS.iloadN X0.here hx rfl (hb hby d9_5) rfl (XS.goto X0.here hx rfl (pc0 := 6) (pc' := 10) rfl (hb hby d9_6) (by decide) (by decide) k))))) ?_
  show Go p e below s _ _ _ s₁ (mkF m 10 #[.val (.int (1 : Int32)), .val (.int (1 : Int32))] [(.int (1 : Int32))])
  exact Go.retI X0 hx hlk Bd.returns (hb hby d9_10) e0 ⟨rfl, N0, rfl⟩ (by decide) (by decide)

theorem ef_Integer_numberOfLeadingZeros_0 (m : MethodId) (x0 : Int32) : entryFrame m #[(.int x0)] 2 = mkF m 0 #[.val (.int x0), .unset] [] := by first | (simp [entryFrame, mkF, argsToLocals, Value.category]; done) | rfl
def Q_Integer_numberOfLeadingZeros_0 (Z : State)  (h0 : Heap) (n0 : Nat) (v : Option Value) (h : Heap) (L : List Loc) : Prop := v = some (.int (31 : Int32)) ∧ Fr n0 L ∧ h = h0
set_option maxRecDepth 65536 in
set_option maxHeartbeats 40000000 in
theorem rm_Integer_numberOfLeadingZeros_0 (l : Launch) (Z : State) (a0 : Array Value) (hw : ∀ d ∈ tables_1, d.before a0 Z = true) (ws : List Jvm.Cond)  (h0 : Heap) (n0 : Nat) (Z0 : n0 ≤ h0.size) :
    MetFree l xm21 (head1 (Jvm.Cond.code xm21 jdk_33_method_47_code 2 (some .int) :: ws) xr14) (fun a U => a = #[(.int (1 : Int32))] ∧ Z.Warmed39 U.vm ∧ U.heap = h0) (fun _ _ _ _ _ => True) (fun _ U o U' => ∃ v L, o = .returned v ∧ Q_Integer_numberOfLeadingZeros_0 Z  h0 n0 v U'.heap L ∧ FrameEnd U o U' L xr14.cells xr14.slots) := by
  refine MetFree.of_bodySF (plainFor_of_name pn_4) hisR ?_
  intro p e s m args below meth c s₁ Bd hml0 hP hK
  obtain ⟨rfl, hZ, hh⟩ := hP
  have hx := Bd.exec
  have hby := Bd.bytes
  have hlk : meth.locks = false := BodyLoose.notSynchronized Bd
  have hml : c.maxLocals = 2 := hml0
  have hown : s.vm.findClass xs16 = some m.cls := findClass_of_methodNamed Bd.named
  have hnm := (name_of_methodNamed Bd.named Bd.method).1
  have X0 : Stand p l e xr14 s m #[(.int (1 : Int32))] below meth c s₁ [] 0 0 := Stand.of_body Bd
  have e0 : s₁.heap = h0 := by rw [← hh, Bd.state]; rfl
  have N0 := Fr.nil n0
  show Go p e below s (Q_Integer_numberOfLeadingZeros_0 Z  h0 n0) xr14.cells xr14.slots s₁ (entryFrame m #[(.int (1 : Int32))] 2)
  refine Go.cast (ef_Integer_numberOfLeadingZeros_0 m (1 : Int32)) ?_
  show Go p e below s _ _ _ s₁ (mkF m 0 #[.val (.int (1 : Int32)), .unset] [])
  refine Go.step (fun _ k => XS.iloadN X0.here hx rfl (hb hby d11_0) rfl (XS.ifYes X0.here hx rfl (pc0 := 1) (pc' := 15) rfl (hb hby d11_1) rfl ((if0 _ _).trans (tlt (by decide)).2.2.1) (by decide) (by decide) (XS.bipush X0.here hx rfl (hb hby d11_15) (XS.istoreN X0.here hx rfl (hb hby d11_17) rfl (l' := #[.val (.int (1 : Int32)), .val (.int (31 : Int32))]) rfl (XS.iloadN X0.here hx rfl (hb hby d11_18) rfl (X0.ldcwInt hx hown (mvT hZ (tw61 hw)) (g := (mkF m 19 #[.val (.int (1 : Int32)), .val (.int (31 : Int32))] [(.int (1 : Int32))])) rfl (hb hby d11_19) _ (XS.icmpYes X0.here hx rfl (pc0 := 22) (pc' := 33) rfl (hb hby d11_22) rfl (tlt (by decide)).1 (by decide) (by decide) (XS.iloadN X0.here hx rfl (hb hby d11_33) rfl (XS.sipush X0.here hx rfl (hb hby d11_34) (XS.icmpYes X0.here hx rfl (pc0 := 37) (pc' := 48) rfl (hb hby d11_37) rfl (tlt (by decide)).1 (by decide) (by decide) k)))))))))) ?_
  show Go p e below s _ _ _ s₁ (mkF m 48 #[.val (.int (1 : Int32)), .val (.int (31 : Int32))] [])
  refine Go.step (fun _ k => XS.iloadN X0.here hx rfl (hb hby d11_48) rfl (XS.bipush X0.here hx rfl (hb hby d11_49) (XS.icmpYes X0.here hx rfl (pc0 := 51) (pc' := 61) rfl (hb hby d11_51) rfl (tlt (by decide)).1 (by decide) (by decide) (XS.iloadN X0.here hx rfl (hb hby d11_61) rfl (XS.iconst X0.here hx rfl (hb hby d11_62) (XS.icmpYes X0.here hx rfl (pc0 := 63) (pc' := 73) rfl (hb hby d11_63) rfl (tlt (by decide)).1 (by decide) (by decide) (XS.iloadN X0.here hx rfl (hb hby d11_73) rfl (XS.iloadN X0.here hx rfl (hb hby d11_74) rfl (XS.iconst X0.here hx rfl (hb hby d11_75) (XS.iushr X0.here hx rfl (hb hby d11_76) rfl k)))))))))) ?_
  show Go p e below s _ _ _ s₁ (mkF m 77 #[.val (.int (1 : Int32)), .val (.int (31 : Int32))] [(.int (((1 : Int32).toUInt32 >>> ((1 : Int32) &&& 31).toUInt32).toInt32)), (.int (31 : Int32))])
  refine Go.step (fun _ k => XS.isub X0.here hx rfl (hb hby d11_77) rfl k) ?_
  show Go p e below s _ _ _ s₁ (mkF m 78 #[.val (.int (1 : Int32)), .val (.int (31 : Int32))] [(.int (31 : Int32))])
  exact Go.retI X0 hx hlk Bd.returns (hb hby d11_78) e0 ⟨rfl, N0, rfl⟩ (by decide) (by decide)

theorem ef_Integer_highestOneBit_0 (m : MethodId) (x0 : Int32) : entryFrame m #[(.int x0)] 1 = mkF m 0 #[.val (.int x0)] [] := by first | (simp [entryFrame, mkF, argsToLocals, Value.category]; done) | rfl
def Q_Integer_highestOneBit_0 (Z : State)  (h0 : Heap) (n0 : Nat) (v : Option Value) (h : Heap) (L : List Loc) : Prop := v = some (.int (1 : Int32)) ∧ Fr n0 L ∧ h = h0
set_option maxRecDepth 65536 in
set_option maxHeartbeats 40000000 in
theorem rm_Integer_highestOneBit_0 (l : Launch) (Z : State) (a0 : Array Value) (hw : ∀ d ∈ tables_1, d.before a0 Z = true) (ws : List Jvm.Cond)  (h0 : Heap) (n0 : Nat) (Z0 : n0 ≤ h0.size) :
    MetFree l xm1 (head1 (Jvm.Cond.code xm1 jdk_33_method_45_code 1 (some .int) :: ws) xr8) (fun a U => a = #[(.int (1 : Int32))] ∧ Z.Warmed39 U.vm ∧ U.heap = h0) (fun _ _ _ _ _ => True) (fun _ U o U' => ∃ v L, o = .returned v ∧ Q_Integer_highestOneBit_0 Z  h0 n0 v U'.heap L ∧ FrameEnd U o U' L xr8.cells xr8.slots) := by
  refine MetFree.of_bodySF (plainFor_of_name pn_4) hisR ?_
  intro p e s m args below meth c s₁ Bd hml0 hP hK
  obtain ⟨rfl, hZ, hh⟩ := hP
  have hx := Bd.exec
  have hby := Bd.bytes
  have hlk : meth.locks = false := BodyLoose.notSynchronized Bd
  have hml : c.maxLocals = 1 := hml0
  have hown : s.vm.findClass xs16 = some m.cls := findClass_of_methodNamed Bd.named
  have hnm := (name_of_methodNamed Bd.named Bd.method).1
  have X0 : Stand p l e xr8 s m #[(.int (1 : Int32))] below meth c s₁ [] 0 0 := Stand.of_body Bd
  have e0 : s₁.heap = h0 := by rw [← hh, Bd.state]; rfl
  have N0 := Fr.nil n0
  show Go p e below s (Q_Integer_highestOneBit_0 Z  h0 n0) xr8.cells xr8.slots s₁ (entryFrame m #[(.int (1 : Int32))] 1)
  refine Go.cast (ef_Integer_highestOneBit_0 m (1 : Int32)) ?_
  show Go p e below s _ _ _ s₁ (mkF m 0 #[.val (.int (1 : Int32))] [])
  refine Go.step (fun _ k => XS.iloadN X0.here hx rfl (hb hby d10_0) rfl (X0.ldcInt hx hown (mvT hZ (tw57 hw)) (g := (mkF m 1 #[.val (.int (1 : Int32))] [(.int (1 : Int32))])) rfl (hb hby d10_1) _ (XS.iloadN X0.here hx rfl (hb hby d10_3) rfl k))) ?_
  show Go p e below s _ _ _ s₁ (mkF m 4 #[.val (.int (1 : Int32))] [(.int (1 : Int32)), (.int (-2147483648 : Int32)), (.int (1 : Int32))])
  obtain ⟨_, _, ⟨T106, L106, k106, n106⟩, -, X106, ⟨Lc106, hQ106, l106, y106, z106⟩, st106⟩ := Jvm.LawKit.callS X0 hx (y := xm21) hown (mvT hZ (tw58 hw)) (mvT hZ (tw59 hw)) (mvT hZ (tw55 hw)) (mvT hZ (tw60 hw)) (by decide) (backOf (W := 2) (rm_Integer_numberOfLeadingZeros_0 l Z a0 hw []  h0 n0 Z0) hZ (tw60 hw) (tw55 hw) (by decide) (by decide)) (g := (mkF m 4 #[.val (.int (1 : Int32))] [(.int (1 : Int32)), (.int (-2147483648 : Int32)), (.int (1 : Int32))])) rfl (by rw [hml]; rfl) (argsL := [(.int (1 : Int32))]) (rest := [(.int (-2147483648 : Int32)), (.int (1 : Int32))]) (lenOf pd_8 rfl) rfl (by show 2 * 0 + _ ≤ _; exact Nat.le_of_eq rfl) (hb hby d10_4) (fun _ _ => ⟨rfl, e0, (by decide : 0 + 0 ≤ _), (by decide : 0 + 0 ≤ _)⟩)
  dsimp only [Pt.U, Pt.locs, Pt.cells, Pt.slots] at X106 l106 y106 z106 st106 hQ106
  subst l106 y106 z106
  obtain ⟨rfl, N106q, eq106⟩ := hQ106
  have N107 := Fr.app N0 N106q
  refine Go.step (fun _ k => st106 _ (XS.iushr X106.here hx rfl (hb hby d10_7) rfl (XS.iand X106.here hx rfl (hb hby d10_8) rfl k))) ?_
  show Go p e below s _ _ _ T106 (mkF m 9 #[.val (.int (1 : Int32))] [(.int (1 : Int32))])
  exact Go.retI X106 hx hlk Bd.returns (hb hby d10_9) eq106 ⟨rfl, N107, rfl⟩ (by decide) (by decide)

theorem ef_PropertyIndex_new_0 (m : MethodId) (x0 : Addr) (x1 : Addr) (x3 : Int32) : entryFrame m #[(.ref x0), (.ref x1), .null, (.int x3)] 5 = mkF m 0 #[.val (.ref x0), .val (.ref x1), .val .null, .val (.int x3), .unset] [] := by first | (simp [entryFrame, mkF, argsToLocals, Value.category]; done) | rfl
def Q_PropertyIndex_new_0 (Z : State) (b76 : Addr) (b6 : Addr) (h0 : Heap) (n0 : Nat) (v : Option Value) (h : Heap) (L : List Loc) : Prop := ∃ (b99 : Addr) (k99 : ClassId) (b111 : Addr) (k111 : ClassId), v = none ∧ Fr n0 L ∧ Keep h0 h [b76] ∧ Fld Z h b76 xs1 "text" xs14 (.ref b6) ∧ Fld Z h b76 xs1 "lineEnds" xs2 .null ∧ Fld Z h b76 xs1 "entries" "[I" (.ref b99) ∧ Fld Z h b76 xs1 "slots" "[I" (.ref b111) ∧ Fld Z h b76 xs1 "keyed" "Z" (.int (0 : Int32)) ∧ Fld Z h b76 xs1 "size" "I" (.int (0 : Int32)) ∧ h0.size ≤ b99 ∧ Arv Z h b99 k99 .int (6 : Int32) [(.int (0 : Int32)), (.int (0 : Int32)), (.int (0 : Int32)), (.int (0 : Int32)), (.int (0 : Int32)), (.int (0 : Int32))] (.int (0 : Int32)) ∧ h0.size ≤ b111 ∧ Arv Z h b111 k111 .int (4 : Int32) [(.int (0 : Int32)), (.int (0 : Int32)), (.int (0 : Int32)), (.int (0 : Int32))] (.int (0 : Int32)) ∧ b99 ≠ b111
set_option maxRecDepth 65536 in
set_option maxHeartbeats 40000000 in
theorem rm_PropertyIndex_new_0 (l : Launch) (Z : State) (a0 : Array Value) (hw : ∀ d ∈ tables_1, d.before a0 Z = true) (ws : List Jvm.Cond) (b76 : Addr) (b6 : Addr) (h0 : Heap) (n0 : Nat) (Z0 : n0 ≤ h0.size) (E_b76 : Exa Z h0 b76 xs1) (F_text_b76 : Fld Z h0 b76 xs1 "text" xs14 .null) (g_b76 : n0 ≤ b76) (F_lineEnds_b76 : Fld Z h0 b76 xs1 "lineEnds" xs2 .null) (F_entries_b76 : Fld Z h0 b76 xs1 "entries" "[I" .null) (F_slots_b76 : Fld Z h0 b76 xs1 "slots" "[I" .null) (F_keyed_b76 : Fld Z h0 b76 xs1 "keyed" "Z" (.int (0 : Int32))) (F_size_b76 : Fld Z h0 b76 xs1 "size" "I" (.int (0 : Int32))) :
    MetFree l xm22 (head1 (Jvm.Cond.code xm22 prog_15_method_2_code 5 none :: ws) xr0) (fun a U => a = #[(.ref b76), (.ref b6), .null, (.int (1 : Int32))] ∧ Z.Warmed39 U.vm ∧ U.heap = h0) (fun _ _ _ _ _ => True) (fun _ U o U' => ∃ v L, o = .returned v ∧ Q_PropertyIndex_new_0 Z b76 b6 h0 n0 v U'.heap L ∧ FrameEnd U o U' L xr0.cells xr0.slots) := by
  refine MetFree.of_bodySF (plainFor_of_name pn_5) hisR ?_
  intro p e s m args below meth c s₁ Bd hml0 hP hK
  obtain ⟨rfl, hZ, hh⟩ := hP
  have hx := Bd.exec
  have hby := Bd.bytes
  have hlk : meth.locks = false := BodyLoose.notSynchronized Bd
  have hml : c.maxLocals = 5 := hml0
  have hown : s.vm.findClass xs1 = some m.cls := findClass_of_methodNamed Bd.named
  have hnm := (name_of_methodNamed Bd.named Bd.method).1
  have X0 : Stand p l e xr0 s m #[(.ref b76), (.ref b6), .null, (.int (1 : Int32))] below meth c s₁ [] 0 0 := Stand.of_body Bd
  have e0 : s₁.heap = h0 := by rw [← hh, Bd.state]; rfl
  have N0 := Fr.nil n0
  show Go p e below s (Q_PropertyIndex_new_0 Z b76 b6 h0 n0) xr0.cells xr0.slots s₁ (entryFrame m #[(.ref b76), (.ref b6), .null, (.int (1 : Int32))] 5)
  refine Go.cast (ef_PropertyIndex_new_0 m b76 b6 (1 : Int32)) ?_
  show Go p e below s _ _ _ s₁ (mkF m 0 #[.val (.ref b76), .val (.ref b6), .val .null, .val (.int (1 : Int32)), .unset] [])
  refine Go.step (fun _ k => XS.aloadN X0.here hx rfl (hb hby d7_0) rfl rfl k) ?_
  show Go p e below s _ _ _ s₁ (mkF m 1 #[.val (.ref b76), .val (.ref b6), .val .null, .val (.int (1 : Int32)), .unset] [(.ref b76)])
  obtain ⟨_, _, ⟨T84, L84, k84, n84⟩, -, X84, ⟨Lc84, hQ84, l84, y84, z84⟩, st84⟩ := X0.specialBack hx (y := xm14) rfl hown (mvT hZ (tw36 hw)) (mvT hZ (tw37 hw)) (mvT hZ (tw40 hw)) (by decide) (backOf (W := 0) (rm_AbstractMap_new_0 l Z a0 hw [] b76 h0 n0 Z0) hZ (tw40 hw) (tw39 hw) (by decide) (by decide)) (g := (mkF m 1 #[.val (.ref b76), .val (.ref b6), .val .null, .val (.int (1 : Int32)), .unset] [(.ref b76)])) rfl (by rw [hml]; rfl) (Steps.refl _) (a := b76) (argsL := []) (rest := []) (lenOf pd_6 rfl) rfl (by show 2 * 0 + _ ≤ _; exact Nat.le_of_eq rfl) (hb hby d7_1) (fun _ _ => ⟨rfl, e0, (by decide : 0 + 0 ≤ _), (by decide : 0 + 0 ≤ _)⟩)
  dsimp only [Pt.U, Pt.locs, Pt.cells, Pt.slots] at X84 l84 y84 z84 st84 hQ84
  subst l84 y84 z84
  obtain ⟨rfl, N84q, eq84⟩ := hQ84
  have N85 := Fr.app N0 N84q
  refine Go.step (fun _ k => st84.trans (XS.aloadN X84.here hx rfl (hb hby d7_4) rfl rfl (XS.aloadN X84.here hx rfl (hb hby d7_5) rfl rfl k))) ?_
  show Go p e below s _ _ _ T84 (mkF m 6 #[.val (.ref b76), .val (.ref b6), .val .null, .val (.int (1 : Int32)), .unset] [(.ref b6), (.ref b76)])
  obtain ⟨T86, h86, X86, e86, W86, st86⟩ := putF X84 hx hZ hown (host := "") (Or.inl (tw42 hw)) Via.refl eq84 F_text_b76 E_b76 (Or.inr ⟨(tw43 hw), rfl, hnm⟩) (tw31 hw) (ty := (.object xs18)) (by decide) rfl rfl (g := (mkF m 6 #[.val (.ref b76), .val (.ref b6), .val .null, .val (.int (1 : Int32)), .unset] [(.ref b6), (.ref b76)])) rfl rfl (hb hby d7_6)
  have f89 := F_text_b76.same W86
  have N90 := Fr.snoc X86 N85 g_b76
  refine Go.step (fun _ k => st86 _ (XS.aloadN X86.here hx rfl (hb hby d7_9) rfl rfl (XS.aloadN X86.here hx rfl (hb hby d7_10) rfl rfl k))) ?_
  show Go p e below s _ _ _ T86 (mkF m 11 #[.val (.ref b76), .val (.ref b6), .val .null, .val (.int (1 : Int32)), .unset] [.null, (.ref b76)])
  have f91 := (F_lineEnds_b76.other W86 (Or.inr (slot_ne (Or.inr (tw45 hw)) (Or.inr (tw43 hw)) (by decide) (t := (.object xs3)) (t' := (.object xs18)) (by decide) (by decide))))
  have f92 := (E_b76.wr W86)
  obtain ⟨T93, h93, X93, e93, W93, st93⟩ := putF X86 hx hZ hown (host := "") (Or.inl (tw44 hw)) Via.refl e86 f91 f92 (Or.inr ⟨(tw45 hw), rfl, hnm⟩) (tw31 hw) (ty := (.object xs3)) (by decide) rfl rfl (g := (mkF m 11 #[.val (.ref b76), .val (.ref b6), .val .null, .val (.int (1 : Int32)), .unset] [.null, (.ref b76)])) rfl rfl (hb hby d7_11)
  have f94 := f91.same W93
  have N95 := Fr.snoc X93 N90 g_b76
  refine Go.step (fun _ k => st93 _ (XS.iloadN X93.here hx rfl (hb hby d7_14) rfl (XS.iconst X93.here hx rfl (hb hby d7_15) k))) ?_
  show Go p e below s _ _ _ T93 (mkF m 16 #[.val (.ref b76), .val (.ref b6), .val .null, .val (.int (1 : Int32)), .unset] [(.int (1 : Int32)), (.int (1 : Int32))])
  have f96 := (Nat.le_trans (Nat.le_trans Z0 (Keep.of_wr W86).1) (Keep.of_wr W93).1)
  obtain ⟨_, _, ⟨T97, L97, k97, n97⟩, -, X97, ⟨Lc97, hQ97, l97, y97, z97⟩, st97⟩ := Jvm.LawKit.callS X93 hx (y := xm17) hown (mvT hZ (tw46 hw)) (mvT hZ (tw47 hw)) (mvT hZ (tw48 hw)) (mvT hZ (tw49 hw)) (by decide) (backOf (W := 0) (rm_Math_max_0 l Z a0 hw []  h93 n0 f96) hZ (tw49 hw) (tw48 hw) (by decide) (by decide)) (g := (mkF m 16 #[.val (.ref b76), .val (.ref b6), .val .null, .val (.int (1 : Int32)), .unset] [(.int (1 : Int32)), (.int (1 : Int32))])) rfl (by rw [hml]; rfl) (argsL := [(.int (1 : Int32)), (.int (1 : Int32))]) (rest := []) (lenOf pd_7 rfl) rfl (by show 2 * 0 + _ ≤ _; exact Nat.le_of_eq rfl) (hb hby d7_16) (fun _ _ => ⟨rfl, e93, (by decide : 0 + 0 ≤ _), (by decide : 0 + 0 ≤ _)⟩)
  dsimp only [Pt.U, Pt.locs, Pt.cells, Pt.slots] at X97 l97 y97 z97 st97 hQ97
  subst l97 y97 z97
  obtain ⟨rfl, N97q, eq97⟩ := hQ97
  have N98 := Fr.app N95 N97q
  refine Go.step (fun _ k => st97 _ (XS.istore X97.here hx rfl (hb hby d7_19) rfl (l' := #[.val (.ref b76), .val (.ref b6), .val .null, .val (.int (1 : Int32)), .val (.int (1 : Int32))]) rfl (XS.aloadN X97.here hx rfl (hb hby d7_21) rfl rfl (XS.iload X97.here hx rfl (hb hby d7_22) rfl (XS.bipush X97.here hx rfl (hb hby d7_24) (XS.imul X97.here hx rfl (hb hby d7_26) rfl k)))))) ?_
  show Go p e below s _ _ _ T97 (mkF m 27 #[.val (.ref b76), .val (.ref b6), .val .null, .val (.int (1 : Int32)), .val (.int (1 : Int32))] [(.int (6 : Int32)), (.ref b76)])
  obtain ⟨T99, h99, k99, X99, e99, E99, A99, st99⟩ := newP (aty := .int) X97 hx hZ (tw50 hw) eq97 (g := (mkF m 27 #[.val (.ref b76), .val (.ref b6), .val .null, .val (.int (1 : Int32)), .val (.int (1 : Int32))] [(.int (6 : Int32)), (.ref b76)])) rfl (hb hby d7_27) rfl (by decide) (cap := 6) (by decide) (by decide) (by decide) (by decide)
  obtain ⟨b99, g99⟩ : ∃ z, z = h93.size := ⟨_, rfl⟩
  rw [← g99] at A99 st99
  have f100 : Arv Z h99 b99 k99 .int (6 : Int32) [(.int (0 : Int32)), (.int (0 : Int32)), (.int (0 : Int32)), (.int (0 : Int32)), (.int (0 : Int32)), (.int (0 : Int32))] (.int (0 : Int32)) := (Arv.new A99 (by decide)).pad (pad_rep [] (.int (0 : Int32)) 6)
  refine Go.step (fun _ k => st99 _ k) ?_
  show Go p e below s _ _ _ T99 (mkF m 29 #[.val (.ref b76), .val (.ref b6), .val .null, .val (.int (1 : Int32)), .val (.int (1 : Int32))] [(.ref b99), (.ref b76)])
  have f101 := (((F_entries_b76.other W86 (Or.inr (slot_ne (Or.inl (tw52 hw)) (Or.inr (tw43 hw)) (by decide) (t := (.array .int)) (t' := (.object xs18)) (by decide) (by decide)))).other W93 (Or.inr (slot_ne (Or.inl (tw52 hw)) (Or.inr (tw45 hw)) (by decide) (t := (.array .int)) (t' := (.object xs3)) (by decide) (by decide)))).ext E99)
  have f102 := ((f92.wr W93).ext E99)
  obtain ⟨T103, h103, X103, e103, W103, st103⟩ := putF X99 hx hZ hown (host := "") (Or.inl (tw51 hw)) Via.refl e99 f101 f102 (Or.inl (tw52 hw)) (tw31 hw) (ty := (.array .int)) (by decide) rfl rfl (g := (mkF m 29 #[.val (.ref b76), .val (.ref b6), .val .null, .val (.int (1 : Int32)), .val (.int (1 : Int32))] [(.ref b99), (.ref b76)])) rfl rfl (hb hby d7_29)
  have f104 := f101.same W103
  have N105 := Fr.snoc X103 N98 g_b76
  refine Go.step (fun _ k => st103 _ (XS.aloadN X103.here hx rfl (hb hby d7_32) rfl rfl (XS.iload X103.here hx rfl (hb hby d7_33) rfl k))) ?_
  show Go p e below s _ _ _ T103 (mkF m 35 #[.val (.ref b76), .val (.ref b6), .val .null, .val (.int (1 : Int32)), .val (.int (1 : Int32))] [(.int (1 : Int32)), (.ref b76)])
  have f108 := (Nat.le_trans (Nat.le_trans f96 E99.1) (Keep.of_wr W103).1)
  obtain ⟨_, _, ⟨T109, L109, k109, n109⟩, -, X109, ⟨Lc109, hQ109, l109, y109, z109⟩, st109⟩ := Jvm.LawKit.callS X103 hx (y := xm1) hown (mvT hZ (tw53 hw)) (mvT hZ (tw54 hw)) (mvT hZ (tw55 hw)) (mvT hZ (tw56 hw)) (by decide) (backOf (W := 1) (rm_Integer_highestOneBit_0 l Z a0 hw []  h103 n0 f108) hZ (tw56 hw) (tw55 hw) (by decide) (by decide)) (g := (mkF m 35 #[.val (.ref b76), .val (.ref b6), .val .null, .val (.int (1 : Int32)), .val (.int (1 : Int32))] [(.int (1 : Int32)), (.ref b76)])) rfl (by rw [hml]; rfl) (argsL := [(.int (1 : Int32))]) (rest := [(.ref b76)]) (lenOf pd_8 rfl) rfl (by show 2 * 0 + _ ≤ _; exact Nat.le_of_eq rfl) (hb hby d7_35) (fun _ _ => ⟨rfl, e103, (by decide : 1 + 0 ≤ _), (by decide : 6 + 0 ≤ _)⟩)
  dsimp only [Pt.U, Pt.locs, Pt.cells, Pt.slots] at X109 l109 y109 z109 st109 hQ109
  subst l109 y109 z109
  obtain ⟨rfl, N109q, eq109⟩ := hQ109
  have N110 := Fr.app N105 N109q
  refine Go.step (fun _ k => st109 _ (XS.iconst X109.here hx rfl (hb hby d7_38) (XS.imul X109.here hx rfl (hb hby d7_39) rfl k))) ?_
  show Go p e below s _ _ _ T109 (mkF m 40 #[.val (.ref b76), .val (.ref b6), .val .null, .val (.int (1 : Int32)), .val (.int (1 : Int32))] [(.int (4 : Int32)), (.ref b76)])
  obtain ⟨T111, h111, k111, X111, e111, E111, A111, st111⟩ := newP (aty := .int) X109 hx hZ (tw50 hw) eq109 (g := (mkF m 40 #[.val (.ref b76), .val (.ref b6), .val .null, .val (.int (1 : Int32)), .val (.int (1 : Int32))] [(.int (4 : Int32)), (.ref b76)])) rfl (hb hby d7_40) rfl (by decide) (cap := 4) (by decide) (by decide) (by decide) (by decide)
  obtain ⟨b111, g111⟩ : ∃ z, z = h103.size := ⟨_, rfl⟩
  rw [← g111] at A111 st111
  have f112 : Arv Z h111 b111 k111 .int (4 : Int32) [(.int (0 : Int32)), (.int (0 : Int32)), (.int (0 : Int32)), (.int (0 : Int32))] (.int (0 : Int32)) := (Arv.new A111 (by decide)).pad (pad_rep [] (.int (0 : Int32)) 4)
  refine Go.step (fun _ k => st111 _ k) ?_
  show Go p e below s _ _ _ T111 (mkF m 42 #[.val (.ref b76), .val (.ref b6), .val .null, .val (.int (1 : Int32)), .val (.int (1 : Int32))] [(.ref b111), (.ref b76)])
  have f113 := (((((F_slots_b76.other W86 (Or.inr (slot_ne (Or.inl (tw63 hw)) (Or.inr (tw43 hw)) (by decide) (t := (.array .int)) (t' := (.object xs18)) (by decide) (by decide)))).other W93 (Or.inr (slot_ne (Or.inl (tw63 hw)) (Or.inr (tw45 hw)) (by decide) (t := (.array .int)) (t' := (.object xs3)) (by decide) (by decide)))).ext E99).other W103 (Or.inr (slot_ne (Or.inl (tw63 hw)) (Or.inl (tw52 hw)) (by decide) (t := (.array .int)) (t' := (.array .int)) (by decide) (by decide)))).ext E111)
  have f114 := ((f102.wr W103).ext E111)
  obtain ⟨T115, h115, X115, e115, W115, st115⟩ := putF X111 hx hZ hown (host := "") (Or.inl (tw62 hw)) Via.refl e111 f113 f114 (Or.inl (tw63 hw)) (tw31 hw) (ty := (.array .int)) (by decide) rfl rfl (g := (mkF m 42 #[.val (.ref b76), .val (.ref b6), .val .null, .val (.int (1 : Int32)), .val (.int (1 : Int32))] [(.ref b111), (.ref b76)])) rfl rfl (hb hby d7_42)
  have f116 := f113.same W115
  have N117 := Fr.snoc X115 N110 g_b76
  refine Go.step (fun _ k => st115 _ k) ?_
  show Go p e below s _ _ _ T115 (mkF m 45 #[.val (.ref b76), .val (.ref b6), .val .null, .val (.int (1 : Int32)), .val (.int (1 : Int32))] [])
  have f118 := (((((((Keep.refl h0 [b76]).wr W86 (Or.inl (List.mem_of_getElem? (i := 0) rfl))).wr W93 (Or.inl (List.mem_of_getElem? (i := 0) rfl))).ext E99).wr W103 (Or.inl (List.mem_of_getElem? (i := 0) rfl))).ext E111).wr W115 (Or.inl (List.mem_of_getElem? (i := 0) rfl)))
  have f119 := (((((f89.other W93 (Or.inr (slot_ne (Or.inr (tw43 hw)) (Or.inr (tw45 hw)) (by decide) (t := (.object xs18)) (t' := (.object xs3)) (by decide) (by decide)))).ext E99).other W103 (Or.inr (slot_ne (Or.inr (tw43 hw)) (Or.inl (tw52 hw)) (by decide) (t := (.object xs18)) (t' := (.array .int)) (by decide) (by decide)))).ext E111).other W115 (Or.inr (slot_ne (Or.inr (tw43 hw)) (Or.inl (tw63 hw)) (by decide) (t := (.object xs18)) (t' := (.array .int)) (by decide) (by decide))))
  have f120 := ((((f94.ext E99).other W103 (Or.inr (slot_ne (Or.inr (tw45 hw)) (Or.inl (tw52 hw)) (by decide) (t := (.object xs3)) (t' := (.array .int)) (by decide) (by decide)))).ext E111).other W115 (Or.inr (slot_ne (Or.inr (tw45 hw)) (Or.inl (tw63 hw)) (by decide) (t := (.object xs3)) (t' := (.array .int)) (by decide) (by decide))))
  have f121 := ((f104.ext E111).other W115 (Or.inr (slot_ne (Or.inl (tw52 hw)) (Or.inl (tw63 hw)) (by decide) (t := (.array .int)) (t' := (.array .int)) (by decide) (by decide))))
  have f122 := ((((((F_keyed_b76.other W86 (Or.inr (slot_ne (Or.inl (tw74 hw)) (Or.inr (tw43 hw)) (by decide) (t := .boolean) (t' := (.object xs18)) (by decide) (by decide)))).other W93 (Or.inr (slot_ne (Or.inl (tw74 hw)) (Or.inr (tw45 hw)) (by decide) (t := .boolean) (t' := (.object xs3)) (by decide) (by decide)))).ext E99).other W103 (Or.inr (slot_ne (Or.inl (tw74 hw)) (Or.inl (tw52 hw)) (by decide) (t := .boolean) (t' := (.array .int)) (by decide) (by decide)))).ext E111).other W115 (Or.inr (slot_ne (Or.inl (tw74 hw)) (Or.inl (tw63 hw)) (by decide) (t := .boolean) (t' := (.array .int)) (by decide) (by decide))))
  have f123 := ((((((F_size_b76.other W86 (Or.inr (slot_ne (Or.inl (tw105 hw)) (Or.inr (tw43 hw)) (by decide) (t := .int) (t' := (.object xs18)) (by decide) (by decide)))).other W93 (Or.inr (slot_ne (Or.inl (tw105 hw)) (Or.inr (tw45 hw)) (by decide) (t := .int) (t' := (.object xs3)) (by decide) (by decide)))).ext E99).other W103 (Or.inr (slot_ne (Or.inl (tw105 hw)) (Or.inl (tw52 hw)) (by decide) (t := .int) (t' := (.array .int)) (by decide) (by decide)))).ext E111).other W115 (Or.inr (slot_ne (Or.inl (tw105 hw)) (Or.inl (tw63 hw)) (by decide) (t := .int) (t' := (.array .int)) (by decide) (by decide))))
  have f124 := (Nat.le_trans (Nat.le_trans (Nat.le_refl _) (Keep.of_wr W86).1) (Keep.of_wr W93).1)
  have z125 := Nat.le_trans f124 (Nat.le_of_eq g99.symm)
  have f126 := (f92.wr W93)
  have ne127 : b76 ≠ b99 := Nat.ne_of_lt (Nat.lt_of_lt_of_le f126.lt (Nat.le_of_eq g99.symm))
  have f128 := (((f100.other W103 (Ne.symm ne127)).ext E111).other W115 (Ne.symm ne127))
  have f129 := (Nat.le_trans (Nat.le_trans f124 E99.1) (Keep.of_wr W103).1)
  have z130 := Nat.le_trans f129 (Nat.le_of_eq g111.symm)
  have f131 := (f102.wr W103)
  have ne132 : b76 ≠ b111 := Nat.ne_of_lt (Nat.lt_of_lt_of_le f131.lt (Nat.le_of_eq g111.symm))
  have f133 := (f112.other W115 (Ne.symm ne132))
  have f134 := (f100.other W103 (Ne.symm ne127))
  have ne135 : b99 ≠ b111 := Nat.ne_of_lt (Nat.lt_of_lt_of_le f134.lt (Nat.le_of_eq g111.symm))
  exact Go.retV X115 hx hlk Bd.returns (hb hby d7_45) e115 ⟨b99, k99, b111, k111, rfl, N117, f118, f119, f120, f121, f116, f122, f123, z125, f128, z130, f133, ne135⟩ (by decide) (by decide)

theorem ef_String_isLatin1_0 (m : MethodId) (x0 : Addr) : entryFrame m #[(.ref x0)] 1 = mkF m 0 #[.val (.ref x0)] [] := by first | (simp [entryFrame, mkF, argsToLocals, Value.category]; done) | rfl
def Q_String_isLatin1_0 (Z : State) (b6 : Addr) (cs : Int32) (h0 : Heap) (n0 : Nat) (v : Option Value) (h : Heap) (L : List Loc) : Prop := v = some (.int (1 : Int32)) ∧ Fr n0 L ∧ h = h0
set_option maxRecDepth 65536 in
set_option maxHeartbeats 40000000 in
theorem rm_String_isLatin1_0 (l : Launch) (Z : State) (a0 : Array Value) (hw : ∀ d ∈ tables_1, d.before a0 Z = true) (ws : List Jvm.Cond) (b6 : Addr) (cs : Int32) (h0 : Heap) (n0 : Nat) (Z0 : n0 ≤ h0.size) (Z_S_COMPACT_STRINGS : Sta Z Z.heap xs18 xs20 "Z" (.int cs)) (O0 : Old Z n0 h0) (hcs : ¬ cs = (0 : Int32)) (F_coder_b6 : Fld Z h0 b6 xs18 "coder" "B" (.int (0 : Int32))) :
    MetFree l xm8 (head1 (Jvm.Cond.code xm8 jdk_42_method_154_code 1 (some .boolean) :: ws) xr14) (fun a U => a = #[(.ref b6)] ∧ Z.Warmed39 U.vm ∧ U.heap = h0) (fun _ _ _ _ _ => True) (fun _ U o U' => ∃ v L, o = .returned v ∧ Q_String_isLatin1_0 Z b6 cs h0 n0 v U'.heap L ∧ FrameEnd U o U' L xr14.cells xr14.slots) := by
  refine MetFree.of_bodySF (plainFor_of_name pn_1) hisR ?_
  intro p e s m args below meth c s₁ Bd hml0 hP hK
  obtain ⟨rfl, hZ, hh⟩ := hP
  have hx := Bd.exec
  have hby := Bd.bytes
  have hlk : meth.locks = false := BodyLoose.notSynchronized Bd
  have hml : c.maxLocals = 1 := hml0
  have hown : s.vm.findClass xs18 = some m.cls := findClass_of_methodNamed Bd.named
  have hnm := (name_of_methodNamed Bd.named Bd.method).1
  have X0 : Stand p l e xr14 s m #[(.ref b6)] below meth c s₁ [] 0 0 := Stand.of_body Bd
  have e0 : s₁.heap = h0 := by rw [← hh, Bd.state]; rfl
  have N0 := Fr.nil n0
  show Go p e below s (Q_String_isLatin1_0 Z b6 cs h0 n0) xr14.cells xr14.slots s₁ (entryFrame m #[(.ref b6)] 1)
  refine Go.cast (ef_String_isLatin1_0 m b6) ?_
  show Go p e below s _ _ _ s₁ (mkF m 0 #[.val (.ref b6)] [])
  obtain ⟨T141, X141, e141, st141⟩ := getS2 X0 hx hZ hown (host := "") (Or.inl (tw14 hw)) Via.refl e0 (Z_S_COMPACT_STRINGS.ext O0.2) (g := (mkF m 0 #[.val (.ref b6)] [])) rfl (hb hby d16_0)
  refine Go.step (fun _ k => st141 _ (XS.ifNo X141.here hx rfl (hb hby d16_3) rfl ((if0 _ _).trans (feq hcs).1) (XS.aloadN X141.here hx rfl (hb hby d16_6) rfl rfl k))) ?_
  show Go p e below s _ _ _ T141 (mkF m 7 #[.val (.ref b6)] [(.ref b6)])
  obtain ⟨T142, X142, e142, st142⟩ := getF X141 hx hZ hown (host := "") (Or.inl (tw26 hw)) Via.refl e141 F_coder_b6 (g := (mkF m 7 #[.val (.ref b6)] [(.ref b6)])) rfl rfl (hb hby d16_7)
  refine Go.step (fun _ k => st142 _ (XS.ifNo X142.here hx rfl (hb hby d16_10) rfl ((if0 _ _).trans (teq (by decide)).2) (XS.iconst X142.here hx rfl (hb hby d16_13) (XS.goto X142.here hx rfl (pc0 := 14) (pc' := 18) rfl (hb hby d16_14) (by decide) (by decide) k)))) ?_
  show Go p e below s _ _ _ T142 (mkF m 18 #[.val (.ref b6)] [(.int (1 : Int32))])
  exact Go.retN X142 hx hlk (t := .boolean) Bd.returns (by simp) (hb hby d16_18) e142 ⟨rfl, N0, rfl⟩ (by decide) (by decide)

theorem ef_StringLatin1_charAt_0 (m : MethodId) (x0 : Addr) (x1 : Int32) : entryFrame m #[(.ref x0), (.int x1)] 2 = mkF m 0 #[.val (.ref x0), .val (.int x1)] [] := by first | (simp [entryFrame, mkF, argsToLocals, Value.category]; done) | rfl
def Q_StringLatin1_charAt_0 (Z : State) (b22_42_64_74 : Addr) (k22_42_64_74 : ClassId) (fv : Value) (h0 : Heap) (n0 : Nat) (v : Option Value) (h : Heap) (L : List Loc) : Prop := v = some (.int (97 : Int32)) ∧ Fr n0 L ∧ h = h0
set_option maxRecDepth 65536 in
set_option maxHeartbeats 40000000 in
theorem rm_StringLatin1_charAt_0 (l : Launch) (Z : State) (a0 : Array Value) (hw : ∀ d ∈ tables_1, d.before a0 Z = true) (ws : List Jvm.Cond) (b22_42_64_74 : Addr) (k22_42_64_74 : ClassId) (fv : Value) (h0 : Heap) (n0 : Nat) (Z0 : n0 ≤ h0.size) (V_b22_42_64_74 : Arv Z h0 b22_42_64_74 k22_42_64_74 .byte (2 : Int32) [(.int (97 : Int32)), (.int (98 : Int32))] (.int (0 : Int32))) (Z_S_SIOOBE_FORMATTER : Sta Z Z.heap xs5 xs17 xs6 fv) (hfv : fv.isRef = true) (O0 : Old Z n0 h0) :
    MetFree l xm6 (head1 (Jvm.Cond.code xm6 jdk_43_method_2_code 2 (some .char) :: ws) xr9) (fun a U => a = #[(.ref b22_42_64_74), (.int (0 : Int32))] ∧ Z.Warmed39 U.vm ∧ U.heap = h0) (fun _ _ _ _ _ => True) (fun _ U o U' => ∃ v L, o = .returned v ∧ Q_StringLatin1_charAt_0 Z b22_42_64_74 k22_42_64_74 fv h0 n0 v U'.heap L ∧ FrameEnd U o U' L xr9.cells xr9.slots) := by
  refine MetFree.of_bodySF (plainFor_of_name pn_6) hisR ?_
  intro p e s m args below meth c s₁ Bd hml0 hP hK
  obtain ⟨rfl, hZ, hh⟩ := hP
  have hx := Bd.exec
  have hby := Bd.bytes
  have hlk : meth.locks = false := BodyLoose.notSynchronized Bd
  have hml : c.maxLocals = 2 := hml0
  have hown : s.vm.findClass xs10 = some m.cls := findClass_of_methodNamed Bd.named
  have hnm := (name_of_methodNamed Bd.named Bd.method).1
  have X0 : Stand p l e xr9 s m #[(.ref b22_42_64_74), (.int (0 : Int32))] below meth c s₁ [] 0 0 := Stand.of_body Bd
  have e0 : s₁.heap = h0 := by rw [← hh, Bd.state]; rfl
  have N0 := Fr.nil n0
  show Go p e below s (Q_StringLatin1_charAt_0 Z b22_42_64_74 k22_42_64_74 fv h0 n0) xr9.cells xr9.slots s₁ (entryFrame m #[(.ref b22_42_64_74), (.int (0 : Int32))] 2)
  refine Go.cast (ef_StringLatin1_charAt_0 m b22_42_64_74 (0 : Int32)) ?_
  show Go p e below s _ _ _ s₁ (mkF m 0 #[.val (.ref b22_42_64_74), .val (.int (0 : Int32))] [])
  refine Go.step (fun _ k => XS.iloadN X0.here hx rfl (hb hby d17_0) rfl (XS.aloadN X0.here hx rfl (hb hby d17_1) rfl rfl k)) ?_
  show Go p e below s _ _ _ s₁ (mkF m 2 #[.val (.ref b22_42_64_74), .val (.int (0 : Int32))] [(.ref b22_42_64_74), (.int (0 : Int32))])
  obtain ⟨cl146, Ar146, -, Sz146, Ng146, -, -⟩ := id V_b22_42_64_74
  have aln146 := X0.arraylength hx (by rw [e0]; exact Ar146.1) (State.isArrayOf_alike hZ.alike Ar146.2.1) (g := (mkF m 2 #[.val (.ref b22_42_64_74), .val (.int (0 : Int32))] [(.ref b22_42_64_74), (.int (0 : Int32))])) rfl rfl (hb hby d17_2)
  rw [len_of Sz146 Ng146] at aln146
  refine Go.step (fun _ k => aln146 _ k) ?_
  show Go p e below s _ _ _ s₁ (mkF m 3 #[.val (.ref b22_42_64_74), .val (.int (0 : Int32))] [(.int (2 : Int32)), (.int (0 : Int32))])
  obtain ⟨_, _, ⟨T147, L147, k147, n147⟩, -, X147, ⟨Lc147, hQ147, l147, y147, z147⟩, st147⟩ := Jvm.LawKit.callS X0 hx (y := xm3) hown (mvT hZ (tw92 hw)) (mvT hZ (tw93 hw)) (mvT hZ (tw2 hw)) (mvT hZ (tw94 hw)) (by decide) (backOf (W := 0) (rm_schk l Z a0 hw [] (0 : Int32) (2 : Int32) fv h0 n0 Z0 O0 Z_S_SIOOBE_FORMATTER hfv (by decide) (by decide)) hZ (tw94 hw) (tw2 hw) (by decide) (by decide)) (g := (mkF m 3 #[.val (.ref b22_42_64_74), .val (.int (0 : Int32))] [(.int (2 : Int32)), (.int (0 : Int32))])) rfl (by rw [hml]; rfl) (argsL := [(.int (0 : Int32)), (.int (2 : Int32))]) (rest := []) (lenOf pd_11 rfl) rfl (by show 2 * 0 + _ ≤ _; exact Nat.le_of_eq rfl) (hb hby d17_3) (fun _ _ => ⟨rfl, e0, (by decide : 0 + 0 ≤ _), (by decide : 0 + 0 ≤ _)⟩)
  dsimp only [Pt.U, Pt.locs, Pt.cells, Pt.slots] at X147 l147 y147 z147 st147 hQ147
  subst l147 y147 z147
  obtain ⟨rfl, N147q, eq147⟩ := hQ147
  have N148 := Fr.app N0 N147q
  refine Go.step (fun _ k => st147 _ (XS.aloadN X147.here hx rfl (hb hby d17_6) rfl rfl (XS.iloadN X147.here hx rfl (hb hby d17_7) rfl k))) ?_
  show Go p e below s _ _ _ T147 (mkF m 8 #[.val (.ref b22_42_64_74), .val (.int (0 : Int32))] [(.int (0 : Int32)), (.ref b22_42_64_74)])
  obtain ⟨cl149, Ar149, -, Sz149, Ng149, Hs149, Ft149⟩ := id V_b22_42_64_74
  have in149 : ¬ ((0 : Int32) < 0 ∨ cl149.slots.size ≤ ((0 : Int32)).toNatClampNeg) := (inb_of Sz149 ⟨by decide, by decide⟩)
  have at149 : cl149.slots[((0 : Int32)).toNatClampNeg]? = some (.int (97 : Int32)) := Hs149.at in149 rfl
  refine Go.step (fun _ k => X147.baloadBytes hx (j := (0 : Int32)) (v := (.int (97 : Int32))) (by rw [eq147]; exact Ar149.1) (State.isArrayOf_alike hZ.alike Ar149.2.1) Ar149.2.2 in149 at149 (g := (mkF m 8 #[.val (.ref b22_42_64_74), .val (.int (0 : Int32))] [(.int (0 : Int32)), (.ref b22_42_64_74)])) rfl rfl (hb hby d17_8) _ (XS.sipush X147.here hx rfl (hb hby d17_9) (XS.iand X147.here hx rfl (hb hby d17_12) rfl (XS.i2c X147.here hx rfl (hb hby d17_13) rfl k)))) ?_
  show Go p e below s _ _ _ T147 (mkF m 14 #[.val (.ref b22_42_64_74), .val (.int (0 : Int32))] [(.int (97 : Int32))])
  exact Go.retN X147 hx hlk (t := .char) Bd.returns (by simp) (hb hby d17_14) eq147 ⟨rfl, N148, rfl⟩ (by decide) (by decide)

theorem ef_String_charAt_0 (m : MethodId) (x0 : Addr) (x1 : Int32) : entryFrame m #[(.ref x0), (.int x1)] 2 = mkF m 0 #[.val (.ref x0), .val (.int x1)] [] := by first | (simp [entryFrame, mkF, argsToLocals, Value.category]; done) | rfl
def Q_String_charAt_0 (Z : State) (b6 : Addr) (cs : Int32) (b22_42_64_74 : Addr) (k22_42_64_74 : ClassId) (fv : Value) (h0 : Heap) (n0 : Nat) (v : Option Value) (h : Heap) (L : List Loc) : Prop := v = some (.int (97 : Int32)) ∧ Fr n0 L ∧ h = h0
set_option maxRecDepth 65536 in
set_option maxHeartbeats 40000000 in
theorem rm_String_charAt_0 (l : Launch) (Z : State) (a0 : Array Value) (hw : ∀ d ∈ tables_1, d.before a0 Z = true) (ws : List Jvm.Cond) (b6 : Addr) (cs : Int32) (b22_42_64_74 : Addr) (k22_42_64_74 : ClassId) (fv : Value) (h0 : Heap) (n0 : Nat) (Z0 : n0 ≤ h0.size) (E_b6 : Exa Z h0 b6 xs18) (Z_S_COMPACT_STRINGS : Sta Z Z.heap xs18 xs20 "Z" (.int cs)) (O0 : Old Z n0 h0) (hcs : ¬ cs = (0 : Int32)) (F_coder_b6 : Fld Z h0 b6 xs18 "coder" "B" (.int (0 : Int32))) (F_value_b6 : Fld Z h0 b6 xs18 "value" "[B" (.ref b22_42_64_74)) (V_b22_42_64_74 : Arv Z h0 b22_42_64_74 k22_42_64_74 .byte (2 : Int32) [(.int (97 : Int32)), (.int (98 : Int32))] (.int (0 : Int32))) (Z_S_SIOOBE_FORMATTER : Sta Z Z.heap xs5 xs17 xs6 fv) (hfv : fv.isRef = true) :
    MetFree l xm12 (head1 (Jvm.Cond.code xm12 jdk_42_method_56_code 2 (some .char) :: ws) xr10) (fun a U => a = #[(.ref b6), (.int (0 : Int32))] ∧ Z.Warmed39 U.vm ∧ U.heap = h0) (fun _ _ _ _ _ => True) (fun _ U o U' => ∃ v L, o = .returned v ∧ Q_String_charAt_0 Z b6 cs b22_42_64_74 k22_42_64_74 fv h0 n0 v U'.heap L ∧ FrameEnd U o U' L xr10.cells xr10.slots) := by
  refine MetFree.of_bodySF (plainFor_of_name pn_1) hisR ?_
  intro p e s m args below meth c s₁ Bd hml0 hP hK
  obtain ⟨rfl, hZ, hh⟩ := hP
  have hx := Bd.exec
  have hby := Bd.bytes
  have hlk : meth.locks = false := BodyLoose.notSynchronized Bd
  have hml : c.maxLocals = 2 := hml0
  have hown : s.vm.findClass xs18 = some m.cls := findClass_of_methodNamed Bd.named
  have hnm := (name_of_methodNamed Bd.named Bd.method).1
  have X0 : Stand p l e xr10 s m #[(.ref b6), (.int (0 : Int32))] below meth c s₁ [] 0 0 := Stand.of_body Bd
  have e0 : s₁.heap = h0 := by rw [← hh, Bd.state]; rfl
  have N0 := Fr.nil n0
  show Go p e below s (Q_String_charAt_0 Z b6 cs b22_42_64_74 k22_42_64_74 fv h0 n0) xr10.cells xr10.slots s₁ (entryFrame m #[(.ref b6), (.int (0 : Int32))] 2)
  refine Go.cast (ef_String_charAt_0 m b6 (0 : Int32)) ?_
  show Go p e below s _ _ _ s₁ (mkF m 0 #[.val (.ref b6), .val (.int (0 : Int32))] [])
  refine Go.step (fun _ k => XS.aloadN X0.here hx rfl (hb hby d15_0) rfl rfl k) ?_
  show Go p e below s _ _ _ s₁ (mkF m 1 #[.val (.ref b6), .val (.int (0 : Int32))] [(.ref b6)])
  obtain ⟨cq143, kq143, q143a, q143b, q143c⟩ := isOf hZ e0 E_b6
  obtain ⟨_, _, ⟨T143, L143, k143, n143⟩, -, X143, ⟨Lc143, hQ143, l143, y143, z143⟩, st143⟩ := X0.virtualBack hx (y := xm8) (z := xm8) hown (mvT hZ (tw83 hw)) (mvT hZ (tw84 hw)) (notFace_of_selects (args := #[]) (mvT hZ (tw86 hw))) (mvT hZ (tw86 hw)) (mvT hZ (tw85 hw)) (by decide) (backOf (W := 0) (rm_String_isLatin1_0 l Z a0 hw [] b6 cs h0 n0 Z0 Z_S_COMPACT_STRINGS O0 hcs F_coder_b6) hZ (tw87 hw) (tw2 hw) (by decide) (by decide)) q143a q143c (g := (mkF m 1 #[.val (.ref b6), .val (.int (0 : Int32))] [(.ref b6)])) rfl (by rw [hml]; rfl) (Steps.refl _) (argsL := []) (rest := []) (lenOf pd_10 rfl) rfl (by show 2 * 0 + _ ≤ _; exact Nat.le_of_eq rfl) (hb hby d15_1) (fun _ _ => ⟨rfl, e0, (by decide : 0 + 0 ≤ _), (by decide : 0 + 0 ≤ _)⟩)
  dsimp only [Pt.U, Pt.locs, Pt.cells, Pt.slots] at X143 l143 y143 z143 st143 hQ143
  subst l143 y143 z143
  obtain ⟨rfl, N143q, eq143⟩ := hQ143
  have N144 := Fr.app N0 N143q
  refine Go.step (fun _ k => st143.trans (XS.ifNo X143.here hx rfl (hb hby d15_4) rfl ((if0 _ _).trans (feq (by decide)).1) (XS.aloadN X143.here hx rfl (hb hby d15_7) rfl rfl k))) ?_
  show Go p e below s _ _ _ T143 (mkF m 8 #[.val (.ref b6), .val (.int (0 : Int32))] [(.ref b6)])
  obtain ⟨T145, X145, e145, st145⟩ := getF X143 hx hZ hown (host := "") (Or.inl (tw28 hw)) Via.refl eq143 F_value_b6 (g := (mkF m 8 #[.val (.ref b6), .val (.int (0 : Int32))] [(.ref b6)])) rfl rfl (hb hby d15_8)
  refine Go.step (fun _ k => st145 _ (XS.iloadN X145.here hx rfl (hb hby d15_11) rfl k)) ?_
  show Go p e below s _ _ _ T145 (mkF m 12 #[.val (.ref b6), .val (.int (0 : Int32))] [(.int (0 : Int32)), (.ref b22_42_64_74)])
  obtain ⟨_, _, ⟨T150, L150, k150, n150⟩, -, X150, ⟨Lc150, hQ150, l150, y150, z150⟩, st150⟩ := Jvm.LawKit.callS X145 hx (y := xm6) hown (mvT hZ (tw88 hw)) (mvT hZ (tw89 hw)) (mvT hZ (tw90 hw)) (mvT hZ (tw91 hw)) (by decide) (backOf (W := 0) (rm_StringLatin1_charAt_0 l Z a0 hw [] b22_42_64_74 k22_42_64_74 fv h0 n0 Z0 V_b22_42_64_74 Z_S_SIOOBE_FORMATTER hfv O0) hZ (tw91 hw) (tw90 hw) (by decide) (by decide)) (g := (mkF m 12 #[.val (.ref b6), .val (.int (0 : Int32))] [(.int (0 : Int32)), (.ref b22_42_64_74)])) rfl (by rw [hml]; rfl) (argsL := [(.ref b22_42_64_74), (.int (0 : Int32))]) (rest := []) (lenOf pd_12 rfl) rfl (by show 2 * 0 + _ ≤ _; exact Nat.le_of_eq rfl) (hb hby d15_12) (fun _ _ => ⟨rfl, e145, (by decide : 0 + 0 ≤ _), (by decide : 0 + 0 ≤ _)⟩)
  dsimp only [Pt.U, Pt.locs, Pt.cells, Pt.slots] at X150 l150 y150 z150 st150 hQ150
  subst l150 y150 z150
  obtain ⟨rfl, N150q, eq150⟩ := hQ150
  have N151 := Fr.app N144 N150q
  refine Go.step (fun _ k => st150 _ k) ?_
  show Go p e below s _ _ _ T150 (mkF m 15 #[.val (.ref b6), .val (.int (0 : Int32))] [(.int (97 : Int32))])
  exact Go.retN X150 hx hlk (t := .char) Bd.returns (by simp) (hb hby d15_15) eq150 ⟨rfl, N151, rfl⟩ (by decide) (by decide)

theorem ef_PropertyIndex_plainHash_0 (m : MethodId) (x0 : Addr) (x1 : Int32) (x2 : Int32) : entryFrame m #[(.ref x0), (.int x1), (.int x2)] 5 = mkF m 0 #[.val (.ref x0), .val (.int x1), .val (.int x2), .unset, .unset] [] := by first | (simp [entryFrame, mkF, argsToLocals, Value.category]; done) | rfl
def Q_PropertyIndex_plainHash_0 (Z : State) (b6 : Addr) (cs : Int32) (b22_42_64_74 : Addr) (k22_42_64_74 : ClassId) (fv : Value) (h0 : Heap) (n0 : Nat) (v : Option Value) (h : Heap) (L : List Loc) : Prop := v = some (.int (97 : Int32)) ∧ Fr n0 L ∧ h = h0
set_option maxRecDepth 65536 in
set_option maxHeartbeats 40000000 in
theorem rm_PropertyIndex_plainHash_0 (l : Launch) (Z : State) (a0 : Array Value) (hw : ∀ d ∈ tables_1, d.before a0 Z = true) (ws : List Jvm.Cond) (b6 : Addr) (cs : Int32) (b22_42_64_74 : Addr) (k22_42_64_74 : ClassId) (fv : Value) (h0 : Heap) (n0 : Nat) (Z0 : n0 ≤ h0.size) (E_b6 : Exa Z h0 b6 xs18) (Z_S_COMPACT_STRINGS : Sta Z Z.heap xs18 xs20 "Z" (.int cs)) (O0 : Old Z n0 h0) (hcs : ¬ cs = (0 : Int32)) (F_coder_b6 : Fld Z h0 b6 xs18 "coder" "B" (.int (0 : Int32))) (F_value_b6 : Fld Z h0 b6 xs18 "value" "[B" (.ref b22_42_64_74)) (V_b22_42_64_74 : Arv Z h0 b22_42_64_74 k22_42_64_74 .byte (2 : Int32) [(.int (97 : Int32)), (.int (98 : Int32))] (.int (0 : Int32))) (Z_S_SIOOBE_FORMATTER : Sta Z Z.heap xs5 xs17 xs6 fv) (hfv : fv.isRef = true) :
    MetFree l xm15 (head1 (Jvm.Cond.code xm15 prog_15_method_15_code 5 (some .int) :: ws) xr11) (fun a U => a = #[(.ref b6), (.int (0 : Int32)), (.int (1 : Int32))] ∧ Z.Warmed39 U.vm ∧ U.heap = h0) (fun _ _ _ _ _ => True) (fun _ U o U' => ∃ v L, o = .returned v ∧ Q_PropertyIndex_plainHash_0 Z b6 cs b22_42_64_74 k22_42_64_74 fv h0 n0 v U'.heap L ∧ FrameEnd U o U' L xr11.cells xr11.slots) := by
  refine MetFree.of_bodySF (plainFor_of_name pn_5) hisR ?_
  intro p e s m args below meth c s₁ Bd hml0 hP hK
  obtain ⟨rfl, hZ, hh⟩ := hP
  have hx := Bd.exec
  have hby := Bd.bytes
  have hlk : meth.locks = false := BodyLoose.notSynchronized Bd
  have hml : c.maxLocals = 5 := hml0
  have hown : s.vm.findClass xs1 = some m.cls := findClass_of_methodNamed Bd.named
  have hnm := (name_of_methodNamed Bd.named Bd.method).1
  have X0 : Stand p l e xr11 s m #[(.ref b6), (.int (0 : Int32)), (.int (1 : Int32))] below meth c s₁ [] 0 0 := Stand.of_body Bd
  have e0 : s₁.heap = h0 := by rw [← hh, Bd.state]; rfl
  have N0 := Fr.nil n0
  show Go p e below s (Q_PropertyIndex_plainHash_0 Z b6 cs b22_42_64_74 k22_42_64_74 fv h0 n0) xr11.cells xr11.slots s₁ (entryFrame m #[(.ref b6), (.int (0 : Int32)), (.int (1 : Int32))] 5)
  refine Go.cast (ef_PropertyIndex_plainHash_0 m b6 (0 : Int32) (1 : Int32)) ?_
  show Go p e below s _ _ _ s₁ (mkF m 0 #[.val (.ref b6), .val (.int (0 : Int32)), .val (.int (1 : Int32)), .unset, .unset] [])
  refine Go.step (fun _ k => XS.iconst X0.here hx rfl (hb hby d14_0) (XS.istoreN X0.here hx rfl (hb hby d14_1) rfl (l' := #[.val (.ref b6), .val (.int (0 : Int32)), .val (.int (1 : Int32)), .val (.int (0 : Int32)), .unset]) rfl (XS.iloadN X0.here hx rfl (hb hby d14_2) rfl (XS.istore X0.here hx rfl (hb hby d14_3) rfl (l' := #[.val (.ref b6), .val (.int (0 : Int32)), .val (.int (1 : Int32)), .val (.int (0 : Int32)), .val (.int (0 : Int32))]) rfl (XS.iload X0.here hx rfl (hb hby d14_5) rfl (XS.iloadN X0.here hx rfl (hb hby d14_7) rfl (XS.icmpNo X0.here hx rfl (hb hby d14_8) rfl (tlt (by decide)).2.1 (XS.bipush X0.here hx rfl (hb hby d14_11) (XS.iloadN X0.here hx rfl (hb hby d14_13) rfl (XS.imul X0.here hx rfl (hb hby d14_14) rfl k)))))))))) ?_
  show Go p e below s _ _ _ s₁ (mkF m 15 #[.val (.ref b6), .val (.int (0 : Int32)), .val (.int (1 : Int32)), .val (.int (0 : Int32)), .val (.int (0 : Int32))] [(.int ((31 : Int32) * (0 : Int32)))])
  refine Go.step (fun _ k => XS.aloadN X0.here hx rfl (hb hby d14_15) rfl rfl (XS.iload X0.here hx rfl (hb hby d14_16) rfl k)) ?_
  show Go p e below s _ _ _ s₁ (mkF m 18 #[.val (.ref b6), .val (.int (0 : Int32)), .val (.int (1 : Int32)), .val (.int (0 : Int32)), .val (.int (0 : Int32))] [(.int (0 : Int32)), (.ref b6), (.int (0 : Int32))])
  obtain ⟨cq152, kq152, q152a, q152b, q152c⟩ := isOf hZ e0 E_b6
  obtain ⟨_, _, ⟨T152, L152, k152, n152⟩, -, X152, ⟨Lc152, hQ152, l152, y152, z152⟩, st152⟩ := X0.virtualBack hx (y := xm12) (z := xm12) hown (mvT hZ (tw78 hw)) (mvT hZ (tw79 hw)) (notFace_of_selects (args := #[]) (mvT hZ (tw81 hw))) (mvT hZ (tw81 hw)) (mvT hZ (tw80 hw)) (by decide) (backOf (W := 1) (rm_String_charAt_0 l Z a0 hw [] b6 cs b22_42_64_74 k22_42_64_74 fv h0 n0 Z0 E_b6 Z_S_COMPACT_STRINGS O0 hcs F_coder_b6 F_value_b6 V_b22_42_64_74 Z_S_SIOOBE_FORMATTER hfv) hZ (tw82 hw) (tw2 hw) (by decide) (by decide)) q152a q152c (g := (mkF m 18 #[.val (.ref b6), .val (.int (0 : Int32)), .val (.int (1 : Int32)), .val (.int (0 : Int32)), .val (.int (0 : Int32))] [(.int (0 : Int32)), (.ref b6), (.int (0 : Int32))])) rfl (by rw [hml]; rfl) (Steps.refl _) (argsL := [(.int (0 : Int32))]) (rest := [(.int (0 : Int32))]) (lenOf pd_13 rfl) rfl (by show 2 * 0 + _ ≤ _; exact Nat.le_of_eq rfl) (hb hby d14_18) (fun _ _ => ⟨rfl, e0, (by decide : 0 + 0 ≤ _), (by decide : 0 + 0 ≤ _)⟩)
  dsimp only [Pt.U, Pt.locs, Pt.cells, Pt.slots] at X152 l152 y152 z152 st152 hQ152
  subst l152 y152 z152
  obtain ⟨rfl, N152q, eq152⟩ := hQ152
  have N153 := Fr.app N0 N152q
  refine Go.step (fun _ k => st152.trans (XS.iadd X152.here hx rfl (hb hby d14_21) rfl (XS.istoreN X152.here hx rfl (hb hby d14_22) rfl (l' := #[.val (.ref b6), .val (.int (0 : Int32)), .val (.int (1 : Int32)), .val (.int (97 : Int32)), .val (.int (0 : Int32))]) rfl (XS.iinc X152.here hx rfl (hb hby d14_23) rfl (l' := #[.val (.ref b6), .val (.int (0 : Int32)), .val (.int (1 : Int32)), .val (.int (97 : Int32)), .val (.int ((0 : Int32) + (1 : Int32)))]) rfl (XS.goto X152.here hx rfl (pc0 := 26) (pc' := 5) rfl (hb hby d14_26) (by decide) (by decide) (XS.iload X152.here hx rfl (hb hby d14_5) rfl (XS.iloadN X152.here hx rfl (hb hby d14_7) rfl (XS.icmpYes X152.here hx rfl (pc0 := 8) (pc' := 29) rfl (hb hby d14_8) rfl (flt (by decide)).2.1 (by decide) (by decide) (XS.iloadN X152.here hx rfl (hb hby d14_29) rfl (XS.iloadN X152.here hx rfl (hb hby d14_30) rfl k)))))))))) ?_
  show Go p e below s _ _ _ T152 (mkF m 31 #[.val (.ref b6), .val (.int (0 : Int32)), .val (.int (1 : Int32)), .val (.int (97 : Int32)), .val (.int (1 : Int32))] [(.int (97 : Int32)), (.int (97 : Int32))])
  refine Go.step (fun _ k => XS.bipush X152.here hx rfl (hb hby d14_31) (XS.iushr X152.here hx rfl (hb hby d14_33) rfl (XS.ixor X152.here hx rfl (hb hby d14_34) rfl k))) ?_
  show Go p e below s _ _ _ T152 (mkF m 35 #[.val (.ref b6), .val (.int (0 : Int32)), .val (.int (1 : Int32)), .val (.int (97 : Int32)), .val (.int (1 : Int32))] [(.int (97 : Int32))])
  exact Go.retI X152 hx hlk Bd.returns (hb hby d14_35) eq152 ⟨rfl, N153, rfl⟩ (by decide) (by decide)

theorem ef_PropertyIndex_hash_0 (m : MethodId) (x0 : Addr) (x1 : Addr) (x2 : Int32) (x3 : Int32) : entryFrame m #[(.ref x0), (.ref x1), (.int x2), (.int x3)] 4 = mkF m 0 #[.val (.ref x0), .val (.ref x1), .val (.int x2), .val (.int x3)] [] := by first | (simp [entryFrame, mkF, argsToLocals, Value.category]; done) | rfl
def Q_PropertyIndex_hash_0 (Z : State) (b76 : Addr) (b6 : Addr) (cs : Int32) (b22_42_64_74 : Addr) (k22_42_64_74 : ClassId) (fv : Value) (h0 : Heap) (n0 : Nat) (v : Option Value) (h : Heap) (L : List Loc) : Prop := v = some (.int (97 : Int32)) ∧ Fr n0 L ∧ h = h0
set_option maxRecDepth 65536 in
set_option maxHeartbeats 40000000 in
theorem rm_PropertyIndex_hash_0 (l : Launch) (Z : State) (a0 : Array Value) (hw : ∀ d ∈ tables_1, d.before a0 Z = true) (ws : List Jvm.Cond) (b76 : Addr) (b6 : Addr) (cs : Int32) (b22_42_64_74 : Addr) (k22_42_64_74 : ClassId) (fv : Value) (h0 : Heap) (n0 : Nat) (Z0 : n0 ≤ h0.size) (F_keyed_b76 : Fld Z h0 b76 xs1 "keyed" "Z" (.int (0 : Int32))) (E_b6 : Exa Z h0 b6 xs18) (Z_S_COMPACT_STRINGS : Sta Z Z.heap xs18 xs20 "Z" (.int cs)) (O0 : Old Z n0 h0) (hcs : ¬ cs = (0 : Int32)) (F_coder_b6 : Fld Z h0 b6 xs18 "coder" "B" (.int (0 : Int32))) (F_value_b6 : Fld Z h0 b6 xs18 "value" "[B" (.ref b22_42_64_74)) (V_b22_42_64_74 : Arv Z h0 b22_42_64_74 k22_42_64_74 .byte (2 : Int32) [(.int (97 : Int32)), (.int (98 : Int32))] (.int (0 : Int32))) (Z_S_SIOOBE_FORMATTER : Sta Z Z.heap xs5 xs17 xs6 fv) (hfv : fv.isRef = true) :
    MetFree l xm24 (head1 (Jvm.Cond.code xm24 prog_15_method_14_code 4 (some .int) :: ws) xr12) (fun a U => a = #[(.ref b76), (.ref b6), (.int (0 : Int32)), (.int (1 : Int32))] ∧ Z.Warmed39 U.vm ∧ U.heap = h0) (fun _ _ _ _ _ => True) (fun _ U o U' => ∃ v L, o = .returned v ∧ Q_PropertyIndex_hash_0 Z b76 b6 cs b22_42_64_74 k22_42_64_74 fv h0 n0 v U'.heap L ∧ FrameEnd U o U' L xr12.cells xr12.slots) := by
  refine MetFree.of_bodySF (plainFor_of_name pn_5) hisR ?_
  intro p e s m args below meth c s₁ Bd hml0 hP hK
  obtain ⟨rfl, hZ, hh⟩ := hP
  have hx := Bd.exec
  have hby := Bd.bytes
  have hlk : meth.locks = false := BodyLoose.notSynchronized Bd
  have hml : c.maxLocals = 4 := hml0
  have hown : s.vm.findClass xs1 = some m.cls := findClass_of_methodNamed Bd.named
  have hnm := (name_of_methodNamed Bd.named Bd.method).1
  have X0 : Stand p l e xr12 s m #[(.ref b76), (.ref b6), (.int (0 : Int32)), (.int (1 : Int32))] below meth c s₁ [] 0 0 := Stand.of_body Bd
  have e0 : s₁.heap = h0 := by rw [← hh, Bd.state]; rfl
  have N0 := Fr.nil n0
  show Go p e below s (Q_PropertyIndex_hash_0 Z b76 b6 cs b22_42_64_74 k22_42_64_74 fv h0 n0) xr12.cells xr12.slots s₁ (entryFrame m #[(.ref b76), (.ref b6), (.int (0 : Int32)), (.int (1 : Int32))] 4)
  refine Go.cast (ef_PropertyIndex_hash_0 m b76 b6 (0 : Int32) (1 : Int32)) ?_
  show Go p e below s _ _ _ s₁ (mkF m 0 #[.val (.ref b76), .val (.ref b6), .val (.int (0 : Int32)), .val (.int (1 : Int32))] [])
  refine Go.step (fun _ k => XS.aloadN X0.here hx rfl (hb hby d13_0) rfl rfl k) ?_
  show Go p e below s _ _ _ s₁ (mkF m 1 #[.val (.ref b76), .val (.ref b6), .val (.int (0 : Int32)), .val (.int (1 : Int32))] [(.ref b76)])
  obtain ⟨T140, X140, e140, st140⟩ := getF X0 hx hZ hown (host := "") (Or.inl (tw73 hw)) Via.refl e0 F_keyed_b76 (g := (mkF m 1 #[.val (.ref b76), .val (.ref b6), .val (.int (0 : Int32)), .val (.int (1 : Int32))] [(.ref b76)])) rfl rfl (hb hby d13_1)
  refine Go.step (fun _ k => st140 _ (XS.ifYes X140.here hx rfl (pc0 := 4) (pc' := 16) rfl (hb hby d13_4) rfl ((if0 _ _).trans (teq (by decide)).1) (by decide) (by decide) (XS.aloadN X140.here hx rfl (hb hby d13_16) rfl rfl (XS.iloadN X140.here hx rfl (hb hby d13_17) rfl (XS.iloadN X140.here hx rfl (hb hby d13_18) rfl k))))) ?_
  show Go p e below s _ _ _ T140 (mkF m 19 #[.val (.ref b76), .val (.ref b6), .val (.int (0 : Int32)), .val (.int (1 : Int32))] [(.int (1 : Int32)), (.int (0 : Int32)), (.ref b6)])
  obtain ⟨_, _, ⟨T154, L154, k154, n154⟩, -, X154, ⟨Lc154, hQ154, l154, y154, z154⟩, st154⟩ := Jvm.LawKit.callS X140 hx (y := xm15) hown (mvT hZ (tw75 hw)) (mvT hZ (tw76 hw)) (mvT hZ (tw32 hw)) (mvT hZ (tw77 hw)) (by decide) (backOf (W := 0) (rm_PropertyIndex_plainHash_0 l Z a0 hw [] b6 cs b22_42_64_74 k22_42_64_74 fv h0 n0 Z0 E_b6 Z_S_COMPACT_STRINGS O0 hcs F_coder_b6 F_value_b6 V_b22_42_64_74 Z_S_SIOOBE_FORMATTER hfv) hZ (tw77 hw) (tw32 hw) (by decide) (by decide)) (g := (mkF m 19 #[.val (.ref b76), .val (.ref b6), .val (.int (0 : Int32)), .val (.int (1 : Int32))] [(.int (1 : Int32)), (.int (0 : Int32)), (.ref b6)])) rfl (by rw [hml]; rfl) (argsL := [(.ref b6), (.int (0 : Int32)), (.int (1 : Int32))]) (rest := []) (lenOf pd_14 rfl) rfl (by show 2 * 0 + _ ≤ _; exact Nat.le_of_eq rfl) (hb hby d13_19) (fun _ _ => ⟨rfl, e140, (by decide : 0 + 0 ≤ _), (by decide : 0 + 0 ≤ _)⟩)
  dsimp only [Pt.U, Pt.locs, Pt.cells, Pt.slots] at X154 l154 y154 z154 st154 hQ154
  subst l154 y154 z154
  obtain ⟨rfl, N154q, eq154⟩ := hQ154
  have N155 := Fr.app N0 N154q
  refine Go.step (fun _ k => st154 _ k) ?_
  show Go p e below s _ _ _ T154 (mkF m 22 #[.val (.ref b76), .val (.ref b6), .val (.int (0 : Int32)), .val (.int (1 : Int32))] [(.int (97 : Int32))])
  exact Go.retI X154 hx hlk Bd.returns (hb hby d13_22) eq154 ⟨rfl, N155, rfl⟩ (by decide) (by decide)

theorem ef_PropertyIndex_slot_0 (m : MethodId) (x0 : Addr) (x1 : Addr) (x2 : Int32) (x3 : Int32) (x4 : Int32) : entryFrame m #[(.ref x0), (.ref x1), (.int x2), (.int x3), (.int x4)] 7 = mkF m 0 #[.val (.ref x0), .val (.ref x1), .val (.int x2), .val (.int x3), .val (.int x4), .unset, .unset] [] := by first | (simp [entryFrame, mkF, argsToLocals, Value.category]; done) | rfl
def Q_PropertyIndex_slot_0 (Z : State) (b76 : Addr) (b6 : Addr) (b111_137 : Addr) (k111_137 : ClassId) (h0 : Heap) (n0 : Nat) (v : Option Value) (h : Heap) (L : List Loc) : Prop := v = some (.int (1 : Int32)) ∧ Fr n0 L ∧ h = h0
set_option maxRecDepth 65536 in
set_option maxHeartbeats 40000000 in
theorem rm_PropertyIndex_slot_0 (l : Launch) (Z : State) (a0 : Array Value) (hw : ∀ d ∈ tables_1, d.before a0 Z = true) (ws : List Jvm.Cond) (b76 : Addr) (b6 : Addr) (b111_137 : Addr) (k111_137 : ClassId) (h0 : Heap) (n0 : Nat) (Z0 : n0 ≤ h0.size) (F_slots_b76 : Fld Z h0 b76 xs1 "slots" "[I" (.ref b111_137)) (V_b111_137 : Arv Z h0 b111_137 k111_137 .int (4 : Int32) [(.int (0 : Int32)), (.int (0 : Int32)), (.int (0 : Int32)), (.int (0 : Int32))] (.int (0 : Int32))) :
    MetFree l xm25 (head1 (Jvm.Cond.code xm25 prog_15_method_11_code 7 (some .int) :: ws) xr14) (fun a U => a = #[(.ref b76), (.ref b6), (.int (0 : Int32)), (.int (1 : Int32)), (.int (97 : Int32))] ∧ Z.Warmed39 U.vm ∧ U.heap = h0) (fun _ _ _ _ _ => True) (fun _ U o U' => ∃ v L, o = .returned v ∧ Q_PropertyIndex_slot_0 Z b76 b6 b111_137 k111_137 h0 n0 v U'.heap L ∧ FrameEnd U o U' L xr14.cells xr14.slots) := by
  refine MetFree.of_bodySF (plainFor_of_name pn_5) hisR ?_
  intro p e s m args below meth c s₁ Bd hml0 hP hK
  obtain ⟨rfl, hZ, hh⟩ := hP
  have hx := Bd.exec
  have hby := Bd.bytes
  have hlk : meth.locks = false := BodyLoose.notSynchronized Bd
  have hml : c.maxLocals = 7 := hml0
  have hown : s.vm.findClass xs1 = some m.cls := findClass_of_methodNamed Bd.named
  have hnm := (name_of_methodNamed Bd.named Bd.method).1
  have X0 : Stand p l e xr14 s m #[(.ref b76), (.ref b6), (.int (0 : Int32)), (.int (1 : Int32)), (.int (97 : Int32))] below meth c s₁ [] 0 0 := Stand.of_body Bd
  have e0 : s₁.heap = h0 := by rw [← hh, Bd.state]; rfl
  have N0 := Fr.nil n0
  show Go p e below s (Q_PropertyIndex_slot_0 Z b76 b6 b111_137 k111_137 h0 n0) xr14.cells xr14.slots s₁ (entryFrame m #[(.ref b76), (.ref b6), (.int (0 : Int32)), (.int (1 : Int32)), (.int (97 : Int32))] 7)
  refine Go.cast (ef_PropertyIndex_slot_0 m b76 b6 (0 : Int32) (1 : Int32) (97 : Int32)) ?_
  show Go p e below s _ _ _ s₁ (mkF m 0 #[.val (.ref b76), .val (.ref b6), .val (.int (0 : Int32)), .val (.int (1 : Int32)), .val (.int (97 : Int32)), .unset, .unset] [])
  refine Go.step (fun _ k => XS.aloadN X0.here hx rfl (hb hby d18_0) rfl rfl k) ?_
  show Go p e below s _ _ _ s₁ (mkF m 1 #[.val (.ref b76), .val (.ref b6), .val (.int (0 : Int32)), .val (.int (1 : Int32)), .val (.int (97 : Int32)), .unset, .unset] [(.ref b76)])
  obtain ⟨T159, X159, e159, st159⟩ := getF X0 hx hZ hown (host := "") (Or.inl (tw62 hw)) Via.refl e0 F_slots_b76 (g := (mkF m 1 #[.val (.ref b76), .val (.ref b6), .val (.int (0 : Int32)), .val (.int (1 : Int32)), .val (.int (97 : Int32)), .unset, .unset] [(.ref b76)])) rfl rfl (hb hby d18_1)
  refine Go.step (fun _ k => st159 _ k) ?_
  show Go p e below s _ _ _ T159 (mkF m 4 #[.val (.ref b76), .val (.ref b6), .val (.int (0 : Int32)), .val (.int (1 : Int32)), .val (.int (97 : Int32)), .unset, .unset] [(.ref b111_137)])
  obtain ⟨cl160, Ar160, -, Sz160, Ng160, -, -⟩ := id V_b111_137
  have aln160 := X159.arraylength hx (by rw [e159]; exact Ar160.1) (State.isArrayOf_alike hZ.alike Ar160.2.1) (g := (mkF m 4 #[.val (.ref b76), .val (.ref b6), .val (.int (0 : Int32)), .val (.int (1 : Int32)), .val (.int (97 : Int32)), .unset, .unset] [(.ref b111_137)])) rfl rfl (hb hby d18_4)
  rw [len_of Sz160 Ng160] at aln160
  refine Go.step (fun _ k => aln160 _ (XS.iconst X159.here hx rfl (hb hby d18_5) (XS.isub X159.here hx rfl (hb hby d18_6) rfl (XS.istore X159.here hx rfl (hb hby d18_7) rfl (l' := #[.val (.ref b76), .val (.ref b6), .val (.int (0 : Int32)), .val (.int (1 : Int32)), .val (.int (97 : Int32)), .val (.int (3 : Int32)), .unset]) rfl (XS.iload X159.here hx rfl (hb hby d18_9) rfl (XS.iload X159.here hx rfl (hb hby d18_11) rfl (XS.iand X159.here hx rfl (hb hby d18_13) rfl (XS.istore X159.here hx rfl (hb hby d18_14) rfl (l' := #[.val (.ref b76), .val (.ref b6), .val (.int (0 : Int32)), .val (.int (1 : Int32)), .val (.int (97 : Int32)), .val (.int (3 : Int32)), .val (.int (1 : Int32))]) rfl (XS.aloadN X159.here hx rfl (hb hby d18_16) rfl rfl k))))))))) ?_
  show Go p e below s _ _ _ T159 (mkF m 17 #[.val (.ref b76), .val (.ref b6), .val (.int (0 : Int32)), .val (.int (1 : Int32)), .val (.int (97 : Int32)), .val (.int (3 : Int32)), .val (.int (1 : Int32))] [(.ref b76)])
  obtain ⟨T161, X161, e161, st161⟩ := getF X159 hx hZ hown (host := "") (Or.inl (tw62 hw)) Via.refl e159 F_slots_b76 (g := (mkF m 17 #[.val (.ref b76), .val (.ref b6), .val (.int (0 : Int32)), .val (.int (1 : Int32)), .val (.int (97 : Int32)), .val (.int (3 : Int32)), .val (.int (1 : Int32))] [(.ref b76)])) rfl rfl (hb hby d18_17)
  refine Go.step (fun _ k => st161 _ (XS.iload X161.here hx rfl (hb hby d18_20) rfl k)) ?_
  show Go p e below s _ _ _ T161 (mkF m 22 #[.val (.ref b76), .val (.ref b6), .val (.int (0 : Int32)), .val (.int (1 : Int32)), .val (.int (97 : Int32)), .val (.int (3 : Int32)), .val (.int (1 : Int32))] [(.int (1 : Int32)), (.ref b111_137)])
  obtain ⟨cl162, Ar162, -, Sz162, Ng162, Hs162, Ft162⟩ := id V_b111_137
  have in162 : ¬ ((1 : Int32) < 0 ∨ cl162.slots.size ≤ ((1 : Int32)).toNatClampNeg) := (inb_of Sz162 ⟨by decide, by decide⟩)
  have at162 : cl162.slots[((1 : Int32)).toNatClampNeg]? = some (.int (0 : Int32)) := Hs162.at in162 rfl
  refine Go.step (fun _ k => X161.iaload hx (j := (1 : Int32)) (v := (.int (0 : Int32))) (by rw [e161]; exact Ar162.1) (State.isArrayOf_alike hZ.alike Ar162.2.1) Ar162.2.2 in162 at162 (g := (mkF m 22 #[.val (.ref b76), .val (.ref b6), .val (.int (0 : Int32)), .val (.int (1 : Int32)), .val (.int (97 : Int32)), .val (.int (3 : Int32)), .val (.int (1 : Int32))] [(.int (1 : Int32)), (.ref b111_137)])) rfl rfl (hb hby d18_22) _ (XS.ifYes X161.here hx rfl (pc0 := 23) (pc' := 59) rfl (hb hby d18_23) rfl ((if0 _ _).trans (teq (by decide)).1) (by decide) (by decide) (XS.iload X161.here hx rfl (hb hby d18_59) rfl k))) ?_
  show Go p e below s _ _ _ T161 (mkF m 61 #[.val (.ref b76), .val (.ref b6), .val (.int (0 : Int32)), .val (.int (1 : Int32)), .val (.int (97 : Int32)), .val (.int (3 : Int32)), .val (.int (1 : Int32))] [(.int (1 : Int32))])
  exact Go.retI X161 hx hlk Bd.returns (hb hby d18_61) e161 ⟨rfl, N0, rfl⟩ (by decide) (by decide)

theorem ef_PropertyIndex_add_0 (m : MethodId) (x0 : Addr) (x1 : Int32) (x2 : Int32) (x3 : Int32) (x4 : Int32) (x5 : Int32) : entryFrame m #[(.ref x0), (.int x1), (.int x2), (.int x3), (.int x4), (.int x5)] 10 = mkF m 0 #[.val (.ref x0), .val (.int x1), .val (.int x2), .val (.int x3), .val (.int x4), .val (.int x5), .unset, .unset, .unset, .unset] [] := by first | (simp [entryFrame, mkF, argsToLocals, Value.category]; done) | rfl
def Q_PropertyIndex_add_0 (Z : State) (b76 : Addr) (p2 : Int32) (p3 : Int32) (p4 : Int32) (b6 : Addr) (cs : Int32) (b22_42_64_74 : Addr) (k22_42_64_74 : ClassId) (fv : Value) (b111_137 : Addr) (k111_137 : ClassId) (b99_137 : Addr) (k99_137 : ClassId) (h0 : Heap) (n0 : Nat) (v : Option Value) (h : Heap) (L : List Loc) : Prop := v = some (.int (-1 : Int32)) ∧ Fr n0 L ∧ Keep h0 h [b99_137, b76, b111_137] ∧ Arv Z h b99_137 k99_137 .int (6 : Int32) [(.int (0 : Int32)), (.int (1 : Int32)), (.int p2), (.int p3), (.int p4), (.int (97 : Int32))] (.int (0 : Int32)) ∧ Fld Z h b76 xs1 "text" xs14 (.ref b6) ∧ Fld Z h b76 xs1 "keyed" "Z" (.int (0 : Int32)) ∧ Fld Z h b76 xs1 "slots" "[I" (.ref b111_137) ∧ Fld Z h b76 xs1 "size" "I" (.int (1 : Int32)) ∧ Fld Z h b76 xs1 "entries" "[I" (.ref b99_137) ∧ Fld Z h b76 xs1 "lineEnds" xs2 .null ∧ Arv Z h b111_137 k111_137 .int (4 : Int32) [(.int (0 : Int32)), (.int (1 : Int32)), (.int (0 : Int32)), (.int (0 : Int32))] (.int (0 : Int32))
set_option maxRecDepth 65536 in
set_option maxHeartbeats 40000000 in
theorem rm_PropertyIndex_add_0 (l : Launch) (Z : State) (a0 : Array Value) (hw : ∀ d ∈ tables_1, d.before a0 Z = true) (ws : List Jvm.Cond) (b76 : Addr) (p2 : Int32) (p3 : Int32) (p4 : Int32) (b6 : Addr) (cs : Int32) (b22_42_64_74 : Addr) (k22_42_64_74 : ClassId) (fv : Value) (b111_137 : Addr) (k111_137 : ClassId) (b99_137 : Addr) (k99_137 : ClassId) (h0 : Heap) (n0 : Nat) (Z0 : n0 ≤ h0.size) (F_text_b76 : Fld Z h0 b76 xs1 "text" xs14 (.ref b6)) (F_keyed_b76 : Fld Z h0 b76 xs1 "keyed" "Z" (.int (0 : Int32))) (E_b6 : Exa Z h0 b6 xs18) (Z_S_COMPACT_STRINGS : Sta Z Z.heap xs18 xs20 "Z" (.int cs)) (O0 : Old Z n0 h0) (hcs : ¬ cs = (0 : Int32)) (F_coder_b6 : Fld Z h0 b6 xs18 "coder" "B" (.int (0 : Int32))) (F_value_b6 : Fld Z h0 b6 xs18 "value" "[B" (.ref b22_42_64_74)) (V_b22_42_64_74 : Arv Z h0 b22_42_64_74 k22_42_64_74 .byte (2 : Int32) [(.int (97 : Int32)), (.int (98 : Int32))] (.int (0 : Int32))) (Z_S_SIOOBE_FORMATTER : Sta Z Z.heap xs5 xs17 xs6 fv) (hfv : fv.isRef = true) (E_b76 : Exa Z h0 b76 xs1) (F_slots_b76 : Fld Z h0 b76 xs1 "slots" "[I" (.ref b111_137)) (V_b111_137 : Arv Z h0 b111_137 k111_137 .int (4 : Int32) [(.int (0 : Int32)), (.int (0 : Int32)), (.int (0 : Int32)), (.int (0 : Int32))] (.int (0 : Int32))) (F_size_b76 : Fld Z h0 b76 xs1 "size" "I" (.int (0 : Int32))) (F_entries_b76 : Fld Z h0 b76 xs1 "entries" "[I" (.ref b99_137)) (V_b99_137 : Arv Z h0 b99_137 k99_137 .int (6 : Int32) [(.int (0 : Int32)), (.int (0 : Int32)), (.int (0 : Int32)), (.int (0 : Int32)), (.int (0 : Int32)), (.int (0 : Int32))] (.int (0 : Int32))) (g_b99_137 : n0 ≤ b99_137) (ne_b76_b99_137 : b76 ≠ b99_137) (g_b76 : n0 ≤ b76) (ne_b111_137_b99_137 : b111_137 ≠ b99_137) (ne_b111_137_b76 : b111_137 ≠ b76) (g_b111_137 : n0 ≤ b111_137) (F_lineEnds_b76 : Fld Z h0 b76 xs1 "lineEnds" xs2 .null) :
    MetFree l xm13 (head1 (Jvm.Cond.code xm13 prog_15_method_3_code 10 (some .int) :: ws) xr13) (fun a U => a = #[(.ref b76), (.int (0 : Int32)), (.int (1 : Int32)), (.int p2), (.int p3), (.int p4)] ∧ Z.Warmed39 U.vm ∧ U.heap = h0) (fun _ _ _ _ _ => True) (fun _ U o U' => ∃ v L, o = .returned v ∧ Q_PropertyIndex_add_0 Z b76 p2 p3 p4 b6 cs b22_42_64_74 k22_42_64_74 fv b111_137 k111_137 b99_137 k99_137 h0 n0 v U'.heap L ∧ FrameEnd U o U' L xr13.cells xr13.slots) := by
  refine MetFree.of_bodySF (plainFor_of_name pn_5) hisR ?_
  intro p e s m args below meth c s₁ Bd hml0 hP hK
  obtain ⟨rfl, hZ, hh⟩ := hP
  have hx := Bd.exec
  have hby := Bd.bytes
  have hlk : meth.locks = false := BodyLoose.notSynchronized Bd
  have hml : c.maxLocals = 10 := hml0
  have hown : s.vm.findClass xs1 = some m.cls := findClass_of_methodNamed Bd.named
  have hnm := (name_of_methodNamed Bd.named Bd.method).1
  have X0 : Stand p l e xr13 s m #[(.ref b76), (.int (0 : Int32)), (.int (1 : Int32)), (.int p2), (.int p3), (.int p4)] below meth c s₁ [] 0 0 := Stand.of_body Bd
  have e0 : s₁.heap = h0 := by rw [← hh, Bd.state]; rfl
  have N0 := Fr.nil n0
  show Go p e below s (Q_PropertyIndex_add_0 Z b76 p2 p3 p4 b6 cs b22_42_64_74 k22_42_64_74 fv b111_137 k111_137 b99_137 k99_137 h0 n0) xr13.cells xr13.slots s₁ (entryFrame m #[(.ref b76), (.int (0 : Int32)), (.int (1 : Int32)), (.int p2), (.int p3), (.int p4)] 10)
  refine Go.cast (ef_PropertyIndex_add_0 m b76 (0 : Int32) (1 : Int32) p2 p3 p4) ?_
  show Go p e below s _ _ _ s₁ (mkF m 0 #[.val (.ref b76), .val (.int (0 : Int32)), .val (.int (1 : Int32)), .val (.int p2), .val (.int p3), .val (.int p4), .unset, .unset, .unset, .unset] [])
  refine Go.step (fun _ k => XS.aloadN X0.here hx rfl (hb hby d12_0) rfl rfl (XS.aloadN X0.here hx rfl (hb hby d12_1) rfl rfl k)) ?_
  show Go p e below s _ _ _ s₁ (mkF m 2 #[.val (.ref b76), .val (.int (0 : Int32)), .val (.int (1 : Int32)), .val (.int p2), .val (.int p3), .val (.int p4), .unset, .unset, .unset, .unset] [(.ref b76), (.ref b76)])
  obtain ⟨T139, X139, e139, st139⟩ := getF X0 hx hZ hown (host := "") (Or.inl (tw42 hw)) Via.refl e0 F_text_b76 (g := (mkF m 2 #[.val (.ref b76), .val (.int (0 : Int32)), .val (.int (1 : Int32)), .val (.int p2), .val (.int p3), .val (.int p4), .unset, .unset, .unset, .unset] [(.ref b76), (.ref b76)])) rfl rfl (hb hby d12_2)
  refine Go.step (fun _ k => st139 _ (XS.iloadN X139.here hx rfl (hb hby d12_5) rfl (XS.iloadN X139.here hx rfl (hb hby d12_6) rfl k))) ?_
  show Go p e below s _ _ _ T139 (mkF m 7 #[.val (.ref b76), .val (.int (0 : Int32)), .val (.int (1 : Int32)), .val (.int p2), .val (.int p3), .val (.int p4), .unset, .unset, .unset, .unset] [(.int (1 : Int32)), (.int (0 : Int32)), (.ref b6), (.ref b76)])
  obtain ⟨cq156, q156, q156'⟩ := E_b76.cell
  obtain ⟨_, _, ⟨T156, L156, k156, n156⟩, -, X156, ⟨Lc156, hQ156, l156, y156, z156⟩, st156⟩ := X139.privateBack hx (y := xm24) hown (mvT hZ (tw69 hw)) (mvT hZ (tw70 hw)) (own_selP (mvT hZ (tw31 hw)) (Cond.privateMethod_at (mvP hZ (tw71 hw) (args := #[]))) (mvT hZ (tw70 hw)) (by decide)) (Cond.privateMethod_at (mvP hZ (tw71 hw) (args := #[]))) (mvT hZ (tw72 hw)) (by decide) (backOf (W := 0) (rm_PropertyIndex_hash_0 l Z a0 hw [] b76 b6 cs b22_42_64_74 k22_42_64_74 fv h0 n0 Z0 F_keyed_b76 E_b6 Z_S_COMPACT_STRINGS O0 hcs F_coder_b6 F_value_b6 V_b22_42_64_74 Z_S_SIOOBE_FORMATTER hfv) hZ (tw72 hw) (tw32 hw) (by decide) (by decide)) (g := (mkF m 7 #[.val (.ref b76), .val (.int (0 : Int32)), .val (.int (1 : Int32)), .val (.int p2), .val (.int p3), .val (.int p4), .unset, .unset, .unset, .unset] [(.int (1 : Int32)), (.int (0 : Int32)), (.ref b6), (.ref b76)])) rfl (by rw [hml]; rfl) (Steps.refl _) (a := b76) (by rw [e139]; exact q156) q156' (argsL := [(.ref b6), (.int (0 : Int32)), (.int (1 : Int32))]) (rest := []) (lenOf pd_14 rfl) rfl (by show 2 * 0 + _ ≤ _; exact Nat.le_of_eq rfl) (hb hby d12_7) (fun _ _ => ⟨rfl, e139, (by decide : 0 + 0 ≤ _), (by decide : 0 + 0 ≤ _)⟩)
  dsimp only [Pt.U, Pt.locs, Pt.cells, Pt.slots] at X156 l156 y156 z156 st156 hQ156
  subst l156 y156 z156
  obtain ⟨rfl, N156q, eq156⟩ := hQ156
  have N157 := Fr.app N0 N156q
  refine Go.step (fun _ k => st156.trans (XS.istore X156.here hx rfl (hb hby d12_10) rfl (l' := #[.val (.ref b76), .val (.int (0 : Int32)), .val (.int (1 : Int32)), .val (.int p2), .val (.int p3), .val (.int p4), .val (.int (97 : Int32)), .unset, .unset, .unset]) rfl (XS.aloadN X156.here hx rfl (hb hby d12_12) rfl rfl (XS.aloadN X156.here hx rfl (hb hby d12_13) rfl rfl k)))) ?_
  show Go p e below s _ _ _ T156 (mkF m 14 #[.val (.ref b76), .val (.int (0 : Int32)), .val (.int (1 : Int32)), .val (.int p2), .val (.int p3), .val (.int p4), .val (.int (97 : Int32)), .unset, .unset, .unset] [(.ref b76), (.ref b76)])
  obtain ⟨T158, X158, e158, st158⟩ := getF X156 hx hZ hown (host := "") (Or.inl (tw42 hw)) Via.refl eq156 F_text_b76 (g := (mkF m 14 #[.val (.ref b76), .val (.int (0 : Int32)), .val (.int (1 : Int32)), .val (.int p2), .val (.int p3), .val (.int p4), .val (.int (97 : Int32)), .unset, .unset, .unset] [(.ref b76), (.ref b76)])) rfl rfl (hb hby d12_14)
  refine Go.step (fun _ k => st158 _ (XS.iloadN X158.here hx rfl (hb hby d12_17) rfl (XS.iloadN X158.here hx rfl (hb hby d12_18) rfl (XS.iload X158.here hx rfl (hb hby d12_19) rfl k)))) ?_
  show Go p e below s _ _ _ T158 (mkF m 21 #[.val (.ref b76), .val (.int (0 : Int32)), .val (.int (1 : Int32)), .val (.int p2), .val (.int p3), .val (.int p4), .val (.int (97 : Int32)), .unset, .unset, .unset] [(.int (97 : Int32)), (.int (1 : Int32)), (.int (0 : Int32)), (.ref b6), (.ref b76)])
  obtain ⟨cq163, q163, q163'⟩ := E_b76.cell
  obtain ⟨_, _, ⟨T163, L163, k163, n163⟩, -, X163, ⟨Lc163, hQ163, l163, y163, z163⟩, st163⟩ := X158.privateBack hx (y := xm25) hown (mvT hZ (tw100 hw)) (mvT hZ (tw101 hw)) (own_selP (mvT hZ (tw31 hw)) (Cond.privateMethod_at (mvP hZ (tw102 hw) (args := #[]))) (mvT hZ (tw101 hw)) (by decide)) (Cond.privateMethod_at (mvP hZ (tw102 hw) (args := #[]))) (mvT hZ (tw103 hw)) (by decide) (backOf (W := 0) (rm_PropertyIndex_slot_0 l Z a0 hw [] b76 b6 b111_137 k111_137 h0 n0 Z0 F_slots_b76 V_b111_137) hZ (tw103 hw) (tw32 hw) (by decide) (by decide)) (g := (mkF m 21 #[.val (.ref b76), .val (.int (0 : Int32)), .val (.int (1 : Int32)), .val (.int p2), .val (.int p3), .val (.int p4), .val (.int (97 : Int32)), .unset, .unset, .unset] [(.int (97 : Int32)), (.int (1 : Int32)), (.int (0 : Int32)), (.ref b6), (.ref b76)])) rfl (by rw [hml]; rfl) (Steps.refl _) (a := b76) (by rw [e158]; exact q163) q163' (argsL := [(.ref b6), (.int (0 : Int32)), (.int (1 : Int32)), (.int (97 : Int32))]) (rest := []) (lenOf pd_15 rfl) rfl (by show 2 * 0 + _ ≤ _; exact Nat.le_of_eq rfl) (hb hby d12_21) (fun _ _ => ⟨rfl, e158, (by decide : 0 + 0 ≤ _), (by decide : 0 + 0 ≤ _)⟩)
  dsimp only [Pt.U, Pt.locs, Pt.cells, Pt.slots] at X163 l163 y163 z163 st163 hQ163
  subst l163 y163 z163
  obtain ⟨rfl, N163q, eq163⟩ := hQ163
  have N164 := Fr.app N157 N163q
  refine Go.step (fun _ k => st163.trans (XS.istore X163.here hx rfl (hb hby d12_24) rfl (l' := #[.val (.ref b76), .val (.int (0 : Int32)), .val (.int (1 : Int32)), .val (.int p2), .val (.int p3), .val (.int p4), .val (.int (97 : Int32)), .val (.int (1 : Int32)), .unset, .unset]) rfl (XS.aloadN X163.here hx rfl (hb hby d12_26) rfl rfl k))) ?_
  show Go p e below s _ _ _ T163 (mkF m 27 #[.val (.ref b76), .val (.int (0 : Int32)), .val (.int (1 : Int32)), .val (.int p2), .val (.int p3), .val (.int p4), .val (.int (97 : Int32)), .val (.int (1 : Int32)), .unset, .unset] [(.ref b76)])
  obtain ⟨T165, X165, e165, st165⟩ := getF X163 hx hZ hown (host := "") (Or.inl (tw73 hw)) Via.refl eq163 F_keyed_b76 (g := (mkF m 27 #[.val (.ref b76), .val (.int (0 : Int32)), .val (.int (1 : Int32)), .val (.int p2), .val (.int p3), .val (.int p4), .val (.int (97 : Int32)), .val (.int (1 : Int32)), .unset, .unset] [(.ref b76)])) rfl rfl (hb hby d12_27)
  refine Go.step (fun _ k => st165 _ (XS.ifNo X165.here hx rfl (hb hby d12_30) rfl ((if0 _ _).trans (teq (by decide)).2) (XS.iload X165.here hx rfl (hb hby d12_33) rfl (XS.iload X165.here hx rfl (hb hby d12_35) rfl (XS.isub X165.here hx rfl (hb hby d12_37) rfl (XS.aloadN X165.here hx rfl (hb hby d12_38) rfl rfl k)))))) ?_
  show Go p e below s _ _ _ T165 (mkF m 39 #[.val (.ref b76), .val (.int (0 : Int32)), .val (.int (1 : Int32)), .val (.int p2), .val (.int p3), .val (.int p4), .val (.int (97 : Int32)), .val (.int (1 : Int32)), .unset, .unset] [(.ref b76), (.int (-96 : Int32))])
  obtain ⟨T166, X166, e166, st166⟩ := getF X165 hx hZ hown (host := "") (Or.inl (tw62 hw)) Via.refl e165 F_slots_b76 (g := (mkF m 39 #[.val (.ref b76), .val (.int (0 : Int32)), .val (.int (1 : Int32)), .val (.int p2), .val (.int p3), .val (.int p4), .val (.int (97 : Int32)), .val (.int (1 : Int32)), .unset, .unset] [(.ref b76), (.int (-96 : Int32))])) rfl rfl (hb hby d12_39)
  refine Go.step (fun _ k => st166 _ k) ?_
  show Go p e below s _ _ _ T166 (mkF m 42 #[.val (.ref b76), .val (.int (0 : Int32)), .val (.int (1 : Int32)), .val (.int p2), .val (.int p3), .val (.int p4), .val (.int (97 : Int32)), .val (.int (1 : Int32)), .unset, .unset] [(.ref b111_137), (.int (-96 : Int32))])
  obtain ⟨cl167, Ar167, -, Sz167, Ng167, -, -⟩ := id V_b111_137
  have aln167 := X166.arraylength hx (by rw [e166]; exact Ar167.1) (State.isArrayOf_alike hZ.alike Ar167.2.1) (g := (mkF m 42 #[.val (.ref b76), .val (.int (0 : Int32)), .val (.int (1 : Int32)), .val (.int p2), .val (.int p3), .val (.int p4), .val (.int (97 : Int32)), .val (.int (1 : Int32)), .unset, .unset] [(.ref b111_137), (.int (-96 : Int32))])) rfl rfl (hb hby d12_42)
  rw [len_of Sz167 Ng167] at aln167
  refine Go.step (fun _ k => aln167 _ (XS.iconst X166.here hx rfl (hb hby d12_43) (XS.isub X166.here hx rfl (hb hby d12_44) rfl (XS.iand X166.here hx rfl (hb hby d12_45) rfl (XS.bipush X166.here hx rfl (hb hby d12_46) (XS.icmpYes X166.here hx rfl (pc0 := 48) (pc' := 151) rfl (hb hby d12_48) rfl (flt (by decide)).2.2.2 (by decide) (by decide) (XS.aloadN X166.here hx rfl (hb hby d12_151) rfl rfl k))))))) ?_
  show Go p e below s _ _ _ T166 (mkF m 152 #[.val (.ref b76), .val (.int (0 : Int32)), .val (.int (1 : Int32)), .val (.int p2), .val (.int p3), .val (.int p4), .val (.int (97 : Int32)), .val (.int (1 : Int32)), .unset, .unset] [(.ref b76)])
  obtain ⟨T168, X168, e168, st168⟩ := getF X166 hx hZ hown (host := "") (Or.inl (tw62 hw)) Via.refl e166 F_slots_b76 (g := (mkF m 152 #[.val (.ref b76), .val (.int (0 : Int32)), .val (.int (1 : Int32)), .val (.int p2), .val (.int p3), .val (.int p4), .val (.int (97 : Int32)), .val (.int (1 : Int32)), .unset, .unset] [(.ref b76)])) rfl rfl (hb hby d12_152)
  refine Go.step (fun _ k => st168 _ (XS.iload X168.here hx rfl (hb hby d12_155) rfl k)) ?_
  show Go p e below s _ _ _ T168 (mkF m 157 #[.val (.ref b76), .val (.int (0 : Int32)), .val (.int (1 : Int32)), .val (.int p2), .val (.int p3), .val (.int p4), .val (.int (97 : Int32)), .val (.int (1 : Int32)), .unset, .unset] [(.int (1 : Int32)), (.ref b111_137)])
  obtain ⟨cl169, Ar169, -, Sz169, Ng169, Hs169, Ft169⟩ := id V_b111_137
  have in169 : ¬ ((1 : Int32) < 0 ∨ cl169.slots.size ≤ ((1 : Int32)).toNatClampNeg) := (inb_of Sz169 ⟨by decide, by decide⟩)
  have at169 : cl169.slots[((1 : Int32)).toNatClampNeg]? = some (.int (0 : Int32)) := Hs169.at in169 rfl
  refine Go.step (fun _ k => X168.iaload hx (j := (1 : Int32)) (v := (.int (0 : Int32))) (by rw [e168]; exact Ar169.1) (State.isArrayOf_alike hZ.alike Ar169.2.1) Ar169.2.2 in169 at169 (g := (mkF m 157 #[.val (.ref b76), .val (.int (0 : Int32)), .val (.int (1 : Int32)), .val (.int p2), .val (.int p3), .val (.int p4), .val (.int (97 : Int32)), .val (.int (1 : Int32)), .unset, .unset] [(.int (1 : Int32)), (.ref b111_137)])) rfl rfl (hb hby d12_157) _ (XS.ifYes X168.here hx rfl (pc0 := 158) (pc' := 171) rfl (hb hby d12_158) rfl ((if0 _ _).trans (teq (by decide)).1) (by decide) (by decide) (XS.aloadN X168.here hx rfl (hb hby d12_171) rfl rfl k))) ?_
  show Go p e below s _ _ _ T168 (mkF m 172 #[.val (.ref b76), .val (.int (0 : Int32)), .val (.int (1 : Int32)), .val (.int p2), .val (.int p3), .val (.int p4), .val (.int (97 : Int32)), .val (.int (1 : Int32)), .unset, .unset] [(.ref b76)])
  obtain ⟨T170, X170, e170, st170⟩ := getF X168 hx hZ hown (host := "") (Or.inl (tw104 hw)) Via.refl e168 F_size_b76 (g := (mkF m 172 #[.val (.ref b76), .val (.int (0 : Int32)), .val (.int (1 : Int32)), .val (.int p2), .val (.int p3), .val (.int p4), .val (.int (97 : Int32)), .val (.int (1 : Int32)), .unset, .unset] [(.ref b76)])) rfl rfl (hb hby d12_172)
  refine Go.step (fun _ k => st170 _ (XS.iconst X170.here hx rfl (hb hby d12_175) (XS.iadd X170.here hx rfl (hb hby d12_176) rfl (XS.bipush X170.here hx rfl (hb hby d12_177) (XS.imul X170.here hx rfl (hb hby d12_179) rfl (XS.aloadN X170.here hx rfl (hb hby d12_180) rfl rfl k)))))) ?_
  show Go p e below s _ _ _ T170 (mkF m 181 #[.val (.ref b76), .val (.int (0 : Int32)), .val (.int (1 : Int32)), .val (.int p2), .val (.int p3), .val (.int p4), .val (.int (97 : Int32)), .val (.int (1 : Int32)), .unset, .unset] [(.ref b76), (.int (6 : Int32))])
  obtain ⟨T171, X171, e171, st171⟩ := getF X170 hx hZ hown (host := "") (Or.inl (tw51 hw)) Via.refl e170 F_entries_b76 (g := (mkF m 181 #[.val (.ref b76), .val (.int (0 : Int32)), .val (.int (1 : Int32)), .val (.int p2), .val (.int p3), .val (.int p4), .val (.int (97 : Int32)), .val (.int (1 : Int32)), .unset, .unset] [(.ref b76), (.int (6 : Int32))])) rfl rfl (hb hby d12_181)
  refine Go.step (fun _ k => st171 _ k) ?_
  show Go p e below s _ _ _ T171 (mkF m 184 #[.val (.ref b76), .val (.int (0 : Int32)), .val (.int (1 : Int32)), .val (.int p2), .val (.int p3), .val (.int p4), .val (.int (97 : Int32)), .val (.int (1 : Int32)), .unset, .unset] [(.ref b99_137), (.int (6 : Int32))])
  obtain ⟨cl172, Ar172, -, Sz172, Ng172, -, -⟩ := id V_b99_137
  have aln172 := X171.arraylength hx (by rw [e171]; exact Ar172.1) (State.isArrayOf_alike hZ.alike Ar172.2.1) (g := (mkF m 184 #[.val (.ref b76), .val (.int (0 : Int32)), .val (.int (1 : Int32)), .val (.int p2), .val (.int p3), .val (.int p4), .val (.int (97 : Int32)), .val (.int (1 : Int32)), .unset, .unset] [(.ref b99_137), (.int (6 : Int32))])) rfl rfl (hb hby d12_184)
  rw [len_of Sz172 Ng172] at aln172
  refine Go.step (fun _ k => aln172 _ (XS.icmpYes X171.here hx rfl (pc0 := 185) (pc' := 206) rfl (hb hby d12_185) rfl (flt (by decide)).2.2.2 (by decide) (by decide) (XS.aloadN X171.here hx rfl (hb hby d12_206) rfl rfl k))) ?_
  show Go p e below s _ _ _ T171 (mkF m 207 #[.val (.ref b76), .val (.int (0 : Int32)), .val (.int (1 : Int32)), .val (.int p2), .val (.int p3), .val (.int p4), .val (.int (97 : Int32)), .val (.int (1 : Int32)), .unset, .unset] [(.ref b76)])
  obtain ⟨T173, X173, e173, st173⟩ := getF X171 hx hZ hown (host := "") (Or.inl (tw104 hw)) Via.refl e171 F_size_b76 (g := (mkF m 207 #[.val (.ref b76), .val (.int (0 : Int32)), .val (.int (1 : Int32)), .val (.int p2), .val (.int p3), .val (.int p4), .val (.int (97 : Int32)), .val (.int (1 : Int32)), .unset, .unset] [(.ref b76)])) rfl rfl (hb hby d12_207)
  refine Go.step (fun _ k => st173 _ (XS.bipush X173.here hx rfl (hb hby d12_210) (XS.imul X173.here hx rfl (hb hby d12_212) rfl (XS.istore X173.here hx rfl (hb hby d12_213) rfl (l' := #[.val (.ref b76), .val (.int (0 : Int32)), .val (.int (1 : Int32)), .val (.int p2), .val (.int p3), .val (.int p4), .val (.int (97 : Int32)), .val (.int (1 : Int32)), .val (.int (0 : Int32)), .unset]) rfl (XS.aloadN X173.here hx rfl (hb hby d12_215) rfl rfl k))))) ?_
  show Go p e below s _ _ _ T173 (mkF m 216 #[.val (.ref b76), .val (.int (0 : Int32)), .val (.int (1 : Int32)), .val (.int p2), .val (.int p3), .val (.int p4), .val (.int (97 : Int32)), .val (.int (1 : Int32)), .val (.int (0 : Int32)), .unset] [(.ref b76)])
  obtain ⟨T174, X174, e174, st174⟩ := getF X173 hx hZ hown (host := "") (Or.inl (tw51 hw)) Via.refl e173 F_entries_b76 (g := (mkF m 216 #[.val (.ref b76), .val (.int (0 : Int32)), .val (.int (1 : Int32)), .val (.int p2), .val (.int p3), .val (.int p4), .val (.int (97 : Int32)), .val (.int (1 : Int32)), .val (.int (0 : Int32)), .unset] [(.ref b76)])) rfl rfl (hb hby d12_216)
  refine Go.step (fun _ k => st174 _ (XS.iload X174.here hx rfl (hb hby d12_219) rfl (XS.iconst X174.here hx rfl (hb hby d12_221) (XS.iadd X174.here hx rfl (hb hby d12_222) rfl (XS.iloadN X174.here hx rfl (hb hby d12_223) rfl k))))) ?_
  show Go p e below s _ _ _ T174 (mkF m 224 #[.val (.ref b76), .val (.int (0 : Int32)), .val (.int (1 : Int32)), .val (.int p2), .val (.int p3), .val (.int p4), .val (.int (97 : Int32)), .val (.int (1 : Int32)), .val (.int (0 : Int32)), .unset] [(.int (0 : Int32)), (.int (0 : Int32)), (.ref b99_137)])
  obtain ⟨cl175, Ar175, qq175, Sz175, Ng175, Hs175, Ft175⟩ := id V_b99_137
  have in175 : ¬ ((0 : Int32) < 0 ∨ cl175.slots.size ≤ ((0 : Int32)).toNatClampNeg) := (inb_of Sz175 ⟨by decide, by decide⟩)
  obtain ⟨T175, h175, X175, e175, W175, st175⟩ := stI X174 hx hZ e174 Ar175 (j := (0 : Int32)) in175 (g := (mkF m 224 #[.val (.ref b76), .val (.int (0 : Int32)), .val (.int (1 : Int32)), .val (.int p2), .val (.int p3), .val (.int p4), .val (.int (97 : Int32)), .val (.int (1 : Int32)), .val (.int (0 : Int32)), .unset] [(.int (0 : Int32)), (.int (0 : Int32)), (.ref b99_137)])) rfl rfl (hb hby d12_224)
  have f177 : Arv Z h175 b99_137 k99_137 .int (6 : Int32) [(.int (0 : Int32)), (.int (0 : Int32)), (.int (0 : Int32)), (.int (0 : Int32)), (.int (0 : Int32)), (.int (0 : Int32))] (.int (0 : Int32)) := Arv.set Ar175 qq175 Sz175 Ng175 Hs175 Ft175 rfl W175 0 rfl (Nat.le_of_ble_eq_true rfl)
  have N178 := Fr.snoc X175 N164 g_b99_137
  refine Go.step (fun _ k => st175 _ (XS.aloadN X175.here hx rfl (hb hby d12_225) rfl rfl k)) ?_
  show Go p e below s _ _ _ T175 (mkF m 226 #[.val (.ref b76), .val (.int (0 : Int32)), .val (.int (1 : Int32)), .val (.int p2), .val (.int p3), .val (.int p4), .val (.int (97 : Int32)), .val (.int (1 : Int32)), .val (.int (0 : Int32)), .unset] [(.ref b76)])
  have f180 := (F_entries_b76.other W175 (Or.inl ne_b76_b99_137))
  obtain ⟨T181, X181, e181, st181⟩ := getF X175 hx hZ hown (host := "") (Or.inl (tw51 hw)) Via.refl e175 f180 (g := (mkF m 226 #[.val (.ref b76), .val (.int (0 : Int32)), .val (.int (1 : Int32)), .val (.int p2), .val (.int p3), .val (.int p4), .val (.int (97 : Int32)), .val (.int (1 : Int32)), .val (.int (0 : Int32)), .unset] [(.ref b76)])) rfl rfl (hb hby d12_226)
  refine Go.step (fun _ k => st181 _ (XS.iload X181.here hx rfl (hb hby d12_229) rfl (XS.iconst X181.here hx rfl (hb hby d12_231) (XS.iadd X181.here hx rfl (hb hby d12_232) rfl (XS.iloadN X181.here hx rfl (hb hby d12_233) rfl k))))) ?_
  show Go p e below s _ _ _ T181 (mkF m 234 #[.val (.ref b76), .val (.int (0 : Int32)), .val (.int (1 : Int32)), .val (.int p2), .val (.int p3), .val (.int p4), .val (.int (97 : Int32)), .val (.int (1 : Int32)), .val (.int (0 : Int32)), .unset] [(.int (1 : Int32)), (.int (1 : Int32)), (.ref b99_137)])
  obtain ⟨cl182, Ar182, qq182, Sz182, Ng182, Hs182, Ft182⟩ := id f177
  have in182 : ¬ ((1 : Int32) < 0 ∨ cl182.slots.size ≤ ((1 : Int32)).toNatClampNeg) := (inb_of Sz182 ⟨by decide, by decide⟩)
  obtain ⟨T182, h182, X182, e182, W182, st182⟩ := stI X181 hx hZ e181 Ar182 (j := (1 : Int32)) in182 (g := (mkF m 234 #[.val (.ref b76), .val (.int (0 : Int32)), .val (.int (1 : Int32)), .val (.int p2), .val (.int p3), .val (.int p4), .val (.int (97 : Int32)), .val (.int (1 : Int32)), .val (.int (0 : Int32)), .unset] [(.int (1 : Int32)), (.int (1 : Int32)), (.ref b99_137)])) rfl rfl (hb hby d12_234)
  have f183 : Arv Z h182 b99_137 k99_137 .int (6 : Int32) [(.int (0 : Int32)), (.int (1 : Int32)), (.int (0 : Int32)), (.int (0 : Int32)), (.int (0 : Int32)), (.int (0 : Int32))] (.int (0 : Int32)) := Arv.set Ar182 qq182 Sz182 Ng182 Hs182 Ft182 rfl W182 1 rfl (Nat.le_of_ble_eq_true rfl)
  have N184 := Fr.snoc X182 N178 g_b99_137
  refine Go.step (fun _ k => st182 _ (XS.aloadN X182.here hx rfl (hb hby d12_235) rfl rfl k)) ?_
  show Go p e below s _ _ _ T182 (mkF m 236 #[.val (.ref b76), .val (.int (0 : Int32)), .val (.int (1 : Int32)), .val (.int p2), .val (.int p3), .val (.int p4), .val (.int (97 : Int32)), .val (.int (1 : Int32)), .val (.int (0 : Int32)), .unset] [(.ref b76)])
  have f185 := (f180.other W182 (Or.inl ne_b76_b99_137))
  obtain ⟨T186, X186, e186, st186⟩ := getF X182 hx hZ hown (host := "") (Or.inl (tw51 hw)) Via.refl e182 f185 (g := (mkF m 236 #[.val (.ref b76), .val (.int (0 : Int32)), .val (.int (1 : Int32)), .val (.int p2), .val (.int p3), .val (.int p4), .val (.int (97 : Int32)), .val (.int (1 : Int32)), .val (.int (0 : Int32)), .unset] [(.ref b76)])) rfl rfl (hb hby d12_236)
  refine Go.step (fun _ k => st186 _ (XS.iload X186.here hx rfl (hb hby d12_239) rfl (XS.iconst X186.here hx rfl (hb hby d12_241) (XS.iadd X186.here hx rfl (hb hby d12_242) rfl (XS.iloadN X186.here hx rfl (hb hby d12_243) rfl k))))) ?_
  show Go p e below s _ _ _ T186 (mkF m 244 #[.val (.ref b76), .val (.int (0 : Int32)), .val (.int (1 : Int32)), .val (.int p2), .val (.int p3), .val (.int p4), .val (.int (97 : Int32)), .val (.int (1 : Int32)), .val (.int (0 : Int32)), .unset] [(.int p2), (.int (2 : Int32)), (.ref b99_137)])
  obtain ⟨cl187, Ar187, qq187, Sz187, Ng187, Hs187, Ft187⟩ := id f183
  have in187 : ¬ ((2 : Int32) < 0 ∨ cl187.slots.size ≤ ((2 : Int32)).toNatClampNeg) := (inb_of Sz187 ⟨by decide, by decide⟩)
  obtain ⟨T187, h187, X187, e187, W187, st187⟩ := stI X186 hx hZ e186 Ar187 (j := (2 : Int32)) in187 (g := (mkF m 244 #[.val (.ref b76), .val (.int (0 : Int32)), .val (.int (1 : Int32)), .val (.int p2), .val (.int p3), .val (.int p4), .val (.int (97 : Int32)), .val (.int (1 : Int32)), .val (.int (0 : Int32)), .unset] [(.int p2), (.int (2 : Int32)), (.ref b99_137)])) rfl rfl (hb hby d12_244)
  have f188 : Arv Z h187 b99_137 k99_137 .int (6 : Int32) [(.int (0 : Int32)), (.int (1 : Int32)), (.int p2), (.int (0 : Int32)), (.int (0 : Int32)), (.int (0 : Int32))] (.int (0 : Int32)) := Arv.set Ar187 qq187 Sz187 Ng187 Hs187 Ft187 rfl W187 2 rfl (Nat.le_of_ble_eq_true rfl)
  have N189 := Fr.snoc X187 N184 g_b99_137
  refine Go.step (fun _ k => st187 _ (XS.aloadN X187.here hx rfl (hb hby d12_245) rfl rfl k)) ?_
  show Go p e below s _ _ _ T187 (mkF m 246 #[.val (.ref b76), .val (.int (0 : Int32)), .val (.int (1 : Int32)), .val (.int p2), .val (.int p3), .val (.int p4), .val (.int (97 : Int32)), .val (.int (1 : Int32)), .val (.int (0 : Int32)), .unset] [(.ref b76)])
  have f190 := (f185.other W187 (Or.inl ne_b76_b99_137))
  obtain ⟨T191, X191, e191, st191⟩ := getF X187 hx hZ hown (host := "") (Or.inl (tw51 hw)) Via.refl e187 f190 (g := (mkF m 246 #[.val (.ref b76), .val (.int (0 : Int32)), .val (.int (1 : Int32)), .val (.int p2), .val (.int p3), .val (.int p4), .val (.int (97 : Int32)), .val (.int (1 : Int32)), .val (.int (0 : Int32)), .unset] [(.ref b76)])) rfl rfl (hb hby d12_246)
  refine Go.step (fun _ k => st191 _ (XS.iload X191.here hx rfl (hb hby d12_249) rfl (XS.iconst X191.here hx rfl (hb hby d12_251) (XS.iadd X191.here hx rfl (hb hby d12_252) rfl (XS.iload X191.here hx rfl (hb hby d12_253) rfl k))))) ?_
  show Go p e below s _ _ _ T191 (mkF m 255 #[.val (.ref b76), .val (.int (0 : Int32)), .val (.int (1 : Int32)), .val (.int p2), .val (.int p3), .val (.int p4), .val (.int (97 : Int32)), .val (.int (1 : Int32)), .val (.int (0 : Int32)), .unset] [(.int p3), (.int (3 : Int32)), (.ref b99_137)])
  obtain ⟨cl192, Ar192, qq192, Sz192, Ng192, Hs192, Ft192⟩ := id f188
  have in192 : ¬ ((3 : Int32) < 0 ∨ cl192.slots.size ≤ ((3 : Int32)).toNatClampNeg) := (inb_of Sz192 ⟨by decide, by decide⟩)
  obtain ⟨T192, h192, X192, e192, W192, st192⟩ := stI X191 hx hZ e191 Ar192 (j := (3 : Int32)) in192 (g := (mkF m 255 #[.val (.ref b76), .val (.int (0 : Int32)), .val (.int (1 : Int32)), .val (.int p2), .val (.int p3), .val (.int p4), .val (.int (97 : Int32)), .val (.int (1 : Int32)), .val (.int (0 : Int32)), .unset] [(.int p3), (.int (3 : Int32)), (.ref b99_137)])) rfl rfl (hb hby d12_255)
  have f193 : Arv Z h192 b99_137 k99_137 .int (6 : Int32) [(.int (0 : Int32)), (.int (1 : Int32)), (.int p2), (.int p3), (.int (0 : Int32)), (.int (0 : Int32))] (.int (0 : Int32)) := Arv.set Ar192 qq192 Sz192 Ng192 Hs192 Ft192 rfl W192 3 rfl (Nat.le_of_ble_eq_true rfl)
  have N194 := Fr.snoc X192 N189 g_b99_137
  refine Go.step (fun _ k => st192 _ (XS.aloadN X192.here hx rfl (hb hby d12_256) rfl rfl k)) ?_
  show Go p e below s _ _ _ T192 (mkF m 257 #[.val (.ref b76), .val (.int (0 : Int32)), .val (.int (1 : Int32)), .val (.int p2), .val (.int p3), .val (.int p4), .val (.int (97 : Int32)), .val (.int (1 : Int32)), .val (.int (0 : Int32)), .unset] [(.ref b76)])
  have f195 := (f190.other W192 (Or.inl ne_b76_b99_137))
  obtain ⟨T196, X196, e196, st196⟩ := getF X192 hx hZ hown (host := "") (Or.inl (tw51 hw)) Via.refl e192 f195 (g := (mkF m 257 #[.val (.ref b76), .val (.int (0 : Int32)), .val (.int (1 : Int32)), .val (.int p2), .val (.int p3), .val (.int p4), .val (.int (97 : Int32)), .val (.int (1 : Int32)), .val (.int (0 : Int32)), .unset] [(.ref b76)])) rfl rfl (hb hby d12_257)
  refine Go.step (fun _ k => st196 _ (XS.iload X196.here hx rfl (hb hby d12_260) rfl (XS.iconst X196.here hx rfl (hb hby d12_262) (XS.iadd X196.here hx rfl (hb hby d12_263) rfl (XS.iload X196.here hx rfl (hb hby d12_264) rfl k))))) ?_
  show Go p e below s _ _ _ T196 (mkF m 266 #[.val (.ref b76), .val (.int (0 : Int32)), .val (.int (1 : Int32)), .val (.int p2), .val (.int p3), .val (.int p4), .val (.int (97 : Int32)), .val (.int (1 : Int32)), .val (.int (0 : Int32)), .unset] [(.int p4), (.int (4 : Int32)), (.ref b99_137)])
  obtain ⟨cl197, Ar197, qq197, Sz197, Ng197, Hs197, Ft197⟩ := id f193
  have in197 : ¬ ((4 : Int32) < 0 ∨ cl197.slots.size ≤ ((4 : Int32)).toNatClampNeg) := (inb_of Sz197 ⟨by decide, by decide⟩)
  obtain ⟨T197, h197, X197, e197, W197, st197⟩ := stI X196 hx hZ e196 Ar197 (j := (4 : Int32)) in197 (g := (mkF m 266 #[.val (.ref b76), .val (.int (0 : Int32)), .val (.int (1 : Int32)), .val (.int p2), .val (.int p3), .val (.int p4), .val (.int (97 : Int32)), .val (.int (1 : Int32)), .val (.int (0 : Int32)), .unset] [(.int p4), (.int (4 : Int32)), (.ref b99_137)])) rfl rfl (hb hby d12_266)
  have f198 : Arv Z h197 b99_137 k99_137 .int (6 : Int32) [(.int (0 : Int32)), (.int (1 : Int32)), (.int p2), (.int p3), (.int p4), (.int (0 : Int32))] (.int (0 : Int32)) := Arv.set Ar197 qq197 Sz197 Ng197 Hs197 Ft197 rfl W197 4 rfl (Nat.le_of_ble_eq_true rfl)
  have N199 := Fr.snoc X197 N194 g_b99_137
  refine Go.step (fun _ k => st197 _ (XS.aloadN X197.here hx rfl (hb hby d12_267) rfl rfl k)) ?_
  show Go p e below s _ _ _ T197 (mkF m 268 #[.val (.ref b76), .val (.int (0 : Int32)), .val (.int (1 : Int32)), .val (.int p2), .val (.int p3), .val (.int p4), .val (.int (97 : Int32)), .val (.int (1 : Int32)), .val (.int (0 : Int32)), .unset] [(.ref b76)])
  have f200 := (f195.other W197 (Or.inl ne_b76_b99_137))
  obtain ⟨T201, X201, e201, st201⟩ := getF X197 hx hZ hown (host := "") (Or.inl (tw51 hw)) Via.refl e197 f200 (g := (mkF m 268 #[.val (.ref b76), .val (.int (0 : Int32)), .val (.int (1 : Int32)), .val (.int p2), .val (.int p3), .val (.int p4), .val (.int (97 : Int32)), .val (.int (1 : Int32)), .val (.int (0 : Int32)), .unset] [(.ref b76)])) rfl rfl (hb hby d12_268)
  refine Go.step (fun _ k => st201 _ (XS.iload X201.here hx rfl (hb hby d12_271) rfl (XS.iconst X201.here hx rfl (hb hby d12_273) (XS.iadd X201.here hx rfl (hb hby d12_274) rfl (XS.iload X201.here hx rfl (hb hby d12_275) rfl k))))) ?_
  show Go p e below s _ _ _ T201 (mkF m 277 #[.val (.ref b76), .val (.int (0 : Int32)), .val (.int (1 : Int32)), .val (.int p2), .val (.int p3), .val (.int p4), .val (.int (97 : Int32)), .val (.int (1 : Int32)), .val (.int (0 : Int32)), .unset] [(.int (97 : Int32)), (.int (5 : Int32)), (.ref b99_137)])
  obtain ⟨cl202, Ar202, qq202, Sz202, Ng202, Hs202, Ft202⟩ := id f198
  have in202 : ¬ ((5 : Int32) < 0 ∨ cl202.slots.size ≤ ((5 : Int32)).toNatClampNeg) := (inb_of Sz202 ⟨by decide, by decide⟩)
  obtain ⟨T202, h202, X202, e202, W202, st202⟩ := stI X201 hx hZ e201 Ar202 (j := (5 : Int32)) in202 (g := (mkF m 277 #[.val (.ref b76), .val (.int (0 : Int32)), .val (.int (1 : Int32)), .val (.int p2), .val (.int p3), .val (.int p4), .val (.int (97 : Int32)), .val (.int (1 : Int32)), .val (.int (0 : Int32)), .unset] [(.int (97 : Int32)), (.int (5 : Int32)), (.ref b99_137)])) rfl rfl (hb hby d12_277)
  have f203 : Arv Z h202 b99_137 k99_137 .int (6 : Int32) [(.int (0 : Int32)), (.int (1 : Int32)), (.int p2), (.int p3), (.int p4), (.int (97 : Int32))] (.int (0 : Int32)) := Arv.set Ar202 qq202 Sz202 Ng202 Hs202 Ft202 rfl W202 5 rfl (Nat.le_of_ble_eq_true rfl)
  have N204 := Fr.snoc X202 N199 g_b99_137
  refine Go.step (fun _ k => st202 _ (XS.aloadN X202.here hx rfl (hb hby d12_278) rfl rfl (XS.dup X202.here hx rfl (hb hby d12_279) rfl rfl k))) ?_
  show Go p e below s _ _ _ T202 (mkF m 280 #[.val (.ref b76), .val (.int (0 : Int32)), .val (.int (1 : Int32)), .val (.int p2), .val (.int p3), .val (.int p4), .val (.int (97 : Int32)), .val (.int (1 : Int32)), .val (.int (0 : Int32)), .unset] [(.ref b76), (.ref b76)])
  have f205 := ((((((F_size_b76.other W175 (Or.inl ne_b76_b99_137)).other W182 (Or.inl ne_b76_b99_137)).other W187 (Or.inl ne_b76_b99_137)).other W192 (Or.inl ne_b76_b99_137)).other W197 (Or.inl ne_b76_b99_137)).other W202 (Or.inl ne_b76_b99_137))
  obtain ⟨T206, X206, e206, st206⟩ := getF X202 hx hZ hown (host := "") (Or.inl (tw104 hw)) Via.refl e202 f205 (g := (mkF m 280 #[.val (.ref b76), .val (.int (0 : Int32)), .val (.int (1 : Int32)), .val (.int p2), .val (.int p3), .val (.int p4), .val (.int (97 : Int32)), .val (.int (1 : Int32)), .val (.int (0 : Int32)), .unset] [(.ref b76), (.ref b76)])) rfl rfl (hb hby d12_280)
  refine Go.step (fun _ k => st206 _ (XS.iconst X206.here hx rfl (hb hby d12_283) (XS.iadd X206.here hx rfl (hb hby d12_284) rfl k))) ?_
  show Go p e below s _ _ _ T206 (mkF m 285 #[.val (.ref b76), .val (.int (0 : Int32)), .val (.int (1 : Int32)), .val (.int p2), .val (.int p3), .val (.int p4), .val (.int (97 : Int32)), .val (.int (1 : Int32)), .val (.int (0 : Int32)), .unset] [(.int (1 : Int32)), (.ref b76)])
  have f207 := ((((((E_b76.wr W175).wr W182).wr W187).wr W192).wr W197).wr W202)
  obtain ⟨T208, h208, X208, e208, W208, st208⟩ := putF X206 hx hZ hown (host := "") (Or.inl (tw104 hw)) Via.refl e206 f205 f207 (Or.inl (tw105 hw)) (tw31 hw) (ty := .int) (by decide) rfl rfl (g := (mkF m 285 #[.val (.ref b76), .val (.int (0 : Int32)), .val (.int (1 : Int32)), .val (.int p2), .val (.int p3), .val (.int p4), .val (.int (97 : Int32)), .val (.int (1 : Int32)), .val (.int (0 : Int32)), .unset] [(.int (1 : Int32)), (.ref b76)])) rfl rfl (hb hby d12_285)
  have f209 := f205.same W208
  have N210 := Fr.snoc X208 N204 g_b76
  refine Go.step (fun _ k => st208 _ (XS.aloadN X208.here hx rfl (hb hby d12_288) rfl rfl k)) ?_
  show Go p e below s _ _ _ T208 (mkF m 289 #[.val (.ref b76), .val (.int (0 : Int32)), .val (.int (1 : Int32)), .val (.int p2), .val (.int p3), .val (.int p4), .val (.int (97 : Int32)), .val (.int (1 : Int32)), .val (.int (0 : Int32)), .unset] [(.ref b76)])
  have f211 := (((((((F_slots_b76.other W175 (Or.inl ne_b76_b99_137)).other W182 (Or.inl ne_b76_b99_137)).other W187 (Or.inl ne_b76_b99_137)).other W192 (Or.inl ne_b76_b99_137)).other W197 (Or.inl ne_b76_b99_137)).other W202 (Or.inl ne_b76_b99_137)).other W208 (Or.inr (slot_ne (Or.inl (tw63 hw)) (Or.inl (tw105 hw)) (by decide) (t := (.array .int)) (t' := .int) (by decide) (by decide))))
  obtain ⟨T212, X212, e212, st212⟩ := getF X208 hx hZ hown (host := "") (Or.inl (tw62 hw)) Via.refl e208 f211 (g := (mkF m 289 #[.val (.ref b76), .val (.int (0 : Int32)), .val (.int (1 : Int32)), .val (.int p2), .val (.int p3), .val (.int p4), .val (.int (97 : Int32)), .val (.int (1 : Int32)), .val (.int (0 : Int32)), .unset] [(.ref b76)])) rfl rfl (hb hby d12_289)
  refine Go.step (fun _ k => st212 _ (XS.iload X212.here hx rfl (hb hby d12_292) rfl (XS.aloadN X212.here hx rfl (hb hby d12_294) rfl rfl k))) ?_
  show Go p e below s _ _ _ T212 (mkF m 295 #[.val (.ref b76), .val (.int (0 : Int32)), .val (.int (1 : Int32)), .val (.int p2), .val (.int p3), .val (.int p4), .val (.int (97 : Int32)), .val (.int (1 : Int32)), .val (.int (0 : Int32)), .unset] [(.ref b76), (.int (1 : Int32)), (.ref b111_137)])
  obtain ⟨T213, X213, e213, st213⟩ := getF X212 hx hZ hown (host := "") (Or.inl (tw104 hw)) Via.refl e212 f209 (g := (mkF m 295 #[.val (.ref b76), .val (.int (0 : Int32)), .val (.int (1 : Int32)), .val (.int p2), .val (.int p3), .val (.int p4), .val (.int (97 : Int32)), .val (.int (1 : Int32)), .val (.int (0 : Int32)), .unset] [(.ref b76), (.int (1 : Int32)), (.ref b111_137)])) rfl rfl (hb hby d12_295)
  refine Go.step (fun _ k => st213 _ k) ?_
  show Go p e below s _ _ _ T213 (mkF m 298 #[.val (.ref b76), .val (.int (0 : Int32)), .val (.int (1 : Int32)), .val (.int p2), .val (.int p3), .val (.int p4), .val (.int (97 : Int32)), .val (.int (1 : Int32)), .val (.int (0 : Int32)), .unset] [(.int (1 : Int32)), (.int (1 : Int32)), (.ref b111_137)])
  have f215 := (((((((V_b111_137.other W175 ne_b111_137_b99_137).other W182 ne_b111_137_b99_137).other W187 ne_b111_137_b99_137).other W192 ne_b111_137_b99_137).other W197 ne_b111_137_b99_137).other W202 ne_b111_137_b99_137).other W208 ne_b111_137_b76)
  obtain ⟨cl216, Ar216, qq216, Sz216, Ng216, Hs216, Ft216⟩ := id f215
  have in216 : ¬ ((1 : Int32) < 0 ∨ cl216.slots.size ≤ ((1 : Int32)).toNatClampNeg) := (inb_of Sz216 ⟨by decide, by decide⟩)
  obtain ⟨T216, h216, X216, e216, W216, st216⟩ := stI X213 hx hZ e213 Ar216 (j := (1 : Int32)) in216 (g := (mkF m 298 #[.val (.ref b76), .val (.int (0 : Int32)), .val (.int (1 : Int32)), .val (.int p2), .val (.int p3), .val (.int p4), .val (.int (97 : Int32)), .val (.int (1 : Int32)), .val (.int (0 : Int32)), .unset] [(.int (1 : Int32)), (.int (1 : Int32)), (.ref b111_137)])) rfl rfl (hb hby d12_298)
  have f218 : Arv Z h216 b111_137 k111_137 .int (4 : Int32) [(.int (0 : Int32)), (.int (1 : Int32)), (.int (0 : Int32)), (.int (0 : Int32))] (.int (0 : Int32)) := Arv.set Ar216 qq216 Sz216 Ng216 Hs216 Ft216 rfl W216 1 rfl (Nat.le_of_ble_eq_true rfl)
  have N219 := Fr.snoc X216 N210 g_b111_137
  refine Go.step (fun _ k => st216 _ (XS.aloadN X216.here hx rfl (hb hby d12_299) rfl rfl k)) ?_
  show Go p e below s _ _ _ T216 (mkF m 300 #[.val (.ref b76), .val (.int (0 : Int32)), .val (.int (1 : Int32)), .val (.int p2), .val (.int p3), .val (.int p4), .val (.int (97 : Int32)), .val (.int (1 : Int32)), .val (.int (0 : Int32)), .unset] [(.ref b76)])
  have f220 := (f209.other W216 (Or.inl (Ne.symm ne_b111_137_b76)))
  obtain ⟨T221, X221, e221, st221⟩ := getF X216 hx hZ hown (host := "") (Or.inl (tw104 hw)) Via.refl e216 f220 (g := (mkF m 300 #[.val (.ref b76), .val (.int (0 : Int32)), .val (.int (1 : Int32)), .val (.int p2), .val (.int p3), .val (.int p4), .val (.int (97 : Int32)), .val (.int (1 : Int32)), .val (.int (0 : Int32)), .unset] [(.ref b76)])) rfl rfl (hb hby d12_300)
  refine Go.step (fun _ k => st221 _ (XS.iconst X221.here hx rfl (hb hby d12_303) (XS.imul X221.here hx rfl (hb hby d12_304) rfl (XS.aloadN X221.here hx rfl (hb hby d12_305) rfl rfl k)))) ?_
  show Go p e below s _ _ _ T221 (mkF m 306 #[.val (.ref b76), .val (.int (0 : Int32)), .val (.int (1 : Int32)), .val (.int p2), .val (.int p3), .val (.int p4), .val (.int (97 : Int32)), .val (.int (1 : Int32)), .val (.int (0 : Int32)), .unset] [(.ref b76), (.int (2 : Int32))])
  have f222 := (f211.other W216 (Or.inl (Ne.symm ne_b111_137_b76)))
  obtain ⟨T223, X223, e223, st223⟩ := getF X221 hx hZ hown (host := "") (Or.inl (tw62 hw)) Via.refl e221 f222 (g := (mkF m 306 #[.val (.ref b76), .val (.int (0 : Int32)), .val (.int (1 : Int32)), .val (.int p2), .val (.int p3), .val (.int p4), .val (.int (97 : Int32)), .val (.int (1 : Int32)), .val (.int (0 : Int32)), .unset] [(.ref b76), (.int (2 : Int32))])) rfl rfl (hb hby d12_306)
  refine Go.step (fun _ k => st223 _ k) ?_
  show Go p e below s _ _ _ T223 (mkF m 309 #[.val (.ref b76), .val (.int (0 : Int32)), .val (.int (1 : Int32)), .val (.int p2), .val (.int p3), .val (.int p4), .val (.int (97 : Int32)), .val (.int (1 : Int32)), .val (.int (0 : Int32)), .unset] [(.ref b111_137), (.int (2 : Int32))])
  obtain ⟨cl224, Ar224, -, Sz224, Ng224, -, -⟩ := id f218
  have aln224 := X223.arraylength hx (by rw [e223]; exact Ar224.1) (State.isArrayOf_alike hZ.alike Ar224.2.1) (g := (mkF m 309 #[.val (.ref b76), .val (.int (0 : Int32)), .val (.int (1 : Int32)), .val (.int p2), .val (.int p3), .val (.int p4), .val (.int (97 : Int32)), .val (.int (1 : Int32)), .val (.int (0 : Int32)), .unset] [(.ref b111_137), (.int (2 : Int32))])) rfl rfl (hb hby d12_309)
  rw [len_of Sz224 Ng224] at aln224
  refine Go.step (fun _ k => aln224 _ (XS.icmpYes X223.here hx rfl (pc0 := 310) (pc' := 324) rfl (hb hby d12_310) rfl (flt (by decide)).2.2.2 (by decide) (by decide) (XS.iconst X223.here hx rfl (hb hby d12_324) k))) ?_
  show Go p e below s _ _ _ T223 (mkF m 325 #[.val (.ref b76), .val (.int (0 : Int32)), .val (.int (1 : Int32)), .val (.int p2), .val (.int p3), .val (.int p4), .val (.int (97 : Int32)), .val (.int (1 : Int32)), .val (.int (0 : Int32)), .unset] [(.int (-1 : Int32))])
  have f225 := (((((((((Keep.refl h0 [b99_137, b76, b111_137]).wr W175 (Or.inl (List.mem_of_getElem? (i := 0) rfl))).wr W182 (Or.inl (List.mem_of_getElem? (i := 0) rfl))).wr W187 (Or.inl (List.mem_of_getElem? (i := 0) rfl))).wr W192 (Or.inl (List.mem_of_getElem? (i := 0) rfl))).wr W197 (Or.inl (List.mem_of_getElem? (i := 0) rfl))).wr W202 (Or.inl (List.mem_of_getElem? (i := 0) rfl))).wr W208 (Or.inl (List.mem_of_getElem? (i := 1) rfl))).wr W216 (Or.inl (List.mem_of_getElem? (i := 2) rfl)))
  have f226 := ((f203.other W208 (Ne.symm ne_b76_b99_137)).other W216 (Ne.symm ne_b111_137_b99_137))
  have f227 := ((((((((F_text_b76.other W175 (Or.inl ne_b76_b99_137)).other W182 (Or.inl ne_b76_b99_137)).other W187 (Or.inl ne_b76_b99_137)).other W192 (Or.inl ne_b76_b99_137)).other W197 (Or.inl ne_b76_b99_137)).other W202 (Or.inl ne_b76_b99_137)).other W208 (Or.inr (slot_ne (Or.inr (tw43 hw)) (Or.inl (tw105 hw)) (by decide) (t := (.object xs18)) (t' := .int) (by decide) (by decide)))).other W216 (Or.inl (Ne.symm ne_b111_137_b76)))
  have f228 := ((((((((F_keyed_b76.other W175 (Or.inl ne_b76_b99_137)).other W182 (Or.inl ne_b76_b99_137)).other W187 (Or.inl ne_b76_b99_137)).other W192 (Or.inl ne_b76_b99_137)).other W197 (Or.inl ne_b76_b99_137)).other W202 (Or.inl ne_b76_b99_137)).other W208 (Or.inr (slot_ne (Or.inl (tw74 hw)) (Or.inl (tw105 hw)) (by decide) (t := .boolean) (t' := .int) (by decide) (by decide)))).other W216 (Or.inl (Ne.symm ne_b111_137_b76)))
  have f229 := (((f200.other W202 (Or.inl ne_b76_b99_137)).other W208 (Or.inr (slot_ne (Or.inl (tw52 hw)) (Or.inl (tw105 hw)) (by decide) (t := (.array .int)) (t' := .int) (by decide) (by decide)))).other W216 (Or.inl (Ne.symm ne_b111_137_b76)))
  have f230 := ((((((((F_lineEnds_b76.other W175 (Or.inl ne_b76_b99_137)).other W182 (Or.inl ne_b76_b99_137)).other W187 (Or.inl ne_b76_b99_137)).other W192 (Or.inl ne_b76_b99_137)).other W197 (Or.inl ne_b76_b99_137)).other W202 (Or.inl ne_b76_b99_137)).other W208 (Or.inr (slot_ne (Or.inr (tw45 hw)) (Or.inl (tw105 hw)) (by decide) (t := (.object xs3)) (t' := .int) (by decide) (by decide)))).other W216 (Or.inl (Ne.symm ne_b111_137_b76)))
  exact Go.retI X223 hx hlk Bd.returns (hb hby d12_325) e223 ⟨rfl, N219, f225, f226, f227, f228, f222, f220, f229, f230, f218⟩ (by decide) (by decide)

theorem ef_PropertyIndex_endValue_0 (m : MethodId) (x0 : Addr) (x1 : Int32) : entryFrame m #[(.ref x0), (.int x1)] 2 = mkF m 0 #[.val (.ref x0), .val (.int x1)] [] := by first | (simp [entryFrame, mkF, argsToLocals, Value.category]; done) | rfl
def Q_PropertyIndex_endValue_0 (Z : State) (b76 : Addr) (p5 : Int32) (b99_137 : Addr) (k99_137 : ClassId) (p2 : Int32) (p3 : Int32) (p4 : Int32) (h0 : Heap) (n0 : Nat) (v : Option Value) (h : Heap) (L : List Loc) : Prop := v = none ∧ Fr n0 L ∧ Keep h0 h [b99_137] ∧ Arv Z h b99_137 k99_137 .int (6 : Int32) [(.int (0 : Int32)), (.int (1 : Int32)), (.int p2), (.int p5), (.int p4), (.int (97 : Int32))] (.int (0 : Int32))
set_option maxRecDepth 65536 in
set_option maxHeartbeats 40000000 in
theorem rm_PropertyIndex_endValue_0 (l : Launch) (Z : State) (a0 : Array Value) (hw : ∀ d ∈ tables_1, d.before a0 Z = true) (ws : List Jvm.Cond) (b76 : Addr) (p5 : Int32) (b99_137 : Addr) (k99_137 : ClassId) (p2 : Int32) (p3 : Int32) (p4 : Int32) (h0 : Heap) (n0 : Nat) (Z0 : n0 ≤ h0.size) (F_entries_b76 : Fld Z h0 b76 xs1 "entries" "[I" (.ref b99_137)) (F_size_b76 : Fld Z h0 b76 xs1 "size" "I" (.int (1 : Int32))) (V_b99_137 : Arv Z h0 b99_137 k99_137 .int (6 : Int32) [(.int (0 : Int32)), (.int (1 : Int32)), (.int p2), (.int p3), (.int p4), (.int (97 : Int32))] (.int (0 : Int32))) (g_b99_137 : n0 ≤ b99_137) :
    MetFree l xm9 (head1 (Jvm.Cond.code xm9 prog_15_method_4_code 2 none :: ws) xr14) (fun a U => a = #[(.ref b76), (.int p5)] ∧ Z.Warmed39 U.vm ∧ U.heap = h0) (fun _ _ _ _ _ => True) (fun _ U o U' => ∃ v L, o = .returned v ∧ Q_PropertyIndex_endValue_0 Z b76 p5 b99_137 k99_137 p2 p3 p4 h0 n0 v U'.heap L ∧ FrameEnd U o U' L xr14.cells xr14.slots) := by
  refine MetFree.of_bodySF (plainFor_of_name pn_5) hisR ?_
  intro p e s m args below meth c s₁ Bd hml0 hP hK
  obtain ⟨rfl, hZ, hh⟩ := hP
  have hx := Bd.exec
  have hby := Bd.bytes
  have hlk : meth.locks = false := BodyLoose.notSynchronized Bd
  have hml : c.maxLocals = 2 := hml0
  have hown : s.vm.findClass xs1 = some m.cls := findClass_of_methodNamed Bd.named
  have hnm := (name_of_methodNamed Bd.named Bd.method).1
  have X0 : Stand p l e xr14 s m #[(.ref b76), (.int p5)] below meth c s₁ [] 0 0 := Stand.of_body Bd
  have e0 : s₁.heap = h0 := by rw [← hh, Bd.state]; rfl
  have N0 := Fr.nil n0
  show Go p e below s (Q_PropertyIndex_endValue_0 Z b76 p5 b99_137 k99_137 p2 p3 p4 h0 n0) xr14.cells xr14.slots s₁ (entryFrame m #[(.ref b76), (.int p5)] 2)
  refine Go.cast (ef_PropertyIndex_endValue_0 m b76 p5) ?_
  show Go p e below s _ _ _ s₁ (mkF m 0 #[.val (.ref b76), .val (.int p5)] [])
  refine Go.step (fun _ k => XS.aloadN X0.here hx rfl (hb hby d19_0) rfl rfl k) ?_
  show Go p e below s _ _ _ s₁ (mkF m 1 #[.val (.ref b76), .val (.int p5)] [(.ref b76)])
  obtain ⟨T243, X243, e243, st243⟩ := getF X0 hx hZ hown (host := "") (Or.inl (tw51 hw)) Via.refl e0 F_entries_b76 (g := (mkF m 1 #[.val (.ref b76), .val (.int p5)] [(.ref b76)])) rfl rfl (hb hby d19_1)
  refine Go.step (fun _ k => st243 _ (XS.aloadN X243.here hx rfl (hb hby d19_4) rfl rfl k)) ?_
  show Go p e below s _ _ _ T243 (mkF m 5 #[.val (.ref b76), .val (.int p5)] [(.ref b76), (.ref b99_137)])
  obtain ⟨T244, X244, e244, st244⟩ := getF X243 hx hZ hown (host := "") (Or.inl (tw104 hw)) Via.refl e243 F_size_b76 (g := (mkF m 5 #[.val (.ref b76), .val (.int p5)] [(.ref b76), (.ref b99_137)])) rfl rfl (hb hby d19_5)
  refine Go.step (fun _ k => st244 _ (XS.iconst X244.here hx rfl (hb hby d19_8) (XS.isub X244.here hx rfl (hb hby d19_9) rfl (XS.bipush X244.here hx rfl (hb hby d19_10) (XS.imul X244.here hx rfl (hb hby d19_12) rfl (XS.iconst X244.here hx rfl (hb hby d19_13) (XS.iadd X244.here hx rfl (hb hby d19_14) rfl (XS.iloadN X244.here hx rfl (hb hby d19_15) rfl k)))))))) ?_
  show Go p e below s _ _ _ T244 (mkF m 16 #[.val (.ref b76), .val (.int p5)] [(.int p5), (.int (3 : Int32)), (.ref b99_137)])
  obtain ⟨cl245, Ar245, qq245, Sz245, Ng245, Hs245, Ft245⟩ := id V_b99_137
  have in245 : ¬ ((3 : Int32) < 0 ∨ cl245.slots.size ≤ ((3 : Int32)).toNatClampNeg) := (inb_of Sz245 ⟨by decide, by decide⟩)
  obtain ⟨T245, h245, X245, e245, W245, st245⟩ := stI X244 hx hZ e244 Ar245 (j := (3 : Int32)) in245 (g := (mkF m 16 #[.val (.ref b76), .val (.int p5)] [(.int p5), (.int (3 : Int32)), (.ref b99_137)])) rfl rfl (hb hby d19_16)
  have f246 : Arv Z h245 b99_137 k99_137 .int (6 : Int32) [(.int (0 : Int32)), (.int (1 : Int32)), (.int p2), (.int p5), (.int p4), (.int (97 : Int32))] (.int (0 : Int32)) := Arv.set Ar245 qq245 Sz245 Ng245 Hs245 Ft245 rfl W245 3 rfl (Nat.le_of_ble_eq_true rfl)
  have N247 := Fr.snoc X245 N0 g_b99_137
  refine Go.step (fun _ k => st245 _ k) ?_
  show Go p e below s _ _ _ T245 (mkF m 17 #[.val (.ref b76), .val (.int p5)] [])
  have f248 := ((Keep.refl h0 [b99_137]).wr W245 (Or.inl (List.mem_of_getElem? (i := 0) rfl)))
  exact Go.retV X245 hx hlk Bd.returns (hb hby d19_17) e245 ⟨rfl, N247, f248, f246⟩ (by decide) (by decide)

theorem ef_PropertyIndex_size_0 (m : MethodId) (x0 : Addr) : entryFrame m #[(.ref x0)] 1 = mkF m 0 #[.val (.ref x0)] [] := by first | (simp [entryFrame, mkF, argsToLocals, Value.category]; done) | rfl
def Q_PropertyIndex_size_0 (Z : State) (b76 : Addr) (h0 : Heap) (n0 : Nat) (v : Option Value) (h : Heap) (L : List Loc) : Prop := v = some (.int (1 : Int32)) ∧ Fr n0 L ∧ h = h0
set_option maxRecDepth 65536 in
set_option maxHeartbeats 40000000 in
theorem rm_PropertyIndex_size_0 (l : Launch) (Z : State) (a0 : Array Value) (hw : ∀ d ∈ tables_1, d.before a0 Z = true) (ws : List Jvm.Cond) (b76 : Addr) (h0 : Heap) (n0 : Nat) (Z0 : n0 ≤ h0.size) (F_size_b76 : Fld Z h0 b76 xs1 "size" "I" (.int (1 : Int32))) :
    MetFree l xm23 (head1 (Jvm.Cond.code xm23 prog_15_method_8_code 1 (some .int) :: ws) xr14) (fun a U => a = #[(.ref b76)] ∧ Z.Warmed39 U.vm ∧ U.heap = h0) (fun _ _ _ _ _ => True) (fun _ U o U' => ∃ v L, o = .returned v ∧ Q_PropertyIndex_size_0 Z b76 h0 n0 v U'.heap L ∧ FrameEnd U o U' L xr14.cells xr14.slots) := by
  refine MetFree.of_bodySF (plainFor_of_name pn_5) hisR ?_
  intro p e s m args below meth c s₁ Bd hml0 hP hK
  obtain ⟨rfl, hZ, hh⟩ := hP
  have hx := Bd.exec
  have hby := Bd.bytes
  have hlk : meth.locks = false := BodyLoose.notSynchronized Bd
  have hml : c.maxLocals = 1 := hml0
  have hown : s.vm.findClass xs1 = some m.cls := findClass_of_methodNamed Bd.named
  have hnm := (name_of_methodNamed Bd.named Bd.method).1
  have X0 : Stand p l e xr14 s m #[(.ref b76)] below meth c s₁ [] 0 0 := Stand.of_body Bd
  have e0 : s₁.heap = h0 := by rw [← hh, Bd.state]; rfl
  have N0 := Fr.nil n0
  show Go p e below s (Q_PropertyIndex_size_0 Z b76 h0 n0) xr14.cells xr14.slots s₁ (entryFrame m #[(.ref b76)] 1)
  refine Go.cast (ef_PropertyIndex_size_0 m b76) ?_
  show Go p e below s _ _ _ s₁ (mkF m 0 #[.val (.ref b76)] [])
  refine Go.step (fun _ k => XS.aloadN X0.here hx rfl (hb hby d20_0) rfl rfl k) ?_
  show Go p e below s _ _ _ s₁ (mkF m 1 #[.val (.ref b76)] [(.ref b76)])
  obtain ⟨T253, X253, e253, st253⟩ := getF X0 hx hZ hown (host := "") (Or.inl (tw104 hw)) Via.refl e0 F_size_b76 (g := (mkF m 1 #[.val (.ref b76)] [(.ref b76)])) rfl rfl (hb hby d20_1)
  refine Go.step (fun _ k => st253 _ k) ?_
  show Go p e below s _ _ _ T253 (mkF m 4 #[.val (.ref b76)] [(.int (1 : Int32))])
  exact Go.retI X253 hx hlk Bd.returns (hb hby d20_4) e253 ⟨rfl, N0, rfl⟩ (by decide) (by decide)

theorem ef_PropertyIndex_valueEnd_0 (m : MethodId) (x0 : Addr) (x1 : Int32) : entryFrame m #[(.ref x0), (.int x1)] 2 = mkF m 0 #[.val (.ref x0), .val (.int x1)] [] := by first | (simp [entryFrame, mkF, argsToLocals, Value.category]; done) | rfl
def Q_PropertyIndex_valueEnd_0 (Z : State) (b76 : Addr) (b99_137 : Addr) (k99_137 : ClassId) (p2 : Int32) (p5 : Int32) (p4 : Int32) (h0 : Heap) (n0 : Nat) (v : Option Value) (h : Heap) (L : List Loc) : Prop := v = some (.int p5) ∧ Fr n0 L ∧ h = h0
set_option maxRecDepth 65536 in
set_option maxHeartbeats 40000000 in
theorem rm_PropertyIndex_valueEnd_0 (l : Launch) (Z : State) (a0 : Array Value) (hw : ∀ d ∈ tables_1, d.before a0 Z = true) (ws : List Jvm.Cond) (b76 : Addr) (b99_137 : Addr) (k99_137 : ClassId) (p2 : Int32) (p5 : Int32) (p4 : Int32) (h0 : Heap) (n0 : Nat) (Z0 : n0 ≤ h0.size) (F_entries_b76 : Fld Z h0 b76 xs1 "entries" "[I" (.ref b99_137)) (V_b99_137 : Arv Z h0 b99_137 k99_137 .int (6 : Int32) [(.int (0 : Int32)), (.int (1 : Int32)), (.int p2), (.int p5), (.int p4), (.int (97 : Int32))] (.int (0 : Int32))) :
    MetFree l xm10 (head1 (Jvm.Cond.code xm10 prog_15_method_20_code 2 (some .int) :: ws) xr14) (fun a U => a = #[(.ref b76), (.int (0 : Int32))] ∧ Z.Warmed39 U.vm ∧ U.heap = h0) (fun _ _ _ _ _ => True) (fun _ U o U' => ∃ v L, o = .returned v ∧ Q_PropertyIndex_valueEnd_0 Z b76 b99_137 k99_137 p2 p5 p4 h0 n0 v U'.heap L ∧ FrameEnd U o U' L xr14.cells xr14.slots) := by
  refine MetFree.of_bodySF (plainFor_of_name pn_5) hisR ?_
  intro p e s m args below meth c s₁ Bd hml0 hP hK
  obtain ⟨rfl, hZ, hh⟩ := hP
  have hx := Bd.exec
  have hby := Bd.bytes
  have hlk : meth.locks = false := BodyLoose.notSynchronized Bd
  have hml : c.maxLocals = 2 := hml0
  have hown : s.vm.findClass xs1 = some m.cls := findClass_of_methodNamed Bd.named
  have hnm := (name_of_methodNamed Bd.named Bd.method).1
  have X0 : Stand p l e xr14 s m #[(.ref b76), (.int (0 : Int32))] below meth c s₁ [] 0 0 := Stand.of_body Bd
  have e0 : s₁.heap = h0 := by rw [← hh, Bd.state]; rfl
  have N0 := Fr.nil n0
  show Go p e below s (Q_PropertyIndex_valueEnd_0 Z b76 b99_137 k99_137 p2 p5 p4 h0 n0) xr14.cells xr14.slots s₁ (entryFrame m #[(.ref b76), (.int (0 : Int32))] 2)
  refine Go.cast (ef_PropertyIndex_valueEnd_0 m b76 (0 : Int32)) ?_
  show Go p e below s _ _ _ s₁ (mkF m 0 #[.val (.ref b76), .val (.int (0 : Int32))] [])
  refine Go.step (fun _ k => XS.aloadN X0.here hx rfl (hb hby d21_0) rfl rfl k) ?_
  show Go p e below s _ _ _ s₁ (mkF m 1 #[.val (.ref b76), .val (.int (0 : Int32))] [(.ref b76)])
  obtain ⟨T259, X259, e259, st259⟩ := getF X0 hx hZ hown (host := "") (Or.inl (tw51 hw)) Via.refl e0 F_entries_b76 (g := (mkF m 1 #[.val (.ref b76), .val (.int (0 : Int32))] [(.ref b76)])) rfl rfl (hb hby d21_1)
  refine Go.step (fun _ k => st259 _ (XS.iloadN X259.here hx rfl (hb hby d21_4) rfl (XS.bipush X259.here hx rfl (hb hby d21_5) (XS.imul X259.here hx rfl (hb hby d21_7) rfl (XS.iconst X259.here hx rfl (hb hby d21_8) (XS.iadd X259.here hx rfl (hb hby d21_9) rfl k)))))) ?_
  show Go p e below s _ _ _ T259 (mkF m 10 #[.val (.ref b76), .val (.int (0 : Int32))] [(.int (3 : Int32)), (.ref b99_137)])
  obtain ⟨cl260, Ar260, -, Sz260, Ng260, Hs260, Ft260⟩ := id V_b99_137
  have in260 : ¬ ((3 : Int32) < 0 ∨ cl260.slots.size ≤ ((3 : Int32)).toNatClampNeg) := (inb_of Sz260 ⟨by decide, by decide⟩)
  have at260 : cl260.slots[((3 : Int32)).toNatClampNeg]? = some (.int p5) := Hs260.at in260 rfl
  refine Go.step (fun _ k => X259.iaload hx (j := (3 : Int32)) (v := (.int p5)) (by rw [e259]; exact Ar260.1) (State.isArrayOf_alike hZ.alike Ar260.2.1) Ar260.2.2 in260 at260 (g := (mkF m 10 #[.val (.ref b76), .val (.int (0 : Int32))] [(.int (3 : Int32)), (.ref b99_137)])) rfl rfl (hb hby d21_10) _ k) ?_
  show Go p e below s _ _ _ T259 (mkF m 11 #[.val (.ref b76), .val (.int (0 : Int32))] [(.int p5)])
  exact Go.retI X259 hx hlk Bd.returns (hb hby d21_11) e259 ⟨rfl, N0, rfl⟩ (by decide) (by decide)

theorem ef_PropertyIndex_valueStart_0 (m : MethodId) (x0 : Addr) (x1 : Int32) : entryFrame m #[(.ref x0), (.int x1)] 2 = mkF m 0 #[.val (.ref x0), .val (.int x1)] [] := by first | (simp [entryFrame, mkF, argsToLocals, Value.category]; done) | rfl
def Q_PropertyIndex_valueStart_0 (Z : State) (b76 : Addr) (b99_137 : Addr) (k99_137 : ClassId) (p2 : Int32) (p5 : Int32) (p4 : Int32) (h0 : Heap) (n0 : Nat) (v : Option Value) (h : Heap) (L : List Loc) : Prop := v = some (.int p2) ∧ Fr n0 L ∧ h = h0
set_option maxRecDepth 65536 in
set_option maxHeartbeats 40000000 in
theorem rm_PropertyIndex_valueStart_0 (l : Launch) (Z : State) (a0 : Array Value) (hw : ∀ d ∈ tables_1, d.before a0 Z = true) (ws : List Jvm.Cond) (b76 : Addr) (b99_137 : Addr) (k99_137 : ClassId) (p2 : Int32) (p5 : Int32) (p4 : Int32) (h0 : Heap) (n0 : Nat) (Z0 : n0 ≤ h0.size) (F_entries_b76 : Fld Z h0 b76 xs1 "entries" "[I" (.ref b99_137)) (V_b99_137 : Arv Z h0 b99_137 k99_137 .int (6 : Int32) [(.int (0 : Int32)), (.int (1 : Int32)), (.int p2), (.int p5), (.int p4), (.int (97 : Int32))] (.int (0 : Int32))) :
    MetFree l xm4 (head1 (Jvm.Cond.code xm4 prog_15_method_19_code 2 (some .int) :: ws) xr14) (fun a U => a = #[(.ref b76), (.int (0 : Int32))] ∧ Z.Warmed39 U.vm ∧ U.heap = h0) (fun _ _ _ _ _ => True) (fun _ U o U' => ∃ v L, o = .returned v ∧ Q_PropertyIndex_valueStart_0 Z b76 b99_137 k99_137 p2 p5 p4 h0 n0 v U'.heap L ∧ FrameEnd U o U' L xr14.cells xr14.slots) := by
  refine MetFree.of_bodySF (plainFor_of_name pn_5) hisR ?_
  intro p e s m args below meth c s₁ Bd hml0 hP hK
  obtain ⟨rfl, hZ, hh⟩ := hP
  have hx := Bd.exec
  have hby := Bd.bytes
  have hlk : meth.locks = false := BodyLoose.notSynchronized Bd
  have hml : c.maxLocals = 2 := hml0
  have hown : s.vm.findClass xs1 = some m.cls := findClass_of_methodNamed Bd.named
  have hnm := (name_of_methodNamed Bd.named Bd.method).1
  have X0 : Stand p l e xr14 s m #[(.ref b76), (.int (0 : Int32))] below meth c s₁ [] 0 0 := Stand.of_body Bd
  have e0 : s₁.heap = h0 := by rw [← hh, Bd.state]; rfl
  have N0 := Fr.nil n0
  show Go p e below s (Q_PropertyIndex_valueStart_0 Z b76 b99_137 k99_137 p2 p5 p4 h0 n0) xr14.cells xr14.slots s₁ (entryFrame m #[(.ref b76), (.int (0 : Int32))] 2)
  refine Go.cast (ef_PropertyIndex_valueStart_0 m b76 (0 : Int32)) ?_
  show Go p e below s _ _ _ s₁ (mkF m 0 #[.val (.ref b76), .val (.int (0 : Int32))] [])
  refine Go.step (fun _ k => XS.aloadN X0.here hx rfl (hb hby d22_0) rfl rfl k) ?_
  show Go p e below s _ _ _ s₁ (mkF m 1 #[.val (.ref b76), .val (.int (0 : Int32))] [(.ref b76)])
  obtain ⟨T264, X264, e264, st264⟩ := getF X0 hx hZ hown (host := "") (Or.inl (tw51 hw)) Via.refl e0 F_entries_b76 (g := (mkF m 1 #[.val (.ref b76), .val (.int (0 : Int32))] [(.ref b76)])) rfl rfl (hb hby d22_1)
  refine Go.step (fun _ k => st264 _ (XS.iloadN X264.here hx rfl (hb hby d22_4) rfl (XS.bipush X264.here hx rfl (hb hby d22_5) (XS.imul X264.here hx rfl (hb hby d22_7) rfl (XS.iconst X264.here hx rfl (hb hby d22_8) (XS.iadd X264.here hx rfl (hb hby d22_9) rfl k)))))) ?_
  show Go p e below s _ _ _ T264 (mkF m 10 #[.val (.ref b76), .val (.int (0 : Int32))] [(.int (2 : Int32)), (.ref b99_137)])
  obtain ⟨cl265, Ar265, -, Sz265, Ng265, Hs265, Ft265⟩ := id V_b99_137
  have in265 : ¬ ((2 : Int32) < 0 ∨ cl265.slots.size ≤ ((2 : Int32)).toNatClampNeg) := (inb_of Sz265 ⟨by decide, by decide⟩)
  have at265 : cl265.slots[((2 : Int32)).toNatClampNeg]? = some (.int p2) := Hs265.at in265 rfl
  refine Go.step (fun _ k => X264.iaload hx (j := (2 : Int32)) (v := (.int p2)) (by rw [e264]; exact Ar265.1) (State.isArrayOf_alike hZ.alike Ar265.2.1) Ar265.2.2 in265 at265 (g := (mkF m 10 #[.val (.ref b76), .val (.int (0 : Int32))] [(.int (2 : Int32)), (.ref b99_137)])) rfl rfl (hb hby d22_10) _ k) ?_
  show Go p e below s _ _ _ T264 (mkF m 11 #[.val (.ref b76), .val (.int (0 : Int32))] [(.int p2)])
  exact Go.retI X264 hx hlk Bd.returns (hb hby d22_11) e264 ⟨rfl, N0, rfl⟩ (by decide) (by decide)

theorem ef_PropertyIndex_line_0 (m : MethodId) (x0 : Addr) (x1 : Int32) : entryFrame m #[(.ref x0), (.int x1)] 2 = mkF m 0 #[.val (.ref x0), .val (.int x1)] [] := by first | (simp [entryFrame, mkF, argsToLocals, Value.category]; done) | rfl
def Q_PropertyIndex_line_0 (Z : State) (b76 : Addr) (b99_137 : Addr) (k99_137 : ClassId) (p2 : Int32) (p5 : Int32) (p4 : Int32) (h0 : Heap) (n0 : Nat) (v : Option Value) (h : Heap) (L : List Loc) : Prop := v = some (.int p4) ∧ Fr n0 L ∧ h = h0
set_option maxRecDepth 65536 in
set_option maxHeartbeats 40000000 in
theorem rm_PropertyIndex_line_0 (l : Launch) (Z : State) (a0 : Array Value) (hw : ∀ d ∈ tables_1, d.before a0 Z = true) (ws : List Jvm.Cond) (b76 : Addr) (b99_137 : Addr) (k99_137 : ClassId) (p2 : Int32) (p5 : Int32) (p4 : Int32) (h0 : Heap) (n0 : Nat) (Z0 : n0 ≤ h0.size) (F_entries_b76 : Fld Z h0 b76 xs1 "entries" "[I" (.ref b99_137)) (V_b99_137 : Arv Z h0 b99_137 k99_137 .int (6 : Int32) [(.int (0 : Int32)), (.int (1 : Int32)), (.int p2), (.int p5), (.int p4), (.int (97 : Int32))] (.int (0 : Int32))) :
    MetFree l xm20 (head1 (Jvm.Cond.code xm20 prog_15_method_18_code 2 (some .int) :: ws) xr14) (fun a U => a = #[(.ref b76), (.int (0 : Int32))] ∧ Z.Warmed39 U.vm ∧ U.heap = h0) (fun _ _ _ _ _ => True) (fun _ U o U' => ∃ v L, o = .returned v ∧ Q_PropertyIndex_line_0 Z b76 b99_137 k99_137 p2 p5 p4 h0 n0 v U'.heap L ∧ FrameEnd U o U' L xr14.cells xr14.slots) := by
  refine MetFree.of_bodySF (plainFor_of_name pn_5) hisR ?_
  intro p e s m args below meth c s₁ Bd hml0 hP hK
  obtain ⟨rfl, hZ, hh⟩ := hP
  have hx := Bd.exec
  have hby := Bd.bytes
  have hlk : meth.locks = false := BodyLoose.notSynchronized Bd
  have hml : c.maxLocals = 2 := hml0
  have hown : s.vm.findClass xs1 = some m.cls := findClass_of_methodNamed Bd.named
  have hnm := (name_of_methodNamed Bd.named Bd.method).1
  have X0 : Stand p l e xr14 s m #[(.ref b76), (.int (0 : Int32))] below meth c s₁ [] 0 0 := Stand.of_body Bd
  have e0 : s₁.heap = h0 := by rw [← hh, Bd.state]; rfl
  have N0 := Fr.nil n0
  show Go p e below s (Q_PropertyIndex_line_0 Z b76 b99_137 k99_137 p2 p5 p4 h0 n0) xr14.cells xr14.slots s₁ (entryFrame m #[(.ref b76), (.int (0 : Int32))] 2)
  refine Go.cast (ef_PropertyIndex_line_0 m b76 (0 : Int32)) ?_
  show Go p e below s _ _ _ s₁ (mkF m 0 #[.val (.ref b76), .val (.int (0 : Int32))] [])
  refine Go.step (fun _ k => XS.aloadN X0.here hx rfl (hb hby d23_0) rfl rfl k) ?_
  show Go p e below s _ _ _ s₁ (mkF m 1 #[.val (.ref b76), .val (.int (0 : Int32))] [(.ref b76)])
  obtain ⟨T268, X268, e268, st268⟩ := getF X0 hx hZ hown (host := "") (Or.inl (tw51 hw)) Via.refl e0 F_entries_b76 (g := (mkF m 1 #[.val (.ref b76), .val (.int (0 : Int32))] [(.ref b76)])) rfl rfl (hb hby d23_1)
  refine Go.step (fun _ k => st268 _ (XS.iloadN X268.here hx rfl (hb hby d23_4) rfl (XS.bipush X268.here hx rfl (hb hby d23_5) (XS.imul X268.here hx rfl (hb hby d23_7) rfl (XS.iconst X268.here hx rfl (hb hby d23_8) (XS.iadd X268.here hx rfl (hb hby d23_9) rfl k)))))) ?_
  show Go p e below s _ _ _ T268 (mkF m 10 #[.val (.ref b76), .val (.int (0 : Int32))] [(.int (4 : Int32)), (.ref b99_137)])
  obtain ⟨cl269, Ar269, -, Sz269, Ng269, Hs269, Ft269⟩ := id V_b99_137
  have in269 : ¬ ((4 : Int32) < 0 ∨ cl269.slots.size ≤ ((4 : Int32)).toNatClampNeg) := (inb_of Sz269 ⟨by decide, by decide⟩)
  have at269 : cl269.slots[((4 : Int32)).toNatClampNeg]? = some (.int p4) := Hs269.at in269 rfl
  refine Go.step (fun _ k => X268.iaload hx (j := (4 : Int32)) (v := (.int p4)) (by rw [e268]; exact Ar269.1) (State.isArrayOf_alike hZ.alike Ar269.2.1) Ar269.2.2 in269 at269 (g := (mkF m 10 #[.val (.ref b76), .val (.int (0 : Int32))] [(.int (4 : Int32)), (.ref b99_137)])) rfl rfl (hb hby d23_10) _ k) ?_
  show Go p e below s _ _ _ T268 (mkF m 11 #[.val (.ref b76), .val (.int (0 : Int32))] [(.int p4)])
  exact Go.retI X268 hx hlk Bd.returns (hb hby d23_11) e268 ⟨rfl, N0, rfl⟩ (by decide) (by decide)

theorem ef_StringLatin1_charAt_1 (m : MethodId) (x0 : Addr) (x1 : Int32) : entryFrame m #[(.ref x0), (.int x1)] 2 = mkF m 0 #[.val (.ref x0), .val (.int x1)] [] := by first | (simp [entryFrame, mkF, argsToLocals, Value.category]; done) | rfl
def Q_StringLatin1_charAt_1 (Z : State) (b22_42_64_292 : Addr) (k22_42_64_292 : ClassId) (fv : Value) (h0 : Heap) (n0 : Nat) (v : Option Value) (h : Heap) (L : List Loc) : Prop := v = some (.int (98 : Int32)) ∧ Fr n0 L ∧ h = h0
set_option maxRecDepth 65536 in
set_option maxHeartbeats 40000000 in
theorem rm_StringLatin1_charAt_1 (l : Launch) (Z : State) (a0 : Array Value) (hw : ∀ d ∈ tables_1, d.before a0 Z = true) (ws : List Jvm.Cond) (b22_42_64_292 : Addr) (k22_42_64_292 : ClassId) (fv : Value) (h0 : Heap) (n0 : Nat) (Z0 : n0 ≤ h0.size) (V_b22_42_64_292 : Arv Z h0 b22_42_64_292 k22_42_64_292 .byte (2 : Int32) [(.int (97 : Int32)), (.int (98 : Int32))] (.int (0 : Int32))) (Z_S_SIOOBE_FORMATTER : Sta Z Z.heap xs5 xs17 xs6 fv) (hfv : fv.isRef = true) (O0 : Old Z n0 h0) :
    MetFree l xm6 (head1 (Jvm.Cond.code xm6 jdk_43_method_2_code 2 (some .char) :: ws) xr9) (fun a U => a = #[(.ref b22_42_64_292), (.int (1 : Int32))] ∧ Z.Warmed39 U.vm ∧ U.heap = h0) (fun _ _ _ _ _ => True) (fun _ U o U' => ∃ v L, o = .returned v ∧ Q_StringLatin1_charAt_1 Z b22_42_64_292 k22_42_64_292 fv h0 n0 v U'.heap L ∧ FrameEnd U o U' L xr9.cells xr9.slots) := by
  refine MetFree.of_bodySF (plainFor_of_name pn_6) hisR ?_
  intro p e s m args below meth c s₁ Bd hml0 hP hK
  obtain ⟨rfl, hZ, hh⟩ := hP
  have hx := Bd.exec
  have hby := Bd.bytes
  have hlk : meth.locks = false := BodyLoose.notSynchronized Bd
  have hml : c.maxLocals = 2 := hml0
  have hown : s.vm.findClass xs10 = some m.cls := findClass_of_methodNamed Bd.named
  have hnm := (name_of_methodNamed Bd.named Bd.method).1
  have X0 : Stand p l e xr9 s m #[(.ref b22_42_64_292), (.int (1 : Int32))] below meth c s₁ [] 0 0 := Stand.of_body Bd
  have e0 : s₁.heap = h0 := by rw [← hh, Bd.state]; rfl
  have N0 := Fr.nil n0
  show Go p e below s (Q_StringLatin1_charAt_1 Z b22_42_64_292 k22_42_64_292 fv h0 n0) xr9.cells xr9.slots s₁ (entryFrame m #[(.ref b22_42_64_292), (.int (1 : Int32))] 2)
  refine Go.cast (ef_StringLatin1_charAt_1 m b22_42_64_292 (1 : Int32)) ?_
  show Go p e below s _ _ _ s₁ (mkF m 0 #[.val (.ref b22_42_64_292), .val (.int (1 : Int32))] [])
  refine Go.step (fun _ k => XS.iloadN X0.here hx rfl (hb hby d17_0) rfl (XS.aloadN X0.here hx rfl (hb hby d17_1) rfl rfl k)) ?_
  show Go p e below s _ _ _ s₁ (mkF m 2 #[.val (.ref b22_42_64_292), .val (.int (1 : Int32))] [(.ref b22_42_64_292), (.int (1 : Int32))])
  obtain ⟨cl329, Ar329, -, Sz329, Ng329, -, -⟩ := id V_b22_42_64_292
  have aln329 := X0.arraylength hx (by rw [e0]; exact Ar329.1) (State.isArrayOf_alike hZ.alike Ar329.2.1) (g := (mkF m 2 #[.val (.ref b22_42_64_292), .val (.int (1 : Int32))] [(.ref b22_42_64_292), (.int (1 : Int32))])) rfl rfl (hb hby d17_2)
  rw [len_of Sz329 Ng329] at aln329
  refine Go.step (fun _ k => aln329 _ k) ?_
  show Go p e below s _ _ _ s₁ (mkF m 3 #[.val (.ref b22_42_64_292), .val (.int (1 : Int32))] [(.int (2 : Int32)), (.int (1 : Int32))])
  obtain ⟨_, _, ⟨T330, L330, k330, n330⟩, -, X330, ⟨Lc330, hQ330, l330, y330, z330⟩, st330⟩ := Jvm.LawKit.callS X0 hx (y := xm3) hown (mvT hZ (tw92 hw)) (mvT hZ (tw93 hw)) (mvT hZ (tw2 hw)) (mvT hZ (tw94 hw)) (by decide) (backOf (W := 0) (rm_schk l Z a0 hw [] (1 : Int32) (2 : Int32) fv h0 n0 Z0 O0 Z_S_SIOOBE_FORMATTER hfv (by decide) (by decide)) hZ (tw94 hw) (tw2 hw) (by decide) (by decide)) (g := (mkF m 3 #[.val (.ref b22_42_64_292), .val (.int (1 : Int32))] [(.int (2 : Int32)), (.int (1 : Int32))])) rfl (by rw [hml]; rfl) (argsL := [(.int (1 : Int32)), (.int (2 : Int32))]) (rest := []) (lenOf pd_11 rfl) rfl (by show 2 * 0 + _ ≤ _; exact Nat.le_of_eq rfl) (hb hby d17_3) (fun _ _ => ⟨rfl, e0, (by decide : 0 + 0 ≤ _), (by decide : 0 + 0 ≤ _)⟩)
  dsimp only [Pt.U, Pt.locs, Pt.cells, Pt.slots] at X330 l330 y330 z330 st330 hQ330
  subst l330 y330 z330
  obtain ⟨rfl, N330q, eq330⟩ := hQ330
  have N331 := Fr.app N0 N330q
  refine Go.step (fun _ k => st330 _ (XS.aloadN X330.here hx rfl (hb hby d17_6) rfl rfl (XS.iloadN X330.here hx rfl (hb hby d17_7) rfl k))) ?_
  show Go p e below s _ _ _ T330 (mkF m 8 #[.val (.ref b22_42_64_292), .val (.int (1 : Int32))] [(.int (1 : Int32)), (.ref b22_42_64_292)])
  obtain ⟨cl332, Ar332, -, Sz332, Ng332, Hs332, Ft332⟩ := id V_b22_42_64_292
  have in332 : ¬ ((1 : Int32) < 0 ∨ cl332.slots.size ≤ ((1 : Int32)).toNatClampNeg) := (inb_of Sz332 ⟨by decide, by decide⟩)
  have at332 : cl332.slots[((1 : Int32)).toNatClampNeg]? = some (.int (98 : Int32)) := Hs332.at in332 rfl
  refine Go.step (fun _ k => X330.baloadBytes hx (j := (1 : Int32)) (v := (.int (98 : Int32))) (by rw [eq330]; exact Ar332.1) (State.isArrayOf_alike hZ.alike Ar332.2.1) Ar332.2.2 in332 at332 (g := (mkF m 8 #[.val (.ref b22_42_64_292), .val (.int (1 : Int32))] [(.int (1 : Int32)), (.ref b22_42_64_292)])) rfl rfl (hb hby d17_8) _ (XS.sipush X330.here hx rfl (hb hby d17_9) (XS.iand X330.here hx rfl (hb hby d17_12) rfl (XS.i2c X330.here hx rfl (hb hby d17_13) rfl k)))) ?_
  show Go p e below s _ _ _ T330 (mkF m 14 #[.val (.ref b22_42_64_292), .val (.int (1 : Int32))] [(.int (98 : Int32))])
  exact Go.retN X330 hx hlk (t := .char) Bd.returns (by simp) (hb hby d17_14) eq330 ⟨rfl, N331, rfl⟩ (by decide) (by decide)

theorem ef_String_charAt_1 (m : MethodId) (x0 : Addr) (x1 : Int32) : entryFrame m #[(.ref x0), (.int x1)] 2 = mkF m 0 #[.val (.ref x0), .val (.int x1)] [] := by first | (simp [entryFrame, mkF, argsToLocals, Value.category]; done) | rfl
def Q_String_charAt_1 (Z : State) (b272 : Addr) (cs : Int32) (b22_42_64_292 : Addr) (k22_42_64_292 : ClassId) (fv : Value) (h0 : Heap) (n0 : Nat) (v : Option Value) (h : Heap) (L : List Loc) : Prop := v = some (.int (98 : Int32)) ∧ Fr n0 L ∧ h = h0
set_option maxRecDepth 65536 in
set_option maxHeartbeats 40000000 in
theorem rm_String_charAt_1 (l : Launch) (Z : State) (a0 : Array Value) (hw : ∀ d ∈ tables_1, d.before a0 Z = true) (ws : List Jvm.Cond) (b272 : Addr) (cs : Int32) (b22_42_64_292 : Addr) (k22_42_64_292 : ClassId) (fv : Value) (h0 : Heap) (n0 : Nat) (Z0 : n0 ≤ h0.size) (E_b272 : Exa Z h0 b272 xs18) (F_coder_b272 : Fld Z h0 b272 xs18 "coder" "B" (.int (0 : Int32))) (Z_S_COMPACT_STRINGS : Sta Z Z.heap xs18 xs20 "Z" (.int cs)) (O0 : Old Z n0 h0) (hcs : ¬ cs = (0 : Int32)) (F_value_b272 : Fld Z h0 b272 xs18 "value" "[B" (.ref b22_42_64_292)) (V_b22_42_64_292 : Arv Z h0 b22_42_64_292 k22_42_64_292 .byte (2 : Int32) [(.int (97 : Int32)), (.int (98 : Int32))] (.int (0 : Int32))) (Z_S_SIOOBE_FORMATTER : Sta Z Z.heap xs5 xs17 xs6 fv) (hfv : fv.isRef = true) :
    MetFree l xm12 (head1 (Jvm.Cond.code xm12 jdk_42_method_56_code 2 (some .char) :: ws) xr10) (fun a U => a = #[(.ref b272), (.int (1 : Int32))] ∧ Z.Warmed39 U.vm ∧ U.heap = h0) (fun _ _ _ _ _ => True) (fun _ U o U' => ∃ v L, o = .returned v ∧ Q_String_charAt_1 Z b272 cs b22_42_64_292 k22_42_64_292 fv h0 n0 v U'.heap L ∧ FrameEnd U o U' L xr10.cells xr10.slots) := by
  refine MetFree.of_bodySF (plainFor_of_name pn_1) hisR ?_
  intro p e s m args below meth c s₁ Bd hml0 hP hK
  obtain ⟨rfl, hZ, hh⟩ := hP
  have hx := Bd.exec
  have hby := Bd.bytes
  have hlk : meth.locks = false := BodyLoose.notSynchronized Bd
  have hml : c.maxLocals = 2 := hml0
  have hown : s.vm.findClass xs18 = some m.cls := findClass_of_methodNamed Bd.named
  have hnm := (name_of_methodNamed Bd.named Bd.method).1
  have X0 : Stand p l e xr10 s m #[(.ref b272), (.int (1 : Int32))] below meth c s₁ [] 0 0 := Stand.of_body Bd
  have e0 : s₁.heap = h0 := by rw [← hh, Bd.state]; rfl
  have N0 := Fr.nil n0
  show Go p e below s (Q_String_charAt_1 Z b272 cs b22_42_64_292 k22_42_64_292 fv h0 n0) xr10.cells xr10.slots s₁ (entryFrame m #[(.ref b272), (.int (1 : Int32))] 2)
  refine Go.cast (ef_String_charAt_1 m b272 (1 : Int32)) ?_
  show Go p e below s _ _ _ s₁ (mkF m 0 #[.val (.ref b272), .val (.int (1 : Int32))] [])
  refine Go.step (fun _ k => XS.aloadN X0.here hx rfl (hb hby d15_0) rfl rfl k) ?_
  show Go p e below s _ _ _ s₁ (mkF m 1 #[.val (.ref b272), .val (.int (1 : Int32))] [(.ref b272)])
  obtain ⟨cq326, kq326, q326a, q326b, q326c⟩ := isOf hZ e0 E_b272
  obtain ⟨_, _, ⟨T326, L326, k326, n326⟩, -, X326, ⟨Lc326, hQ326, l326, y326, z326⟩, st326⟩ := X0.virtualBack hx (y := xm8) (z := xm8) hown (mvT hZ (tw83 hw)) (mvT hZ (tw84 hw)) (notFace_of_selects (args := #[]) (mvT hZ (tw86 hw))) (mvT hZ (tw86 hw)) (mvT hZ (tw85 hw)) (by decide) (backOf (W := 0) (rm_String_isLatin1_0 l Z a0 hw [] b272 cs h0 n0 Z0 Z_S_COMPACT_STRINGS O0 hcs F_coder_b272) hZ (tw87 hw) (tw2 hw) (by decide) (by decide)) q326a q326c (g := (mkF m 1 #[.val (.ref b272), .val (.int (1 : Int32))] [(.ref b272)])) rfl (by rw [hml]; rfl) (Steps.refl _) (argsL := []) (rest := []) (lenOf pd_10 rfl) rfl (by show 2 * 0 + _ ≤ _; exact Nat.le_of_eq rfl) (hb hby d15_1) (fun _ _ => ⟨rfl, e0, (by decide : 0 + 0 ≤ _), (by decide : 0 + 0 ≤ _)⟩)
  dsimp only [Pt.U, Pt.locs, Pt.cells, Pt.slots] at X326 l326 y326 z326 st326 hQ326
  subst l326 y326 z326
  obtain ⟨rfl, N326q, eq326⟩ := hQ326
  have N327 := Fr.app N0 N326q
  refine Go.step (fun _ k => st326.trans (XS.ifNo X326.here hx rfl (hb hby d15_4) rfl ((if0 _ _).trans (feq (by decide)).1) (XS.aloadN X326.here hx rfl (hb hby d15_7) rfl rfl k))) ?_
  show Go p e below s _ _ _ T326 (mkF m 8 #[.val (.ref b272), .val (.int (1 : Int32))] [(.ref b272)])
  obtain ⟨T328, X328, e328, st328⟩ := getF X326 hx hZ hown (host := "") (Or.inl (tw28 hw)) Via.refl eq326 F_value_b272 (g := (mkF m 8 #[.val (.ref b272), .val (.int (1 : Int32))] [(.ref b272)])) rfl rfl (hb hby d15_8)
  refine Go.step (fun _ k => st328 _ (XS.iloadN X328.here hx rfl (hb hby d15_11) rfl k)) ?_
  show Go p e below s _ _ _ T328 (mkF m 12 #[.val (.ref b272), .val (.int (1 : Int32))] [(.int (1 : Int32)), (.ref b22_42_64_292)])
  obtain ⟨_, _, ⟨T333, L333, k333, n333⟩, -, X333, ⟨Lc333, hQ333, l333, y333, z333⟩, st333⟩ := Jvm.LawKit.callS X328 hx (y := xm6) hown (mvT hZ (tw88 hw)) (mvT hZ (tw89 hw)) (mvT hZ (tw90 hw)) (mvT hZ (tw91 hw)) (by decide) (backOf (W := 0) (rm_StringLatin1_charAt_1 l Z a0 hw [] b22_42_64_292 k22_42_64_292 fv h0 n0 Z0 V_b22_42_64_292 Z_S_SIOOBE_FORMATTER hfv O0) hZ (tw91 hw) (tw90 hw) (by decide) (by decide)) (g := (mkF m 12 #[.val (.ref b272), .val (.int (1 : Int32))] [(.int (1 : Int32)), (.ref b22_42_64_292)])) rfl (by rw [hml]; rfl) (argsL := [(.ref b22_42_64_292), (.int (1 : Int32))]) (rest := []) (lenOf pd_12 rfl) rfl (by show 2 * 0 + _ ≤ _; exact Nat.le_of_eq rfl) (hb hby d15_12) (fun _ _ => ⟨rfl, e328, (by decide : 0 + 0 ≤ _), (by decide : 0 + 0 ≤ _)⟩)
  dsimp only [Pt.U, Pt.locs, Pt.cells, Pt.slots] at X333 l333 y333 z333 st333 hQ333
  subst l333 y333 z333
  obtain ⟨rfl, N333q, eq333⟩ := hQ333
  have N334 := Fr.app N327 N333q
  refine Go.step (fun _ k => st333 _ k) ?_
  show Go p e below s _ _ _ T333 (mkF m 15 #[.val (.ref b272), .val (.int (1 : Int32))] [(.int (98 : Int32))])
  exact Go.retN X333 hx hlk (t := .char) Bd.returns (by simp) (hb hby d15_15) eq333 ⟨rfl, N334, rfl⟩ (by decide) (by decide)

theorem ef_PropertyIndex_plainHash_1 (m : MethodId) (x0 : Addr) (x1 : Int32) (x2 : Int32) : entryFrame m #[(.ref x0), (.int x1), (.int x2)] 5 = mkF m 0 #[.val (.ref x0), .val (.int x1), .val (.int x2), .unset, .unset] [] := by first | (simp [entryFrame, mkF, argsToLocals, Value.category]; done) | rfl
def Q_PropertyIndex_plainHash_1 (Z : State) (b272 : Addr) (cs : Int32) (b22_42_64_292 : Addr) (k22_42_64_292 : ClassId) (fv : Value) (h0 : Heap) (n0 : Nat) (v : Option Value) (h : Heap) (L : List Loc) : Prop := v = some (.int (98 : Int32)) ∧ Fr n0 L ∧ h = h0
set_option maxRecDepth 65536 in
set_option maxHeartbeats 40000000 in
theorem rm_PropertyIndex_plainHash_1 (l : Launch) (Z : State) (a0 : Array Value) (hw : ∀ d ∈ tables_1, d.before a0 Z = true) (ws : List Jvm.Cond) (b272 : Addr) (cs : Int32) (b22_42_64_292 : Addr) (k22_42_64_292 : ClassId) (fv : Value) (h0 : Heap) (n0 : Nat) (Z0 : n0 ≤ h0.size) (E_b272 : Exa Z h0 b272 xs18) (F_coder_b272 : Fld Z h0 b272 xs18 "coder" "B" (.int (0 : Int32))) (Z_S_COMPACT_STRINGS : Sta Z Z.heap xs18 xs20 "Z" (.int cs)) (O0 : Old Z n0 h0) (hcs : ¬ cs = (0 : Int32)) (F_value_b272 : Fld Z h0 b272 xs18 "value" "[B" (.ref b22_42_64_292)) (V_b22_42_64_292 : Arv Z h0 b22_42_64_292 k22_42_64_292 .byte (2 : Int32) [(.int (97 : Int32)), (.int (98 : Int32))] (.int (0 : Int32))) (Z_S_SIOOBE_FORMATTER : Sta Z Z.heap xs5 xs17 xs6 fv) (hfv : fv.isRef = true) :
    MetFree l xm15 (head1 (Jvm.Cond.code xm15 prog_15_method_15_code 5 (some .int) :: ws) xr11) (fun a U => a = #[(.ref b272), (.int (1 : Int32)), (.int (2 : Int32))] ∧ Z.Warmed39 U.vm ∧ U.heap = h0) (fun _ _ _ _ _ => True) (fun _ U o U' => ∃ v L, o = .returned v ∧ Q_PropertyIndex_plainHash_1 Z b272 cs b22_42_64_292 k22_42_64_292 fv h0 n0 v U'.heap L ∧ FrameEnd U o U' L xr11.cells xr11.slots) := by
  refine MetFree.of_bodySF (plainFor_of_name pn_5) hisR ?_
  intro p e s m args below meth c s₁ Bd hml0 hP hK
  obtain ⟨rfl, hZ, hh⟩ := hP
  have hx := Bd.exec
  have hby := Bd.bytes
  have hlk : meth.locks = false := BodyLoose.notSynchronized Bd
  have hml : c.maxLocals = 5 := hml0
  have hown : s.vm.findClass xs1 = some m.cls := findClass_of_methodNamed Bd.named
  have hnm := (name_of_methodNamed Bd.named Bd.method).1
  have X0 : Stand p l e xr11 s m #[(.ref b272), (.int (1 : Int32)), (.int (2 : Int32))] below meth c s₁ [] 0 0 := Stand.of_body Bd
  have e0 : s₁.heap = h0 := by rw [← hh, Bd.state]; rfl
  have N0 := Fr.nil n0
  show Go p e below s (Q_PropertyIndex_plainHash_1 Z b272 cs b22_42_64_292 k22_42_64_292 fv h0 n0) xr11.cells xr11.slots s₁ (entryFrame m #[(.ref b272), (.int (1 : Int32)), (.int (2 : Int32))] 5)
  refine Go.cast (ef_PropertyIndex_plainHash_1 m b272 (1 : Int32) (2 : Int32)) ?_
  show Go p e below s _ _ _ s₁ (mkF m 0 #[.val (.ref b272), .val (.int (1 : Int32)), .val (.int (2 : Int32)), .unset, .unset] [])
  refine Go.step (fun _ k => XS.iconst X0.here hx rfl (hb hby d14_0) (XS.istoreN X0.here hx rfl (hb hby d14_1) rfl (l' := #[.val (.ref b272), .val (.int (1 : Int32)), .val (.int (2 : Int32)), .val (.int (0 : Int32)), .unset]) rfl (XS.iloadN X0.here hx rfl (hb hby d14_2) rfl (XS.istore X0.here hx rfl (hb hby d14_3) rfl (l' := #[.val (.ref b272), .val (.int (1 : Int32)), .val (.int (2 : Int32)), .val (.int (0 : Int32)), .val (.int (1 : Int32))]) rfl (XS.iload X0.here hx rfl (hb hby d14_5) rfl (XS.iloadN X0.here hx rfl (hb hby d14_7) rfl (XS.icmpNo X0.here hx rfl (hb hby d14_8) rfl (tlt (by decide)).2.1 (XS.bipush X0.here hx rfl (hb hby d14_11) (XS.iloadN X0.here hx rfl (hb hby d14_13) rfl (XS.imul X0.here hx rfl (hb hby d14_14) rfl k)))))))))) ?_
  show Go p e below s _ _ _ s₁ (mkF m 15 #[.val (.ref b272), .val (.int (1 : Int32)), .val (.int (2 : Int32)), .val (.int (0 : Int32)), .val (.int (1 : Int32))] [(.int ((31 : Int32) * (0 : Int32)))])
  refine Go.step (fun _ k => XS.aloadN X0.here hx rfl (hb hby d14_15) rfl rfl (XS.iload X0.here hx rfl (hb hby d14_16) rfl k)) ?_
  show Go p e below s _ _ _ s₁ (mkF m 18 #[.val (.ref b272), .val (.int (1 : Int32)), .val (.int (2 : Int32)), .val (.int (0 : Int32)), .val (.int (1 : Int32))] [(.int (1 : Int32)), (.ref b272), (.int (0 : Int32))])
  obtain ⟨cq335, kq335, q335a, q335b, q335c⟩ := isOf hZ e0 E_b272
  obtain ⟨_, _, ⟨T335, L335, k335, n335⟩, -, X335, ⟨Lc335, hQ335, l335, y335, z335⟩, st335⟩ := X0.virtualBack hx (y := xm12) (z := xm12) hown (mvT hZ (tw78 hw)) (mvT hZ (tw79 hw)) (notFace_of_selects (args := #[]) (mvT hZ (tw81 hw))) (mvT hZ (tw81 hw)) (mvT hZ (tw80 hw)) (by decide) (backOf (W := 1) (rm_String_charAt_1 l Z a0 hw [] b272 cs b22_42_64_292 k22_42_64_292 fv h0 n0 Z0 E_b272 F_coder_b272 Z_S_COMPACT_STRINGS O0 hcs F_value_b272 V_b22_42_64_292 Z_S_SIOOBE_FORMATTER hfv) hZ (tw82 hw) (tw2 hw) (by decide) (by decide)) q335a q335c (g := (mkF m 18 #[.val (.ref b272), .val (.int (1 : Int32)), .val (.int (2 : Int32)), .val (.int (0 : Int32)), .val (.int (1 : Int32))] [(.int (1 : Int32)), (.ref b272), (.int (0 : Int32))])) rfl (by rw [hml]; rfl) (Steps.refl _) (argsL := [(.int (1 : Int32))]) (rest := [(.int (0 : Int32))]) (lenOf pd_13 rfl) rfl (by show 2 * 0 + _ ≤ _; exact Nat.le_of_eq rfl) (hb hby d14_18) (fun _ _ => ⟨rfl, e0, (by decide : 0 + 0 ≤ _), (by decide : 0 + 0 ≤ _)⟩)
  dsimp only [Pt.U, Pt.locs, Pt.cells, Pt.slots] at X335 l335 y335 z335 st335 hQ335
  subst l335 y335 z335
  obtain ⟨rfl, N335q, eq335⟩ := hQ335
  have N336 := Fr.app N0 N335q
  refine Go.step (fun _ k => st335.trans (XS.iadd X335.here hx rfl (hb hby d14_21) rfl (XS.istoreN X335.here hx rfl (hb hby d14_22) rfl (l' := #[.val (.ref b272), .val (.int (1 : Int32)), .val (.int (2 : Int32)), .val (.int (98 : Int32)), .val (.int (1 : Int32))]) rfl (XS.iinc X335.here hx rfl (hb hby d14_23) rfl (l' := #[.val (.ref b272), .val (.int (1 : Int32)), .val (.int (2 : Int32)), .val (.int (98 : Int32)), .val (.int ((1 : Int32) + (1 : Int32)))]) rfl (XS.goto X335.here hx rfl (pc0 := 26) (pc' := 5) rfl (hb hby d14_26) (by decide) (by decide) (XS.iload X335.here hx rfl (hb hby d14_5) rfl (XS.iloadN X335.here hx rfl (hb hby d14_7) rfl (XS.icmpYes X335.here hx rfl (pc0 := 8) (pc' := 29) rfl (hb hby d14_8) rfl (flt (by decide)).2.1 (by decide) (by decide) (XS.iloadN X335.here hx rfl (hb hby d14_29) rfl (XS.iloadN X335.here hx rfl (hb hby d14_30) rfl k)))))))))) ?_
  show Go p e below s _ _ _ T335 (mkF m 31 #[.val (.ref b272), .val (.int (1 : Int32)), .val (.int (2 : Int32)), .val (.int (98 : Int32)), .val (.int (2 : Int32))] [(.int (98 : Int32)), (.int (98 : Int32))])
  refine Go.step (fun _ k => XS.bipush X335.here hx rfl (hb hby d14_31) (XS.iushr X335.here hx rfl (hb hby d14_33) rfl (XS.ixor X335.here hx rfl (hb hby d14_34) rfl k))) ?_
  show Go p e below s _ _ _ T335 (mkF m 35 #[.val (.ref b272), .val (.int (1 : Int32)), .val (.int (2 : Int32)), .val (.int (98 : Int32)), .val (.int (2 : Int32))] [(.int (98 : Int32))])
  exact Go.retI X335 hx hlk Bd.returns (hb hby d14_35) eq335 ⟨rfl, N336, rfl⟩ (by decide) (by decide)

theorem ef_PropertyIndex_hash_1 (m : MethodId) (x0 : Addr) (x1 : Addr) (x2 : Int32) (x3 : Int32) : entryFrame m #[(.ref x0), (.ref x1), (.int x2), (.int x3)] 4 = mkF m 0 #[.val (.ref x0), .val (.ref x1), .val (.int x2), .val (.int x3)] [] := by first | (simp [entryFrame, mkF, argsToLocals, Value.category]; done) | rfl
def Q_PropertyIndex_hash_1 (Z : State) (b294 : Addr) (b272 : Addr) (cs : Int32) (b22_42_64_292 : Addr) (k22_42_64_292 : ClassId) (fv : Value) (h0 : Heap) (n0 : Nat) (v : Option Value) (h : Heap) (L : List Loc) : Prop := v = some (.int (98 : Int32)) ∧ Fr n0 L ∧ h = h0
set_option maxRecDepth 65536 in
set_option maxHeartbeats 40000000 in
theorem rm_PropertyIndex_hash_1 (l : Launch) (Z : State) (a0 : Array Value) (hw : ∀ d ∈ tables_1, d.before a0 Z = true) (ws : List Jvm.Cond) (b294 : Addr) (b272 : Addr) (cs : Int32) (b22_42_64_292 : Addr) (k22_42_64_292 : ClassId) (fv : Value) (h0 : Heap) (n0 : Nat) (Z0 : n0 ≤ h0.size) (F_keyed_b294 : Fld Z h0 b294 xs1 "keyed" "Z" (.int (0 : Int32))) (E_b272 : Exa Z h0 b272 xs18) (F_coder_b272 : Fld Z h0 b272 xs18 "coder" "B" (.int (0 : Int32))) (Z_S_COMPACT_STRINGS : Sta Z Z.heap xs18 xs20 "Z" (.int cs)) (O0 : Old Z n0 h0) (hcs : ¬ cs = (0 : Int32)) (F_value_b272 : Fld Z h0 b272 xs18 "value" "[B" (.ref b22_42_64_292)) (V_b22_42_64_292 : Arv Z h0 b22_42_64_292 k22_42_64_292 .byte (2 : Int32) [(.int (97 : Int32)), (.int (98 : Int32))] (.int (0 : Int32))) (Z_S_SIOOBE_FORMATTER : Sta Z Z.heap xs5 xs17 xs6 fv) (hfv : fv.isRef = true) :
    MetFree l xm24 (head1 (Jvm.Cond.code xm24 prog_15_method_14_code 4 (some .int) :: ws) xr12) (fun a U => a = #[(.ref b294), (.ref b272), (.int (1 : Int32)), (.int (2 : Int32))] ∧ Z.Warmed39 U.vm ∧ U.heap = h0) (fun _ _ _ _ _ => True) (fun _ U o U' => ∃ v L, o = .returned v ∧ Q_PropertyIndex_hash_1 Z b294 b272 cs b22_42_64_292 k22_42_64_292 fv h0 n0 v U'.heap L ∧ FrameEnd U o U' L xr12.cells xr12.slots) := by
  refine MetFree.of_bodySF (plainFor_of_name pn_5) hisR ?_
  intro p e s m args below meth c s₁ Bd hml0 hP hK
  obtain ⟨rfl, hZ, hh⟩ := hP
  have hx := Bd.exec
  have hby := Bd.bytes
  have hlk : meth.locks = false := BodyLoose.notSynchronized Bd
  have hml : c.maxLocals = 4 := hml0
  have hown : s.vm.findClass xs1 = some m.cls := findClass_of_methodNamed Bd.named
  have hnm := (name_of_methodNamed Bd.named Bd.method).1
  have X0 : Stand p l e xr12 s m #[(.ref b294), (.ref b272), (.int (1 : Int32)), (.int (2 : Int32))] below meth c s₁ [] 0 0 := Stand.of_body Bd
  have e0 : s₁.heap = h0 := by rw [← hh, Bd.state]; rfl
  have N0 := Fr.nil n0
  show Go p e below s (Q_PropertyIndex_hash_1 Z b294 b272 cs b22_42_64_292 k22_42_64_292 fv h0 n0) xr12.cells xr12.slots s₁ (entryFrame m #[(.ref b294), (.ref b272), (.int (1 : Int32)), (.int (2 : Int32))] 4)
  refine Go.cast (ef_PropertyIndex_hash_1 m b294 b272 (1 : Int32) (2 : Int32)) ?_
  show Go p e below s _ _ _ s₁ (mkF m 0 #[.val (.ref b294), .val (.ref b272), .val (.int (1 : Int32)), .val (.int (2 : Int32))] [])
  refine Go.step (fun _ k => XS.aloadN X0.here hx rfl (hb hby d13_0) rfl rfl k) ?_
  show Go p e below s _ _ _ s₁ (mkF m 1 #[.val (.ref b294), .val (.ref b272), .val (.int (1 : Int32)), .val (.int (2 : Int32))] [(.ref b294)])
  obtain ⟨T325, X325, e325, st325⟩ := getF X0 hx hZ hown (host := "") (Or.inl (tw73 hw)) Via.refl e0 F_keyed_b294 (g := (mkF m 1 #[.val (.ref b294), .val (.ref b272), .val (.int (1 : Int32)), .val (.int (2 : Int32))] [(.ref b294)])) rfl rfl (hb hby d13_1)
  refine Go.step (fun _ k => st325 _ (XS.ifYes X325.here hx rfl (pc0 := 4) (pc' := 16) rfl (hb hby d13_4) rfl ((if0 _ _).trans (teq (by decide)).1) (by decide) (by decide) (XS.aloadN X325.here hx rfl (hb hby d13_16) rfl rfl (XS.iloadN X325.here hx rfl (hb hby d13_17) rfl (XS.iloadN X325.here hx rfl (hb hby d13_18) rfl k))))) ?_
  show Go p e below s _ _ _ T325 (mkF m 19 #[.val (.ref b294), .val (.ref b272), .val (.int (1 : Int32)), .val (.int (2 : Int32))] [(.int (2 : Int32)), (.int (1 : Int32)), (.ref b272)])
  obtain ⟨_, _, ⟨T337, L337, k337, n337⟩, -, X337, ⟨Lc337, hQ337, l337, y337, z337⟩, st337⟩ := Jvm.LawKit.callS X325 hx (y := xm15) hown (mvT hZ (tw75 hw)) (mvT hZ (tw76 hw)) (mvT hZ (tw32 hw)) (mvT hZ (tw77 hw)) (by decide) (backOf (W := 0) (rm_PropertyIndex_plainHash_1 l Z a0 hw [] b272 cs b22_42_64_292 k22_42_64_292 fv h0 n0 Z0 E_b272 F_coder_b272 Z_S_COMPACT_STRINGS O0 hcs F_value_b272 V_b22_42_64_292 Z_S_SIOOBE_FORMATTER hfv) hZ (tw77 hw) (tw32 hw) (by decide) (by decide)) (g := (mkF m 19 #[.val (.ref b294), .val (.ref b272), .val (.int (1 : Int32)), .val (.int (2 : Int32))] [(.int (2 : Int32)), (.int (1 : Int32)), (.ref b272)])) rfl (by rw [hml]; rfl) (argsL := [(.ref b272), (.int (1 : Int32)), (.int (2 : Int32))]) (rest := []) (lenOf pd_14 rfl) rfl (by show 2 * 0 + _ ≤ _; exact Nat.le_of_eq rfl) (hb hby d13_19) (fun _ _ => ⟨rfl, e325, (by decide : 0 + 0 ≤ _), (by decide : 0 + 0 ≤ _)⟩)
  dsimp only [Pt.U, Pt.locs, Pt.cells, Pt.slots] at X337 l337 y337 z337 st337 hQ337
  subst l337 y337 z337
  obtain ⟨rfl, N337q, eq337⟩ := hQ337
  have N338 := Fr.app N0 N337q
  refine Go.step (fun _ k => st337 _ k) ?_
  show Go p e below s _ _ _ T337 (mkF m 22 #[.val (.ref b294), .val (.ref b272), .val (.int (1 : Int32)), .val (.int (2 : Int32))] [(.int (98 : Int32))])
  exact Go.retI X337 hx hlk Bd.returns (hb hby d13_22) eq337 ⟨rfl, N338, rfl⟩ (by decide) (by decide)

theorem ef_PropertyIndex_slot_1 (m : MethodId) (x0 : Addr) (x1 : Addr) (x2 : Int32) (x3 : Int32) (x4 : Int32) : entryFrame m #[(.ref x0), (.ref x1), (.int x2), (.int x3), (.int x4)] 7 = mkF m 0 #[.val (.ref x0), .val (.ref x1), .val (.int x2), .val (.int x3), .val (.int x4), .unset, .unset] [] := by first | (simp [entryFrame, mkF, argsToLocals, Value.category]; done) | rfl
def Q_PropertyIndex_slot_1 (Z : State) (b294 : Addr) (b272 : Addr) (b111_304 : Addr) (k111_304 : ClassId) (h0 : Heap) (n0 : Nat) (v : Option Value) (h : Heap) (L : List Loc) : Prop := v = some (.int (2 : Int32)) ∧ Fr n0 L ∧ h = h0
set_option maxRecDepth 65536 in
set_option maxHeartbeats 40000000 in
theorem rm_PropertyIndex_slot_1 (l : Launch) (Z : State) (a0 : Array Value) (hw : ∀ d ∈ tables_1, d.before a0 Z = true) (ws : List Jvm.Cond) (b294 : Addr) (b272 : Addr) (b111_304 : Addr) (k111_304 : ClassId) (h0 : Heap) (n0 : Nat) (Z0 : n0 ≤ h0.size) (F_slots_b294 : Fld Z h0 b294 xs1 "slots" "[I" (.ref b111_304)) (V_b111_304 : Arv Z h0 b111_304 k111_304 .int (4 : Int32) [(.int (0 : Int32)), (.int (1 : Int32)), (.int (0 : Int32)), (.int (0 : Int32))] (.int (0 : Int32))) :
    MetFree l xm25 (head1 (Jvm.Cond.code xm25 prog_15_method_11_code 7 (some .int) :: ws) xr14) (fun a U => a = #[(.ref b294), (.ref b272), (.int (1 : Int32)), (.int (2 : Int32)), (.int (98 : Int32))] ∧ Z.Warmed39 U.vm ∧ U.heap = h0) (fun _ _ _ _ _ => True) (fun _ U o U' => ∃ v L, o = .returned v ∧ Q_PropertyIndex_slot_1 Z b294 b272 b111_304 k111_304 h0 n0 v U'.heap L ∧ FrameEnd U o U' L xr14.cells xr14.slots) := by
  refine MetFree.of_bodySF (plainFor_of_name pn_5) hisR ?_
  intro p e s m args below meth c s₁ Bd hml0 hP hK
  obtain ⟨rfl, hZ, hh⟩ := hP
  have hx := Bd.exec
  have hby := Bd.bytes
  have hlk : meth.locks = false := BodyLoose.notSynchronized Bd
  have hml : c.maxLocals = 7 := hml0
  have hown : s.vm.findClass xs1 = some m.cls := findClass_of_methodNamed Bd.named
  have hnm := (name_of_methodNamed Bd.named Bd.method).1
  have X0 : Stand p l e xr14 s m #[(.ref b294), (.ref b272), (.int (1 : Int32)), (.int (2 : Int32)), (.int (98 : Int32))] below meth c s₁ [] 0 0 := Stand.of_body Bd
  have e0 : s₁.heap = h0 := by rw [← hh, Bd.state]; rfl
  have N0 := Fr.nil n0
  show Go p e below s (Q_PropertyIndex_slot_1 Z b294 b272 b111_304 k111_304 h0 n0) xr14.cells xr14.slots s₁ (entryFrame m #[(.ref b294), (.ref b272), (.int (1 : Int32)), (.int (2 : Int32)), (.int (98 : Int32))] 7)
  refine Go.cast (ef_PropertyIndex_slot_1 m b294 b272 (1 : Int32) (2 : Int32) (98 : Int32)) ?_
  show Go p e below s _ _ _ s₁ (mkF m 0 #[.val (.ref b294), .val (.ref b272), .val (.int (1 : Int32)), .val (.int (2 : Int32)), .val (.int (98 : Int32)), .unset, .unset] [])
  refine Go.step (fun _ k => XS.aloadN X0.here hx rfl (hb hby d18_0) rfl rfl k) ?_
  show Go p e below s _ _ _ s₁ (mkF m 1 #[.val (.ref b294), .val (.ref b272), .val (.int (1 : Int32)), .val (.int (2 : Int32)), .val (.int (98 : Int32)), .unset, .unset] [(.ref b294)])
  obtain ⟨T342, X342, e342, st342⟩ := getF X0 hx hZ hown (host := "") (Or.inl (tw62 hw)) Via.refl e0 F_slots_b294 (g := (mkF m 1 #[.val (.ref b294), .val (.ref b272), .val (.int (1 : Int32)), .val (.int (2 : Int32)), .val (.int (98 : Int32)), .unset, .unset] [(.ref b294)])) rfl rfl (hb hby d18_1)
  refine Go.step (fun _ k => st342 _ k) ?_
  show Go p e below s _ _ _ T342 (mkF m 4 #[.val (.ref b294), .val (.ref b272), .val (.int (1 : Int32)), .val (.int (2 : Int32)), .val (.int (98 : Int32)), .unset, .unset] [(.ref b111_304)])
  obtain ⟨cl343, Ar343, -, Sz343, Ng343, -, -⟩ := id V_b111_304
  have aln343 := X342.arraylength hx (by rw [e342]; exact Ar343.1) (State.isArrayOf_alike hZ.alike Ar343.2.1) (g := (mkF m 4 #[.val (.ref b294), .val (.ref b272), .val (.int (1 : Int32)), .val (.int (2 : Int32)), .val (.int (98 : Int32)), .unset, .unset] [(.ref b111_304)])) rfl rfl (hb hby d18_4)
  rw [len_of Sz343 Ng343] at aln343
  refine Go.step (fun _ k => aln343 _ (XS.iconst X342.here hx rfl (hb hby d18_5) (XS.isub X342.here hx rfl (hb hby d18_6) rfl (XS.istore X342.here hx rfl (hb hby d18_7) rfl (l' := #[.val (.ref b294), .val (.ref b272), .val (.int (1 : Int32)), .val (.int (2 : Int32)), .val (.int (98 : Int32)), .val (.int (3 : Int32)), .unset]) rfl (XS.iload X342.here hx rfl (hb hby d18_9) rfl (XS.iload X342.here hx rfl (hb hby d18_11) rfl (XS.iand X342.here hx rfl (hb hby d18_13) rfl (XS.istore X342.here hx rfl (hb hby d18_14) rfl (l' := #[.val (.ref b294), .val (.ref b272), .val (.int (1 : Int32)), .val (.int (2 : Int32)), .val (.int (98 : Int32)), .val (.int (3 : Int32)), .val (.int (2 : Int32))]) rfl (XS.aloadN X342.here hx rfl (hb hby d18_16) rfl rfl k))))))))) ?_
  show Go p e below s _ _ _ T342 (mkF m 17 #[.val (.ref b294), .val (.ref b272), .val (.int (1 : Int32)), .val (.int (2 : Int32)), .val (.int (98 : Int32)), .val (.int (3 : Int32)), .val (.int (2 : Int32))] [(.ref b294)])
  obtain ⟨T344, X344, e344, st344⟩ := getF X342 hx hZ hown (host := "") (Or.inl (tw62 hw)) Via.refl e342 F_slots_b294 (g := (mkF m 17 #[.val (.ref b294), .val (.ref b272), .val (.int (1 : Int32)), .val (.int (2 : Int32)), .val (.int (98 : Int32)), .val (.int (3 : Int32)), .val (.int (2 : Int32))] [(.ref b294)])) rfl rfl (hb hby d18_17)
  refine Go.step (fun _ k => st344 _ (XS.iload X344.here hx rfl (hb hby d18_20) rfl k)) ?_
  show Go p e below s _ _ _ T344 (mkF m 22 #[.val (.ref b294), .val (.ref b272), .val (.int (1 : Int32)), .val (.int (2 : Int32)), .val (.int (98 : Int32)), .val (.int (3 : Int32)), .val (.int (2 : Int32))] [(.int (2 : Int32)), (.ref b111_304)])
  obtain ⟨cl345, Ar345, -, Sz345, Ng345, Hs345, Ft345⟩ := id V_b111_304
  have in345 : ¬ ((2 : Int32) < 0 ∨ cl345.slots.size ≤ ((2 : Int32)).toNatClampNeg) := (inb_of Sz345 ⟨by decide, by decide⟩)
  have at345 : cl345.slots[((2 : Int32)).toNatClampNeg]? = some (.int (0 : Int32)) := Hs345.at in345 rfl
  refine Go.step (fun _ k => X344.iaload hx (j := (2 : Int32)) (v := (.int (0 : Int32))) (by rw [e344]; exact Ar345.1) (State.isArrayOf_alike hZ.alike Ar345.2.1) Ar345.2.2 in345 at345 (g := (mkF m 22 #[.val (.ref b294), .val (.ref b272), .val (.int (1 : Int32)), .val (.int (2 : Int32)), .val (.int (98 : Int32)), .val (.int (3 : Int32)), .val (.int (2 : Int32))] [(.int (2 : Int32)), (.ref b111_304)])) rfl rfl (hb hby d18_22) _ (XS.ifYes X344.here hx rfl (pc0 := 23) (pc' := 59) rfl (hb hby d18_23) rfl ((if0 _ _).trans (teq (by decide)).1) (by decide) (by decide) (XS.iload X344.here hx rfl (hb hby d18_59) rfl k))) ?_
  show Go p e below s _ _ _ T344 (mkF m 61 #[.val (.ref b294), .val (.ref b272), .val (.int (1 : Int32)), .val (.int (2 : Int32)), .val (.int (98 : Int32)), .val (.int (3 : Int32)), .val (.int (2 : Int32))] [(.int (2 : Int32))])
  exact Go.retI X344 hx hlk Bd.returns (hb hby d18_61) e344 ⟨rfl, N0, rfl⟩ (by decide) (by decide)

theorem ef_Math_min_0 (m : MethodId) (x0 : Int32) (x1 : Int32) : entryFrame m #[(.int x0), (.int x1)] 2 = mkF m 0 #[.val (.int x0), .val (.int x1)] [] := by first | (simp [entryFrame, mkF, argsToLocals, Value.category]; done) | rfl
def Q_Math_min_0 (Z : State)  (h0 : Heap) (n0 : Nat) (v : Option Value) (h : Heap) (L : List Loc) : Prop := v = some (.int (6 : Int32)) ∧ Fr n0 L ∧ h = h0
set_option maxRecDepth 65536 in
set_option maxHeartbeats 40000000 in
theorem rm_Math_min_0 (l : Launch) (Z : State) (a0 : Array Value) (hw : ∀ d ∈ tables_1, d.before a0 Z = true) (ws : List Jvm.Cond)  (h0 : Heap) (n0 : Nat) (Z0 : n0 ≤ h0.size) :
    MetFree l xm18 (head1 (Jvm.Cond.code xm18 jdk_29_method_69_code 2 (some .int) :: ws) xr14) (fun a U => a = #[(.int (6 : Int32)), (.int (12 : Int32))] ∧ Z.Warmed39 U.vm ∧ U.heap = h0) (fun _ _ _ _ _ => True) (fun _ U o U' => ∃ v L, o = .returned v ∧ Q_Math_min_0 Z  h0 n0 v U'.heap L ∧ FrameEnd U o U' L xr14.cells xr14.slots) := by
  refine MetFree.of_bodySF (Jvm.Free.JP.mathPlain rfl (by decide +kernel)) hisR ?_
  intro p e s m args below meth c s₁ Bd hml0 hP hK
  obtain ⟨rfl, hZ, hh⟩ := hP
  have hx := Bd.exec
  have hby := Bd.bytes
  have hlk : meth.locks = false := BodyLoose.notSynchronized Bd
  have hml : c.maxLocals = 2 := hml0
  have hown : s.vm.findClass xs21 = some m.cls := findClass_of_methodNamed Bd.named
  have hnm := (name_of_methodNamed Bd.named Bd.method).1
  have X0 : Stand p l e xr14 s m #[(.int (6 : Int32)), (.int (12 : Int32))] below meth c s₁ [] 0 0 := Stand.of_body Bd
  have e0 : s₁.heap = h0 := by rw [← hh, Bd.state]; rfl
  have N0 := Fr.nil n0
  show Go p e below s (Q_Math_min_0 Z  h0 n0) xr14.cells xr14.slots s₁ (entryFrame m #[(.int (6 : Int32)), (.int (12 : Int32))] 2)
  refine Go.cast (ef_Math_min_0 m (6 : Int32) (12 : Int32)) ?_
  show Go p e below s _ _ _ s₁ (mkF m 0 #[.val (.int (6 : Int32)), .val (.int (12 : Int32))] [])
  refine Go.step (fun _ k => XS.iloadN X0.here hx rfl (hb hby d25_0) rfl (XS.iloadN X0.here hx rfl (hb hby d25_1) rfl (XS.icmpNo X0.here hx rfl (hb hby d25_2) rfl (flt (by decide)).2.2.1 (XS.iloadN X0.here hx rfl (hb hby d25_5) rfl (XS.goto X0.here hx rfl (pc0 := 6) (pc' := 10) rfl (hb hby d25_6) (by decide) (by decide) k))))) ?_
  show Go p e below s _ _ _ s₁ (mkF m 10 #[.val (.int (6 : Int32)), .val (.int (12 : Int32))] [(.int (6 : Int32))])
  exact Go.retI X0 hx hlk Bd.returns (hb hby d25_10) e0 ⟨rfl, N0, rfl⟩ (by decide) (by decide)

theorem ef_Arrays_copyOf_0 (m : MethodId) (x0 : Addr) (x1 : Int32) : entryFrame m #[(.ref x0), (.int x1)] 3 = mkF m 0 #[.val (.ref x0), .val (.int x1), .unset] [] := by first | (simp [entryFrame, mkF, argsToLocals, Value.category]; done) | rfl
def Q_Arrays_copyOf_0 (Z : State) (b99_304 : Addr) (k99_304 : ClassId) (p2 : Int32) (p3 : Int32) (p4 : Int32) (h0 : Heap) (n0 : Nat) (v : Option Value) (h : Heap) (L : List Loc) : Prop := ∃ (b360 : Addr) (k360 : ClassId), v = some (.ref b360) ∧ Fr n0 L ∧ Keep h0 h [] ∧ h0.size ≤ b360 ∧ Arv Z h b360 k360 .int (12 : Int32) [(.int (0 : Int32)), (.int (1 : Int32)), (.int p2), (.int p3), (.int p4), (.int (97 : Int32)), (.int (0 : Int32)), (.int (0 : Int32)), (.int (0 : Int32)), (.int (0 : Int32)), (.int (0 : Int32)), (.int (0 : Int32))] (.int (0 : Int32))
set_option maxRecDepth 65536 in
set_option maxHeartbeats 40000000 in
theorem rm_Arrays_copyOf_0 (l : Launch) (Z : State) (a0 : Array Value) (hw : ∀ d ∈ tables_1, d.before a0 Z = true) (ws : List Jvm.Cond) (b99_304 : Addr) (k99_304 : ClassId) (p2 : Int32) (p3 : Int32) (p4 : Int32) (h0 : Heap) (n0 : Nat) (Z0 : n0 ≤ h0.size) (V_b99_304 : Arv Z h0 b99_304 k99_304 .int (6 : Int32) [(.int (0 : Int32)), (.int (1 : Int32)), (.int p2), (.int p3), (.int p4), (.int (97 : Int32))] (.int (0 : Int32))) :
    MetFree l xm5 (head1 (Jvm.Cond.code xm5 jdk_65_method_123_code 3 (some (.array .int)) :: ws) xr1) (fun a U => a = #[(.ref b99_304), (.int (12 : Int32))] ∧ Z.Warmed39 U.vm ∧ U.heap = h0) (fun _ _ _ _ _ => True) (fun _ U o U' => ∃ v L, o = .returned v ∧ Q_Arrays_copyOf_0 Z b99_304 k99_304 p2 p3 p4 h0 n0 v U'.heap L ∧ FrameEnd U o U' L xr1.cells xr1.slots) := by
  refine MetFree.of_bodySF (plainFor_of_name pn_7) hisR ?_
  intro p e s m args below meth c s₁ Bd hml0 hP hK
  obtain ⟨rfl, hZ, hh⟩ := hP
  have hx := Bd.exec
  have hby := Bd.bytes
  have hlk : meth.locks = false := BodyLoose.notSynchronized Bd
  have hml : c.maxLocals = 3 := hml0
  have hown : s.vm.findClass xs19 = some m.cls := findClass_of_methodNamed Bd.named
  have hnm := (name_of_methodNamed Bd.named Bd.method).1
  have X0 : Stand p l e xr1 s m #[(.ref b99_304), (.int (12 : Int32))] below meth c s₁ [] 0 0 := Stand.of_body Bd
  have e0 : s₁.heap = h0 := by rw [← hh, Bd.state]; rfl
  have N0 := Fr.nil n0
  show Go p e below s (Q_Arrays_copyOf_0 Z b99_304 k99_304 p2 p3 p4 h0 n0) xr1.cells xr1.slots s₁ (entryFrame m #[(.ref b99_304), (.int (12 : Int32))] 3)
  refine Go.cast (ef_Arrays_copyOf_0 m b99_304 (12 : Int32)) ?_
  show Go p e below s _ _ _ s₁ (mkF m 0 #[.val (.ref b99_304), .val (.int (12 : Int32)), .unset] [])
  refine Go.step (fun _ k => XS.iloadN X0.here hx rfl (hb hby d24_0) rfl (XS.aloadN X0.here hx rfl (hb hby d24_1) rfl rfl k)) ?_
  show Go p e below s _ _ _ s₁ (mkF m 2 #[.val (.ref b99_304), .val (.int (12 : Int32)), .unset] [(.ref b99_304), (.int (12 : Int32))])
  obtain ⟨cl359, Ar359, -, Sz359, Ng359, -, -⟩ := id V_b99_304
  have aln359 := X0.arraylength hx (by rw [e0]; exact Ar359.1) (State.isArrayOf_alike hZ.alike Ar359.2.1) (g := (mkF m 2 #[.val (.ref b99_304), .val (.int (12 : Int32)), .unset] [(.ref b99_304), (.int (12 : Int32))])) rfl rfl (hb hby d24_2)
  rw [len_of Sz359 Ng359] at aln359
  refine Go.step (fun _ k => aln359 _ (XS.icmpYes X0.here hx rfl (pc0 := 3) (pc' := 14) rfl (hb hby d24_3) rfl (feq (by decide)).2 (by decide) (by decide) (XS.iloadN X0.here hx rfl (hb hby d24_14) rfl k))) ?_
  show Go p e below s _ _ _ s₁ (mkF m 15 #[.val (.ref b99_304), .val (.int (12 : Int32)), .unset] [(.int (12 : Int32))])
  obtain ⟨T360, h360, k360, X360, e360, E360, A360, st360⟩ := newP (aty := .int) X0 hx hZ (tw50 hw) e0 (g := (mkF m 15 #[.val (.ref b99_304), .val (.int (12 : Int32)), .unset] [(.int (12 : Int32))])) rfl (hb hby d24_15) rfl (by decide) (cap := 12) (by decide) (by decide) (by decide) (by decide)
  obtain ⟨b360, g360⟩ : ∃ z, z = h0.size := ⟨_, rfl⟩
  rw [← g360] at A360 st360
  have f361 : Arv Z h360 b360 k360 .int (12 : Int32) [(.int (0 : Int32)), (.int (0 : Int32)), (.int (0 : Int32)), (.int (0 : Int32)), (.int (0 : Int32)), (.int (0 : Int32)), (.int (0 : Int32)), (.int (0 : Int32)), (.int (0 : Int32)), (.int (0 : Int32)), (.int (0 : Int32)), (.int (0 : Int32))] (.int (0 : Int32)) := (Arv.new A360 (by decide)).pad (pad_rep [] (.int (0 : Int32)) 12)
  refine Go.step (fun _ k => st360 _ (XS.astoreN X360.here hx rfl (hb hby d24_17) rfl rfl (l' := #[.val (.ref b99_304), .val (.int (12 : Int32)), .val (.ref b360)]) rfl (XS.aloadN X360.here hx rfl (hb hby d24_18) rfl rfl (XS.iconst X360.here hx rfl (hb hby d24_19) (XS.aloadN X360.here hx rfl (hb hby d24_20) rfl rfl (XS.iconst X360.here hx rfl (hb hby d24_21) (XS.aloadN X360.here hx rfl (hb hby d24_22) rfl rfl k))))))) ?_
  show Go p e below s _ _ _ T360 (mkF m 23 #[.val (.ref b99_304), .val (.int (12 : Int32)), .val (.ref b360)] [(.ref b99_304), (.int (0 : Int32)), (.ref b360), (.int (0 : Int32)), (.ref b99_304)])
  have f362 := (V_b99_304.ext E360)
  obtain ⟨cl363, Ar363, -, Sz363, Ng363, -, -⟩ := id f362
  have aln363 := X360.arraylength hx (by rw [e360]; exact Ar363.1) (State.isArrayOf_alike hZ.alike Ar363.2.1) (g := (mkF m 23 #[.val (.ref b99_304), .val (.int (12 : Int32)), .val (.ref b360)] [(.ref b99_304), (.int (0 : Int32)), (.ref b360), (.int (0 : Int32)), (.ref b99_304)])) rfl rfl (hb hby d24_23)
  rw [len_of Sz363 Ng363] at aln363
  refine Go.step (fun _ k => aln363 _ (XS.iloadN X360.here hx rfl (hb hby d24_24) rfl k)) ?_
  show Go p e below s _ _ _ T360 (mkF m 25 #[.val (.ref b99_304), .val (.int (12 : Int32)), .val (.ref b360)] [(.int (12 : Int32)), (.int (6 : Int32)), (.int (0 : Int32)), (.ref b360), (.int (0 : Int32)), (.ref b99_304)])
  have f364 := (Nat.le_trans Z0 E360.1)
  obtain ⟨_, _, ⟨T365, L365, k365, n365⟩, -, X365, ⟨Lc365, hQ365, l365, y365, z365⟩, st365⟩ := Jvm.LawKit.callS X360 hx (y := xm18) hown (mvT hZ (tw135 hw)) (mvT hZ (tw136 hw)) (mvT hZ (tw48 hw)) (mvT hZ (tw137 hw)) (by decide) (backOf (W := 4) (rm_Math_min_0 l Z a0 hw []  h360 n0 f364) hZ (tw137 hw) (tw48 hw) (by decide) (by decide)) (g := (mkF m 25 #[.val (.ref b99_304), .val (.int (12 : Int32)), .val (.ref b360)] [(.int (12 : Int32)), (.int (6 : Int32)), (.int (0 : Int32)), (.ref b360), (.int (0 : Int32)), (.ref b99_304)])) rfl (by rw [hml]; rfl) (argsL := [(.int (6 : Int32)), (.int (12 : Int32))]) (rest := [(.int (0 : Int32)), (.ref b360), (.int (0 : Int32)), (.ref b99_304)]) (lenOf pd_7 rfl) rfl (by show 2 * 0 + _ ≤ _; exact Nat.le_of_eq rfl) (hb hby d24_25) (fun _ _ => ⟨rfl, e360, (by decide : 1 + 0 ≤ _), (by decide : 12 + 0 ≤ _)⟩)
  dsimp only [Pt.U, Pt.locs, Pt.cells, Pt.slots] at X365 l365 y365 z365 st365 hQ365
  subst l365 y365 z365
  obtain ⟨rfl, N365q, eq365⟩ := hQ365
  have N366 := Fr.app N0 N365q
  refine Go.step (fun _ k => st365 _ k) ?_
  show Go p e below s _ _ _ T365 (mkF m 28 #[.val (.ref b99_304), .val (.int (12 : Int32)), .val (.ref b360)] [(.int (6 : Int32)), (.int (0 : Int32)), (.ref b360), (.int (0 : Int32)), (.ref b99_304)])
  have g368 := Nat.le_trans Z0 (Nat.le_of_eq g360.symm)
  obtain ⟨T367, h367, L367, X367, e367, N367, K367, V367, st367⟩ := cpA X365 hx hZ hown (tw138 hw) (tw141 hw) (tw139 hw) (tw140 hw) eq365 f362 f361 (us := [(.int (0 : Int32)), (.int (1 : Int32)), (.int p2), (.int p3), (.int p4), (.int (97 : Int32))]) (Or.inl ⟨rfl, rfl⟩) (by decide) (by decide) (by decide) (by decide) (by decide) rfl (by decide) N366 g368 (g := (mkF m 28 #[.val (.ref b99_304), .val (.int (12 : Int32)), .val (.ref b360)] [(.int (6 : Int32)), (.int (0 : Int32)), (.ref b360), (.int (0 : Int32)), (.ref b99_304)])) rfl (by rw [hml]; rfl) rfl (hb hby d24_28) (by decide) (W := 0) (by show 2 * 0 + _ ≤ _; exact Nat.le_of_eq rfl) (by decide)
  have f369 : Arv Z h367 b360 k360 .int (12 : Int32) [(.int (0 : Int32)), (.int (1 : Int32)), (.int p2), (.int p3), (.int p4), (.int (97 : Int32)), (.int (0 : Int32)), (.int (0 : Int32)), (.int (0 : Int32)), (.int (0 : Int32)), (.int (0 : Int32)), (.int (0 : Int32))] (.int (0 : Int32)) := V367
  refine Go.step (fun _ k => st367 _ (XS.aloadN X367.here hx rfl (hb hby d24_31) rfl rfl k)) ?_
  show Go p e below s _ _ _ T367 (mkF m 32 #[.val (.ref b99_304), .val (.int (12 : Int32)), .val (.ref b360)] [(.ref b360)])
  have z370 := Nat.le_trans (Nat.le_refl _) (Nat.le_of_eq g360.symm)
  have f371 := (((Keep.refl h0 []).ext E360).trans K367 (allS (Or.inr z370) all0))
  exact Go.retA X367 hx hlk Bd.returns rfl rfl (hb hby d24_32) e367 ⟨b360, k360, rfl, N367, f371, z370, f369⟩ (by decide) (by decide)

theorem ef_PropertyIndex_add_1 (m : MethodId) (x0 : Addr) (x1 : Int32) (x2 : Int32) (x3 : Int32) (x4 : Int32) (x5 : Int32) : entryFrame m #[(.ref x0), (.int x1), (.int x2), (.int x3), (.int x4), (.int x5)] 10 = mkF m 0 #[.val (.ref x0), .val (.int x1), .val (.int x2), .val (.int x3), .val (.int x4), .val (.int x5), .unset, .unset, .unset, .unset] [] := by first | (simp [entryFrame, mkF, argsToLocals, Value.category]; done) | rfl
def Q_PropertyIndex_add_1 (Z : State) (b294 : Addr) (p6 : Int32) (v322 : Int32) (v323 : Int32) (b272 : Addr) (cs : Int32) (b22_42_64_292 : Addr) (k22_42_64_292 : ClassId) (fv : Value) (b111_304 : Addr) (k111_304 : ClassId) (b99_304 : Addr) (k99_304 : ClassId) (p2 : Int32) (p3 : Int32) (p4 : Int32) (h0 : Heap) (n0 : Nat) (v : Option Value) (h : Heap) (L : List Loc) : Prop := ∃ (b360_372 : Addr) (k360_372 : ClassId), v = some (.int (-1 : Int32)) ∧ Fr n0 L ∧ Keep h0 h [b294, b111_304] ∧ Fld Z h b294 xs1 "text" xs14 (.ref b272) ∧ Fld Z h b294 xs1 "keyed" "Z" (.int (0 : Int32)) ∧ Fld Z h b294 xs1 "slots" "[I" (.ref b111_304) ∧ Fld Z h b294 xs1 "size" "I" (.int (2 : Int32)) ∧ Fld Z h b294 xs1 "entries" "[I" (.ref b360_372) ∧ Fld Z h b294 xs1 "lineEnds" xs2 .null ∧ Arv Z h b111_304 k111_304 .int (4 : Int32) [(.int (0 : Int32)), (.int (1 : Int32)), (.int (2 : Int32)), (.int (0 : Int32))] (.int (0 : Int32)) ∧ h0.size ≤ b360_372 ∧ Arv Z h b360_372 k360_372 .int (12 : Int32) [(.int (0 : Int32)), (.int (1 : Int32)), (.int p2), (.int p3), (.int p4), (.int (97 : Int32)), (.int (1 : Int32)), (.int (2 : Int32)), (.int p6), (.int v322), (.int v323), (.int (98 : Int32))] (.int (0 : Int32))
set_option maxRecDepth 65536 in
set_option maxHeartbeats 40000000 in
theorem rm_PropertyIndex_add_1 (l : Launch) (Z : State) (a0 : Array Value) (hw : ∀ d ∈ tables_1, d.before a0 Z = true) (ws : List Jvm.Cond) (b294 : Addr) (p6 : Int32) (v322 : Int32) (v323 : Int32) (b272 : Addr) (cs : Int32) (b22_42_64_292 : Addr) (k22_42_64_292 : ClassId) (fv : Value) (b111_304 : Addr) (k111_304 : ClassId) (b99_304 : Addr) (k99_304 : ClassId) (p2 : Int32) (p3 : Int32) (p4 : Int32) (h0 : Heap) (n0 : Nat) (Z0 : n0 ≤ h0.size) (F_text_b294 : Fld Z h0 b294 xs1 "text" xs14 (.ref b272)) (F_keyed_b294 : Fld Z h0 b294 xs1 "keyed" "Z" (.int (0 : Int32))) (E_b272 : Exa Z h0 b272 xs18) (F_coder_b272 : Fld Z h0 b272 xs18 "coder" "B" (.int (0 : Int32))) (Z_S_COMPACT_STRINGS : Sta Z Z.heap xs18 xs20 "Z" (.int cs)) (O0 : Old Z n0 h0) (hcs : ¬ cs = (0 : Int32)) (F_value_b272 : Fld Z h0 b272 xs18 "value" "[B" (.ref b22_42_64_292)) (V_b22_42_64_292 : Arv Z h0 b22_42_64_292 k22_42_64_292 .byte (2 : Int32) [(.int (97 : Int32)), (.int (98 : Int32))] (.int (0 : Int32))) (Z_S_SIOOBE_FORMATTER : Sta Z Z.heap xs5 xs17 xs6 fv) (hfv : fv.isRef = true) (E_b294 : Exa Z h0 b294 xs1) (F_slots_b294 : Fld Z h0 b294 xs1 "slots" "[I" (.ref b111_304)) (V_b111_304 : Arv Z h0 b111_304 k111_304 .int (4 : Int32) [(.int (0 : Int32)), (.int (1 : Int32)), (.int (0 : Int32)), (.int (0 : Int32))] (.int (0 : Int32))) (F_size_b294 : Fld Z h0 b294 xs1 "size" "I" (.int (1 : Int32))) (F_entries_b294 : Fld Z h0 b294 xs1 "entries" "[I" (.ref b99_304)) (V_b99_304 : Arv Z h0 b99_304 k99_304 .int (6 : Int32) [(.int (0 : Int32)), (.int (1 : Int32)), (.int p2), (.int p3), (.int p4), (.int (97 : Int32))] (.int (0 : Int32))) (g_b294 : n0 ≤ b294) (ne_b111_304_b294 : b111_304 ≠ b294) (g_b111_304 : n0 ≤ b111_304) (F_lineEnds_b294 : Fld Z h0 b294 xs1 "lineEnds" xs2 .null) :
    MetFree l xm13 (head1 (Jvm.Cond.code xm13 prog_15_method_3_code 10 (some .int) :: ws) xr2) (fun a U => a = #[(.ref b294), (.int (1 : Int32)), (.int (2 : Int32)), (.int p6), (.int v322), (.int v323)] ∧ Z.Warmed39 U.vm ∧ U.heap = h0) (fun _ _ _ _ _ => True) (fun _ U o U' => ∃ v L, o = .returned v ∧ Q_PropertyIndex_add_1 Z b294 p6 v322 v323 b272 cs b22_42_64_292 k22_42_64_292 fv b111_304 k111_304 b99_304 k99_304 p2 p3 p4 h0 n0 v U'.heap L ∧ FrameEnd U o U' L xr2.cells xr2.slots) := by
  refine MetFree.of_bodySF (plainFor_of_name pn_5) hisR ?_
  intro p e s m args below meth c s₁ Bd hml0 hP hK
  obtain ⟨rfl, hZ, hh⟩ := hP
  have hx := Bd.exec
  have hby := Bd.bytes
  have hlk : meth.locks = false := BodyLoose.notSynchronized Bd
  have hml : c.maxLocals = 10 := hml0
  have hown : s.vm.findClass xs1 = some m.cls := findClass_of_methodNamed Bd.named
  have hnm := (name_of_methodNamed Bd.named Bd.method).1
  have X0 : Stand p l e xr2 s m #[(.ref b294), (.int (1 : Int32)), (.int (2 : Int32)), (.int p6), (.int v322), (.int v323)] below meth c s₁ [] 0 0 := Stand.of_body Bd
  have e0 : s₁.heap = h0 := by rw [← hh, Bd.state]; rfl
  have N0 := Fr.nil n0
  show Go p e below s (Q_PropertyIndex_add_1 Z b294 p6 v322 v323 b272 cs b22_42_64_292 k22_42_64_292 fv b111_304 k111_304 b99_304 k99_304 p2 p3 p4 h0 n0) xr2.cells xr2.slots s₁ (entryFrame m #[(.ref b294), (.int (1 : Int32)), (.int (2 : Int32)), (.int p6), (.int v322), (.int v323)] 10)
  refine Go.cast (ef_PropertyIndex_add_1 m b294 (1 : Int32) (2 : Int32) p6 v322 v323) ?_
  show Go p e below s _ _ _ s₁ (mkF m 0 #[.val (.ref b294), .val (.int (1 : Int32)), .val (.int (2 : Int32)), .val (.int p6), .val (.int v322), .val (.int v323), .unset, .unset, .unset, .unset] [])
  refine Go.step (fun _ k => XS.aloadN X0.here hx rfl (hb hby d12_0) rfl rfl (XS.aloadN X0.here hx rfl (hb hby d12_1) rfl rfl k)) ?_
  show Go p e below s _ _ _ s₁ (mkF m 2 #[.val (.ref b294), .val (.int (1 : Int32)), .val (.int (2 : Int32)), .val (.int p6), .val (.int v322), .val (.int v323), .unset, .unset, .unset, .unset] [(.ref b294), (.ref b294)])
  obtain ⟨T324, X324, e324, st324⟩ := getF X0 hx hZ hown (host := "") (Or.inl (tw42 hw)) Via.refl e0 F_text_b294 (g := (mkF m 2 #[.val (.ref b294), .val (.int (1 : Int32)), .val (.int (2 : Int32)), .val (.int p6), .val (.int v322), .val (.int v323), .unset, .unset, .unset, .unset] [(.ref b294), (.ref b294)])) rfl rfl (hb hby d12_2)
  refine Go.step (fun _ k => st324 _ (XS.iloadN X324.here hx rfl (hb hby d12_5) rfl (XS.iloadN X324.here hx rfl (hb hby d12_6) rfl k))) ?_
  show Go p e below s _ _ _ T324 (mkF m 7 #[.val (.ref b294), .val (.int (1 : Int32)), .val (.int (2 : Int32)), .val (.int p6), .val (.int v322), .val (.int v323), .unset, .unset, .unset, .unset] [(.int (2 : Int32)), (.int (1 : Int32)), (.ref b272), (.ref b294)])
  obtain ⟨cq339, q339, q339'⟩ := E_b294.cell
  obtain ⟨_, _, ⟨T339, L339, k339, n339⟩, -, X339, ⟨Lc339, hQ339, l339, y339, z339⟩, st339⟩ := X324.privateBack hx (y := xm24) hown (mvT hZ (tw69 hw)) (mvT hZ (tw70 hw)) (own_selP (mvT hZ (tw31 hw)) (Cond.privateMethod_at (mvP hZ (tw71 hw) (args := #[]))) (mvT hZ (tw70 hw)) (by decide)) (Cond.privateMethod_at (mvP hZ (tw71 hw) (args := #[]))) (mvT hZ (tw72 hw)) (by decide) (backOf (W := 0) (rm_PropertyIndex_hash_1 l Z a0 hw [] b294 b272 cs b22_42_64_292 k22_42_64_292 fv h0 n0 Z0 F_keyed_b294 E_b272 F_coder_b272 Z_S_COMPACT_STRINGS O0 hcs F_value_b272 V_b22_42_64_292 Z_S_SIOOBE_FORMATTER hfv) hZ (tw72 hw) (tw32 hw) (by decide) (by decide)) (g := (mkF m 7 #[.val (.ref b294), .val (.int (1 : Int32)), .val (.int (2 : Int32)), .val (.int p6), .val (.int v322), .val (.int v323), .unset, .unset, .unset, .unset] [(.int (2 : Int32)), (.int (1 : Int32)), (.ref b272), (.ref b294)])) rfl (by rw [hml]; rfl) (Steps.refl _) (a := b294) (by rw [e324]; exact q339) q339' (argsL := [(.ref b272), (.int (1 : Int32)), (.int (2 : Int32))]) (rest := []) (lenOf pd_14 rfl) rfl (by show 2 * 0 + _ ≤ _; exact Nat.le_of_eq rfl) (hb hby d12_7) (fun _ _ => ⟨rfl, e324, (by decide : 0 + 0 ≤ _), (by decide : 0 + 0 ≤ _)⟩)
  dsimp only [Pt.U, Pt.locs, Pt.cells, Pt.slots] at X339 l339 y339 z339 st339 hQ339
  subst l339 y339 z339
  obtain ⟨rfl, N339q, eq339⟩ := hQ339
  have N340 := Fr.app N0 N339q
  refine Go.step (fun _ k => st339.trans (XS.istore X339.here hx rfl (hb hby d12_10) rfl (l' := #[.val (.ref b294), .val (.int (1 : Int32)), .val (.int (2 : Int32)), .val (.int p6), .val (.int v322), .val (.int v323), .val (.int (98 : Int32)), .unset, .unset, .unset]) rfl (XS.aloadN X339.here hx rfl (hb hby d12_12) rfl rfl (XS.aloadN X339.here hx rfl (hb hby d12_13) rfl rfl k)))) ?_
  show Go p e below s _ _ _ T339 (mkF m 14 #[.val (.ref b294), .val (.int (1 : Int32)), .val (.int (2 : Int32)), .val (.int p6), .val (.int v322), .val (.int v323), .val (.int (98 : Int32)), .unset, .unset, .unset] [(.ref b294), (.ref b294)])
  obtain ⟨T341, X341, e341, st341⟩ := getF X339 hx hZ hown (host := "") (Or.inl (tw42 hw)) Via.refl eq339 F_text_b294 (g := (mkF m 14 #[.val (.ref b294), .val (.int (1 : Int32)), .val (.int (2 : Int32)), .val (.int p6), .val (.int v322), .val (.int v323), .val (.int (98 : Int32)), .unset, .unset, .unset] [(.ref b294), (.ref b294)])) rfl rfl (hb hby d12_14)
  refine Go.step (fun _ k => st341 _ (XS.iloadN X341.here hx rfl (hb hby d12_17) rfl (XS.iloadN X341.here hx rfl (hb hby d12_18) rfl (XS.iload X341.here hx rfl (hb hby d12_19) rfl k)))) ?_
  show Go p e below s _ _ _ T341 (mkF m 21 #[.val (.ref b294), .val (.int (1 : Int32)), .val (.int (2 : Int32)), .val (.int p6), .val (.int v322), .val (.int v323), .val (.int (98 : Int32)), .unset, .unset, .unset] [(.int (98 : Int32)), (.int (2 : Int32)), (.int (1 : Int32)), (.ref b272), (.ref b294)])
  obtain ⟨cq346, q346, q346'⟩ := E_b294.cell
  obtain ⟨_, _, ⟨T346, L346, k346, n346⟩, -, X346, ⟨Lc346, hQ346, l346, y346, z346⟩, st346⟩ := X341.privateBack hx (y := xm25) hown (mvT hZ (tw100 hw)) (mvT hZ (tw101 hw)) (own_selP (mvT hZ (tw31 hw)) (Cond.privateMethod_at (mvP hZ (tw102 hw) (args := #[]))) (mvT hZ (tw101 hw)) (by decide)) (Cond.privateMethod_at (mvP hZ (tw102 hw) (args := #[]))) (mvT hZ (tw103 hw)) (by decide) (backOf (W := 0) (rm_PropertyIndex_slot_1 l Z a0 hw [] b294 b272 b111_304 k111_304 h0 n0 Z0 F_slots_b294 V_b111_304) hZ (tw103 hw) (tw32 hw) (by decide) (by decide)) (g := (mkF m 21 #[.val (.ref b294), .val (.int (1 : Int32)), .val (.int (2 : Int32)), .val (.int p6), .val (.int v322), .val (.int v323), .val (.int (98 : Int32)), .unset, .unset, .unset] [(.int (98 : Int32)), (.int (2 : Int32)), (.int (1 : Int32)), (.ref b272), (.ref b294)])) rfl (by rw [hml]; rfl) (Steps.refl _) (a := b294) (by rw [e341]; exact q346) q346' (argsL := [(.ref b272), (.int (1 : Int32)), (.int (2 : Int32)), (.int (98 : Int32))]) (rest := []) (lenOf pd_15 rfl) rfl (by show 2 * 0 + _ ≤ _; exact Nat.le_of_eq rfl) (hb hby d12_21) (fun _ _ => ⟨rfl, e341, (by decide : 0 + 0 ≤ _), (by decide : 0 + 0 ≤ _)⟩)
  dsimp only [Pt.U, Pt.locs, Pt.cells, Pt.slots] at X346 l346 y346 z346 st346 hQ346
  subst l346 y346 z346
  obtain ⟨rfl, N346q, eq346⟩ := hQ346
  have N347 := Fr.app N340 N346q
  refine Go.step (fun _ k => st346.trans (XS.istore X346.here hx rfl (hb hby d12_24) rfl (l' := #[.val (.ref b294), .val (.int (1 : Int32)), .val (.int (2 : Int32)), .val (.int p6), .val (.int v322), .val (.int v323), .val (.int (98 : Int32)), .val (.int (2 : Int32)), .unset, .unset]) rfl (XS.aloadN X346.here hx rfl (hb hby d12_26) rfl rfl k))) ?_
  show Go p e below s _ _ _ T346 (mkF m 27 #[.val (.ref b294), .val (.int (1 : Int32)), .val (.int (2 : Int32)), .val (.int p6), .val (.int v322), .val (.int v323), .val (.int (98 : Int32)), .val (.int (2 : Int32)), .unset, .unset] [(.ref b294)])
  obtain ⟨T348, X348, e348, st348⟩ := getF X346 hx hZ hown (host := "") (Or.inl (tw73 hw)) Via.refl eq346 F_keyed_b294 (g := (mkF m 27 #[.val (.ref b294), .val (.int (1 : Int32)), .val (.int (2 : Int32)), .val (.int p6), .val (.int v322), .val (.int v323), .val (.int (98 : Int32)), .val (.int (2 : Int32)), .unset, .unset] [(.ref b294)])) rfl rfl (hb hby d12_27)
  refine Go.step (fun _ k => st348 _ (XS.ifNo X348.here hx rfl (hb hby d12_30) rfl ((if0 _ _).trans (teq (by decide)).2) (XS.iload X348.here hx rfl (hb hby d12_33) rfl (XS.iload X348.here hx rfl (hb hby d12_35) rfl (XS.isub X348.here hx rfl (hb hby d12_37) rfl (XS.aloadN X348.here hx rfl (hb hby d12_38) rfl rfl k)))))) ?_
  show Go p e below s _ _ _ T348 (mkF m 39 #[.val (.ref b294), .val (.int (1 : Int32)), .val (.int (2 : Int32)), .val (.int p6), .val (.int v322), .val (.int v323), .val (.int (98 : Int32)), .val (.int (2 : Int32)), .unset, .unset] [(.ref b294), (.int (-96 : Int32))])
  obtain ⟨T349, X349, e349, st349⟩ := getF X348 hx hZ hown (host := "") (Or.inl (tw62 hw)) Via.refl e348 F_slots_b294 (g := (mkF m 39 #[.val (.ref b294), .val (.int (1 : Int32)), .val (.int (2 : Int32)), .val (.int p6), .val (.int v322), .val (.int v323), .val (.int (98 : Int32)), .val (.int (2 : Int32)), .unset, .unset] [(.ref b294), (.int (-96 : Int32))])) rfl rfl (hb hby d12_39)
  refine Go.step (fun _ k => st349 _ k) ?_
  show Go p e below s _ _ _ T349 (mkF m 42 #[.val (.ref b294), .val (.int (1 : Int32)), .val (.int (2 : Int32)), .val (.int p6), .val (.int v322), .val (.int v323), .val (.int (98 : Int32)), .val (.int (2 : Int32)), .unset, .unset] [(.ref b111_304), (.int (-96 : Int32))])
  obtain ⟨cl350, Ar350, -, Sz350, Ng350, -, -⟩ := id V_b111_304
  have aln350 := X349.arraylength hx (by rw [e349]; exact Ar350.1) (State.isArrayOf_alike hZ.alike Ar350.2.1) (g := (mkF m 42 #[.val (.ref b294), .val (.int (1 : Int32)), .val (.int (2 : Int32)), .val (.int p6), .val (.int v322), .val (.int v323), .val (.int (98 : Int32)), .val (.int (2 : Int32)), .unset, .unset] [(.ref b111_304), (.int (-96 : Int32))])) rfl rfl (hb hby d12_42)
  rw [len_of Sz350 Ng350] at aln350
  refine Go.step (fun _ k => aln350 _ (XS.iconst X349.here hx rfl (hb hby d12_43) (XS.isub X349.here hx rfl (hb hby d12_44) rfl (XS.iand X349.here hx rfl (hb hby d12_45) rfl (XS.bipush X349.here hx rfl (hb hby d12_46) (XS.icmpYes X349.here hx rfl (pc0 := 48) (pc' := 151) rfl (hb hby d12_48) rfl (flt (by decide)).2.2.2 (by decide) (by decide) (XS.aloadN X349.here hx rfl (hb hby d12_151) rfl rfl k))))))) ?_
  show Go p e below s _ _ _ T349 (mkF m 152 #[.val (.ref b294), .val (.int (1 : Int32)), .val (.int (2 : Int32)), .val (.int p6), .val (.int v322), .val (.int v323), .val (.int (98 : Int32)), .val (.int (2 : Int32)), .unset, .unset] [(.ref b294)])
  obtain ⟨T351, X351, e351, st351⟩ := getF X349 hx hZ hown (host := "") (Or.inl (tw62 hw)) Via.refl e349 F_slots_b294 (g := (mkF m 152 #[.val (.ref b294), .val (.int (1 : Int32)), .val (.int (2 : Int32)), .val (.int p6), .val (.int v322), .val (.int v323), .val (.int (98 : Int32)), .val (.int (2 : Int32)), .unset, .unset] [(.ref b294)])) rfl rfl (hb hby d12_152)
  refine Go.step (fun _ k => st351 _ (XS.iload X351.here hx rfl (hb hby d12_155) rfl k)) ?_
  show Go p e below s _ _ _ T351 (mkF m 157 #[.val (.ref b294), .val (.int (1 : Int32)), .val (.int (2 : Int32)), .val (.int p6), .val (.int v322), .val (.int v323), .val (.int (98 : Int32)), .val (.int (2 : Int32)), .unset, .unset] [(.int (2 : Int32)), (.ref b111_304)])
  obtain ⟨cl352, Ar352, -, Sz352, Ng352, Hs352, Ft352⟩ := id V_b111_304
  have in352 : ¬ ((2 : Int32) < 0 ∨ cl352.slots.size ≤ ((2 : Int32)).toNatClampNeg) := (inb_of Sz352 ⟨by decide, by decide⟩)
  have at352 : cl352.slots[((2 : Int32)).toNatClampNeg]? = some (.int (0 : Int32)) := Hs352.at in352 rfl
  refine Go.step (fun _ k => X351.iaload hx (j := (2 : Int32)) (v := (.int (0 : Int32))) (by rw [e351]; exact Ar352.1) (State.isArrayOf_alike hZ.alike Ar352.2.1) Ar352.2.2 in352 at352 (g := (mkF m 157 #[.val (.ref b294), .val (.int (1 : Int32)), .val (.int (2 : Int32)), .val (.int p6), .val (.int v322), .val (.int v323), .val (.int (98 : Int32)), .val (.int (2 : Int32)), .unset, .unset] [(.int (2 : Int32)), (.ref b111_304)])) rfl rfl (hb hby d12_157) _ (XS.ifYes X351.here hx rfl (pc0 := 158) (pc' := 171) rfl (hb hby d12_158) rfl ((if0 _ _).trans (teq (by decide)).1) (by decide) (by decide) (XS.aloadN X351.here hx rfl (hb hby d12_171) rfl rfl k))) ?_
  show Go p e below s _ _ _ T351 (mkF m 172 #[.val (.ref b294), .val (.int (1 : Int32)), .val (.int (2 : Int32)), .val (.int p6), .val (.int v322), .val (.int v323), .val (.int (98 : Int32)), .val (.int (2 : Int32)), .unset, .unset] [(.ref b294)])
  obtain ⟨T353, X353, e353, st353⟩ := getF X351 hx hZ hown (host := "") (Or.inl (tw104 hw)) Via.refl e351 F_size_b294 (g := (mkF m 172 #[.val (.ref b294), .val (.int (1 : Int32)), .val (.int (2 : Int32)), .val (.int p6), .val (.int v322), .val (.int v323), .val (.int (98 : Int32)), .val (.int (2 : Int32)), .unset, .unset] [(.ref b294)])) rfl rfl (hb hby d12_172)
  refine Go.step (fun _ k => st353 _ (XS.iconst X353.here hx rfl (hb hby d12_175) (XS.iadd X353.here hx rfl (hb hby d12_176) rfl (XS.bipush X353.here hx rfl (hb hby d12_177) (XS.imul X353.here hx rfl (hb hby d12_179) rfl (XS.aloadN X353.here hx rfl (hb hby d12_180) rfl rfl k)))))) ?_
  show Go p e below s _ _ _ T353 (mkF m 181 #[.val (.ref b294), .val (.int (1 : Int32)), .val (.int (2 : Int32)), .val (.int p6), .val (.int v322), .val (.int v323), .val (.int (98 : Int32)), .val (.int (2 : Int32)), .unset, .unset] [(.ref b294), (.int (12 : Int32))])
  obtain ⟨T354, X354, e354, st354⟩ := getF X353 hx hZ hown (host := "") (Or.inl (tw51 hw)) Via.refl e353 F_entries_b294 (g := (mkF m 181 #[.val (.ref b294), .val (.int (1 : Int32)), .val (.int (2 : Int32)), .val (.int p6), .val (.int v322), .val (.int v323), .val (.int (98 : Int32)), .val (.int (2 : Int32)), .unset, .unset] [(.ref b294), (.int (12 : Int32))])) rfl rfl (hb hby d12_181)
  refine Go.step (fun _ k => st354 _ k) ?_
  show Go p e below s _ _ _ T354 (mkF m 184 #[.val (.ref b294), .val (.int (1 : Int32)), .val (.int (2 : Int32)), .val (.int p6), .val (.int v322), .val (.int v323), .val (.int (98 : Int32)), .val (.int (2 : Int32)), .unset, .unset] [(.ref b99_304), (.int (12 : Int32))])
  obtain ⟨cl355, Ar355, -, Sz355, Ng355, -, -⟩ := id V_b99_304
  have aln355 := X354.arraylength hx (by rw [e354]; exact Ar355.1) (State.isArrayOf_alike hZ.alike Ar355.2.1) (g := (mkF m 184 #[.val (.ref b294), .val (.int (1 : Int32)), .val (.int (2 : Int32)), .val (.int p6), .val (.int v322), .val (.int v323), .val (.int (98 : Int32)), .val (.int (2 : Int32)), .unset, .unset] [(.ref b99_304), (.int (12 : Int32))])) rfl rfl (hb hby d12_184)
  rw [len_of Sz355 Ng355] at aln355
  refine Go.step (fun _ k => aln355 _ (XS.icmpNo X354.here hx rfl (hb hby d12_185) rfl (tlt (by decide)).2.2.2 (XS.aloadN X354.here hx rfl (hb hby d12_188) rfl rfl (XS.aloadN X354.here hx rfl (hb hby d12_189) rfl rfl k)))) ?_
  show Go p e below s _ _ _ T354 (mkF m 190 #[.val (.ref b294), .val (.int (1 : Int32)), .val (.int (2 : Int32)), .val (.int p6), .val (.int v322), .val (.int v323), .val (.int (98 : Int32)), .val (.int (2 : Int32)), .unset, .unset] [(.ref b294), (.ref b294)])
  obtain ⟨T356, X356, e356, st356⟩ := getF X354 hx hZ hown (host := "") (Or.inl (tw51 hw)) Via.refl e354 F_entries_b294 (g := (mkF m 190 #[.val (.ref b294), .val (.int (1 : Int32)), .val (.int (2 : Int32)), .val (.int p6), .val (.int v322), .val (.int v323), .val (.int (98 : Int32)), .val (.int (2 : Int32)), .unset, .unset] [(.ref b294), (.ref b294)])) rfl rfl (hb hby d12_190)
  refine Go.step (fun _ k => st356 _ (XS.aloadN X356.here hx rfl (hb hby d12_193) rfl rfl k)) ?_
  show Go p e below s _ _ _ T356 (mkF m 194 #[.val (.ref b294), .val (.int (1 : Int32)), .val (.int (2 : Int32)), .val (.int p6), .val (.int v322), .val (.int v323), .val (.int (98 : Int32)), .val (.int (2 : Int32)), .unset, .unset] [(.ref b294), (.ref b99_304), (.ref b294)])
  obtain ⟨T357, X357, e357, st357⟩ := getF X356 hx hZ hown (host := "") (Or.inl (tw51 hw)) Via.refl e356 F_entries_b294 (g := (mkF m 194 #[.val (.ref b294), .val (.int (1 : Int32)), .val (.int (2 : Int32)), .val (.int p6), .val (.int v322), .val (.int v323), .val (.int (98 : Int32)), .val (.int (2 : Int32)), .unset, .unset] [(.ref b294), (.ref b99_304), (.ref b294)])) rfl rfl (hb hby d12_194)
  refine Go.step (fun _ k => st357 _ k) ?_
  show Go p e below s _ _ _ T357 (mkF m 197 #[.val (.ref b294), .val (.int (1 : Int32)), .val (.int (2 : Int32)), .val (.int p6), .val (.int v322), .val (.int v323), .val (.int (98 : Int32)), .val (.int (2 : Int32)), .unset, .unset] [(.ref b99_304), (.ref b99_304), (.ref b294)])
  obtain ⟨cl358, Ar358, -, Sz358, Ng358, -, -⟩ := id V_b99_304
  have aln358 := X357.arraylength hx (by rw [e357]; exact Ar358.1) (State.isArrayOf_alike hZ.alike Ar358.2.1) (g := (mkF m 197 #[.val (.ref b294), .val (.int (1 : Int32)), .val (.int (2 : Int32)), .val (.int p6), .val (.int v322), .val (.int v323), .val (.int (98 : Int32)), .val (.int (2 : Int32)), .unset, .unset] [(.ref b99_304), (.ref b99_304), (.ref b294)])) rfl rfl (hb hby d12_197)
  rw [len_of Sz358 Ng358] at aln358
  refine Go.step (fun _ k => aln358 _ (XS.iconst X357.here hx rfl (hb hby d12_198) (XS.imul X357.here hx rfl (hb hby d12_199) rfl k))) ?_
  show Go p e below s _ _ _ T357 (mkF m 200 #[.val (.ref b294), .val (.int (1 : Int32)), .val (.int (2 : Int32)), .val (.int p6), .val (.int v322), .val (.int v323), .val (.int (98 : Int32)), .val (.int (2 : Int32)), .unset, .unset] [(.int (12 : Int32)), (.ref b99_304), (.ref b294)])
  obtain ⟨_, _, ⟨T372, L372, k372, n372⟩, -, X372, ⟨Lc372, hQ372, l372, y372, z372⟩, st372⟩ := Jvm.LawKit.callS X357 hx (y := xm5) hown (mvT hZ (tw131 hw)) (mvT hZ (tw132 hw)) (mvT hZ (tw133 hw)) (mvT hZ (tw134 hw)) (by decide) (backOf (W := 1) (rm_Arrays_copyOf_0 l Z a0 hw [] b99_304 k99_304 p2 p3 p4 h0 n0 Z0 V_b99_304) hZ (tw134 hw) (tw133 hw) (by decide) (by decide)) (g := (mkF m 200 #[.val (.ref b294), .val (.int (1 : Int32)), .val (.int (2 : Int32)), .val (.int p6), .val (.int v322), .val (.int v323), .val (.int (98 : Int32)), .val (.int (2 : Int32)), .unset, .unset] [(.int (12 : Int32)), (.ref b99_304), (.ref b294)])) rfl (by rw [hml]; rfl) (argsL := [(.ref b99_304), (.int (12 : Int32))]) (rest := [(.ref b294)]) (lenOf pd_19 rfl) rfl (by show 2 * 0 + _ ≤ _; exact Nat.le_of_eq rfl) (hb hby d12_200) (fun _ _ => ⟨rfl, e357, (by decide : 0 + 1 ≤ _), (by decide : 0 + 12 ≤ _)⟩)
  dsimp only [Pt.U, Pt.locs, Pt.cells, Pt.slots] at X372 l372 y372 z372 st372 hQ372
  subst l372 y372 z372
  obtain ⟨b360_372, k360_372, rfl, N372q, K372, P372_0, P372_1⟩ := hQ372
  have N373 := Fr.app N347 N372q
  refine Go.step (fun _ k => st372 _ k) ?_
  show Go p e below s _ _ _ T372 (mkF m 203 #[.val (.ref b294), .val (.int (1 : Int32)), .val (.int (2 : Int32)), .val (.int p6), .val (.int v322), .val (.int v323), .val (.int (98 : Int32)), .val (.int (2 : Int32)), .unset, .unset] [(.ref b360_372), (.ref b294)])
  have f374 := (F_entries_b294.keep K372 nin0)
  have f375 := (E_b294.keep K372)
  obtain ⟨T376, h376, X376, e376, W376, st376⟩ := putF X372 hx hZ hown (host := "") (Or.inl (tw51 hw)) Via.refl rfl f374 f375 (Or.inl (tw52 hw)) (tw31 hw) (ty := (.array .int)) (by decide) rfl rfl (g := (mkF m 203 #[.val (.ref b294), .val (.int (1 : Int32)), .val (.int (2 : Int32)), .val (.int p6), .val (.int v322), .val (.int v323), .val (.int (98 : Int32)), .val (.int (2 : Int32)), .unset, .unset] [(.ref b360_372), (.ref b294)])) rfl rfl (hb hby d12_203)
  have f377 := f374.same W376
  have N378 := Fr.snoc X376 N373 g_b294
  refine Go.step (fun _ k => st376 _ (XS.aloadN X376.here hx rfl (hb hby d12_206) rfl rfl k)) ?_
  show Go p e below s _ _ _ T376 (mkF m 207 #[.val (.ref b294), .val (.int (1 : Int32)), .val (.int (2 : Int32)), .val (.int p6), .val (.int v322), .val (.int v323), .val (.int (98 : Int32)), .val (.int (2 : Int32)), .unset, .unset] [(.ref b294)])
  have f379 := ((F_size_b294.keep K372 nin0).other W376 (Or.inr (slot_ne (Or.inl (tw105 hw)) (Or.inl (tw52 hw)) (by decide) (t := .int) (t' := (.array .int)) (by decide) (by decide))))
  obtain ⟨T380, X380, e380, st380⟩ := getF X376 hx hZ hown (host := "") (Or.inl (tw104 hw)) Via.refl e376 f379 (g := (mkF m 207 #[.val (.ref b294), .val (.int (1 : Int32)), .val (.int (2 : Int32)), .val (.int p6), .val (.int v322), .val (.int v323), .val (.int (98 : Int32)), .val (.int (2 : Int32)), .unset, .unset] [(.ref b294)])) rfl rfl (hb hby d12_207)
  refine Go.step (fun _ k => st380 _ (XS.bipush X380.here hx rfl (hb hby d12_210) (XS.imul X380.here hx rfl (hb hby d12_212) rfl (XS.istore X380.here hx rfl (hb hby d12_213) rfl (l' := #[.val (.ref b294), .val (.int (1 : Int32)), .val (.int (2 : Int32)), .val (.int p6), .val (.int v322), .val (.int v323), .val (.int (98 : Int32)), .val (.int (2 : Int32)), .val (.int (6 : Int32)), .unset]) rfl (XS.aloadN X380.here hx rfl (hb hby d12_215) rfl rfl k))))) ?_
  show Go p e below s _ _ _ T380 (mkF m 216 #[.val (.ref b294), .val (.int (1 : Int32)), .val (.int (2 : Int32)), .val (.int p6), .val (.int v322), .val (.int v323), .val (.int (98 : Int32)), .val (.int (2 : Int32)), .val (.int (6 : Int32)), .unset] [(.ref b294)])
  obtain ⟨T381, X381, e381, st381⟩ := getF X380 hx hZ hown (host := "") (Or.inl (tw51 hw)) Via.refl e380 f377 (g := (mkF m 216 #[.val (.ref b294), .val (.int (1 : Int32)), .val (.int (2 : Int32)), .val (.int p6), .val (.int v322), .val (.int v323), .val (.int (98 : Int32)), .val (.int (2 : Int32)), .val (.int (6 : Int32)), .unset] [(.ref b294)])) rfl rfl (hb hby d12_216)
  refine Go.step (fun _ k => st381 _ (XS.iload X381.here hx rfl (hb hby d12_219) rfl (XS.iconst X381.here hx rfl (hb hby d12_221) (XS.iadd X381.here hx rfl (hb hby d12_222) rfl (XS.iloadN X381.here hx rfl (hb hby d12_223) rfl k))))) ?_
  show Go p e below s _ _ _ T381 (mkF m 224 #[.val (.ref b294), .val (.int (1 : Int32)), .val (.int (2 : Int32)), .val (.int p6), .val (.int v322), .val (.int v323), .val (.int (98 : Int32)), .val (.int (2 : Int32)), .val (.int (6 : Int32)), .unset] [(.int (1 : Int32)), (.int (6 : Int32)), (.ref b360_372)])
  have ne382 : b294 ≠ b360_372 := Nat.ne_of_lt (Nat.lt_of_lt_of_le E_b294.lt P372_0)
  have f383 := (P372_1.other W376 (Ne.symm ne382))
  obtain ⟨cl384, Ar384, qq384, Sz384, Ng384, Hs384, Ft384⟩ := id f383
  have in384 : ¬ ((6 : Int32) < 0 ∨ cl384.slots.size ≤ ((6 : Int32)).toNatClampNeg) := (inb_of Sz384 ⟨by decide, by decide⟩)
  obtain ⟨T384, h384, X384, e384, W384, st384⟩ := stI X381 hx hZ e381 Ar384 (j := (6 : Int32)) in384 (g := (mkF m 224 #[.val (.ref b294), .val (.int (1 : Int32)), .val (.int (2 : Int32)), .val (.int p6), .val (.int v322), .val (.int v323), .val (.int (98 : Int32)), .val (.int (2 : Int32)), .val (.int (6 : Int32)), .unset] [(.int (1 : Int32)), (.int (6 : Int32)), (.ref b360_372)])) rfl rfl (hb hby d12_224)
  have g385 := Nat.le_trans Z0 P372_0
  have f386 : Arv Z h384 b360_372 k360_372 .int (12 : Int32) [(.int (0 : Int32)), (.int (1 : Int32)), (.int p2), (.int p3), (.int p4), (.int (97 : Int32)), (.int (1 : Int32)), (.int (0 : Int32)), (.int (0 : Int32)), (.int (0 : Int32)), (.int (0 : Int32)), (.int (0 : Int32))] (.int (0 : Int32)) := Arv.set Ar384 qq384 Sz384 Ng384 Hs384 Ft384 rfl W384 6 rfl (Nat.le_of_ble_eq_true rfl)
  have N387 := Fr.snoc X384 N378 g385
  refine Go.step (fun _ k => st384 _ (XS.aloadN X384.here hx rfl (hb hby d12_225) rfl rfl k)) ?_
  show Go p e below s _ _ _ T384 (mkF m 226 #[.val (.ref b294), .val (.int (1 : Int32)), .val (.int (2 : Int32)), .val (.int p6), .val (.int v322), .val (.int v323), .val (.int (98 : Int32)), .val (.int (2 : Int32)), .val (.int (6 : Int32)), .unset] [(.ref b294)])
  have f388 := (f377.other W384 (Or.inl ne382))
  obtain ⟨T389, X389, e389, st389⟩ := getF X384 hx hZ hown (host := "") (Or.inl (tw51 hw)) Via.refl e384 f388 (g := (mkF m 226 #[.val (.ref b294), .val (.int (1 : Int32)), .val (.int (2 : Int32)), .val (.int p6), .val (.int v322), .val (.int v323), .val (.int (98 : Int32)), .val (.int (2 : Int32)), .val (.int (6 : Int32)), .unset] [(.ref b294)])) rfl rfl (hb hby d12_226)
  refine Go.step (fun _ k => st389 _ (XS.iload X389.here hx rfl (hb hby d12_229) rfl (XS.iconst X389.here hx rfl (hb hby d12_231) (XS.iadd X389.here hx rfl (hb hby d12_232) rfl (XS.iloadN X389.here hx rfl (hb hby d12_233) rfl k))))) ?_
  show Go p e below s _ _ _ T389 (mkF m 234 #[.val (.ref b294), .val (.int (1 : Int32)), .val (.int (2 : Int32)), .val (.int p6), .val (.int v322), .val (.int v323), .val (.int (98 : Int32)), .val (.int (2 : Int32)), .val (.int (6 : Int32)), .unset] [(.int (2 : Int32)), (.int (7 : Int32)), (.ref b360_372)])
  obtain ⟨cl390, Ar390, qq390, Sz390, Ng390, Hs390, Ft390⟩ := id f386
  have in390 : ¬ ((7 : Int32) < 0 ∨ cl390.slots.size ≤ ((7 : Int32)).toNatClampNeg) := (inb_of Sz390 ⟨by decide, by decide⟩)
  obtain ⟨T390, h390, X390, e390, W390, st390⟩ := stI X389 hx hZ e389 Ar390 (j := (7 : Int32)) in390 (g := (mkF m 234 #[.val (.ref b294), .val (.int (1 : Int32)), .val (.int (2 : Int32)), .val (.int p6), .val (.int v322), .val (.int v323), .val (.int (98 : Int32)), .val (.int (2 : Int32)), .val (.int (6 : Int32)), .unset] [(.int (2 : Int32)), (.int (7 : Int32)), (.ref b360_372)])) rfl rfl (hb hby d12_234)
  have f391 : Arv Z h390 b360_372 k360_372 .int (12 : Int32) [(.int (0 : Int32)), (.int (1 : Int32)), (.int p2), (.int p3), (.int p4), (.int (97 : Int32)), (.int (1 : Int32)), (.int (2 : Int32)), (.int (0 : Int32)), (.int (0 : Int32)), (.int (0 : Int32)), (.int (0 : Int32))] (.int (0 : Int32)) := Arv.set Ar390 qq390 Sz390 Ng390 Hs390 Ft390 rfl W390 7 rfl (Nat.le_of_ble_eq_true rfl)
  have N392 := Fr.snoc X390 N387 g385
  refine Go.step (fun _ k => st390 _ (XS.aloadN X390.here hx rfl (hb hby d12_235) rfl rfl k)) ?_
  show Go p e below s _ _ _ T390 (mkF m 236 #[.val (.ref b294), .val (.int (1 : Int32)), .val (.int (2 : Int32)), .val (.int p6), .val (.int v322), .val (.int v323), .val (.int (98 : Int32)), .val (.int (2 : Int32)), .val (.int (6 : Int32)), .unset] [(.ref b294)])
  have f393 := (f388.other W390 (Or.inl ne382))
  obtain ⟨T394, X394, e394, st394⟩ := getF X390 hx hZ hown (host := "") (Or.inl (tw51 hw)) Via.refl e390 f393 (g := (mkF m 236 #[.val (.ref b294), .val (.int (1 : Int32)), .val (.int (2 : Int32)), .val (.int p6), .val (.int v322), .val (.int v323), .val (.int (98 : Int32)), .val (.int (2 : Int32)), .val (.int (6 : Int32)), .unset] [(.ref b294)])) rfl rfl (hb hby d12_236)
  refine Go.step (fun _ k => st394 _ (XS.iload X394.here hx rfl (hb hby d12_239) rfl (XS.iconst X394.here hx rfl (hb hby d12_241) (XS.iadd X394.here hx rfl (hb hby d12_242) rfl (XS.iloadN X394.here hx rfl (hb hby d12_243) rfl k))))) ?_
  show Go p e below s _ _ _ T394 (mkF m 244 #[.val (.ref b294), .val (.int (1 : Int32)), .val (.int (2 : Int32)), .val (.int p6), .val (.int v322), .val (.int v323), .val (.int (98 : Int32)), .val (.int (2 : Int32)), .val (.int (6 : Int32)), .unset] [(.int p6), (.int (8 : Int32)), (.ref b360_372)])
  obtain ⟨cl395, Ar395, qq395, Sz395, Ng395, Hs395, Ft395⟩ := id f391
  have in395 : ¬ ((8 : Int32) < 0 ∨ cl395.slots.size ≤ ((8 : Int32)).toNatClampNeg) := (inb_of Sz395 ⟨by decide, by decide⟩)
  obtain ⟨T395, h395, X395, e395, W395, st395⟩ := stI X394 hx hZ e394 Ar395 (j := (8 : Int32)) in395 (g := (mkF m 244 #[.val (.ref b294), .val (.int (1 : Int32)), .val (.int (2 : Int32)), .val (.int p6), .val (.int v322), .val (.int v323), .val (.int (98 : Int32)), .val (.int (2 : Int32)), .val (.int (6 : Int32)), .unset] [(.int p6), (.int (8 : Int32)), (.ref b360_372)])) rfl rfl (hb hby d12_244)
  have f396 : Arv Z h395 b360_372 k360_372 .int (12 : Int32) [(.int (0 : Int32)), (.int (1 : Int32)), (.int p2), (.int p3), (.int p4), (.int (97 : Int32)), (.int (1 : Int32)), (.int (2 : Int32)), (.int p6), (.int (0 : Int32)), (.int (0 : Int32)), (.int (0 : Int32))] (.int (0 : Int32)) := Arv.set Ar395 qq395 Sz395 Ng395 Hs395 Ft395 rfl W395 8 rfl (Nat.le_of_ble_eq_true rfl)
  have N397 := Fr.snoc X395 N392 g385
  refine Go.step (fun _ k => st395 _ (XS.aloadN X395.here hx rfl (hb hby d12_245) rfl rfl k)) ?_
  show Go p e below s _ _ _ T395 (mkF m 246 #[.val (.ref b294), .val (.int (1 : Int32)), .val (.int (2 : Int32)), .val (.int p6), .val (.int v322), .val (.int v323), .val (.int (98 : Int32)), .val (.int (2 : Int32)), .val (.int (6 : Int32)), .unset] [(.ref b294)])
  have f398 := (f393.other W395 (Or.inl ne382))
  obtain ⟨T399, X399, e399, st399⟩ := getF X395 hx hZ hown (host := "") (Or.inl (tw51 hw)) Via.refl e395 f398 (g := (mkF m 246 #[.val (.ref b294), .val (.int (1 : Int32)), .val (.int (2 : Int32)), .val (.int p6), .val (.int v322), .val (.int v323), .val (.int (98 : Int32)), .val (.int (2 : Int32)), .val (.int (6 : Int32)), .unset] [(.ref b294)])) rfl rfl (hb hby d12_246)
  refine Go.step (fun _ k => st399 _ (XS.iload X399.here hx rfl (hb hby d12_249) rfl (XS.iconst X399.here hx rfl (hb hby d12_251) (XS.iadd X399.here hx rfl (hb hby d12_252) rfl (XS.iload X399.here hx rfl (hb hby d12_253) rfl k))))) ?_
  show Go p e below s _ _ _ T399 (mkF m 255 #[.val (.ref b294), .val (.int (1 : Int32)), .val (.int (2 : Int32)), .val (.int p6), .val (.int v322), .val (.int v323), .val (.int (98 : Int32)), .val (.int (2 : Int32)), .val (.int (6 : Int32)), .unset] [(.int v322), (.int (9 : Int32)), (.ref b360_372)])
  obtain ⟨cl400, Ar400, qq400, Sz400, Ng400, Hs400, Ft400⟩ := id f396
  have in400 : ¬ ((9 : Int32) < 0 ∨ cl400.slots.size ≤ ((9 : Int32)).toNatClampNeg) := (inb_of Sz400 ⟨by decide, by decide⟩)
  obtain ⟨T400, h400, X400, e400, W400, st400⟩ := stI X399 hx hZ e399 Ar400 (j := (9 : Int32)) in400 (g := (mkF m 255 #[.val (.ref b294), .val (.int (1 : Int32)), .val (.int (2 : Int32)), .val (.int p6), .val (.int v322), .val (.int v323), .val (.int (98 : Int32)), .val (.int (2 : Int32)), .val (.int (6 : Int32)), .unset] [(.int v322), (.int (9 : Int32)), (.ref b360_372)])) rfl rfl (hb hby d12_255)
  have f401 : Arv Z h400 b360_372 k360_372 .int (12 : Int32) [(.int (0 : Int32)), (.int (1 : Int32)), (.int p2), (.int p3), (.int p4), (.int (97 : Int32)), (.int (1 : Int32)), (.int (2 : Int32)), (.int p6), (.int v322), (.int (0 : Int32)), (.int (0 : Int32))] (.int (0 : Int32)) := Arv.set Ar400 qq400 Sz400 Ng400 Hs400 Ft400 rfl W400 9 rfl (Nat.le_of_ble_eq_true rfl)
  have N402 := Fr.snoc X400 N397 g385
  refine Go.step (fun _ k => st400 _ (XS.aloadN X400.here hx rfl (hb hby d12_256) rfl rfl k)) ?_
  show Go p e below s _ _ _ T400 (mkF m 257 #[.val (.ref b294), .val (.int (1 : Int32)), .val (.int (2 : Int32)), .val (.int p6), .val (.int v322), .val (.int v323), .val (.int (98 : Int32)), .val (.int (2 : Int32)), .val (.int (6 : Int32)), .unset] [(.ref b294)])
  have f403 := (f398.other W400 (Or.inl ne382))
  obtain ⟨T404, X404, e404, st404⟩ := getF X400 hx hZ hown (host := "") (Or.inl (tw51 hw)) Via.refl e400 f403 (g := (mkF m 257 #[.val (.ref b294), .val (.int (1 : Int32)), .val (.int (2 : Int32)), .val (.int p6), .val (.int v322), .val (.int v323), .val (.int (98 : Int32)), .val (.int (2 : Int32)), .val (.int (6 : Int32)), .unset] [(.ref b294)])) rfl rfl (hb hby d12_257)
  refine Go.step (fun _ k => st404 _ (XS.iload X404.here hx rfl (hb hby d12_260) rfl (XS.iconst X404.here hx rfl (hb hby d12_262) (XS.iadd X404.here hx rfl (hb hby d12_263) rfl (XS.iload X404.here hx rfl (hb hby d12_264) rfl k))))) ?_
  show Go p e below s _ _ _ T404 (mkF m 266 #[.val (.ref b294), .val (.int (1 : Int32)), .val (.int (2 : Int32)), .val (.int p6), .val (.int v322), .val (.int v323), .val (.int (98 : Int32)), .val (.int (2 : Int32)), .val (.int (6 : Int32)), .unset] [(.int v323), (.int (10 : Int32)), (.ref b360_372)])
  obtain ⟨cl405, Ar405, qq405, Sz405, Ng405, Hs405, Ft405⟩ := id f401
  have in405 : ¬ ((10 : Int32) < 0 ∨ cl405.slots.size ≤ ((10 : Int32)).toNatClampNeg) := (inb_of Sz405 ⟨by decide, by decide⟩)
  obtain ⟨T405, h405, X405, e405, W405, st405⟩ := stI X404 hx hZ e404 Ar405 (j := (10 : Int32)) in405 (g := (mkF m 266 #[.val (.ref b294), .val (.int (1 : Int32)), .val (.int (2 : Int32)), .val (.int p6), .val (.int v322), .val (.int v323), .val (.int (98 : Int32)), .val (.int (2 : Int32)), .val (.int (6 : Int32)), .unset] [(.int v323), (.int (10 : Int32)), (.ref b360_372)])) rfl rfl (hb hby d12_266)
  have f406 : Arv Z h405 b360_372 k360_372 .int (12 : Int32) [(.int (0 : Int32)), (.int (1 : Int32)), (.int p2), (.int p3), (.int p4), (.int (97 : Int32)), (.int (1 : Int32)), (.int (2 : Int32)), (.int p6), (.int v322), (.int v323), (.int (0 : Int32))] (.int (0 : Int32)) := Arv.set Ar405 qq405 Sz405 Ng405 Hs405 Ft405 rfl W405 10 rfl (Nat.le_of_ble_eq_true rfl)
  have N407 := Fr.snoc X405 N402 g385
  refine Go.step (fun _ k => st405 _ (XS.aloadN X405.here hx rfl (hb hby d12_267) rfl rfl k)) ?_
  show Go p e below s _ _ _ T405 (mkF m 268 #[.val (.ref b294), .val (.int (1 : Int32)), .val (.int (2 : Int32)), .val (.int p6), .val (.int v322), .val (.int v323), .val (.int (98 : Int32)), .val (.int (2 : Int32)), .val (.int (6 : Int32)), .unset] [(.ref b294)])
  have f408 := (f403.other W405 (Or.inl ne382))
  obtain ⟨T409, X409, e409, st409⟩ := getF X405 hx hZ hown (host := "") (Or.inl (tw51 hw)) Via.refl e405 f408 (g := (mkF m 268 #[.val (.ref b294), .val (.int (1 : Int32)), .val (.int (2 : Int32)), .val (.int p6), .val (.int v322), .val (.int v323), .val (.int (98 : Int32)), .val (.int (2 : Int32)), .val (.int (6 : Int32)), .unset] [(.ref b294)])) rfl rfl (hb hby d12_268)
  refine Go.step (fun _ k => st409 _ (XS.iload X409.here hx rfl (hb hby d12_271) rfl (XS.iconst X409.here hx rfl (hb hby d12_273) (XS.iadd X409.here hx rfl (hb hby d12_274) rfl (XS.iload X409.here hx rfl (hb hby d12_275) rfl k))))) ?_
  show Go p e below s _ _ _ T409 (mkF m 277 #[.val (.ref b294), .val (.int (1 : Int32)), .val (.int (2 : Int32)), .val (.int p6), .val (.int v322), .val (.int v323), .val (.int (98 : Int32)), .val (.int (2 : Int32)), .val (.int (6 : Int32)), .unset] [(.int (98 : Int32)), (.int (11 : Int32)), (.ref b360_372)])
  obtain ⟨cl410, Ar410, qq410, Sz410, Ng410, Hs410, Ft410⟩ := id f406
  have in410 : ¬ ((11 : Int32) < 0 ∨ cl410.slots.size ≤ ((11 : Int32)).toNatClampNeg) := (inb_of Sz410 ⟨by decide, by decide⟩)
  obtain ⟨T410, h410, X410, e410, W410, st410⟩ := stI X409 hx hZ e409 Ar410 (j := (11 : Int32)) in410 (g := (mkF m 277 #[.val (.ref b294), .val (.int (1 : Int32)), .val (.int (2 : Int32)), .val (.int p6), .val (.int v322), .val (.int v323), .val (.int (98 : Int32)), .val (.int (2 : Int32)), .val (.int (6 : Int32)), .unset] [(.int (98 : Int32)), (.int (11 : Int32)), (.ref b360_372)])) rfl rfl (hb hby d12_277)
  have f411 : Arv Z h410 b360_372 k360_372 .int (12 : Int32) [(.int (0 : Int32)), (.int (1 : Int32)), (.int p2), (.int p3), (.int p4), (.int (97 : Int32)), (.int (1 : Int32)), (.int (2 : Int32)), (.int p6), (.int v322), (.int v323), (.int (98 : Int32))] (.int (0 : Int32)) := Arv.set Ar410 qq410 Sz410 Ng410 Hs410 Ft410 rfl W410 11 rfl (Nat.le_of_ble_eq_true rfl)
  have N412 := Fr.snoc X410 N407 g385
  refine Go.step (fun _ k => st410 _ (XS.aloadN X410.here hx rfl (hb hby d12_278) rfl rfl (XS.dup X410.here hx rfl (hb hby d12_279) rfl rfl k))) ?_
  show Go p e below s _ _ _ T410 (mkF m 280 #[.val (.ref b294), .val (.int (1 : Int32)), .val (.int (2 : Int32)), .val (.int p6), .val (.int v322), .val (.int v323), .val (.int (98 : Int32)), .val (.int (2 : Int32)), .val (.int (6 : Int32)), .unset] [(.ref b294), (.ref b294)])
  have f413 := ((((((f379.other W384 (Or.inl ne382)).other W390 (Or.inl ne382)).other W395 (Or.inl ne382)).other W400 (Or.inl ne382)).other W405 (Or.inl ne382)).other W410 (Or.inl ne382))
  obtain ⟨T414, X414, e414, st414⟩ := getF X410 hx hZ hown (host := "") (Or.inl (tw104 hw)) Via.refl e410 f413 (g := (mkF m 280 #[.val (.ref b294), .val (.int (1 : Int32)), .val (.int (2 : Int32)), .val (.int p6), .val (.int v322), .val (.int v323), .val (.int (98 : Int32)), .val (.int (2 : Int32)), .val (.int (6 : Int32)), .unset] [(.ref b294), (.ref b294)])) rfl rfl (hb hby d12_280)
  refine Go.step (fun _ k => st414 _ (XS.iconst X414.here hx rfl (hb hby d12_283) (XS.iadd X414.here hx rfl (hb hby d12_284) rfl k))) ?_
  show Go p e below s _ _ _ T414 (mkF m 285 #[.val (.ref b294), .val (.int (1 : Int32)), .val (.int (2 : Int32)), .val (.int p6), .val (.int v322), .val (.int v323), .val (.int (98 : Int32)), .val (.int (2 : Int32)), .val (.int (6 : Int32)), .unset] [(.int (2 : Int32)), (.ref b294)])
  have f415 := (((((((f375.wr W376).wr W384).wr W390).wr W395).wr W400).wr W405).wr W410)
  obtain ⟨T416, h416, X416, e416, W416, st416⟩ := putF X414 hx hZ hown (host := "") (Or.inl (tw104 hw)) Via.refl e414 f413 f415 (Or.inl (tw105 hw)) (tw31 hw) (ty := .int) (by decide) rfl rfl (g := (mkF m 285 #[.val (.ref b294), .val (.int (1 : Int32)), .val (.int (2 : Int32)), .val (.int p6), .val (.int v322), .val (.int v323), .val (.int (98 : Int32)), .val (.int (2 : Int32)), .val (.int (6 : Int32)), .unset] [(.int (2 : Int32)), (.ref b294)])) rfl rfl (hb hby d12_285)
  have f417 := f413.same W416
  have N418 := Fr.snoc X416 N412 g_b294
  refine Go.step (fun _ k => st416 _ (XS.aloadN X416.here hx rfl (hb hby d12_288) rfl rfl k)) ?_
  show Go p e below s _ _ _ T416 (mkF m 289 #[.val (.ref b294), .val (.int (1 : Int32)), .val (.int (2 : Int32)), .val (.int p6), .val (.int v322), .val (.int v323), .val (.int (98 : Int32)), .val (.int (2 : Int32)), .val (.int (6 : Int32)), .unset] [(.ref b294)])
  have f419 := (((((((((F_slots_b294.keep K372 nin0).other W376 (Or.inr (slot_ne (Or.inl (tw63 hw)) (Or.inl (tw52 hw)) (by decide) (t := (.array .int)) (t' := (.array .int)) (by decide) (by decide)))).other W384 (Or.inl ne382)).other W390 (Or.inl ne382)).other W395 (Or.inl ne382)).other W400 (Or.inl ne382)).other W405 (Or.inl ne382)).other W410 (Or.inl ne382)).other W416 (Or.inr (slot_ne (Or.inl (tw63 hw)) (Or.inl (tw105 hw)) (by decide) (t := (.array .int)) (t' := .int) (by decide) (by decide))))
  obtain ⟨T420, X420, e420, st420⟩ := getF X416 hx hZ hown (host := "") (Or.inl (tw62 hw)) Via.refl e416 f419 (g := (mkF m 289 #[.val (.ref b294), .val (.int (1 : Int32)), .val (.int (2 : Int32)), .val (.int p6), .val (.int v322), .val (.int v323), .val (.int (98 : Int32)), .val (.int (2 : Int32)), .val (.int (6 : Int32)), .unset] [(.ref b294)])) rfl rfl (hb hby d12_289)
  refine Go.step (fun _ k => st420 _ (XS.iload X420.here hx rfl (hb hby d12_292) rfl (XS.aloadN X420.here hx rfl (hb hby d12_294) rfl rfl k))) ?_
  show Go p e below s _ _ _ T420 (mkF m 295 #[.val (.ref b294), .val (.int (1 : Int32)), .val (.int (2 : Int32)), .val (.int p6), .val (.int v322), .val (.int v323), .val (.int (98 : Int32)), .val (.int (2 : Int32)), .val (.int (6 : Int32)), .unset] [(.ref b294), (.int (2 : Int32)), (.ref b111_304)])
  obtain ⟨T421, X421, e421, st421⟩ := getF X420 hx hZ hown (host := "") (Or.inl (tw104 hw)) Via.refl e420 f417 (g := (mkF m 295 #[.val (.ref b294), .val (.int (1 : Int32)), .val (.int (2 : Int32)), .val (.int p6), .val (.int v322), .val (.int v323), .val (.int (98 : Int32)), .val (.int (2 : Int32)), .val (.int (6 : Int32)), .unset] [(.ref b294), (.int (2 : Int32)), (.ref b111_304)])) rfl rfl (hb hby d12_295)
  refine Go.step (fun _ k => st421 _ k) ?_
  show Go p e below s _ _ _ T421 (mkF m 298 #[.val (.ref b294), .val (.int (1 : Int32)), .val (.int (2 : Int32)), .val (.int p6), .val (.int v322), .val (.int v323), .val (.int (98 : Int32)), .val (.int (2 : Int32)), .val (.int (6 : Int32)), .unset] [(.int (2 : Int32)), (.int (2 : Int32)), (.ref b111_304)])
  have ne422 : b111_304 ≠ b360_372 := Nat.ne_of_lt (Nat.lt_of_lt_of_le V_b111_304.lt P372_0)
  have f423 := (((((((((V_b111_304.keep K372 nin0).other W376 ne_b111_304_b294).other W384 ne422).other W390 ne422).other W395 ne422).other W400 ne422).other W405 ne422).other W410 ne422).other W416 ne_b111_304_b294)
  obtain ⟨cl424, Ar424, qq424, Sz424, Ng424, Hs424, Ft424⟩ := id f423
  have in424 : ¬ ((2 : Int32) < 0 ∨ cl424.slots.size ≤ ((2 : Int32)).toNatClampNeg) := (inb_of Sz424 ⟨by decide, by decide⟩)
  obtain ⟨T424, h424, X424, e424, W424, st424⟩ := stI X421 hx hZ e421 Ar424 (j := (2 : Int32)) in424 (g := (mkF m 298 #[.val (.ref b294), .val (.int (1 : Int32)), .val (.int (2 : Int32)), .val (.int p6), .val (.int v322), .val (.int v323), .val (.int (98 : Int32)), .val (.int (2 : Int32)), .val (.int (6 : Int32)), .unset] [(.int (2 : Int32)), (.int (2 : Int32)), (.ref b111_304)])) rfl rfl (hb hby d12_298)
  have f425 : Arv Z h424 b111_304 k111_304 .int (4 : Int32) [(.int (0 : Int32)), (.int (1 : Int32)), (.int (2 : Int32)), (.int (0 : Int32))] (.int (0 : Int32)) := Arv.set Ar424 qq424 Sz424 Ng424 Hs424 Ft424 rfl W424 2 rfl (Nat.le_of_ble_eq_true rfl)
  have N426 := Fr.snoc X424 N418 g_b111_304
  refine Go.step (fun _ k => st424 _ (XS.aloadN X424.here hx rfl (hb hby d12_299) rfl rfl k)) ?_
  show Go p e below s _ _ _ T424 (mkF m 300 #[.val (.ref b294), .val (.int (1 : Int32)), .val (.int (2 : Int32)), .val (.int p6), .val (.int v322), .val (.int v323), .val (.int (98 : Int32)), .val (.int (2 : Int32)), .val (.int (6 : Int32)), .unset] [(.ref b294)])
  have f427 := (f417.other W424 (Or.inl (Ne.symm ne_b111_304_b294)))
  obtain ⟨T428, X428, e428, st428⟩ := getF X424 hx hZ hown (host := "") (Or.inl (tw104 hw)) Via.refl e424 f427 (g := (mkF m 300 #[.val (.ref b294), .val (.int (1 : Int32)), .val (.int (2 : Int32)), .val (.int p6), .val (.int v322), .val (.int v323), .val (.int (98 : Int32)), .val (.int (2 : Int32)), .val (.int (6 : Int32)), .unset] [(.ref b294)])) rfl rfl (hb hby d12_300)
  refine Go.step (fun _ k => st428 _ (XS.iconst X428.here hx rfl (hb hby d12_303) (XS.imul X428.here hx rfl (hb hby d12_304) rfl (XS.aloadN X428.here hx rfl (hb hby d12_305) rfl rfl k)))) ?_
  show Go p e below s _ _ _ T428 (mkF m 306 #[.val (.ref b294), .val (.int (1 : Int32)), .val (.int (2 : Int32)), .val (.int p6), .val (.int v322), .val (.int v323), .val (.int (98 : Int32)), .val (.int (2 : Int32)), .val (.int (6 : Int32)), .unset] [(.ref b294), (.int (4 : Int32))])
  have f429 := (f419.other W424 (Or.inl (Ne.symm ne_b111_304_b294)))
  obtain ⟨T430, X430, e430, st430⟩ := getF X428 hx hZ hown (host := "") (Or.inl (tw62 hw)) Via.refl e428 f429 (g := (mkF m 306 #[.val (.ref b294), .val (.int (1 : Int32)), .val (.int (2 : Int32)), .val (.int p6), .val (.int v322), .val (.int v323), .val (.int (98 : Int32)), .val (.int (2 : Int32)), .val (.int (6 : Int32)), .unset] [(.ref b294), (.int (4 : Int32))])) rfl rfl (hb hby d12_306)
  refine Go.step (fun _ k => st430 _ k) ?_
  show Go p e below s _ _ _ T430 (mkF m 309 #[.val (.ref b294), .val (.int (1 : Int32)), .val (.int (2 : Int32)), .val (.int p6), .val (.int v322), .val (.int v323), .val (.int (98 : Int32)), .val (.int (2 : Int32)), .val (.int (6 : Int32)), .unset] [(.ref b111_304), (.int (4 : Int32))])
  obtain ⟨cl431, Ar431, -, Sz431, Ng431, -, -⟩ := id f425
  have aln431 := X430.arraylength hx (by rw [e430]; exact Ar431.1) (State.isArrayOf_alike hZ.alike Ar431.2.1) (g := (mkF m 309 #[.val (.ref b294), .val (.int (1 : Int32)), .val (.int (2 : Int32)), .val (.int p6), .val (.int v322), .val (.int v323), .val (.int (98 : Int32)), .val (.int (2 : Int32)), .val (.int (6 : Int32)), .unset] [(.ref b111_304), (.int (4 : Int32))])) rfl rfl (hb hby d12_309)
  rw [len_of Sz431 Ng431] at aln431
  refine Go.step (fun _ k => aln431 _ (XS.icmpYes X430.here hx rfl (pc0 := 310) (pc' := 324) rfl (hb hby d12_310) rfl (flt (by decide)).2.2.2 (by decide) (by decide) (XS.iconst X430.here hx rfl (hb hby d12_324) k))) ?_
  show Go p e below s _ _ _ T430 (mkF m 325 #[.val (.ref b294), .val (.int (1 : Int32)), .val (.int (2 : Int32)), .val (.int p6), .val (.int v322), .val (.int v323), .val (.int (98 : Int32)), .val (.int (2 : Int32)), .val (.int (6 : Int32)), .unset] [(.int (-1 : Int32))])
  have z432 := Nat.le_trans (Nat.le_refl _) P372_0
  have f433 := (((((((((((Keep.refl h0 [b294, b111_304]).trans K372 all0).wr W376 (Or.inl (List.mem_of_getElem? (i := 0) rfl))).wr W384 (Or.inr z432)).wr W390 (Or.inr z432)).wr W395 (Or.inr z432)).wr W400 (Or.inr z432)).wr W405 (Or.inr z432)).wr W410 (Or.inr z432)).wr W416 (Or.inl (List.mem_of_getElem? (i := 0) rfl))).wr W424 (Or.inl (List.mem_of_getElem? (i := 1) rfl)))
  have f434 := ((((((((((F_text_b294.keep K372 nin0).other W376 (Or.inr (slot_ne (Or.inr (tw43 hw)) (Or.inl (tw52 hw)) (by decide) (t := (.object xs18)) (t' := (.array .int)) (by decide) (by decide)))).other W384 (Or.inl ne382)).other W390 (Or.inl ne382)).other W395 (Or.inl ne382)).other W400 (Or.inl ne382)).other W405 (Or.inl ne382)).other W410 (Or.inl ne382)).other W416 (Or.inr (slot_ne (Or.inr (tw43 hw)) (Or.inl (tw105 hw)) (by decide) (t := (.object xs18)) (t' := .int) (by decide) (by decide)))).other W424 (Or.inl (Ne.symm ne_b111_304_b294)))
  have f435 := ((((((((((F_keyed_b294.keep K372 nin0).other W376 (Or.inr (slot_ne (Or.inl (tw74 hw)) (Or.inl (tw52 hw)) (by decide) (t := .boolean) (t' := (.array .int)) (by decide) (by decide)))).other W384 (Or.inl ne382)).other W390 (Or.inl ne382)).other W395 (Or.inl ne382)).other W400 (Or.inl ne382)).other W405 (Or.inl ne382)).other W410 (Or.inl ne382)).other W416 (Or.inr (slot_ne (Or.inl (tw74 hw)) (Or.inl (tw105 hw)) (by decide) (t := .boolean) (t' := .int) (by decide) (by decide)))).other W424 (Or.inl (Ne.symm ne_b111_304_b294)))
  have f436 := (((f408.other W410 (Or.inl ne382)).other W416 (Or.inr (slot_ne (Or.inl (tw52 hw)) (Or.inl (tw105 hw)) (by decide) (t := (.array .int)) (t' := .int) (by decide) (by decide)))).other W424 (Or.inl (Ne.symm ne_b111_304_b294)))
  have f437 := ((((((((((F_lineEnds_b294.keep K372 nin0).other W376 (Or.inr (slot_ne (Or.inr (tw45 hw)) (Or.inl (tw52 hw)) (by decide) (t := (.object xs3)) (t' := (.array .int)) (by decide) (by decide)))).other W384 (Or.inl ne382)).other W390 (Or.inl ne382)).other W395 (Or.inl ne382)).other W400 (Or.inl ne382)).other W405 (Or.inl ne382)).other W410 (Or.inl ne382)).other W416 (Or.inr (slot_ne (Or.inr (tw45 hw)) (Or.inl (tw105 hw)) (by decide) (t := (.object xs3)) (t' := .int) (by decide) (by decide)))).other W424 (Or.inl (Ne.symm ne_b111_304_b294)))
  have f438 := ((f411.other W416 (Ne.symm ne382)).other W424 (Ne.symm ne422))
  exact Go.retI X430 hx hlk Bd.returns (hb hby d12_325) e430 ⟨b360_372, k360_372, rfl, N426, f433, f434, f435, f429, f427, f436, f437, f425, z432, f438⟩ (by decide) (by decide)

theorem ef_PropertyIndex_endValue_1 (m : MethodId) (x0 : Addr) (x1 : Int32) : entryFrame m #[(.ref x0), (.int x1)] 2 = mkF m 0 #[.val (.ref x0), .val (.int x1)] [] := by first | (simp [entryFrame, mkF, argsToLocals, Value.category]; done) | rfl
def Q_PropertyIndex_endValue_1 (Z : State) (b294 : Addr) (p5 : Int32) (b360_372_452 : Addr) (k360_372_452 : ClassId) (p2 : Int32) (p3 : Int32) (p4 : Int32) (p6 : Int32) (v456 : Int32) (v457 : Int32) (h0 : Heap) (n0 : Nat) (v : Option Value) (h : Heap) (L : List Loc) : Prop := v = none ∧ Fr n0 L ∧ Keep h0 h [b360_372_452] ∧ Arv Z h b360_372_452 k360_372_452 .int (12 : Int32) [(.int (0 : Int32)), (.int (1 : Int32)), (.int p2), (.int p3), (.int p4), (.int (97 : Int32)), (.int (1 : Int32)), (.int (2 : Int32)), (.int p6), (.int p5), (.int v457), (.int (98 : Int32))] (.int (0 : Int32))
set_option maxRecDepth 65536 in
set_option maxHeartbeats 40000000 in
theorem rm_PropertyIndex_endValue_1 (l : Launch) (Z : State) (a0 : Array Value) (hw : ∀ d ∈ tables_1, d.before a0 Z = true) (ws : List Jvm.Cond) (b294 : Addr) (p5 : Int32) (b360_372_452 : Addr) (k360_372_452 : ClassId) (p2 : Int32) (p3 : Int32) (p4 : Int32) (p6 : Int32) (v456 : Int32) (v457 : Int32) (h0 : Heap) (n0 : Nat) (Z0 : n0 ≤ h0.size) (F_entries_b294 : Fld Z h0 b294 xs1 "entries" "[I" (.ref b360_372_452)) (F_size_b294 : Fld Z h0 b294 xs1 "size" "I" (.int (2 : Int32))) (V_b360_372_452 : Arv Z h0 b360_372_452 k360_372_452 .int (12 : Int32) [(.int (0 : Int32)), (.int (1 : Int32)), (.int p2), (.int p3), (.int p4), (.int (97 : Int32)), (.int (1 : Int32)), (.int (2 : Int32)), (.int p6), (.int v456), (.int v457), (.int (98 : Int32))] (.int (0 : Int32))) (g_b360_372_452 : n0 ≤ b360_372_452) :
    MetFree l xm9 (head1 (Jvm.Cond.code xm9 prog_15_method_4_code 2 none :: ws) xr14) (fun a U => a = #[(.ref b294), (.int p5)] ∧ Z.Warmed39 U.vm ∧ U.heap = h0) (fun _ _ _ _ _ => True) (fun _ U o U' => ∃ v L, o = .returned v ∧ Q_PropertyIndex_endValue_1 Z b294 p5 b360_372_452 k360_372_452 p2 p3 p4 p6 v456 v457 h0 n0 v U'.heap L ∧ FrameEnd U o U' L xr14.cells xr14.slots) := by
  refine MetFree.of_bodySF (plainFor_of_name pn_5) hisR ?_
  intro p e s m args below meth c s₁ Bd hml0 hP hK
  obtain ⟨rfl, hZ, hh⟩ := hP
  have hx := Bd.exec
  have hby := Bd.bytes
  have hlk : meth.locks = false := BodyLoose.notSynchronized Bd
  have hml : c.maxLocals = 2 := hml0
  have hown : s.vm.findClass xs1 = some m.cls := findClass_of_methodNamed Bd.named
  have hnm := (name_of_methodNamed Bd.named Bd.method).1
  have X0 : Stand p l e xr14 s m #[(.ref b294), (.int p5)] below meth c s₁ [] 0 0 := Stand.of_body Bd
  have e0 : s₁.heap = h0 := by rw [← hh, Bd.state]; rfl
  have N0 := Fr.nil n0
  show Go p e below s (Q_PropertyIndex_endValue_1 Z b294 p5 b360_372_452 k360_372_452 p2 p3 p4 p6 v456 v457 h0 n0) xr14.cells xr14.slots s₁ (entryFrame m #[(.ref b294), (.int p5)] 2)
  refine Go.cast (ef_PropertyIndex_endValue_1 m b294 p5) ?_
  show Go p e below s _ _ _ s₁ (mkF m 0 #[.val (.ref b294), .val (.int p5)] [])
  refine Go.step (fun _ k => XS.aloadN X0.here hx rfl (hb hby d19_0) rfl rfl k) ?_
  show Go p e below s _ _ _ s₁ (mkF m 1 #[.val (.ref b294), .val (.int p5)] [(.ref b294)])
  obtain ⟨T454, X454, e454, st454⟩ := getF X0 hx hZ hown (host := "") (Or.inl (tw51 hw)) Via.refl e0 F_entries_b294 (g := (mkF m 1 #[.val (.ref b294), .val (.int p5)] [(.ref b294)])) rfl rfl (hb hby d19_1)
  refine Go.step (fun _ k => st454 _ (XS.aloadN X454.here hx rfl (hb hby d19_4) rfl rfl k)) ?_
  show Go p e below s _ _ _ T454 (mkF m 5 #[.val (.ref b294), .val (.int p5)] [(.ref b294), (.ref b360_372_452)])
  obtain ⟨T455, X455, e455, st455⟩ := getF X454 hx hZ hown (host := "") (Or.inl (tw104 hw)) Via.refl e454 F_size_b294 (g := (mkF m 5 #[.val (.ref b294), .val (.int p5)] [(.ref b294), (.ref b360_372_452)])) rfl rfl (hb hby d19_5)
  refine Go.step (fun _ k => st455 _ (XS.iconst X455.here hx rfl (hb hby d19_8) (XS.isub X455.here hx rfl (hb hby d19_9) rfl (XS.bipush X455.here hx rfl (hb hby d19_10) (XS.imul X455.here hx rfl (hb hby d19_12) rfl (XS.iconst X455.here hx rfl (hb hby d19_13) (XS.iadd X455.here hx rfl (hb hby d19_14) rfl (XS.iloadN X455.here hx rfl (hb hby d19_15) rfl k)))))))) ?_
  show Go p e below s _ _ _ T455 (mkF m 16 #[.val (.ref b294), .val (.int p5)] [(.int p5), (.int (9 : Int32)), (.ref b360_372_452)])
  obtain ⟨cl458, Ar458, qq458, Sz458, Ng458, Hs458, Ft458⟩ := id V_b360_372_452
  have in458 : ¬ ((9 : Int32) < 0 ∨ cl458.slots.size ≤ ((9 : Int32)).toNatClampNeg) := (inb_of Sz458 ⟨by decide, by decide⟩)
  obtain ⟨T458, h458, X458, e458, W458, st458⟩ := stI X455 hx hZ e455 Ar458 (j := (9 : Int32)) in458 (g := (mkF m 16 #[.val (.ref b294), .val (.int p5)] [(.int p5), (.int (9 : Int32)), (.ref b360_372_452)])) rfl rfl (hb hby d19_16)
  have f460 : Arv Z h458 b360_372_452 k360_372_452 .int (12 : Int32) [(.int (0 : Int32)), (.int (1 : Int32)), (.int p2), (.int p3), (.int p4), (.int (97 : Int32)), (.int (1 : Int32)), (.int (2 : Int32)), (.int p6), (.int p5), (.int v457), (.int (98 : Int32))] (.int (0 : Int32)) := Arv.set Ar458 qq458 Sz458 Ng458 Hs458 Ft458 rfl W458 9 rfl (Nat.le_of_ble_eq_true rfl)
  have N461 := Fr.snoc X458 N0 g_b360_372_452
  refine Go.step (fun _ k => st458 _ k) ?_
  show Go p e below s _ _ _ T458 (mkF m 17 #[.val (.ref b294), .val (.int p5)] [])
  have f462 := ((Keep.refl h0 [b360_372_452]).wr W458 (Or.inl (List.mem_of_getElem? (i := 0) rfl)))
  exact Go.retV X458 hx hlk Bd.returns (hb hby d19_17) e458 ⟨rfl, N461, f462, f460⟩ (by decide) (by decide)

theorem ef_PropertyIndex_size_1 (m : MethodId) (x0 : Addr) : entryFrame m #[(.ref x0)] 1 = mkF m 0 #[.val (.ref x0)] [] := by first | (simp [entryFrame, mkF, argsToLocals, Value.category]; done) | rfl
def Q_PropertyIndex_size_1 (Z : State) (b294 : Addr) (h0 : Heap) (n0 : Nat) (v : Option Value) (h : Heap) (L : List Loc) : Prop := v = some (.int (2 : Int32)) ∧ Fr n0 L ∧ h = h0
set_option maxRecDepth 65536 in
set_option maxHeartbeats 40000000 in
theorem rm_PropertyIndex_size_1 (l : Launch) (Z : State) (a0 : Array Value) (hw : ∀ d ∈ tables_1, d.before a0 Z = true) (ws : List Jvm.Cond) (b294 : Addr) (h0 : Heap) (n0 : Nat) (Z0 : n0 ≤ h0.size) (F_size_b294 : Fld Z h0 b294 xs1 "size" "I" (.int (2 : Int32))) :
    MetFree l xm23 (head1 (Jvm.Cond.code xm23 prog_15_method_8_code 1 (some .int) :: ws) xr14) (fun a U => a = #[(.ref b294)] ∧ Z.Warmed39 U.vm ∧ U.heap = h0) (fun _ _ _ _ _ => True) (fun _ U o U' => ∃ v L, o = .returned v ∧ Q_PropertyIndex_size_1 Z b294 h0 n0 v U'.heap L ∧ FrameEnd U o U' L xr14.cells xr14.slots) := by
  refine MetFree.of_bodySF (plainFor_of_name pn_5) hisR ?_
  intro p e s m args below meth c s₁ Bd hml0 hP hK
  obtain ⟨rfl, hZ, hh⟩ := hP
  have hx := Bd.exec
  have hby := Bd.bytes
  have hlk : meth.locks = false := BodyLoose.notSynchronized Bd
  have hml : c.maxLocals = 1 := hml0
  have hown : s.vm.findClass xs1 = some m.cls := findClass_of_methodNamed Bd.named
  have hnm := (name_of_methodNamed Bd.named Bd.method).1
  have X0 : Stand p l e xr14 s m #[(.ref b294)] below meth c s₁ [] 0 0 := Stand.of_body Bd
  have e0 : s₁.heap = h0 := by rw [← hh, Bd.state]; rfl
  have N0 := Fr.nil n0
  show Go p e below s (Q_PropertyIndex_size_1 Z b294 h0 n0) xr14.cells xr14.slots s₁ (entryFrame m #[(.ref b294)] 1)
  refine Go.cast (ef_PropertyIndex_size_1 m b294) ?_
  show Go p e below s _ _ _ s₁ (mkF m 0 #[.val (.ref b294)] [])
  refine Go.step (fun _ k => XS.aloadN X0.here hx rfl (hb hby d20_0) rfl rfl k) ?_
  show Go p e below s _ _ _ s₁ (mkF m 1 #[.val (.ref b294)] [(.ref b294)])
  obtain ⟨T467, X467, e467, st467⟩ := getF X0 hx hZ hown (host := "") (Or.inl (tw104 hw)) Via.refl e0 F_size_b294 (g := (mkF m 1 #[.val (.ref b294)] [(.ref b294)])) rfl rfl (hb hby d20_1)
  refine Go.step (fun _ k => st467 _ k) ?_
  show Go p e below s _ _ _ T467 (mkF m 4 #[.val (.ref b294)] [(.int (2 : Int32))])
  exact Go.retI X467 hx hlk Bd.returns (hb hby d20_4) e467 ⟨rfl, N0, rfl⟩ (by decide) (by decide)

theorem ef_PropertyIndex_valueEnd_1 (m : MethodId) (x0 : Addr) (x1 : Int32) : entryFrame m #[(.ref x0), (.int x1)] 2 = mkF m 0 #[.val (.ref x0), .val (.int x1)] [] := by first | (simp [entryFrame, mkF, argsToLocals, Value.category]; done) | rfl
def Q_PropertyIndex_valueEnd_1 (Z : State) (b294 : Addr) (b360_372_452 : Addr) (k360_372_452 : ClassId) (p2 : Int32) (p3 : Int32) (p4 : Int32) (p6 : Int32) (p5 : Int32) (v475 : Int32) (h0 : Heap) (n0 : Nat) (v : Option Value) (h : Heap) (L : List Loc) : Prop := v = some (.int p5) ∧ Fr n0 L ∧ h = h0
set_option maxRecDepth 65536 in
set_option maxHeartbeats 40000000 in
theorem rm_PropertyIndex_valueEnd_1 (l : Launch) (Z : State) (a0 : Array Value) (hw : ∀ d ∈ tables_1, d.before a0 Z = true) (ws : List Jvm.Cond) (b294 : Addr) (b360_372_452 : Addr) (k360_372_452 : ClassId) (p2 : Int32) (p3 : Int32) (p4 : Int32) (p6 : Int32) (p5 : Int32) (v475 : Int32) (h0 : Heap) (n0 : Nat) (Z0 : n0 ≤ h0.size) (F_entries_b294 : Fld Z h0 b294 xs1 "entries" "[I" (.ref b360_372_452)) (V_b360_372_452 : Arv Z h0 b360_372_452 k360_372_452 .int (12 : Int32) [(.int (0 : Int32)), (.int (1 : Int32)), (.int p2), (.int p3), (.int p4), (.int (97 : Int32)), (.int (1 : Int32)), (.int (2 : Int32)), (.int p6), (.int p5), (.int v475), (.int (98 : Int32))] (.int (0 : Int32))) :
    MetFree l xm10 (head1 (Jvm.Cond.code xm10 prog_15_method_20_code 2 (some .int) :: ws) xr14) (fun a U => a = #[(.ref b294), (.int (1 : Int32))] ∧ Z.Warmed39 U.vm ∧ U.heap = h0) (fun _ _ _ _ _ => True) (fun _ U o U' => ∃ v L, o = .returned v ∧ Q_PropertyIndex_valueEnd_1 Z b294 b360_372_452 k360_372_452 p2 p3 p4 p6 p5 v475 h0 n0 v U'.heap L ∧ FrameEnd U o U' L xr14.cells xr14.slots) := by
  refine MetFree.of_bodySF (plainFor_of_name pn_5) hisR ?_
  intro p e s m args below meth c s₁ Bd hml0 hP hK
  obtain ⟨rfl, hZ, hh⟩ := hP
  have hx := Bd.exec
  have hby := Bd.bytes
  have hlk : meth.locks = false := BodyLoose.notSynchronized Bd
  have hml : c.maxLocals = 2 := hml0
  have hown : s.vm.findClass xs1 = some m.cls := findClass_of_methodNamed Bd.named
  have hnm := (name_of_methodNamed Bd.named Bd.method).1
  have X0 : Stand p l e xr14 s m #[(.ref b294), (.int (1 : Int32))] below meth c s₁ [] 0 0 := Stand.of_body Bd
  have e0 : s₁.heap = h0 := by rw [← hh, Bd.state]; rfl
  have N0 := Fr.nil n0
  show Go p e below s (Q_PropertyIndex_valueEnd_1 Z b294 b360_372_452 k360_372_452 p2 p3 p4 p6 p5 v475 h0 n0) xr14.cells xr14.slots s₁ (entryFrame m #[(.ref b294), (.int (1 : Int32))] 2)
  refine Go.cast (ef_PropertyIndex_valueEnd_1 m b294 (1 : Int32)) ?_
  show Go p e below s _ _ _ s₁ (mkF m 0 #[.val (.ref b294), .val (.int (1 : Int32))] [])
  refine Go.step (fun _ k => XS.aloadN X0.here hx rfl (hb hby d21_0) rfl rfl k) ?_
  show Go p e below s _ _ _ s₁ (mkF m 1 #[.val (.ref b294), .val (.int (1 : Int32))] [(.ref b294)])
  obtain ⟨T474, X474, e474, st474⟩ := getF X0 hx hZ hown (host := "") (Or.inl (tw51 hw)) Via.refl e0 F_entries_b294 (g := (mkF m 1 #[.val (.ref b294), .val (.int (1 : Int32))] [(.ref b294)])) rfl rfl (hb hby d21_1)
  refine Go.step (fun _ k => st474 _ (XS.iloadN X474.here hx rfl (hb hby d21_4) rfl (XS.bipush X474.here hx rfl (hb hby d21_5) (XS.imul X474.here hx rfl (hb hby d21_7) rfl (XS.iconst X474.here hx rfl (hb hby d21_8) (XS.iadd X474.here hx rfl (hb hby d21_9) rfl k)))))) ?_
  show Go p e below s _ _ _ T474 (mkF m 10 #[.val (.ref b294), .val (.int (1 : Int32))] [(.int (9 : Int32)), (.ref b360_372_452)])
  obtain ⟨cl476, Ar476, -, Sz476, Ng476, Hs476, Ft476⟩ := id V_b360_372_452
  have in476 : ¬ ((9 : Int32) < 0 ∨ cl476.slots.size ≤ ((9 : Int32)).toNatClampNeg) := (inb_of Sz476 ⟨by decide, by decide⟩)
  have at476 : cl476.slots[((9 : Int32)).toNatClampNeg]? = some (.int p5) := Hs476.at in476 rfl
  refine Go.step (fun _ k => X474.iaload hx (j := (9 : Int32)) (v := (.int p5)) (by rw [e474]; exact Ar476.1) (State.isArrayOf_alike hZ.alike Ar476.2.1) Ar476.2.2 in476 at476 (g := (mkF m 10 #[.val (.ref b294), .val (.int (1 : Int32))] [(.int (9 : Int32)), (.ref b360_372_452)])) rfl rfl (hb hby d21_10) _ k) ?_
  show Go p e below s _ _ _ T474 (mkF m 11 #[.val (.ref b294), .val (.int (1 : Int32))] [(.int p5)])
  exact Go.retI X474 hx hlk Bd.returns (hb hby d21_11) e474 ⟨rfl, N0, rfl⟩ (by decide) (by decide)

theorem ef_PropertyIndex_valueStart_1 (m : MethodId) (x0 : Addr) (x1 : Int32) : entryFrame m #[(.ref x0), (.int x1)] 2 = mkF m 0 #[.val (.ref x0), .val (.int x1)] [] := by first | (simp [entryFrame, mkF, argsToLocals, Value.category]; done) | rfl
def Q_PropertyIndex_valueStart_1 (Z : State) (b294 : Addr) (b360_372_452 : Addr) (k360_372_452 : ClassId) (p2 : Int32) (p3 : Int32) (p4 : Int32) (p6 : Int32) (p5 : Int32) (v481 : Int32) (h0 : Heap) (n0 : Nat) (v : Option Value) (h : Heap) (L : List Loc) : Prop := v = some (.int p6) ∧ Fr n0 L ∧ h = h0
set_option maxRecDepth 65536 in
set_option maxHeartbeats 40000000 in
theorem rm_PropertyIndex_valueStart_1 (l : Launch) (Z : State) (a0 : Array Value) (hw : ∀ d ∈ tables_1, d.before a0 Z = true) (ws : List Jvm.Cond) (b294 : Addr) (b360_372_452 : Addr) (k360_372_452 : ClassId) (p2 : Int32) (p3 : Int32) (p4 : Int32) (p6 : Int32) (p5 : Int32) (v481 : Int32) (h0 : Heap) (n0 : Nat) (Z0 : n0 ≤ h0.size) (F_entries_b294 : Fld Z h0 b294 xs1 "entries" "[I" (.ref b360_372_452)) (V_b360_372_452 : Arv Z h0 b360_372_452 k360_372_452 .int (12 : Int32) [(.int (0 : Int32)), (.int (1 : Int32)), (.int p2), (.int p3), (.int p4), (.int (97 : Int32)), (.int (1 : Int32)), (.int (2 : Int32)), (.int p6), (.int p5), (.int v481), (.int (98 : Int32))] (.int (0 : Int32))) :
    MetFree l xm4 (head1 (Jvm.Cond.code xm4 prog_15_method_19_code 2 (some .int) :: ws) xr14) (fun a U => a = #[(.ref b294), (.int (1 : Int32))] ∧ Z.Warmed39 U.vm ∧ U.heap = h0) (fun _ _ _ _ _ => True) (fun _ U o U' => ∃ v L, o = .returned v ∧ Q_PropertyIndex_valueStart_1 Z b294 b360_372_452 k360_372_452 p2 p3 p4 p6 p5 v481 h0 n0 v U'.heap L ∧ FrameEnd U o U' L xr14.cells xr14.slots) := by
  refine MetFree.of_bodySF (plainFor_of_name pn_5) hisR ?_
  intro p e s m args below meth c s₁ Bd hml0 hP hK
  obtain ⟨rfl, hZ, hh⟩ := hP
  have hx := Bd.exec
  have hby := Bd.bytes
  have hlk : meth.locks = false := BodyLoose.notSynchronized Bd
  have hml : c.maxLocals = 2 := hml0
  have hown : s.vm.findClass xs1 = some m.cls := findClass_of_methodNamed Bd.named
  have hnm := (name_of_methodNamed Bd.named Bd.method).1
  have X0 : Stand p l e xr14 s m #[(.ref b294), (.int (1 : Int32))] below meth c s₁ [] 0 0 := Stand.of_body Bd
  have e0 : s₁.heap = h0 := by rw [← hh, Bd.state]; rfl
  have N0 := Fr.nil n0
  show Go p e below s (Q_PropertyIndex_valueStart_1 Z b294 b360_372_452 k360_372_452 p2 p3 p4 p6 p5 v481 h0 n0) xr14.cells xr14.slots s₁ (entryFrame m #[(.ref b294), (.int (1 : Int32))] 2)
  refine Go.cast (ef_PropertyIndex_valueStart_1 m b294 (1 : Int32)) ?_
  show Go p e below s _ _ _ s₁ (mkF m 0 #[.val (.ref b294), .val (.int (1 : Int32))] [])
  refine Go.step (fun _ k => XS.aloadN X0.here hx rfl (hb hby d22_0) rfl rfl k) ?_
  show Go p e below s _ _ _ s₁ (mkF m 1 #[.val (.ref b294), .val (.int (1 : Int32))] [(.ref b294)])
  obtain ⟨T480, X480, e480, st480⟩ := getF X0 hx hZ hown (host := "") (Or.inl (tw51 hw)) Via.refl e0 F_entries_b294 (g := (mkF m 1 #[.val (.ref b294), .val (.int (1 : Int32))] [(.ref b294)])) rfl rfl (hb hby d22_1)
  refine Go.step (fun _ k => st480 _ (XS.iloadN X480.here hx rfl (hb hby d22_4) rfl (XS.bipush X480.here hx rfl (hb hby d22_5) (XS.imul X480.here hx rfl (hb hby d22_7) rfl (XS.iconst X480.here hx rfl (hb hby d22_8) (XS.iadd X480.here hx rfl (hb hby d22_9) rfl k)))))) ?_
  show Go p e below s _ _ _ T480 (mkF m 10 #[.val (.ref b294), .val (.int (1 : Int32))] [(.int (8 : Int32)), (.ref b360_372_452)])
  obtain ⟨cl482, Ar482, -, Sz482, Ng482, Hs482, Ft482⟩ := id V_b360_372_452
  have in482 : ¬ ((8 : Int32) < 0 ∨ cl482.slots.size ≤ ((8 : Int32)).toNatClampNeg) := (inb_of Sz482 ⟨by decide, by decide⟩)
  have at482 : cl482.slots[((8 : Int32)).toNatClampNeg]? = some (.int p6) := Hs482.at in482 rfl
  refine Go.step (fun _ k => X480.iaload hx (j := (8 : Int32)) (v := (.int p6)) (by rw [e480]; exact Ar482.1) (State.isArrayOf_alike hZ.alike Ar482.2.1) Ar482.2.2 in482 at482 (g := (mkF m 10 #[.val (.ref b294), .val (.int (1 : Int32))] [(.int (8 : Int32)), (.ref b360_372_452)])) rfl rfl (hb hby d22_10) _ k) ?_
  show Go p e below s _ _ _ T480 (mkF m 11 #[.val (.ref b294), .val (.int (1 : Int32))] [(.int p6)])
  exact Go.retI X480 hx hlk Bd.returns (hb hby d22_11) e480 ⟨rfl, N0, rfl⟩ (by decide) (by decide)

theorem ef_PropertyIndex_line_1 (m : MethodId) (x0 : Addr) (x1 : Int32) : entryFrame m #[(.ref x0), (.int x1)] 2 = mkF m 0 #[.val (.ref x0), .val (.int x1)] [] := by first | (simp [entryFrame, mkF, argsToLocals, Value.category]; done) | rfl
def Q_PropertyIndex_line_1 (Z : State) (b294 : Addr) (b360_372_452 : Addr) (k360_372_452 : ClassId) (p2 : Int32) (p3 : Int32) (p4 : Int32) (p6 : Int32) (p5 : Int32) (v486 : Int32) (h0 : Heap) (n0 : Nat) (v : Option Value) (h : Heap) (L : List Loc) : Prop := v = some (.int v486) ∧ Fr n0 L ∧ h = h0
set_option maxRecDepth 65536 in
set_option maxHeartbeats 40000000 in
theorem rm_PropertyIndex_line_1 (l : Launch) (Z : State) (a0 : Array Value) (hw : ∀ d ∈ tables_1, d.before a0 Z = true) (ws : List Jvm.Cond) (b294 : Addr) (b360_372_452 : Addr) (k360_372_452 : ClassId) (p2 : Int32) (p3 : Int32) (p4 : Int32) (p6 : Int32) (p5 : Int32) (v486 : Int32) (h0 : Heap) (n0 : Nat) (Z0 : n0 ≤ h0.size) (F_entries_b294 : Fld Z h0 b294 xs1 "entries" "[I" (.ref b360_372_452)) (V_b360_372_452 : Arv Z h0 b360_372_452 k360_372_452 .int (12 : Int32) [(.int (0 : Int32)), (.int (1 : Int32)), (.int p2), (.int p3), (.int p4), (.int (97 : Int32)), (.int (1 : Int32)), (.int (2 : Int32)), (.int p6), (.int p5), (.int v486), (.int (98 : Int32))] (.int (0 : Int32))) :
    MetFree l xm20 (head1 (Jvm.Cond.code xm20 prog_15_method_18_code 2 (some .int) :: ws) xr14) (fun a U => a = #[(.ref b294), (.int (1 : Int32))] ∧ Z.Warmed39 U.vm ∧ U.heap = h0) (fun _ _ _ _ _ => True) (fun _ U o U' => ∃ v L, o = .returned v ∧ Q_PropertyIndex_line_1 Z b294 b360_372_452 k360_372_452 p2 p3 p4 p6 p5 v486 h0 n0 v U'.heap L ∧ FrameEnd U o U' L xr14.cells xr14.slots) := by
  refine MetFree.of_bodySF (plainFor_of_name pn_5) hisR ?_
  intro p e s m args below meth c s₁ Bd hml0 hP hK
  obtain ⟨rfl, hZ, hh⟩ := hP
  have hx := Bd.exec
  have hby := Bd.bytes
  have hlk : meth.locks = false := BodyLoose.notSynchronized Bd
  have hml : c.maxLocals = 2 := hml0
  have hown : s.vm.findClass xs1 = some m.cls := findClass_of_methodNamed Bd.named
  have hnm := (name_of_methodNamed Bd.named Bd.method).1
  have X0 : Stand p l e xr14 s m #[(.ref b294), (.int (1 : Int32))] below meth c s₁ [] 0 0 := Stand.of_body Bd
  have e0 : s₁.heap = h0 := by rw [← hh, Bd.state]; rfl
  have N0 := Fr.nil n0
  show Go p e below s (Q_PropertyIndex_line_1 Z b294 b360_372_452 k360_372_452 p2 p3 p4 p6 p5 v486 h0 n0) xr14.cells xr14.slots s₁ (entryFrame m #[(.ref b294), (.int (1 : Int32))] 2)
  refine Go.cast (ef_PropertyIndex_line_1 m b294 (1 : Int32)) ?_
  show Go p e below s _ _ _ s₁ (mkF m 0 #[.val (.ref b294), .val (.int (1 : Int32))] [])
  refine Go.step (fun _ k => XS.aloadN X0.here hx rfl (hb hby d23_0) rfl rfl k) ?_
  show Go p e below s _ _ _ s₁ (mkF m 1 #[.val (.ref b294), .val (.int (1 : Int32))] [(.ref b294)])
  obtain ⟨T485, X485, e485, st485⟩ := getF X0 hx hZ hown (host := "") (Or.inl (tw51 hw)) Via.refl e0 F_entries_b294 (g := (mkF m 1 #[.val (.ref b294), .val (.int (1 : Int32))] [(.ref b294)])) rfl rfl (hb hby d23_1)
  refine Go.step (fun _ k => st485 _ (XS.iloadN X485.here hx rfl (hb hby d23_4) rfl (XS.bipush X485.here hx rfl (hb hby d23_5) (XS.imul X485.here hx rfl (hb hby d23_7) rfl (XS.iconst X485.here hx rfl (hb hby d23_8) (XS.iadd X485.here hx rfl (hb hby d23_9) rfl k)))))) ?_
  show Go p e below s _ _ _ T485 (mkF m 10 #[.val (.ref b294), .val (.int (1 : Int32))] [(.int (10 : Int32)), (.ref b360_372_452)])
  obtain ⟨cl487, Ar487, -, Sz487, Ng487, Hs487, Ft487⟩ := id V_b360_372_452
  have in487 : ¬ ((10 : Int32) < 0 ∨ cl487.slots.size ≤ ((10 : Int32)).toNatClampNeg) := (inb_of Sz487 ⟨by decide, by decide⟩)
  have at487 : cl487.slots[((10 : Int32)).toNatClampNeg]? = some (.int v486) := Hs487.at in487 rfl
  refine Go.step (fun _ k => X485.iaload hx (j := (10 : Int32)) (v := (.int v486)) (by rw [e485]; exact Ar487.1) (State.isArrayOf_alike hZ.alike Ar487.2.1) Ar487.2.2 in487 at487 (g := (mkF m 10 #[.val (.ref b294), .val (.int (1 : Int32))] [(.int (10 : Int32)), (.ref b360_372_452)])) rfl rfl (hb hby d23_10) _ k) ?_
  show Go p e below s _ _ _ T485 (mkF m 11 #[.val (.ref b294), .val (.int (1 : Int32))] [(.int v486)])
  exact Go.retI X485 hx hlk Bd.returns (hb hby d23_11) e485 ⟨rfl, N0, rfl⟩ (by decide) (by decide)

theorem ef_PropertyIndex_valueStart_2 (m : MethodId) (x0 : Addr) (x1 : Int32) : entryFrame m #[(.ref x0), (.int x1)] 2 = mkF m 0 #[.val (.ref x0), .val (.int x1)] [] := by first | (simp [entryFrame, mkF, argsToLocals, Value.category]; done) | rfl
def Q_PropertyIndex_valueStart_2 (Z : State) (b294 : Addr) (b360_372_452 : Addr) (k360_372_452 : ClassId) (p2 : Int32) (p3 : Int32) (p4 : Int32) (p6 : Int32) (p5 : Int32) (v491 : Int32) (h0 : Heap) (n0 : Nat) (v : Option Value) (h : Heap) (L : List Loc) : Prop := v = some (.int p2) ∧ Fr n0 L ∧ h = h0
set_option maxRecDepth 65536 in
set_option maxHeartbeats 40000000 in
theorem rm_PropertyIndex_valueStart_2 (l : Launch) (Z : State) (a0 : Array Value) (hw : ∀ d ∈ tables_1, d.before a0 Z = true) (ws : List Jvm.Cond) (b294 : Addr) (b360_372_452 : Addr) (k360_372_452 : ClassId) (p2 : Int32) (p3 : Int32) (p4 : Int32) (p6 : Int32) (p5 : Int32) (v491 : Int32) (h0 : Heap) (n0 : Nat) (Z0 : n0 ≤ h0.size) (F_entries_b294 : Fld Z h0 b294 xs1 "entries" "[I" (.ref b360_372_452)) (V_b360_372_452 : Arv Z h0 b360_372_452 k360_372_452 .int (12 : Int32) [(.int (0 : Int32)), (.int (1 : Int32)), (.int p2), (.int p3), (.int p4), (.int (97 : Int32)), (.int (1 : Int32)), (.int (2 : Int32)), (.int p6), (.int p5), (.int v491), (.int (98 : Int32))] (.int (0 : Int32))) :
    MetFree l xm4 (head1 (Jvm.Cond.code xm4 prog_15_method_19_code 2 (some .int) :: ws) xr14) (fun a U => a = #[(.ref b294), (.int (0 : Int32))] ∧ Z.Warmed39 U.vm ∧ U.heap = h0) (fun _ _ _ _ _ => True) (fun _ U o U' => ∃ v L, o = .returned v ∧ Q_PropertyIndex_valueStart_2 Z b294 b360_372_452 k360_372_452 p2 p3 p4 p6 p5 v491 h0 n0 v U'.heap L ∧ FrameEnd U o U' L xr14.cells xr14.slots) := by
  refine MetFree.of_bodySF (plainFor_of_name pn_5) hisR ?_
  intro p e s m args below meth c s₁ Bd hml0 hP hK
  obtain ⟨rfl, hZ, hh⟩ := hP
  have hx := Bd.exec
  have hby := Bd.bytes
  have hlk : meth.locks = false := BodyLoose.notSynchronized Bd
  have hml : c.maxLocals = 2 := hml0
  have hown : s.vm.findClass xs1 = some m.cls := findClass_of_methodNamed Bd.named
  have hnm := (name_of_methodNamed Bd.named Bd.method).1
  have X0 : Stand p l e xr14 s m #[(.ref b294), (.int (0 : Int32))] below meth c s₁ [] 0 0 := Stand.of_body Bd
  have e0 : s₁.heap = h0 := by rw [← hh, Bd.state]; rfl
  have N0 := Fr.nil n0
  show Go p e below s (Q_PropertyIndex_valueStart_2 Z b294 b360_372_452 k360_372_452 p2 p3 p4 p6 p5 v491 h0 n0) xr14.cells xr14.slots s₁ (entryFrame m #[(.ref b294), (.int (0 : Int32))] 2)
  refine Go.cast (ef_PropertyIndex_valueStart_2 m b294 (0 : Int32)) ?_
  show Go p e below s _ _ _ s₁ (mkF m 0 #[.val (.ref b294), .val (.int (0 : Int32))] [])
  refine Go.step (fun _ k => XS.aloadN X0.here hx rfl (hb hby d22_0) rfl rfl k) ?_
  show Go p e below s _ _ _ s₁ (mkF m 1 #[.val (.ref b294), .val (.int (0 : Int32))] [(.ref b294)])
  obtain ⟨T490, X490, e490, st490⟩ := getF X0 hx hZ hown (host := "") (Or.inl (tw51 hw)) Via.refl e0 F_entries_b294 (g := (mkF m 1 #[.val (.ref b294), .val (.int (0 : Int32))] [(.ref b294)])) rfl rfl (hb hby d22_1)
  refine Go.step (fun _ k => st490 _ (XS.iloadN X490.here hx rfl (hb hby d22_4) rfl (XS.bipush X490.here hx rfl (hb hby d22_5) (XS.imul X490.here hx rfl (hb hby d22_7) rfl (XS.iconst X490.here hx rfl (hb hby d22_8) (XS.iadd X490.here hx rfl (hb hby d22_9) rfl k)))))) ?_
  show Go p e below s _ _ _ T490 (mkF m 10 #[.val (.ref b294), .val (.int (0 : Int32))] [(.int (2 : Int32)), (.ref b360_372_452)])
  obtain ⟨cl492, Ar492, -, Sz492, Ng492, Hs492, Ft492⟩ := id V_b360_372_452
  have in492 : ¬ ((2 : Int32) < 0 ∨ cl492.slots.size ≤ ((2 : Int32)).toNatClampNeg) := (inb_of Sz492 ⟨by decide, by decide⟩)
  have at492 : cl492.slots[((2 : Int32)).toNatClampNeg]? = some (.int p2) := Hs492.at in492 rfl
  refine Go.step (fun _ k => X490.iaload hx (j := (2 : Int32)) (v := (.int p2)) (by rw [e490]; exact Ar492.1) (State.isArrayOf_alike hZ.alike Ar492.2.1) Ar492.2.2 in492 at492 (g := (mkF m 10 #[.val (.ref b294), .val (.int (0 : Int32))] [(.int (2 : Int32)), (.ref b360_372_452)])) rfl rfl (hb hby d22_10) _ k) ?_
  show Go p e below s _ _ _ T490 (mkF m 11 #[.val (.ref b294), .val (.int (0 : Int32))] [(.int p2)])
  exact Go.retI X490 hx hlk Bd.returns (hb hby d22_11) e490 ⟨rfl, N0, rfl⟩ (by decide) (by decide)

theorem ef_PropertyIndex_valueEnd_2 (m : MethodId) (x0 : Addr) (x1 : Int32) : entryFrame m #[(.ref x0), (.int x1)] 2 = mkF m 0 #[.val (.ref x0), .val (.int x1)] [] := by first | (simp [entryFrame, mkF, argsToLocals, Value.category]; done) | rfl
def Q_PropertyIndex_valueEnd_2 (Z : State) (b294 : Addr) (b360_372_452 : Addr) (k360_372_452 : ClassId) (p2 : Int32) (p3 : Int32) (p4 : Int32) (p6 : Int32) (p5 : Int32) (v496 : Int32) (h0 : Heap) (n0 : Nat) (v : Option Value) (h : Heap) (L : List Loc) : Prop := v = some (.int p3) ∧ Fr n0 L ∧ h = h0
set_option maxRecDepth 65536 in
set_option maxHeartbeats 40000000 in
theorem rm_PropertyIndex_valueEnd_2 (l : Launch) (Z : State) (a0 : Array Value) (hw : ∀ d ∈ tables_1, d.before a0 Z = true) (ws : List Jvm.Cond) (b294 : Addr) (b360_372_452 : Addr) (k360_372_452 : ClassId) (p2 : Int32) (p3 : Int32) (p4 : Int32) (p6 : Int32) (p5 : Int32) (v496 : Int32) (h0 : Heap) (n0 : Nat) (Z0 : n0 ≤ h0.size) (F_entries_b294 : Fld Z h0 b294 xs1 "entries" "[I" (.ref b360_372_452)) (V_b360_372_452 : Arv Z h0 b360_372_452 k360_372_452 .int (12 : Int32) [(.int (0 : Int32)), (.int (1 : Int32)), (.int p2), (.int p3), (.int p4), (.int (97 : Int32)), (.int (1 : Int32)), (.int (2 : Int32)), (.int p6), (.int p5), (.int v496), (.int (98 : Int32))] (.int (0 : Int32))) :
    MetFree l xm10 (head1 (Jvm.Cond.code xm10 prog_15_method_20_code 2 (some .int) :: ws) xr14) (fun a U => a = #[(.ref b294), (.int (0 : Int32))] ∧ Z.Warmed39 U.vm ∧ U.heap = h0) (fun _ _ _ _ _ => True) (fun _ U o U' => ∃ v L, o = .returned v ∧ Q_PropertyIndex_valueEnd_2 Z b294 b360_372_452 k360_372_452 p2 p3 p4 p6 p5 v496 h0 n0 v U'.heap L ∧ FrameEnd U o U' L xr14.cells xr14.slots) := by
  refine MetFree.of_bodySF (plainFor_of_name pn_5) hisR ?_
  intro p e s m args below meth c s₁ Bd hml0 hP hK
  obtain ⟨rfl, hZ, hh⟩ := hP
  have hx := Bd.exec
  have hby := Bd.bytes
  have hlk : meth.locks = false := BodyLoose.notSynchronized Bd
  have hml : c.maxLocals = 2 := hml0
  have hown : s.vm.findClass xs1 = some m.cls := findClass_of_methodNamed Bd.named
  have hnm := (name_of_methodNamed Bd.named Bd.method).1
  have X0 : Stand p l e xr14 s m #[(.ref b294), (.int (0 : Int32))] below meth c s₁ [] 0 0 := Stand.of_body Bd
  have e0 : s₁.heap = h0 := by rw [← hh, Bd.state]; rfl
  have N0 := Fr.nil n0
  show Go p e below s (Q_PropertyIndex_valueEnd_2 Z b294 b360_372_452 k360_372_452 p2 p3 p4 p6 p5 v496 h0 n0) xr14.cells xr14.slots s₁ (entryFrame m #[(.ref b294), (.int (0 : Int32))] 2)
  refine Go.cast (ef_PropertyIndex_valueEnd_2 m b294 (0 : Int32)) ?_
  show Go p e below s _ _ _ s₁ (mkF m 0 #[.val (.ref b294), .val (.int (0 : Int32))] [])
  refine Go.step (fun _ k => XS.aloadN X0.here hx rfl (hb hby d21_0) rfl rfl k) ?_
  show Go p e below s _ _ _ s₁ (mkF m 1 #[.val (.ref b294), .val (.int (0 : Int32))] [(.ref b294)])
  obtain ⟨T495, X495, e495, st495⟩ := getF X0 hx hZ hown (host := "") (Or.inl (tw51 hw)) Via.refl e0 F_entries_b294 (g := (mkF m 1 #[.val (.ref b294), .val (.int (0 : Int32))] [(.ref b294)])) rfl rfl (hb hby d21_1)
  refine Go.step (fun _ k => st495 _ (XS.iloadN X495.here hx rfl (hb hby d21_4) rfl (XS.bipush X495.here hx rfl (hb hby d21_5) (XS.imul X495.here hx rfl (hb hby d21_7) rfl (XS.iconst X495.here hx rfl (hb hby d21_8) (XS.iadd X495.here hx rfl (hb hby d21_9) rfl k)))))) ?_
  show Go p e below s _ _ _ T495 (mkF m 10 #[.val (.ref b294), .val (.int (0 : Int32))] [(.int (3 : Int32)), (.ref b360_372_452)])
  obtain ⟨cl497, Ar497, -, Sz497, Ng497, Hs497, Ft497⟩ := id V_b360_372_452
  have in497 : ¬ ((3 : Int32) < 0 ∨ cl497.slots.size ≤ ((3 : Int32)).toNatClampNeg) := (inb_of Sz497 ⟨by decide, by decide⟩)
  have at497 : cl497.slots[((3 : Int32)).toNatClampNeg]? = some (.int p3) := Hs497.at in497 rfl
  refine Go.step (fun _ k => X495.iaload hx (j := (3 : Int32)) (v := (.int p3)) (by rw [e495]; exact Ar497.1) (State.isArrayOf_alike hZ.alike Ar497.2.1) Ar497.2.2 in497 at497 (g := (mkF m 10 #[.val (.ref b294), .val (.int (0 : Int32))] [(.int (3 : Int32)), (.ref b360_372_452)])) rfl rfl (hb hby d21_10) _ k) ?_
  show Go p e below s _ _ _ T495 (mkF m 11 #[.val (.ref b294), .val (.int (0 : Int32))] [(.int p3)])
  exact Go.retI X495 hx hlk Bd.returns (hb hby d21_11) e495 ⟨rfl, N0, rfl⟩ (by decide) (by decide)

theorem ef_PropertyIndex_line_2 (m : MethodId) (x0 : Addr) (x1 : Int32) : entryFrame m #[(.ref x0), (.int x1)] 2 = mkF m 0 #[.val (.ref x0), .val (.int x1)] [] := by first | (simp [entryFrame, mkF, argsToLocals, Value.category]; done) | rfl
def Q_PropertyIndex_line_2 (Z : State) (b294 : Addr) (b360_372_452 : Addr) (k360_372_452 : ClassId) (p2 : Int32) (p3 : Int32) (p4 : Int32) (p6 : Int32) (p5 : Int32) (v501 : Int32) (h0 : Heap) (n0 : Nat) (v : Option Value) (h : Heap) (L : List Loc) : Prop := v = some (.int p4) ∧ Fr n0 L ∧ h = h0
set_option maxRecDepth 65536 in
set_option maxHeartbeats 40000000 in
theorem rm_PropertyIndex_line_2 (l : Launch) (Z : State) (a0 : Array Value) (hw : ∀ d ∈ tables_1, d.before a0 Z = true) (ws : List Jvm.Cond) (b294 : Addr) (b360_372_452 : Addr) (k360_372_452 : ClassId) (p2 : Int32) (p3 : Int32) (p4 : Int32) (p6 : Int32) (p5 : Int32) (v501 : Int32) (h0 : Heap) (n0 : Nat) (Z0 : n0 ≤ h0.size) (F_entries_b294 : Fld Z h0 b294 xs1 "entries" "[I" (.ref b360_372_452)) (V_b360_372_452 : Arv Z h0 b360_372_452 k360_372_452 .int (12 : Int32) [(.int (0 : Int32)), (.int (1 : Int32)), (.int p2), (.int p3), (.int p4), (.int (97 : Int32)), (.int (1 : Int32)), (.int (2 : Int32)), (.int p6), (.int p5), (.int v501), (.int (98 : Int32))] (.int (0 : Int32))) :
    MetFree l xm20 (head1 (Jvm.Cond.code xm20 prog_15_method_18_code 2 (some .int) :: ws) xr14) (fun a U => a = #[(.ref b294), (.int (0 : Int32))] ∧ Z.Warmed39 U.vm ∧ U.heap = h0) (fun _ _ _ _ _ => True) (fun _ U o U' => ∃ v L, o = .returned v ∧ Q_PropertyIndex_line_2 Z b294 b360_372_452 k360_372_452 p2 p3 p4 p6 p5 v501 h0 n0 v U'.heap L ∧ FrameEnd U o U' L xr14.cells xr14.slots) := by
  refine MetFree.of_bodySF (plainFor_of_name pn_5) hisR ?_
  intro p e s m args below meth c s₁ Bd hml0 hP hK
  obtain ⟨rfl, hZ, hh⟩ := hP
  have hx := Bd.exec
  have hby := Bd.bytes
  have hlk : meth.locks = false := BodyLoose.notSynchronized Bd
  have hml : c.maxLocals = 2 := hml0
  have hown : s.vm.findClass xs1 = some m.cls := findClass_of_methodNamed Bd.named
  have hnm := (name_of_methodNamed Bd.named Bd.method).1
  have X0 : Stand p l e xr14 s m #[(.ref b294), (.int (0 : Int32))] below meth c s₁ [] 0 0 := Stand.of_body Bd
  have e0 : s₁.heap = h0 := by rw [← hh, Bd.state]; rfl
  have N0 := Fr.nil n0
  show Go p e below s (Q_PropertyIndex_line_2 Z b294 b360_372_452 k360_372_452 p2 p3 p4 p6 p5 v501 h0 n0) xr14.cells xr14.slots s₁ (entryFrame m #[(.ref b294), (.int (0 : Int32))] 2)
  refine Go.cast (ef_PropertyIndex_line_2 m b294 (0 : Int32)) ?_
  show Go p e below s _ _ _ s₁ (mkF m 0 #[.val (.ref b294), .val (.int (0 : Int32))] [])
  refine Go.step (fun _ k => XS.aloadN X0.here hx rfl (hb hby d23_0) rfl rfl k) ?_
  show Go p e below s _ _ _ s₁ (mkF m 1 #[.val (.ref b294), .val (.int (0 : Int32))] [(.ref b294)])
  obtain ⟨T500, X500, e500, st500⟩ := getF X0 hx hZ hown (host := "") (Or.inl (tw51 hw)) Via.refl e0 F_entries_b294 (g := (mkF m 1 #[.val (.ref b294), .val (.int (0 : Int32))] [(.ref b294)])) rfl rfl (hb hby d23_1)
  refine Go.step (fun _ k => st500 _ (XS.iloadN X500.here hx rfl (hb hby d23_4) rfl (XS.bipush X500.here hx rfl (hb hby d23_5) (XS.imul X500.here hx rfl (hb hby d23_7) rfl (XS.iconst X500.here hx rfl (hb hby d23_8) (XS.iadd X500.here hx rfl (hb hby d23_9) rfl k)))))) ?_
  show Go p e below s _ _ _ T500 (mkF m 10 #[.val (.ref b294), .val (.int (0 : Int32))] [(.int (4 : Int32)), (.ref b360_372_452)])
  obtain ⟨cl502, Ar502, -, Sz502, Ng502, Hs502, Ft502⟩ := id V_b360_372_452
  have in502 : ¬ ((4 : Int32) < 0 ∨ cl502.slots.size ≤ ((4 : Int32)).toNatClampNeg) := (inb_of Sz502 ⟨by decide, by decide⟩)
  have at502 : cl502.slots[((4 : Int32)).toNatClampNeg]? = some (.int p4) := Hs502.at in502 rfl
  refine Go.step (fun _ k => X500.iaload hx (j := (4 : Int32)) (v := (.int p4)) (by rw [e500]; exact Ar502.1) (State.isArrayOf_alike hZ.alike Ar502.2.1) Ar502.2.2 in502 at502 (g := (mkF m 10 #[.val (.ref b294), .val (.int (0 : Int32))] [(.int (4 : Int32)), (.ref b360_372_452)])) rfl rfl (hb hby d23_10) _ k) ?_
  show Go p e below s _ _ _ T500 (mkF m 11 #[.val (.ref b294), .val (.int (0 : Int32))] [(.int p4)])
  exact Go.retI X500 hx hlk Bd.returns (hb hby d23_11) e500 ⟨rfl, N0, rfl⟩ (by decide) (by decide)

theorem ef_law (m : MethodId) (x0 : Int32) (x1 : Int32) (x2 : Int32) (x3 : Int32) (x4 : Int32) (x5 : Int32) : entryFrame m #[(.int x0), (.int x1), (.int x2), (.int x3), (.int x4), (.int x5)] maxLocals = mkF m 0 #[.val (.int x0), .val (.int x1), .val (.int x2), .val (.int x3), .val (.int x4), .val (.int x5), .unset, .unset, .unset, .unset, .unset, .unset, .unset] [] := by first | (simp [entryFrame, mkF, argsToLocals, Value.category, maxLocals]; done) | rfl
def Q_law (Z : State) (p1 : Int32) (p2 : Int32) (p3 : Int32) (p4 : Int32) (p5 : Int32) (p6 : Int32) (cs : Int32) (fv : Value) (h0 : Heap) (n0 : Nat) (v : Option Value) (h : Heap) (L : List Loc) : Prop := v = some (.int (1 : Int32)) ∧ Fr n0 L
set_option maxRecDepth 65536 in
set_option maxHeartbeats 40000000 in
theorem rm_law (l : Launch) (Z : State) (a0 : Array Value) (hw : ∀ d ∈ tables_1, d.before a0 Z = true) (ws : List Jvm.Cond) (p1 : Int32) (p2 : Int32) (p3 : Int32) (p4 : Int32) (p5 : Int32) (p6 : Int32) (cs : Int32) (fv : Value) (h0 : Heap) (n0 : Nat) (Z0 : n0 ≤ h0.size) (O0 : Old Z n0 h0) (Z_S_COMPACT_STRINGS : Sta Z Z.heap xs18 xs20 "Z" (.int cs)) (hcs : ¬ cs = (0 : Int32)) (Z_S_SIOOBE_FORMATTER : Sta Z Z.heap xs5 xs17 xs6 fv) (hfv : fv.isRef = true) :
    MetFree l x (head1 (Jvm.Cond.code x code maxLocals ret :: ws) room_1) (fun a U => a = #[(.int p1), (.int p2), (.int p3), (.int p4), (.int p5), (.int p6)] ∧ Z.Warmed39 U.vm ∧ U.heap = h0) (fun _ _ _ _ _ => True) (fun _ U o U' => ∃ v L, o = .returned v ∧ Q_law Z p1 p2 p3 p4 p5 p6 cs fv h0 n0 v U'.heap L ∧ FrameEnd U o U' L room_1.cells room_1.slots) := by
  refine MetFree.of_bodySF (plainFor_of_name pn_8) hisR ?_
  intro p e s m args below meth c s₁ Bd hml0 hP hK
  obtain ⟨rfl, hZ, hh⟩ := hP
  have hx := Bd.exec
  have hby := Bd.bytes
  have hlk : meth.locks = false := BodyLoose.notSynchronized Bd
  have hml : c.maxLocals = 13 := hml0
  have hown : s.vm.findClass "com/example/vaatimus/vaatimus/io/PropertyIndexEndValuePinLaw" = some m.cls := findClass_of_methodNamed Bd.named
  have hnm := (name_of_methodNamed Bd.named Bd.method).1
  have X0 : Stand p l e room_1 s m #[(.int p1), (.int p2), (.int p3), (.int p4), (.int p5), (.int p6)] below meth c s₁ [] 0 0 := Stand.of_body Bd
  have e0 : s₁.heap = h0 := by rw [← hh, Bd.state]; rfl
  have N0 := Fr.nil n0
  show Go p e below s (Q_law Z p1 p2 p3 p4 p5 p6 cs fv h0 n0) room_1.cells room_1.slots s₁ (entryFrame m #[(.int p1), (.int p2), (.int p3), (.int p4), (.int p5), (.int p6)] maxLocals)
  refine Go.cast (ef_law m p1 p2 p3 p4 p5 p6) ?_
  show Go p e below s _ _ _ s₁ (mkF m 0 #[.val (.int p1), .val (.int p2), .val (.int p3), .val (.int p4), .val (.int p5), .val (.int p6), .unset, .unset, .unset, .unset, .unset, .unset, .unset] [])
  refine Go.step (fun _ k => XS.iloadN X0.here hx rfl (hb hby at_0) rfl (XS.iconst X0.here hx rfl (hb hby at_1) (XS.iand X0.here hx rfl (hb hby at_2) rfl k))) ?_
  show Go p e below s _ _ _ s₁ (mkF m 3 #[.val (.int p1), .val (.int p2), .val (.int p3), .val (.int p4), .val (.int p5), .val (.int p6), .unset, .unset, .unset, .unset, .unset, .unset, .unset] [(.int (p1 &&& (1 : Int32)))])
  by_cases hc1 : (p1 &&& (1 : Int32)) = (0 : Int32)
  · refine Go.step (fun _ k => XS.ifYes X0.here hx rfl (pc0 := 3) (pc' := 10) rfl (hb hby at_3) rfl ((if0 _ _).trans (teq hc1).1) (by decide) (by decide) (XS.iconst X0.here hx rfl (hb hby at_10) (XS.istore X0.here hx rfl (hb hby at_11) rfl (l' := #[.val (.int p1), .val (.int p2), .val (.int p3), .val (.int p4), .val (.int p5), .val (.int p6), .val (.int (0 : Int32)), .unset, .unset, .unset, .unset, .unset, .unset]) rfl k))) ?_
    show Go p e below s _ _ _ s₁ (mkF m 13 #[.val (.int p1), .val (.int p2), .val (.int p3), .val (.int p4), .val (.int p5), .val (.int p6), .val (.int (0 : Int32)), .unset, .unset, .unset, .unset, .unset, .unset] [])
    obtain ⟨T6, h6, X6, e6, E6, A6, D6, -, st6⟩ := newO X0 hx hZ hown (tw0 hw) (tw1 hw) (tw2 hw) e0 (g := (mkF m 13 #[.val (.int p1), .val (.int p2), .val (.int p3), .val (.int p4), .val (.int p5), .val (.int p6), .val (.int (0 : Int32)), .unset, .unset, .unset, .unset, .unset, .unset] [])) rfl (hb hby at_13) (by decide) (by decide)
    obtain ⟨b6, g6⟩ : ∃ z, z = h0.size := ⟨_, rfl⟩
    rw [← g6] at A6 D6 st6
    have f7 : Fld Z h6 b6 xs18 "coder" "B" (.int (0 : Int32)) := D6 (Or.inr (tw27 hw)) (ty := .byte) (by decide)
    have f8 : Fld Z h6 b6 xs18 "value" "[B" .null := D6 (Or.inr (tw29 hw)) (ty := (.array .byte)) (by decide)
    refine Go.step (fun _ k => st6 _ (XS.dup X6.here hx rfl (hb hby at_16) rfl rfl (XS.iconst X6.here hx rfl (hb hby at_17) k))) ?_
    show Go p e below s _ _ _ T6 (mkF m 18 #[.val (.int p1), .val (.int p2), .val (.int p3), .val (.int p4), .val (.int p5), .val (.int p6), .val (.int (0 : Int32)), .unset, .unset, .unset, .unset, .unset, .unset] [(.int (2 : Int32)), (.ref b6), (.ref b6)])
    obtain ⟨T9, h9, k9, X9, e9, E9, A9, st9⟩ := newP (aty := .char) X6 hx hZ (tw3 hw) e6 (g := (mkF m 18 #[.val (.int p1), .val (.int p2), .val (.int p3), .val (.int p4), .val (.int p5), .val (.int p6), .val (.int (0 : Int32)), .unset, .unset, .unset, .unset, .unset, .unset] [(.int (2 : Int32)), (.ref b6), (.ref b6)])) rfl (hb hby at_18) rfl (by decide) (cap := 2) (by decide) (by decide) (by decide) (by decide)
    obtain ⟨b9, g9⟩ : ∃ z, z = h6.size := ⟨_, rfl⟩
    rw [← g9] at A9 st9
    have f10 : Arv Z h9 b9 k9 .char (2 : Int32) [(.int (0 : Int32)), (.int (0 : Int32))] (.int (0 : Int32)) := (Arv.new A9 (by decide)).pad (pad_rep [] (.int (0 : Int32)) 2)
    refine Go.step (fun _ k => st9 _ (XS.dup X9.here hx rfl (hb hby at_20) rfl rfl (XS.iconst X9.here hx rfl (hb hby at_21) (XS.bipush X9.here hx rfl (hb hby at_22) k)))) ?_
    show Go p e below s _ _ _ T9 (mkF m 24 #[.val (.int p1), .val (.int p2), .val (.int p3), .val (.int p4), .val (.int p5), .val (.int p6), .val (.int (0 : Int32)), .unset, .unset, .unset, .unset, .unset, .unset] [(.int (97 : Int32)), (.int (0 : Int32)), (.ref b9), (.ref b9), (.ref b6), (.ref b6)])
    obtain ⟨cl11, Ar11, qq11, Sz11, Ng11, Hs11, Ft11⟩ := id f10
    have in11 : ¬ ((0 : Int32) < 0 ∨ cl11.slots.size ≤ ((0 : Int32)).toNatClampNeg) := (inb_of Sz11 ⟨by decide, by decide⟩)
    obtain ⟨T11, h11, X11, e11, W11, st11⟩ := stC X9 hx hZ e9 Ar11 (j := (0 : Int32)) in11 (g := (mkF m 24 #[.val (.int p1), .val (.int p2), .val (.int p3), .val (.int p4), .val (.int p5), .val (.int p6), .val (.int (0 : Int32)), .unset, .unset, .unset, .unset, .unset, .unset] [(.int (97 : Int32)), (.int (0 : Int32)), (.ref b9), (.ref b9), (.ref b6), (.ref b6)])) rfl rfl (hb hby at_24)
    have f12 := (Nat.le_trans Z0 E6.1)
    have g13 := Nat.le_trans f12 (Nat.le_of_eq g9.symm)
    have f14 : Arv Z h11 b9 k9 .char (2 : Int32) [(.int (97 : Int32)), (.int (0 : Int32))] (.int (0 : Int32)) := Arv.set Ar11 qq11 Sz11 Ng11 Hs11 Ft11 rfl W11 0 rfl (Nat.le_of_ble_eq_true rfl)
    have N15 := Fr.snoc X11 N0 g13
    refine Go.step (fun _ k => st11 _ (XS.dup X11.here hx rfl (hb hby at_25) rfl rfl (XS.iconst X11.here hx rfl (hb hby at_26) (XS.bipush X11.here hx rfl (hb hby at_27) k)))) ?_
    show Go p e below s _ _ _ T11 (mkF m 29 #[.val (.int p1), .val (.int p2), .val (.int p3), .val (.int p4), .val (.int p5), .val (.int p6), .val (.int (0 : Int32)), .unset, .unset, .unset, .unset, .unset, .unset] [(.int (98 : Int32)), (.int (1 : Int32)), (.ref b9), (.ref b9), (.ref b6), (.ref b6)])
    obtain ⟨cl16, Ar16, qq16, Sz16, Ng16, Hs16, Ft16⟩ := id f14
    have in16 : ¬ ((1 : Int32) < 0 ∨ cl16.slots.size ≤ ((1 : Int32)).toNatClampNeg) := (inb_of Sz16 ⟨by decide, by decide⟩)
    obtain ⟨T16, h16, X16, e16, W16, st16⟩ := stC X11 hx hZ e11 Ar16 (j := (1 : Int32)) in16 (g := (mkF m 29 #[.val (.int p1), .val (.int p2), .val (.int p3), .val (.int p4), .val (.int p5), .val (.int p6), .val (.int (0 : Int32)), .unset, .unset, .unset, .unset, .unset, .unset] [(.int (98 : Int32)), (.int (1 : Int32)), (.ref b9), (.ref b9), (.ref b6), (.ref b6)])) rfl rfl (hb hby at_29)
    have f17 : Arv Z h16 b9 k9 .char (2 : Int32) [(.int (97 : Int32)), (.int (98 : Int32))] (.int (0 : Int32)) := Arv.set Ar16 qq16 Sz16 Ng16 Hs16 Ft16 rfl W16 1 rfl (Nat.le_of_ble_eq_true rfl)
    have N18 := Fr.snoc X16 N15 g13
    refine Go.step (fun _ k => st16 _ k) ?_
    show Go p e below s _ _ _ T16 (mkF m 30 #[.val (.int p1), .val (.int p2), .val (.int p3), .val (.int p4), .val (.int p5), .val (.int p6), .val (.int (0 : Int32)), .unset, .unset, .unset, .unset, .unset, .unset] [(.ref b9), (.ref b6), (.ref b6)])
    have g51 := Nat.le_trans Z0 (Nat.le_of_eq g6.symm)
    have f68 := ((((O0.ext E6).ext E9).wr W11 g13).wr W16 g13)
    have f69 := (Nat.le_trans (Nat.le_trans (Nat.le_trans f12 E9.1) (Keep.of_wr W11).1) (Keep.of_wr W16).1)
    have f70 := (((A6.ext E9).wr W11).wr W16)
    have ne71 : b6 ≠ b9 := Nat.ne_of_lt (Nat.lt_of_lt_of_le A6.lt (Nat.le_of_eq g9.symm))
    have f72 := (((f7.ext E9).other W11 (Or.inl ne71)).other W16 (Or.inl ne71))
    have f73 := (((f8.ext E9).other W11 (Or.inl ne71)).other W16 (Or.inl ne71))
    obtain ⟨_, _, ⟨T74, L74, k74, n74⟩, -, X74, ⟨Lc74, hQ74, l74, y74, z74⟩, st74⟩ := X16.specialBack hx (y := xm7) rfl hown (mvT hZ (tw4 hw)) (mvT hZ (tw5 hw)) (mvT hZ (tw6 hw)) (by decide) (backOf (W := 1) (rm_String_new_0 l Z a0 hw [] b6 b9 k9 cs h16 n0 f69 f17 Z_S_COMPACT_STRINGS f68 hcs f70 f72 g51 f73) hZ (tw6 hw) (tw2 hw) (by decide) (by decide)) (g := (mkF m 30 #[.val (.int p1), .val (.int p2), .val (.int p3), .val (.int p4), .val (.int p5), .val (.int p6), .val (.int (0 : Int32)), .unset, .unset, .unset, .unset, .unset, .unset] [(.ref b9), (.ref b6), (.ref b6)])) rfl (by rw [hml]; rfl) (Steps.refl _) (a := b6) (argsL := [(.ref b9)]) (rest := [(.ref b6)]) (lenOf pd_5 rfl) rfl (by show 2 * 0 + _ ≤ _; exact Nat.le_of_eq rfl) (hb hby at_30) (fun _ _ => ⟨rfl, e16, (by decide : 2 + 1 ≤ _), (by decide : 6 + 2 ≤ _)⟩)
    dsimp only [Pt.U, Pt.locs, Pt.cells, Pt.slots] at X74 l74 y74 z74 st74 hQ74
    subst l74 y74 z74
    obtain ⟨b22_42_64_74, k22_42_64_74, rfl, N74q, K74, P74_0, P74_1, P74_2, P74_3⟩ := hQ74
    have N75 := Fr.app N18 N74q
    refine Go.step (fun _ k => st74.trans (XS.astore X74.here hx rfl (hb hby at_33) rfl rfl (l' := #[.val (.int p1), .val (.int p2), .val (.int p3), .val (.int p4), .val (.int p5), .val (.int p6), .val (.int (0 : Int32)), .val (.ref b6), .unset, .unset, .unset, .unset, .unset]) rfl k)) ?_
    show Go p e below s _ _ _ T74 (mkF m 35 #[.val (.int p1), .val (.int p2), .val (.int p3), .val (.int p4), .val (.int p5), .val (.int p6), .val (.int (0 : Int32)), .val (.ref b6), .unset, .unset, .unset, .unset, .unset] [])
    obtain ⟨T76, h76, X76, e76, E76, A76, D76, -, st76⟩ := newO X74 hx hZ hown (tw30 hw) (tw31 hw) (tw32 hw) rfl (g := (mkF m 35 #[.val (.int p1), .val (.int p2), .val (.int p3), .val (.int p4), .val (.int p5), .val (.int p6), .val (.int (0 : Int32)), .val (.ref b6), .unset, .unset, .unset, .unset, .unset] [])) rfl (hb hby at_35) (by decide) (by decide)
    obtain ⟨b76, g76⟩ : ∃ z, z = T74.heap.size := ⟨_, rfl⟩
    rw [← g76] at A76 D76 st76
    have f77 : Fld Z h76 b76 xs1 "text" xs14 .null := D76 (Or.inr (tw43 hw)) (ty := (.object xs18)) (by decide)
    have f78 : Fld Z h76 b76 xs1 "lineEnds" xs2 .null := D76 (Or.inr (tw45 hw)) (ty := (.object xs3)) (by decide)
    have f79 : Fld Z h76 b76 xs1 "entries" "[I" .null := D76 (Or.inl (tw52 hw)) (ty := (.array .int)) (by decide)
    have f80 : Fld Z h76 b76 xs1 "slots" "[I" .null := D76 (Or.inl (tw63 hw)) (ty := (.array .int)) (by decide)
    have f81 : Fld Z h76 b76 xs1 "keyed" "Z" (.int (0 : Int32)) := D76 (Or.inl (tw74 hw)) (ty := .boolean) (by decide)
    have f82 : Fld Z h76 b76 xs1 "size" "I" (.int (0 : Int32)) := D76 (Or.inl (tw105 hw)) (ty := .int) (by decide)
    refine Go.step (fun _ k => st76 _ (XS.dup X76.here hx rfl (hb hby at_38) rfl rfl (XS.aload X76.here hx rfl (hb hby at_39) rfl rfl (XS.aconstNull X76.here hx rfl (hb hby at_41) (XS.iconst X76.here hx rfl (hb hby at_42) k))))) ?_
    show Go p e below s _ _ _ T76 (mkF m 43 #[.val (.int p1), .val (.int p2), .val (.int p3), .val (.int p4), .val (.int p5), .val (.int p6), .val (.int (0 : Int32)), .val (.ref b6), .unset, .unset, .unset, .unset, .unset] [(.int (1 : Int32)), .null, (.ref b6), (.ref b76), (.ref b76)])
    have f87 := (Nat.le_trans f69 K74.1)
    have g88 := Nat.le_trans f87 (Nat.le_of_eq g76.symm)
    have f136 := (Nat.le_trans f87 E76.1)
    obtain ⟨_, _, ⟨T137, L137, k137, n137⟩, -, X137, ⟨Lc137, hQ137, l137, y137, z137⟩, st137⟩ := X76.specialBack hx (y := xm22) rfl hown (mvT hZ (tw33 hw)) (mvT hZ (tw34 hw)) (mvT hZ (tw35 hw)) (by decide) (backOf (W := 1) (rm_PropertyIndex_new_0 l Z a0 hw [] b76 b6 h76 n0 f136 A76 f77 g88 f78 f79 f80 f81 f82) hZ (tw35 hw) (tw32 hw) (by decide) (by decide)) (g := (mkF m 43 #[.val (.int p1), .val (.int p2), .val (.int p3), .val (.int p4), .val (.int p5), .val (.int p6), .val (.int (0 : Int32)), .val (.ref b6), .unset, .unset, .unset, .unset, .unset] [(.int (1 : Int32)), .null, (.ref b6), (.ref b76), (.ref b76)])) rfl (by rw [hml]; rfl) (Steps.refl _) (a := b76) (argsL := [(.ref b6), .null, (.int (1 : Int32))]) (rest := [(.ref b76)]) (lenOf pd_9 rfl) rfl (by show 2 * 0 + _ ≤ _; exact Nat.le_of_eq rfl) (hb hby at_43) (fun _ _ => ⟨rfl, e76, (by decide : 4 + 2 ≤ _), (by decide : 16 + 10 ≤ _)⟩)
    dsimp only [Pt.U, Pt.locs, Pt.cells, Pt.slots] at X137 l137 y137 z137 st137 hQ137
    subst l137 y137 z137
    obtain ⟨b99_137, k99_137, b111_137, k111_137, rfl, N137q, K137, P137_0, P137_1, P137_2, P137_3, P137_4, P137_5, P137_6, P137_7, P137_8, P137_9, P137_10⟩ := hQ137
    have N138 := Fr.app N75 N137q
    refine Go.step (fun _ k => st137.trans (XS.astore X137.here hx rfl (hb hby at_46) rfl rfl (l' := #[.val (.int p1), .val (.int p2), .val (.int p3), .val (.int p4), .val (.int p5), .val (.int p6), .val (.int (0 : Int32)), .val (.ref b6), .val (.ref b76), .unset, .unset, .unset, .unset]) rfl (XS.aload X137.here hx rfl (hb hby at_48) rfl rfl (XS.iconst X137.here hx rfl (hb hby at_50) (XS.iconst X137.here hx rfl (hb hby at_51) (XS.iloadN X137.here hx rfl (hb hby at_52) rfl (XS.iloadN X137.here hx rfl (hb hby at_53) rfl (XS.iloadN X137.here hx rfl (hb hby at_54) rfl k)))))))) ?_
    show Go p e below s _ _ _ T137 (mkF m 55 #[.val (.int p1), .val (.int p2), .val (.int p3), .val (.int p4), .val (.int p5), .val (.int p6), .val (.int (0 : Int32)), .val (.ref b6), .val (.ref b76), .unset, .unset, .unset, .unset] [(.int p4), (.int p3), (.int p2), (.int (1 : Int32)), (.int (0 : Int32)), (.ref b76)])
    have g176 := Nat.le_trans f136 P137_6
    have ne179 : b76 ≠ b99_137 := Nat.ne_of_lt (Nat.lt_of_lt_of_le A76.lt P137_6)
    have ne214 : b76 ≠ b111_137 := Nat.ne_of_lt (Nat.lt_of_lt_of_le A76.lt P137_8)
    have g217 := Nat.le_trans f136 P137_8
    have f231 := (((f68.keep K74 (allS g51 all0)).ext E76).keep K137 (allS g88 all0))
    have f232 := (Nat.le_trans f136 K137.1)
    have f233 := (((f70.keep K74).ext E76).keep K137)
    have f234 := (f70.keep K74)
    have ne235 : b6 ≠ b76 := Nat.ne_of_lt (Nat.lt_of_lt_of_le f234.lt (Nat.le_of_eq g76.symm))
    have f236 := ((P74_0.ext E76).keep K137 (ninS ne235 nin0))
    have f237 := ((P74_1.ext E76).keep K137 (ninS ne235 nin0))
    have ne238 : b22_42_64_74 ≠ b76 := Nat.ne_of_lt (Nat.lt_of_lt_of_le P74_3.lt (Nat.le_of_eq g76.symm))
    have f239 := ((P74_3.ext E76).keep K137 (ninS ne238 nin0))
    have f240 := (A76.keep K137)
    obtain ⟨cq241, kq241, q241a, q241b, q241c⟩ := isOf hZ rfl f240
    obtain ⟨_, _, ⟨T241, L241, k241, n241⟩, -, X241, ⟨Lc241, hQ241, l241, y241, z241⟩, st241⟩ := X137.virtualBack hx (y := xm13) (z := xm13) hown (mvT hZ (tw64 hw)) (mvT hZ (tw65 hw)) (notFace_of_selects (args := #[]) (mvT hZ (tw67 hw))) (mvT hZ (tw67 hw)) (mvT hZ (tw66 hw)) (by decide) (backOf (W := 0) (rm_PropertyIndex_add_0 l Z a0 hw [] b76 p2 p3 p4 b6 cs b22_42_64_74 k22_42_64_74 fv b111_137 k111_137 b99_137 k99_137 T137.heap n0 f232 P137_0 P137_4 f233 Z_S_COMPACT_STRINGS f231 hcs f236 f237 f239 Z_S_SIOOBE_FORMATTER hfv f240 P137_3 P137_9 P137_5 P137_2 P137_7 g176 ne179 g88 (Ne.symm P137_10) (Ne.symm ne214) g217 P137_1) hZ (tw68 hw) (tw32 hw) (by decide) (by decide)) q241a q241c (g := (mkF m 55 #[.val (.int p1), .val (.int p2), .val (.int p3), .val (.int p4), .val (.int p5), .val (.int p6), .val (.int (0 : Int32)), .val (.ref b6), .val (.ref b76), .unset, .unset, .unset, .unset] [(.int p4), (.int p3), (.int p2), (.int (1 : Int32)), (.int (0 : Int32)), (.ref b76)])) rfl (by rw [hml]; rfl) (Steps.refl _) (argsL := [(.int (0 : Int32)), (.int (1 : Int32)), (.int p2), (.int p3), (.int p4)]) (rest := []) (lenOf pd_16 rfl) rfl (by show 2 * 0 + _ ≤ _; exact Nat.le_of_eq rfl) (hb hby at_55) (fun _ _ => ⟨rfl, rfl, (by decide : 6 + 0 ≤ _), (by decide : 26 + 0 ≤ _)⟩)
    dsimp only [Pt.U, Pt.locs, Pt.cells, Pt.slots] at X241 l241 y241 z241 st241 hQ241
    subst l241 y241 z241
    obtain ⟨rfl, N241q, K241, P241_0, P241_1, P241_2, P241_3, P241_4, P241_5, P241_6, P241_7⟩ := hQ241
    have N242 := Fr.app N138 N241q
    refine Go.step (fun _ k => st241.trans (XS.istore X241.here hx rfl (hb hby at_58) rfl (l' := #[.val (.int p1), .val (.int p2), .val (.int p3), .val (.int p4), .val (.int p5), .val (.int p6), .val (.int (0 : Int32)), .val (.ref b6), .val (.ref b76), .val (.int (-1 : Int32)), .unset, .unset, .unset]) rfl (XS.iconst X241.here hx rfl (hb hby at_60) (XS.istore X241.here hx rfl (hb hby at_61) rfl (l' := #[.val (.int p1), .val (.int p2), .val (.int p3), .val (.int p4), .val (.int p5), .val (.int p6), .val (.int (0 : Int32)), .val (.ref b6), .val (.ref b76), .val (.int (-1 : Int32)), .val (.int (-1 : Int32)), .unset, .unset]) rfl (XS.iload X241.here hx rfl (hb hby at_63) rfl (XS.ifYes X241.here hx rfl (pc0 := 65) (pc' := 86) rfl (hb hby at_65) rfl ((if0 _ _).trans (teq (by decide)).1) (by decide) (by decide) (XS.aload X241.here hx rfl (hb hby at_86) rfl rfl (XS.iload X241.here hx rfl (hb hby at_88) rfl k)))))))) ?_
    show Go p e below s _ _ _ T241 (mkF m 90 #[.val (.int p1), .val (.int p2), .val (.int p3), .val (.int p4), .val (.int p5), .val (.int p6), .val (.int (0 : Int32)), .val (.ref b6), .val (.ref b76), .val (.int (-1 : Int32)), .val (.int (-1 : Int32)), .unset, .unset] [(.int p5), (.ref b76)])
    have f249 := (Nat.le_trans f232 K241.1)
    have f251 := (f240.keep K241)
    obtain ⟨cq250, kq250, q250a, q250b, q250c⟩ := isOf hZ rfl f251
    obtain ⟨_, _, ⟨T250, L250, k250, n250⟩, -, X250, ⟨Lc250, hQ250, l250, y250, z250⟩, st250⟩ := X241.virtualBack hx (y := xm9) (z := xm9) hown (mvT hZ (tw106 hw)) (mvT hZ (tw107 hw)) (notFace_of_selects (args := #[]) (mvT hZ (tw109 hw))) (mvT hZ (tw109 hw)) (mvT hZ (tw108 hw)) (by decide) (backOf (W := 0) (rm_PropertyIndex_endValue_0 l Z a0 hw [] b76 p5 b99_137 k99_137 p2 p3 p4 T241.heap n0 f249 P241_5 P241_4 P241_0 g176) hZ (tw110 hw) (tw32 hw) (by decide) (by decide)) q250a q250c (g := (mkF m 90 #[.val (.int p1), .val (.int p2), .val (.int p3), .val (.int p4), .val (.int p5), .val (.int p6), .val (.int (0 : Int32)), .val (.ref b6), .val (.ref b76), .val (.int (-1 : Int32)), .val (.int (-1 : Int32)), .unset, .unset] [(.int p5), (.ref b76)])) rfl (by rw [hml]; rfl) (Steps.refl _) (argsL := [(.int p5)]) (rest := []) (lenOf pd_17 rfl) rfl (by show 2 * 0 + _ ≤ _; exact Nat.le_of_eq rfl) (hb hby at_90) (fun _ _ => ⟨rfl, rfl, (by decide : 6 + 0 ≤ _), (by decide : 26 + 0 ≤ _)⟩)
    dsimp only [Pt.U, Pt.locs, Pt.cells, Pt.slots] at X250 l250 y250 z250 st250 hQ250
    subst l250 y250 z250
    obtain ⟨rfl, N250q, K250, P250_0⟩ := hQ250
    have N252 := Fr.app N242 N250q
    refine Go.step (fun _ k => st250.trans (XS.iload X250.here hx rfl (hb hby at_93) rfl (XS.ifYes X250.here hx rfl (pc0 := 95) (pc' := 102) rfl (hb hby at_95) rfl ((if0 _ _).trans (teq (by decide)).1) (by decide) (by decide) (XS.iconst X250.here hx rfl (hb hby at_102) (XS.istore X250.here hx rfl (hb hby at_103) rfl (l' := #[.val (.int p1), .val (.int p2), .val (.int p3), .val (.int p4), .val (.int p5), .val (.int p6), .val (.int (0 : Int32)), .val (.ref b6), .val (.ref b76), .val (.int (-1 : Int32)), .val (.int (-1 : Int32)), .val (.int (0 : Int32)), .unset]) rfl (XS.iload X250.here hx rfl (hb hby at_105) rfl (XS.iconst X250.here hx rfl (hb hby at_107) (XS.icmpNo X250.here hx rfl (hb hby at_108) rfl (teq (by decide)).2 (XS.iload X250.here hx rfl (hb hby at_111) rfl (XS.iconst X250.here hx rfl (hb hby at_113) k)))))))))) ?_
    show Go p e below s _ _ _ T250 (mkF m 114 #[.val (.int p1), .val (.int p2), .val (.int p3), .val (.int p4), .val (.int p5), .val (.int p6), .val (.int (0 : Int32)), .val (.ref b6), .val (.ref b76), .val (.int (-1 : Int32)), .val (.int (-1 : Int32)), .val (.int (0 : Int32)), .unset] [(.int (-1 : Int32)), (.int (-1 : Int32))])
    refine Go.step (fun _ k => XS.icmpNo X250.here hx rfl (hb hby at_114) rfl (teq (by decide)).2 (XS.aload X250.here hx rfl (hb hby at_117) rfl rfl k)) ?_
    show Go p e below s _ _ _ T250 (mkF m 119 #[.val (.int p1), .val (.int p2), .val (.int p3), .val (.int p4), .val (.int p5), .val (.int p6), .val (.int (0 : Int32)), .val (.ref b6), .val (.ref b76), .val (.int (-1 : Int32)), .val (.int (-1 : Int32)), .val (.int (0 : Int32)), .unset] [(.ref b76)])
    have f254 := (Nat.le_trans f249 K250.1)
    have f255 := (P241_4.keep K250 (ninS ne179 nin0))
    have f257 := (f251.keep K250)
    obtain ⟨cq256, kq256, q256a, q256b, q256c⟩ := isOf hZ rfl f257
    obtain ⟨_, _, ⟨T256, L256, k256, n256⟩, -, X256, ⟨Lc256, hQ256, l256, y256, z256⟩, st256⟩ := X250.virtualBack hx (y := xm23) (z := xm23) hown (mvT hZ (tw111 hw)) (mvT hZ (tw112 hw)) (notFace_of_selects (args := #[]) (mvT hZ (tw114 hw))) (mvT hZ (tw114 hw)) (mvT hZ (tw113 hw)) (by decide) (backOf (W := 0) (rm_PropertyIndex_size_0 l Z a0 hw [] b76 T250.heap n0 f254 f255) hZ (tw115 hw) (tw32 hw) (by decide) (by decide)) q256a q256c (g := (mkF m 119 #[.val (.int p1), .val (.int p2), .val (.int p3), .val (.int p4), .val (.int p5), .val (.int p6), .val (.int (0 : Int32)), .val (.ref b6), .val (.ref b76), .val (.int (-1 : Int32)), .val (.int (-1 : Int32)), .val (.int (0 : Int32)), .unset] [(.ref b76)])) rfl (by rw [hml]; rfl) (Steps.refl _) (argsL := []) (rest := []) (lenOf pd_18 rfl) rfl (by show 2 * 0 + _ ≤ _; exact Nat.le_of_eq rfl) (hb hby at_119) (fun _ _ => ⟨rfl, rfl, (by decide : 6 + 0 ≤ _), (by decide : 26 + 0 ≤ _)⟩)
    dsimp only [Pt.U, Pt.locs, Pt.cells, Pt.slots] at X256 l256 y256 z256 st256 hQ256
    subst l256 y256 z256
    obtain ⟨rfl, N256q, eq256⟩ := hQ256
    have N258 := Fr.app N252 N256q
    refine Go.step (fun _ k => st256.trans (XS.iload X256.here hx rfl (hb hby at_122) rfl (XS.iconst X256.here hx rfl (hb hby at_124) (XS.iadd X256.here hx rfl (hb hby at_125) rfl (XS.icmpNo X256.here hx rfl (hb hby at_126) rfl (teq (by decide)).2 (XS.aload X256.here hx rfl (hb hby at_129) rfl rfl (XS.iload X256.here hx rfl (hb hby at_131) rfl k))))))) ?_
    show Go p e below s _ _ _ T256 (mkF m 133 #[.val (.int p1), .val (.int p2), .val (.int p3), .val (.int p4), .val (.int p5), .val (.int p6), .val (.int (0 : Int32)), .val (.ref b6), .val (.ref b76), .val (.int (-1 : Int32)), .val (.int (-1 : Int32)), .val (.int (0 : Int32)), .unset] [(.int (0 : Int32)), (.ref b76)])
    have f261 := (P241_5.keep K250 (ninS ne179 nin0))
    obtain ⟨cq262, kq262, q262a, q262b, q262c⟩ := isOf hZ eq256 f257
    obtain ⟨_, _, ⟨T262, L262, k262, n262⟩, -, X262, ⟨Lc262, hQ262, l262, y262, z262⟩, st262⟩ := X256.virtualBack hx (y := xm10) (z := xm10) hown (mvT hZ (tw116 hw)) (mvT hZ (tw117 hw)) (notFace_of_selects (args := #[]) (mvT hZ (tw119 hw))) (mvT hZ (tw119 hw)) (mvT hZ (tw118 hw)) (by decide) (backOf (W := 0) (rm_PropertyIndex_valueEnd_0 l Z a0 hw [] b76 b99_137 k99_137 p2 p5 p4 T250.heap n0 f254 f261 P250_0) hZ (tw120 hw) (tw32 hw) (by decide) (by decide)) q262a q262c (g := (mkF m 133 #[.val (.int p1), .val (.int p2), .val (.int p3), .val (.int p4), .val (.int p5), .val (.int p6), .val (.int (0 : Int32)), .val (.ref b6), .val (.ref b76), .val (.int (-1 : Int32)), .val (.int (-1 : Int32)), .val (.int (0 : Int32)), .unset] [(.int (0 : Int32)), (.ref b76)])) rfl (by rw [hml]; rfl) (Steps.refl _) (argsL := [(.int (0 : Int32))]) (rest := []) (lenOf pd_8 rfl) rfl (by show 2 * 0 + _ ≤ _; exact Nat.le_of_eq rfl) (hb hby at_133) (fun _ _ => ⟨rfl, eq256, (by decide : 6 + 0 ≤ _), (by decide : 26 + 0 ≤ _)⟩)
    dsimp only [Pt.U, Pt.locs, Pt.cells, Pt.slots] at X262 l262 y262 z262 st262 hQ262
    subst l262 y262 z262
    obtain ⟨rfl, N262q, eq262⟩ := hQ262
    have N263 := Fr.app N258 N262q
    refine Go.step (fun _ k => st262.trans (XS.iload X262.here hx rfl (hb hby at_136) rfl (XS.icmpNo X262.here hx rfl (hb hby at_138) rfl (teq rfl).2 (XS.iconst X262.here hx rfl (hb hby at_141) (XS.goto X262.here hx rfl (pc0 := 142) (pc' := 146) rfl (hb hby at_142) (by decide) (by decide) (XS.istore X262.here hx rfl (hb hby at_146) rfl (l' := #[.val (.int p1), .val (.int p2), .val (.int p3), .val (.int p4), .val (.int p5), .val (.int p6), .val (.int (0 : Int32)), .val (.ref b6), .val (.ref b76), .val (.int (-1 : Int32)), .val (.int (-1 : Int32)), .val (.int (0 : Int32)), .val (.int (1 : Int32))]) rfl (XS.iload X262.here hx rfl (hb hby at_148) rfl (XS.ifYes X262.here hx rfl (pc0 := 150) (pc' := 221) rfl (hb hby at_150) rfl ((if0 _ _).trans (teq (by decide)).1) (by decide) (by decide) (XS.iload X262.here hx rfl (hb hby at_221) rfl (XS.ifNo X262.here hx rfl (hb hby at_223) rfl ((if0 _ _).trans (feq (by decide)).1) k)))))))))) ?_
    show Go p e below s _ _ _ T262 (mkF m 226 #[.val (.int p1), .val (.int p2), .val (.int p3), .val (.int p4), .val (.int p5), .val (.int p6), .val (.int (0 : Int32)), .val (.ref b6), .val (.ref b76), .val (.int (-1 : Int32)), .val (.int (-1 : Int32)), .val (.int (0 : Int32)), .val (.int (1 : Int32))] [])
    refine Go.step (fun _ k => XS.aload X262.here hx rfl (hb hby at_226) rfl rfl (XS.iconst X262.here hx rfl (hb hby at_228) k)) ?_
    show Go p e below s _ _ _ T262 (mkF m 229 #[.val (.int p1), .val (.int p2), .val (.int p3), .val (.int p4), .val (.int p5), .val (.int p6), .val (.int (0 : Int32)), .val (.ref b6), .val (.ref b76), .val (.int (-1 : Int32)), .val (.int (-1 : Int32)), .val (.int (0 : Int32)), .val (.int (1 : Int32))] [(.int (0 : Int32)), (.ref b76)])
    obtain ⟨cq266, kq266, q266a, q266b, q266c⟩ := isOf hZ eq262 f257
    obtain ⟨_, _, ⟨T266, L266, k266, n266⟩, -, X266, ⟨Lc266, hQ266, l266, y266, z266⟩, st266⟩ := X262.virtualBack hx (y := xm4) (z := xm4) hown (mvT hZ (tw121 hw)) (mvT hZ (tw122 hw)) (notFace_of_selects (args := #[]) (mvT hZ (tw124 hw))) (mvT hZ (tw124 hw)) (mvT hZ (tw123 hw)) (by decide) (backOf (W := 0) (rm_PropertyIndex_valueStart_0 l Z a0 hw [] b76 b99_137 k99_137 p2 p5 p4 T250.heap n0 f254 f261 P250_0) hZ (tw125 hw) (tw32 hw) (by decide) (by decide)) q266a q266c (g := (mkF m 229 #[.val (.int p1), .val (.int p2), .val (.int p3), .val (.int p4), .val (.int p5), .val (.int p6), .val (.int (0 : Int32)), .val (.ref b6), .val (.ref b76), .val (.int (-1 : Int32)), .val (.int (-1 : Int32)), .val (.int (0 : Int32)), .val (.int (1 : Int32))] [(.int (0 : Int32)), (.ref b76)])) rfl (by rw [hml]; rfl) (Steps.refl _) (argsL := [(.int (0 : Int32))]) (rest := []) (lenOf pd_8 rfl) rfl (by show 2 * 0 + _ ≤ _; exact Nat.le_of_eq rfl) (hb hby at_229) (fun _ _ => ⟨rfl, eq262, (by decide : 6 + 0 ≤ _), (by decide : 26 + 0 ≤ _)⟩)
    dsimp only [Pt.U, Pt.locs, Pt.cells, Pt.slots] at X266 l266 y266 z266 st266 hQ266
    subst l266 y266 z266
    obtain ⟨rfl, N266q, eq266⟩ := hQ266
    have N267 := Fr.app N263 N266q
    refine Go.step (fun _ k => st266.trans (XS.iloadN X266.here hx rfl (hb hby at_232) rfl (XS.icmpNo X266.here hx rfl (hb hby at_233) rfl (teq rfl).2 (XS.aload X266.here hx rfl (hb hby at_236) rfl rfl (XS.iconst X266.here hx rfl (hb hby at_238) k))))) ?_
    show Go p e below s _ _ _ T266 (mkF m 239 #[.val (.int p1), .val (.int p2), .val (.int p3), .val (.int p4), .val (.int p5), .val (.int p6), .val (.int (0 : Int32)), .val (.ref b6), .val (.ref b76), .val (.int (-1 : Int32)), .val (.int (-1 : Int32)), .val (.int (0 : Int32)), .val (.int (1 : Int32))] [(.int (0 : Int32)), (.ref b76)])
    obtain ⟨cq270, kq270, q270a, q270b, q270c⟩ := isOf hZ eq266 f257
    obtain ⟨_, _, ⟨T270, L270, k270, n270⟩, -, X270, ⟨Lc270, hQ270, l270, y270, z270⟩, st270⟩ := X266.virtualBack hx (y := xm20) (z := xm20) hown (mvT hZ (tw126 hw)) (mvT hZ (tw127 hw)) (notFace_of_selects (args := #[]) (mvT hZ (tw129 hw))) (mvT hZ (tw129 hw)) (mvT hZ (tw128 hw)) (by decide) (backOf (W := 0) (rm_PropertyIndex_line_0 l Z a0 hw [] b76 b99_137 k99_137 p2 p5 p4 T250.heap n0 f254 f261 P250_0) hZ (tw130 hw) (tw32 hw) (by decide) (by decide)) q270a q270c (g := (mkF m 239 #[.val (.int p1), .val (.int p2), .val (.int p3), .val (.int p4), .val (.int p5), .val (.int p6), .val (.int (0 : Int32)), .val (.ref b6), .val (.ref b76), .val (.int (-1 : Int32)), .val (.int (-1 : Int32)), .val (.int (0 : Int32)), .val (.int (1 : Int32))] [(.int (0 : Int32)), (.ref b76)])) rfl (by rw [hml]; rfl) (Steps.refl _) (argsL := [(.int (0 : Int32))]) (rest := []) (lenOf pd_8 rfl) rfl (by show 2 * 0 + _ ≤ _; exact Nat.le_of_eq rfl) (hb hby at_239) (fun _ _ => ⟨rfl, eq266, (by decide : 6 + 0 ≤ _), (by decide : 26 + 0 ≤ _)⟩)
    dsimp only [Pt.U, Pt.locs, Pt.cells, Pt.slots] at X270 l270 y270 z270 st270 hQ270
    subst l270 y270 z270
    obtain ⟨rfl, N270q, eq270⟩ := hQ270
    have N271 := Fr.app N267 N270q
    refine Go.step (fun _ k => st270.trans (XS.iloadN X270.here hx rfl (hb hby at_242) rfl (XS.icmpNo X270.here hx rfl (hb hby at_243) rfl (teq rfl).2 (XS.iconst X270.here hx rfl (hb hby at_246) (XS.goto X270.here hx rfl (pc0 := 247) (pc' := 251) rfl (hb hby at_247) (by decide) (by decide) (XS.istore X270.here hx rfl (hb hby at_251) rfl (l' := #[.val (.int p1), .val (.int p2), .val (.int p3), .val (.int p4), .val (.int p5), .val (.int p6), .val (.int (0 : Int32)), .val (.ref b6), .val (.ref b76), .val (.int (-1 : Int32)), .val (.int (-1 : Int32)), .val (.int (0 : Int32)), .val (.int (1 : Int32))]) rfl (XS.iload X270.here hx rfl (hb hby at_253) rfl k))))))) ?_
    show Go p e below s _ _ _ T270 (mkF m 255 #[.val (.int p1), .val (.int p2), .val (.int p3), .val (.int p4), .val (.int p5), .val (.int p6), .val (.int (0 : Int32)), .val (.ref b6), .val (.ref b76), .val (.int (-1 : Int32)), .val (.int (-1 : Int32)), .val (.int (0 : Int32)), .val (.int (1 : Int32))] [(.int (1 : Int32))])
    exact Go.retN X270 hx hlk (t := .boolean) Bd.returns (by simp) (hb hby at_255) eq270 ⟨rfl, N271⟩ (by decide) (by decide)
  · refine Go.step (fun _ k => XS.ifNo X0.here hx rfl (hb hby at_3) rfl ((if0 _ _).trans (feq hc1).1) (XS.iconst X0.here hx rfl (hb hby at_6) (XS.goto X0.here hx rfl (pc0 := 7) (pc' := 11) rfl (hb hby at_7) (by decide) (by decide) (XS.istore X0.here hx rfl (hb hby at_11) rfl (l' := #[.val (.int p1), .val (.int p2), .val (.int p3), .val (.int p4), .val (.int p5), .val (.int p6), .val (.int (1 : Int32)), .unset, .unset, .unset, .unset, .unset, .unset]) rfl k)))) ?_
    show Go p e below s _ _ _ s₁ (mkF m 13 #[.val (.int p1), .val (.int p2), .val (.int p3), .val (.int p4), .val (.int p5), .val (.int p6), .val (.int (1 : Int32)), .unset, .unset, .unset, .unset, .unset, .unset] [])
    obtain ⟨T272, h272, X272, e272, E272, A272, D272, -, st272⟩ := newO X0 hx hZ hown (tw0 hw) (tw1 hw) (tw2 hw) e0 (g := (mkF m 13 #[.val (.int p1), .val (.int p2), .val (.int p3), .val (.int p4), .val (.int p5), .val (.int p6), .val (.int (1 : Int32)), .unset, .unset, .unset, .unset, .unset, .unset] [])) rfl (hb hby at_13) (by decide) (by decide)
    obtain ⟨b272, g272⟩ : ∃ z, z = h0.size := ⟨_, rfl⟩
    rw [← g272] at A272 D272 st272
    have f273 : Fld Z h272 b272 xs18 "coder" "B" (.int (0 : Int32)) := D272 (Or.inr (tw27 hw)) (ty := .byte) (by decide)
    have f274 : Fld Z h272 b272 xs18 "value" "[B" .null := D272 (Or.inr (tw29 hw)) (ty := (.array .byte)) (by decide)
    refine Go.step (fun _ k => st272 _ (XS.dup X272.here hx rfl (hb hby at_16) rfl rfl (XS.iconst X272.here hx rfl (hb hby at_17) k))) ?_
    show Go p e below s _ _ _ T272 (mkF m 18 #[.val (.int p1), .val (.int p2), .val (.int p3), .val (.int p4), .val (.int p5), .val (.int p6), .val (.int (1 : Int32)), .unset, .unset, .unset, .unset, .unset, .unset] [(.int (2 : Int32)), (.ref b272), (.ref b272)])
    obtain ⟨T275, h275, k275, X275, e275, E275, A275, st275⟩ := newP (aty := .char) X272 hx hZ (tw3 hw) e272 (g := (mkF m 18 #[.val (.int p1), .val (.int p2), .val (.int p3), .val (.int p4), .val (.int p5), .val (.int p6), .val (.int (1 : Int32)), .unset, .unset, .unset, .unset, .unset, .unset] [(.int (2 : Int32)), (.ref b272), (.ref b272)])) rfl (hb hby at_18) rfl (by decide) (cap := 2) (by decide) (by decide) (by decide) (by decide)
    obtain ⟨b275, g275⟩ : ∃ z, z = h272.size := ⟨_, rfl⟩
    rw [← g275] at A275 st275
    have f276 : Arv Z h275 b275 k275 .char (2 : Int32) [(.int (0 : Int32)), (.int (0 : Int32))] (.int (0 : Int32)) := (Arv.new A275 (by decide)).pad (pad_rep [] (.int (0 : Int32)) 2)
    refine Go.step (fun _ k => st275 _ (XS.dup X275.here hx rfl (hb hby at_20) rfl rfl (XS.iconst X275.here hx rfl (hb hby at_21) (XS.bipush X275.here hx rfl (hb hby at_22) k)))) ?_
    show Go p e below s _ _ _ T275 (mkF m 24 #[.val (.int p1), .val (.int p2), .val (.int p3), .val (.int p4), .val (.int p5), .val (.int p6), .val (.int (1 : Int32)), .unset, .unset, .unset, .unset, .unset, .unset] [(.int (97 : Int32)), (.int (0 : Int32)), (.ref b275), (.ref b275), (.ref b272), (.ref b272)])
    obtain ⟨cl277, Ar277, qq277, Sz277, Ng277, Hs277, Ft277⟩ := id f276
    have in277 : ¬ ((0 : Int32) < 0 ∨ cl277.slots.size ≤ ((0 : Int32)).toNatClampNeg) := (inb_of Sz277 ⟨by decide, by decide⟩)
    obtain ⟨T277, h277, X277, e277, W277, st277⟩ := stC X275 hx hZ e275 Ar277 (j := (0 : Int32)) in277 (g := (mkF m 24 #[.val (.int p1), .val (.int p2), .val (.int p3), .val (.int p4), .val (.int p5), .val (.int p6), .val (.int (1 : Int32)), .unset, .unset, .unset, .unset, .unset, .unset] [(.int (97 : Int32)), (.int (0 : Int32)), (.ref b275), (.ref b275), (.ref b272), (.ref b272)])) rfl rfl (hb hby at_24)
    have f278 := (Nat.le_trans Z0 E272.1)
    have g279 := Nat.le_trans f278 (Nat.le_of_eq g275.symm)
    have f280 : Arv Z h277 b275 k275 .char (2 : Int32) [(.int (97 : Int32)), (.int (0 : Int32))] (.int (0 : Int32)) := Arv.set Ar277 qq277 Sz277 Ng277 Hs277 Ft277 rfl W277 0 rfl (Nat.le_of_ble_eq_true rfl)
    have N281 := Fr.snoc X277 N0 g279
    refine Go.step (fun _ k => st277 _ (XS.dup X277.here hx rfl (hb hby at_25) rfl rfl (XS.iconst X277.here hx rfl (hb hby at_26) (XS.bipush X277.here hx rfl (hb hby at_27) k)))) ?_
    show Go p e below s _ _ _ T277 (mkF m 29 #[.val (.int p1), .val (.int p2), .val (.int p3), .val (.int p4), .val (.int p5), .val (.int p6), .val (.int (1 : Int32)), .unset, .unset, .unset, .unset, .unset, .unset] [(.int (98 : Int32)), (.int (1 : Int32)), (.ref b275), (.ref b275), (.ref b272), (.ref b272)])
    obtain ⟨cl282, Ar282, qq282, Sz282, Ng282, Hs282, Ft282⟩ := id f280
    have in282 : ¬ ((1 : Int32) < 0 ∨ cl282.slots.size ≤ ((1 : Int32)).toNatClampNeg) := (inb_of Sz282 ⟨by decide, by decide⟩)
    obtain ⟨T282, h282, X282, e282, W282, st282⟩ := stC X277 hx hZ e277 Ar282 (j := (1 : Int32)) in282 (g := (mkF m 29 #[.val (.int p1), .val (.int p2), .val (.int p3), .val (.int p4), .val (.int p5), .val (.int p6), .val (.int (1 : Int32)), .unset, .unset, .unset, .unset, .unset, .unset] [(.int (98 : Int32)), (.int (1 : Int32)), (.ref b275), (.ref b275), (.ref b272), (.ref b272)])) rfl rfl (hb hby at_29)
    have f283 : Arv Z h282 b275 k275 .char (2 : Int32) [(.int (97 : Int32)), (.int (98 : Int32))] (.int (0 : Int32)) := Arv.set Ar282 qq282 Sz282 Ng282 Hs282 Ft282 rfl W282 1 rfl (Nat.le_of_ble_eq_true rfl)
    have N284 := Fr.snoc X282 N281 g279
    refine Go.step (fun _ k => st282 _ k) ?_
    show Go p e below s _ _ _ T282 (mkF m 30 #[.val (.int p1), .val (.int p2), .val (.int p3), .val (.int p4), .val (.int p5), .val (.int p6), .val (.int (1 : Int32)), .unset, .unset, .unset, .unset, .unset, .unset] [(.ref b275), (.ref b272), (.ref b272)])
    have f285 := ((((O0.ext E272).ext E275).wr W277 g279).wr W282 g279)
    have f286 := (Nat.le_trans (Nat.le_trans (Nat.le_trans f278 E275.1) (Keep.of_wr W277).1) (Keep.of_wr W282).1)
    have f287 := (((A272.ext E275).wr W277).wr W282)
    have ne288 : b272 ≠ b275 := Nat.ne_of_lt (Nat.lt_of_lt_of_le A272.lt (Nat.le_of_eq g275.symm))
    have f289 := (((f273.ext E275).other W277 (Or.inl ne288)).other W282 (Or.inl ne288))
    have g290 := Nat.le_trans Z0 (Nat.le_of_eq g272.symm)
    have f291 := (((f274.ext E275).other W277 (Or.inl ne288)).other W282 (Or.inl ne288))
    obtain ⟨_, _, ⟨T292, L292, k292, n292⟩, -, X292, ⟨Lc292, hQ292, l292, y292, z292⟩, st292⟩ := X282.specialBack hx (y := xm7) rfl hown (mvT hZ (tw4 hw)) (mvT hZ (tw5 hw)) (mvT hZ (tw6 hw)) (by decide) (backOf (W := 1) (rm_String_new_0 l Z a0 hw [] b272 b275 k275 cs h282 n0 f286 f283 Z_S_COMPACT_STRINGS f285 hcs f287 f289 g290 f291) hZ (tw6 hw) (tw2 hw) (by decide) (by decide)) (g := (mkF m 30 #[.val (.int p1), .val (.int p2), .val (.int p3), .val (.int p4), .val (.int p5), .val (.int p6), .val (.int (1 : Int32)), .unset, .unset, .unset, .unset, .unset, .unset] [(.ref b275), (.ref b272), (.ref b272)])) rfl (by rw [hml]; rfl) (Steps.refl _) (a := b272) (argsL := [(.ref b275)]) (rest := [(.ref b272)]) (lenOf pd_5 rfl) rfl (by show 2 * 0 + _ ≤ _; exact Nat.le_of_eq rfl) (hb hby at_30) (fun _ _ => ⟨rfl, e282, (by decide : 2 + 1 ≤ _), (by decide : 6 + 2 ≤ _)⟩)
    dsimp only [Pt.U, Pt.locs, Pt.cells, Pt.slots] at X292 l292 y292 z292 st292 hQ292
    subst l292 y292 z292
    obtain ⟨b22_42_64_292, k22_42_64_292, rfl, N292q, K292, P292_0, P292_1, P292_2, P292_3⟩ := hQ292
    have N293 := Fr.app N284 N292q
    refine Go.step (fun _ k => st292.trans (XS.astore X292.here hx rfl (hb hby at_33) rfl rfl (l' := #[.val (.int p1), .val (.int p2), .val (.int p3), .val (.int p4), .val (.int p5), .val (.int p6), .val (.int (1 : Int32)), .val (.ref b272), .unset, .unset, .unset, .unset, .unset]) rfl k)) ?_
    show Go p e below s _ _ _ T292 (mkF m 35 #[.val (.int p1), .val (.int p2), .val (.int p3), .val (.int p4), .val (.int p5), .val (.int p6), .val (.int (1 : Int32)), .val (.ref b272), .unset, .unset, .unset, .unset, .unset] [])
    obtain ⟨T294, h294, X294, e294, E294, A294, D294, -, st294⟩ := newO X292 hx hZ hown (tw30 hw) (tw31 hw) (tw32 hw) rfl (g := (mkF m 35 #[.val (.int p1), .val (.int p2), .val (.int p3), .val (.int p4), .val (.int p5), .val (.int p6), .val (.int (1 : Int32)), .val (.ref b272), .unset, .unset, .unset, .unset, .unset] [])) rfl (hb hby at_35) (by decide) (by decide)
    obtain ⟨b294, g294⟩ : ∃ z, z = T292.heap.size := ⟨_, rfl⟩
    rw [← g294] at A294 D294 st294
    have f295 : Fld Z h294 b294 xs1 "text" xs14 .null := D294 (Or.inr (tw43 hw)) (ty := (.object xs18)) (by decide)
    have f296 : Fld Z h294 b294 xs1 "lineEnds" xs2 .null := D294 (Or.inr (tw45 hw)) (ty := (.object xs3)) (by decide)
    have f297 : Fld Z h294 b294 xs1 "entries" "[I" .null := D294 (Or.inl (tw52 hw)) (ty := (.array .int)) (by decide)
    have f298 : Fld Z h294 b294 xs1 "slots" "[I" .null := D294 (Or.inl (tw63 hw)) (ty := (.array .int)) (by decide)
    have f299 : Fld Z h294 b294 xs1 "keyed" "Z" (.int (0 : Int32)) := D294 (Or.inl (tw74 hw)) (ty := .boolean) (by decide)
    have f300 : Fld Z h294 b294 xs1 "size" "I" (.int (0 : Int32)) := D294 (Or.inl (tw105 hw)) (ty := .int) (by decide)
    refine Go.step (fun _ k => st294 _ (XS.dup X294.here hx rfl (hb hby at_38) rfl rfl (XS.aload X294.here hx rfl (hb hby at_39) rfl rfl (XS.aconstNull X294.here hx rfl (hb hby at_41) (XS.iconst X294.here hx rfl (hb hby at_42) k))))) ?_
    show Go p e below s _ _ _ T294 (mkF m 43 #[.val (.int p1), .val (.int p2), .val (.int p3), .val (.int p4), .val (.int p5), .val (.int p6), .val (.int (1 : Int32)), .val (.ref b272), .unset, .unset, .unset, .unset, .unset] [(.int (1 : Int32)), .null, (.ref b272), (.ref b294), (.ref b294)])
    have f301 := (Nat.le_trans (Nat.le_trans f286 K292.1) E294.1)
    have f302 := (Nat.le_trans f286 K292.1)
    have g303 := Nat.le_trans f302 (Nat.le_of_eq g294.symm)
    obtain ⟨_, _, ⟨T304, L304, k304, n304⟩, -, X304, ⟨Lc304, hQ304, l304, y304, z304⟩, st304⟩ := X294.specialBack hx (y := xm22) rfl hown (mvT hZ (tw33 hw)) (mvT hZ (tw34 hw)) (mvT hZ (tw35 hw)) (by decide) (backOf (W := 1) (rm_PropertyIndex_new_0 l Z a0 hw [] b294 b272 h294 n0 f301 A294 f295 g303 f296 f297 f298 f299 f300) hZ (tw35 hw) (tw32 hw) (by decide) (by decide)) (g := (mkF m 43 #[.val (.int p1), .val (.int p2), .val (.int p3), .val (.int p4), .val (.int p5), .val (.int p6), .val (.int (1 : Int32)), .val (.ref b272), .unset, .unset, .unset, .unset, .unset] [(.int (1 : Int32)), .null, (.ref b272), (.ref b294), (.ref b294)])) rfl (by rw [hml]; rfl) (Steps.refl _) (a := b294) (argsL := [(.ref b272), .null, (.int (1 : Int32))]) (rest := [(.ref b294)]) (lenOf pd_9 rfl) rfl (by show 2 * 0 + _ ≤ _; exact Nat.le_of_eq rfl) (hb hby at_43) (fun _ _ => ⟨rfl, e294, (by decide : 4 + 2 ≤ _), (by decide : 16 + 10 ≤ _)⟩)
    dsimp only [Pt.U, Pt.locs, Pt.cells, Pt.slots] at X304 l304 y304 z304 st304 hQ304
    subst l304 y304 z304
    obtain ⟨b99_304, k99_304, b111_304, k111_304, rfl, N304q, K304, P304_0, P304_1, P304_2, P304_3, P304_4, P304_5, P304_6, P304_7, P304_8, P304_9, P304_10⟩ := hQ304
    have N305 := Fr.app N293 N304q
    refine Go.step (fun _ k => st304.trans (XS.astore X304.here hx rfl (hb hby at_46) rfl rfl (l' := #[.val (.int p1), .val (.int p2), .val (.int p3), .val (.int p4), .val (.int p5), .val (.int p6), .val (.int (1 : Int32)), .val (.ref b272), .val (.ref b294), .unset, .unset, .unset, .unset]) rfl (XS.aload X304.here hx rfl (hb hby at_48) rfl rfl (XS.iconst X304.here hx rfl (hb hby at_50) (XS.iconst X304.here hx rfl (hb hby at_51) (XS.iloadN X304.here hx rfl (hb hby at_52) rfl (XS.iloadN X304.here hx rfl (hb hby at_53) rfl (XS.iloadN X304.here hx rfl (hb hby at_54) rfl k)))))))) ?_
    show Go p e below s _ _ _ T304 (mkF m 55 #[.val (.int p1), .val (.int p2), .val (.int p3), .val (.int p4), .val (.int p5), .val (.int p6), .val (.int (1 : Int32)), .val (.ref b272), .val (.ref b294), .unset, .unset, .unset, .unset] [(.int p4), (.int p3), (.int p2), (.int (1 : Int32)), (.int (0 : Int32)), (.ref b294)])
    have f306 := (((f285.keep K292 (allS g290 all0)).ext E294).keep K304 (allS g303 all0))
    have f307 := (Nat.le_trans f301 K304.1)
    have f308 := (((f287.keep K292).ext E294).keep K304)
    have f309 := (f287.keep K292)
    have ne310 : b272 ≠ b294 := Nat.ne_of_lt (Nat.lt_of_lt_of_le f309.lt (Nat.le_of_eq g294.symm))
    have f311 := ((P292_0.ext E294).keep K304 (ninS ne310 nin0))
    have f312 := ((P292_1.ext E294).keep K304 (ninS ne310 nin0))
    have ne313 : b22_42_64_292 ≠ b294 := Nat.ne_of_lt (Nat.lt_of_lt_of_le P292_3.lt (Nat.le_of_eq g294.symm))
    have f314 := ((P292_3.ext E294).keep K304 (ninS ne313 nin0))
    have f315 := (A294.keep K304)
    have g316 := Nat.le_trans f301 P304_6
    have ne317 : b294 ≠ b99_304 := Nat.ne_of_lt (Nat.lt_of_lt_of_le A294.lt P304_6)
    have ne318 : b294 ≠ b111_304 := Nat.ne_of_lt (Nat.lt_of_lt_of_le A294.lt P304_8)
    have g319 := Nat.le_trans f301 P304_8
    obtain ⟨cq320, kq320, q320a, q320b, q320c⟩ := isOf hZ rfl f315
    obtain ⟨_, _, ⟨T320, L320, k320, n320⟩, -, X320, ⟨Lc320, hQ320, l320, y320, z320⟩, st320⟩ := X304.virtualBack hx (y := xm13) (z := xm13) hown (mvT hZ (tw64 hw)) (mvT hZ (tw65 hw)) (notFace_of_selects (args := #[]) (mvT hZ (tw67 hw))) (mvT hZ (tw67 hw)) (mvT hZ (tw66 hw)) (by decide) (backOf (W := 0) (rm_PropertyIndex_add_0 l Z a0 hw [] b294 p2 p3 p4 b272 cs b22_42_64_292 k22_42_64_292 fv b111_304 k111_304 b99_304 k99_304 T304.heap n0 f307 P304_0 P304_4 f308 Z_S_COMPACT_STRINGS f306 hcs f311 f312 f314 Z_S_SIOOBE_FORMATTER hfv f315 P304_3 P304_9 P304_5 P304_2 P304_7 g316 ne317 g303 (Ne.symm P304_10) (Ne.symm ne318) g319 P304_1) hZ (tw68 hw) (tw32 hw) (by decide) (by decide)) q320a q320c (g := (mkF m 55 #[.val (.int p1), .val (.int p2), .val (.int p3), .val (.int p4), .val (.int p5), .val (.int p6), .val (.int (1 : Int32)), .val (.ref b272), .val (.ref b294), .unset, .unset, .unset, .unset] [(.int p4), (.int p3), (.int p2), (.int (1 : Int32)), (.int (0 : Int32)), (.ref b294)])) rfl (by rw [hml]; rfl) (Steps.refl _) (argsL := [(.int (0 : Int32)), (.int (1 : Int32)), (.int p2), (.int p3), (.int p4)]) (rest := []) (lenOf pd_16 rfl) rfl (by show 2 * 0 + _ ≤ _; exact Nat.le_of_eq rfl) (hb hby at_55) (fun _ _ => ⟨rfl, rfl, (by decide : 6 + 0 ≤ _), (by decide : 26 + 0 ≤ _)⟩)
    dsimp only [Pt.U, Pt.locs, Pt.cells, Pt.slots] at X320 l320 y320 z320 st320 hQ320
    subst l320 y320 z320
    obtain ⟨rfl, N320q, K320, P320_0, P320_1, P320_2, P320_3, P320_4, P320_5, P320_6, P320_7⟩ := hQ320
    have N321 := Fr.app N305 N320q
    refine Go.step (fun _ k => st320.trans (XS.istore X320.here hx rfl (hb hby at_58) rfl (l' := #[.val (.int p1), .val (.int p2), .val (.int p3), .val (.int p4), .val (.int p5), .val (.int p6), .val (.int (1 : Int32)), .val (.ref b272), .val (.ref b294), .val (.int (-1 : Int32)), .unset, .unset, .unset]) rfl (XS.iconst X320.here hx rfl (hb hby at_60) (XS.istore X320.here hx rfl (hb hby at_61) rfl (l' := #[.val (.int p1), .val (.int p2), .val (.int p3), .val (.int p4), .val (.int p5), .val (.int p6), .val (.int (1 : Int32)), .val (.ref b272), .val (.ref b294), .val (.int (-1 : Int32)), .val (.int (-1 : Int32)), .unset, .unset]) rfl (XS.iload X320.here hx rfl (hb hby at_63) rfl (XS.ifNo X320.here hx rfl (hb hby at_65) rfl ((if0 _ _).trans (feq (by decide)).1) (XS.aload X320.here hx rfl (hb hby at_68) rfl rfl (XS.iconst X320.here hx rfl (hb hby at_70) (XS.iconst X320.here hx rfl (hb hby at_71) (XS.iload X320.here hx rfl (hb hby at_72) rfl k)))))))))) ?_
    show Go p e below s _ _ _ T320 (mkF m 74 #[.val (.int p1), .val (.int p2), .val (.int p3), .val (.int p4), .val (.int p5), .val (.int p6), .val (.int (1 : Int32)), .val (.ref b272), .val (.ref b294), .val (.int (-1 : Int32)), .val (.int (-1 : Int32)), .unset, .unset] [(.int p6), (.int (2 : Int32)), (.int (1 : Int32)), (.ref b294)])
    refine Go.step (fun _ k => XS.iload X320.here hx rfl (hb hby at_74) rfl (XS.iconst X320.here hx rfl (hb hby at_76) (XS.ixor X320.here hx rfl (hb hby at_77) rfl (XS.iloadN X320.here hx rfl (hb hby at_78) rfl (XS.iconst X320.here hx rfl (hb hby at_79) (XS.ixor X320.here hx rfl (hb hby at_80) rfl k)))))) ?_
    show Go p e below s _ _ _ T320 (mkF m 81 #[.val (.int p1), .val (.int p2), .val (.int p3), .val (.int p4), .val (.int p5), .val (.int p6), .val (.int (1 : Int32)), .val (.ref b272), .val (.ref b294), .val (.int (-1 : Int32)), .val (.int (-1 : Int32)), .unset, .unset] [(.int (p4 ^^^ (1 : Int32))), (.int (p6 ^^^ (-1 : Int32))), (.int p6), (.int (2 : Int32)), (.int (1 : Int32)), (.ref b294)])
    have f439 := (f306.keep K320 (allS g316 (allS g303 (allS g319 all0))))
    have f440 := (Nat.le_trans f307 K320.1)
    have f441 := (f308.keep K320)
    have f442 := (f309.ext E294)
    have ne443 : b272 ≠ b111_304 := Nat.ne_of_lt (Nat.lt_of_lt_of_le f442.lt P304_8)
    have ne444 : b272 ≠ b99_304 := Nat.ne_of_lt (Nat.lt_of_lt_of_le f442.lt P304_6)
    have f445 := (f311.keep K320 (ninS ne444 (ninS ne310 (ninS ne443 nin0))))
    have f446 := (f312.keep K320 (ninS ne444 (ninS ne310 (ninS ne443 nin0))))
    have f447 := (P292_3.ext E294)
    have ne448 : b22_42_64_292 ≠ b111_304 := Nat.ne_of_lt (Nat.lt_of_lt_of_le f447.lt P304_8)
    have ne449 : b22_42_64_292 ≠ b99_304 := Nat.ne_of_lt (Nat.lt_of_lt_of_le f447.lt P304_6)
    have f450 := (f314.keep K320 (ninS ne449 (ninS ne313 (ninS ne448 nin0))))
    have f451 := (f315.keep K320)
    obtain ⟨cq452, kq452, q452a, q452b, q452c⟩ := isOf hZ rfl f451
    obtain ⟨_, _, ⟨T452, L452, k452, n452⟩, -, X452, ⟨Lc452, hQ452, l452, y452, z452⟩, st452⟩ := X320.virtualBack hx (y := xm13) (z := xm13) hown (mvT hZ (tw64 hw)) (mvT hZ (tw65 hw)) (notFace_of_selects (args := #[]) (mvT hZ (tw67 hw))) (mvT hZ (tw67 hw)) (mvT hZ (tw66 hw)) (by decide) (backOf (W := 0) (rm_PropertyIndex_add_1 l Z a0 hw [] b294 p6 (p6 ^^^ (-1 : Int32)) (p4 ^^^ (1 : Int32)) b272 cs b22_42_64_292 k22_42_64_292 fv b111_304 k111_304 b99_304 k99_304 p2 p3 p4 T320.heap n0 f440 P320_1 P320_2 f441 f445 Z_S_COMPACT_STRINGS f439 hcs f446 f450 Z_S_SIOOBE_FORMATTER hfv f451 P320_3 P320_7 P320_4 P320_5 P320_0 g303 (Ne.symm ne318) g319 P320_6) hZ (tw68 hw) (tw32 hw) (by decide) (by decide)) q452a q452c (g := (mkF m 81 #[.val (.int p1), .val (.int p2), .val (.int p3), .val (.int p4), .val (.int p5), .val (.int p6), .val (.int (1 : Int32)), .val (.ref b272), .val (.ref b294), .val (.int (-1 : Int32)), .val (.int (-1 : Int32)), .unset, .unset] [(.int (p4 ^^^ (1 : Int32))), (.int (p6 ^^^ (-1 : Int32))), (.int p6), (.int (2 : Int32)), (.int (1 : Int32)), (.ref b294)])) rfl (by rw [hml]; rfl) (Steps.refl _) (argsL := [(.int (1 : Int32)), (.int (2 : Int32)), (.int p6), (.int (p6 ^^^ (-1 : Int32))), (.int (p4 ^^^ (1 : Int32)))]) (rest := []) (lenOf pd_16 rfl) rfl (by show 2 * 0 + _ ≤ _; exact Nat.le_of_eq rfl) (hb hby at_81) (fun _ _ => ⟨rfl, rfl, (by decide : 6 + 1 ≤ _), (by decide : 26 + 12 ≤ _)⟩)
    dsimp only [Pt.U, Pt.locs, Pt.cells, Pt.slots] at X452 l452 y452 z452 st452 hQ452
    subst l452 y452 z452
    obtain ⟨b360_372_452, k360_372_452, rfl, N452q, K452, P452_0, P452_1, P452_2, P452_3, P452_4, P452_5, P452_6, P452_7, P452_8⟩ := hQ452
    have N453 := Fr.app N321 N452q
    refine Go.step (fun _ k => st452.trans (XS.istore X452.here hx rfl (hb hby at_84) rfl (l' := #[.val (.int p1), .val (.int p2), .val (.int p3), .val (.int p4), .val (.int p5), .val (.int p6), .val (.int (1 : Int32)), .val (.ref b272), .val (.ref b294), .val (.int (-1 : Int32)), .val (.int (-1 : Int32)), .unset, .unset]) rfl (XS.aload X452.here hx rfl (hb hby at_86) rfl rfl (XS.iload X452.here hx rfl (hb hby at_88) rfl k)))) ?_
    show Go p e below s _ _ _ T452 (mkF m 90 #[.val (.int p1), .val (.int p2), .val (.int p3), .val (.int p4), .val (.int p5), .val (.int p6), .val (.int (1 : Int32)), .val (.ref b272), .val (.ref b294), .val (.int (-1 : Int32)), .val (.int (-1 : Int32)), .unset, .unset] [(.int p5), (.ref b294)])
    have g459 := Nat.le_trans f440 P452_7
    have f463 := (Nat.le_trans f440 K452.1)
    have f465 := (f451.keep K452)
    obtain ⟨cq464, kq464, q464a, q464b, q464c⟩ := isOf hZ rfl f465
    obtain ⟨_, _, ⟨T464, L464, k464, n464⟩, -, X464, ⟨Lc464, hQ464, l464, y464, z464⟩, st464⟩ := X452.virtualBack hx (y := xm9) (z := xm9) hown (mvT hZ (tw106 hw)) (mvT hZ (tw107 hw)) (notFace_of_selects (args := #[]) (mvT hZ (tw109 hw))) (mvT hZ (tw109 hw)) (mvT hZ (tw108 hw)) (by decide) (backOf (W := 0) (rm_PropertyIndex_endValue_1 l Z a0 hw [] b294 p5 b360_372_452 k360_372_452 p2 p3 p4 p6 (p6 ^^^ (-1 : Int32)) (p4 ^^^ (1 : Int32)) T452.heap n0 f463 P452_4 P452_3 P452_8 g459) hZ (tw110 hw) (tw32 hw) (by decide) (by decide)) q464a q464c (g := (mkF m 90 #[.val (.int p1), .val (.int p2), .val (.int p3), .val (.int p4), .val (.int p5), .val (.int p6), .val (.int (1 : Int32)), .val (.ref b272), .val (.ref b294), .val (.int (-1 : Int32)), .val (.int (-1 : Int32)), .unset, .unset] [(.int p5), (.ref b294)])) rfl (by rw [hml]; rfl) (Steps.refl _) (argsL := [(.int p5)]) (rest := []) (lenOf pd_17 rfl) rfl (by show 2 * 0 + _ ≤ _; exact Nat.le_of_eq rfl) (hb hby at_90) (fun _ _ => ⟨rfl, rfl, (by decide : 7 + 0 ≤ _), (by decide : 38 + 0 ≤ _)⟩)
    dsimp only [Pt.U, Pt.locs, Pt.cells, Pt.slots] at X464 l464 y464 z464 st464 hQ464
    subst l464 y464 z464
    obtain ⟨rfl, N464q, K464, P464_0⟩ := hQ464
    have N466 := Fr.app N453 N464q
    refine Go.step (fun _ k => st464.trans (XS.iload X464.here hx rfl (hb hby at_93) rfl (XS.ifNo X464.here hx rfl (hb hby at_95) rfl ((if0 _ _).trans (feq (by decide)).1) (XS.iconst X464.here hx rfl (hb hby at_98) (XS.goto X464.here hx rfl (pc0 := 99) (pc' := 103) rfl (hb hby at_99) (by decide) (by decide) (XS.istore X464.here hx rfl (hb hby at_103) rfl (l' := #[.val (.int p1), .val (.int p2), .val (.int p3), .val (.int p4), .val (.int p5), .val (.int p6), .val (.int (1 : Int32)), .val (.ref b272), .val (.ref b294), .val (.int (-1 : Int32)), .val (.int (-1 : Int32)), .val (.int (1 : Int32)), .unset]) rfl (XS.iload X464.here hx rfl (hb hby at_105) rfl (XS.iconst X464.here hx rfl (hb hby at_107) (XS.icmpNo X464.here hx rfl (hb hby at_108) rfl (teq (by decide)).2 (XS.iload X464.here hx rfl (hb hby at_111) rfl k)))))))))) ?_
    show Go p e below s _ _ _ T464 (mkF m 113 #[.val (.int p1), .val (.int p2), .val (.int p3), .val (.int p4), .val (.int p5), .val (.int p6), .val (.int (1 : Int32)), .val (.ref b272), .val (.ref b294), .val (.int (-1 : Int32)), .val (.int (-1 : Int32)), .val (.int (1 : Int32)), .unset] [(.int (-1 : Int32))])
    refine Go.step (fun _ k => XS.iconst X464.here hx rfl (hb hby at_113) (XS.icmpNo X464.here hx rfl (hb hby at_114) rfl (teq (by decide)).2 (XS.aload X464.here hx rfl (hb hby at_117) rfl rfl k))) ?_
    show Go p e below s _ _ _ T464 (mkF m 119 #[.val (.int p1), .val (.int p2), .val (.int p3), .val (.int p4), .val (.int p5), .val (.int p6), .val (.int (1 : Int32)), .val (.ref b272), .val (.ref b294), .val (.int (-1 : Int32)), .val (.int (-1 : Int32)), .val (.int (1 : Int32)), .unset] [(.ref b294)])
    have f468 := (Nat.le_trans f463 K464.1)
    have ne469 : b294 ≠ b360_372_452 := Nat.ne_of_lt (Nat.lt_of_lt_of_le f451.lt P452_7)
    have f470 := (P452_3.keep K464 (ninS ne469 nin0))
    have f472 := (f465.keep K464)
    obtain ⟨cq471, kq471, q471a, q471b, q471c⟩ := isOf hZ rfl f472
    obtain ⟨_, _, ⟨T471, L471, k471, n471⟩, -, X471, ⟨Lc471, hQ471, l471, y471, z471⟩, st471⟩ := X464.virtualBack hx (y := xm23) (z := xm23) hown (mvT hZ (tw111 hw)) (mvT hZ (tw112 hw)) (notFace_of_selects (args := #[]) (mvT hZ (tw114 hw))) (mvT hZ (tw114 hw)) (mvT hZ (tw113 hw)) (by decide) (backOf (W := 0) (rm_PropertyIndex_size_1 l Z a0 hw [] b294 T464.heap n0 f468 f470) hZ (tw115 hw) (tw32 hw) (by decide) (by decide)) q471a q471c (g := (mkF m 119 #[.val (.int p1), .val (.int p2), .val (.int p3), .val (.int p4), .val (.int p5), .val (.int p6), .val (.int (1 : Int32)), .val (.ref b272), .val (.ref b294), .val (.int (-1 : Int32)), .val (.int (-1 : Int32)), .val (.int (1 : Int32)), .unset] [(.ref b294)])) rfl (by rw [hml]; rfl) (Steps.refl _) (argsL := []) (rest := []) (lenOf pd_18 rfl) rfl (by show 2 * 0 + _ ≤ _; exact Nat.le_of_eq rfl) (hb hby at_119) (fun _ _ => ⟨rfl, rfl, (by decide : 7 + 0 ≤ _), (by decide : 38 + 0 ≤ _)⟩)
    dsimp only [Pt.U, Pt.locs, Pt.cells, Pt.slots] at X471 l471 y471 z471 st471 hQ471
    subst l471 y471 z471
    obtain ⟨rfl, N471q, eq471⟩ := hQ471
    have N473 := Fr.app N466 N471q
    refine Go.step (fun _ k => st471.trans (XS.iload X471.here hx rfl (hb hby at_122) rfl (XS.iconst X471.here hx rfl (hb hby at_124) (XS.iadd X471.here hx rfl (hb hby at_125) rfl (XS.icmpNo X471.here hx rfl (hb hby at_126) rfl (teq (by decide)).2 (XS.aload X471.here hx rfl (hb hby at_129) rfl rfl (XS.iload X471.here hx rfl (hb hby at_131) rfl k))))))) ?_
    show Go p e below s _ _ _ T471 (mkF m 133 #[.val (.int p1), .val (.int p2), .val (.int p3), .val (.int p4), .val (.int p5), .val (.int p6), .val (.int (1 : Int32)), .val (.ref b272), .val (.ref b294), .val (.int (-1 : Int32)), .val (.int (-1 : Int32)), .val (.int (1 : Int32)), .unset] [(.int (1 : Int32)), (.ref b294)])
    have f477 := (P452_4.keep K464 (ninS ne469 nin0))
    obtain ⟨cq478, kq478, q478a, q478b, q478c⟩ := isOf hZ eq471 f472
    obtain ⟨_, _, ⟨T478, L478, k478, n478⟩, -, X478, ⟨Lc478, hQ478, l478, y478, z478⟩, st478⟩ := X471.virtualBack hx (y := xm10) (z := xm10) hown (mvT hZ (tw116 hw)) (mvT hZ (tw117 hw)) (notFace_of_selects (args := #[]) (mvT hZ (tw119 hw))) (mvT hZ (tw119 hw)) (mvT hZ (tw118 hw)) (by decide) (backOf (W := 0) (rm_PropertyIndex_valueEnd_1 l Z a0 hw [] b294 b360_372_452 k360_372_452 p2 p3 p4 p6 p5 (p4 ^^^ (1 : Int32)) T464.heap n0 f468 f477 P464_0) hZ (tw120 hw) (tw32 hw) (by decide) (by decide)) q478a q478c (g := (mkF m 133 #[.val (.int p1), .val (.int p2), .val (.int p3), .val (.int p4), .val (.int p5), .val (.int p6), .val (.int (1 : Int32)), .val (.ref b272), .val (.ref b294), .val (.int (-1 : Int32)), .val (.int (-1 : Int32)), .val (.int (1 : Int32)), .unset] [(.int (1 : Int32)), (.ref b294)])) rfl (by rw [hml]; rfl) (Steps.refl _) (argsL := [(.int (1 : Int32))]) (rest := []) (lenOf pd_8 rfl) rfl (by show 2 * 0 + _ ≤ _; exact Nat.le_of_eq rfl) (hb hby at_133) (fun _ _ => ⟨rfl, eq471, (by decide : 7 + 0 ≤ _), (by decide : 38 + 0 ≤ _)⟩)
    dsimp only [Pt.U, Pt.locs, Pt.cells, Pt.slots] at X478 l478 y478 z478 st478 hQ478
    subst l478 y478 z478
    obtain ⟨rfl, N478q, eq478⟩ := hQ478
    have N479 := Fr.app N473 N478q
    refine Go.step (fun _ k => st478.trans (XS.iload X478.here hx rfl (hb hby at_136) rfl (XS.icmpNo X478.here hx rfl (hb hby at_138) rfl (teq rfl).2 (XS.iconst X478.here hx rfl (hb hby at_141) (XS.goto X478.here hx rfl (pc0 := 142) (pc' := 146) rfl (hb hby at_142) (by decide) (by decide) (XS.istore X478.here hx rfl (hb hby at_146) rfl (l' := #[.val (.int p1), .val (.int p2), .val (.int p3), .val (.int p4), .val (.int p5), .val (.int p6), .val (.int (1 : Int32)), .val (.ref b272), .val (.ref b294), .val (.int (-1 : Int32)), .val (.int (-1 : Int32)), .val (.int (1 : Int32)), .val (.int (1 : Int32))]) rfl (XS.iload X478.here hx rfl (hb hby at_148) rfl (XS.ifNo X478.here hx rfl (hb hby at_150) rfl ((if0 _ _).trans (feq (by decide)).1) (XS.iload X478.here hx rfl (hb hby at_153) rfl (XS.ifNo X478.here hx rfl (hb hby at_155) rfl ((if0 _ _).trans (feq (by decide)).1) k)))))))))) ?_
    show Go p e below s _ _ _ T478 (mkF m 158 #[.val (.int p1), .val (.int p2), .val (.int p3), .val (.int p4), .val (.int p5), .val (.int p6), .val (.int (1 : Int32)), .val (.ref b272), .val (.ref b294), .val (.int (-1 : Int32)), .val (.int (-1 : Int32)), .val (.int (1 : Int32)), .val (.int (1 : Int32))] [])
    refine Go.step (fun _ k => XS.aload X478.here hx rfl (hb hby at_158) rfl rfl (XS.iconst X478.here hx rfl (hb hby at_160) k)) ?_
    show Go p e below s _ _ _ T478 (mkF m 161 #[.val (.int p1), .val (.int p2), .val (.int p3), .val (.int p4), .val (.int p5), .val (.int p6), .val (.int (1 : Int32)), .val (.ref b272), .val (.ref b294), .val (.int (-1 : Int32)), .val (.int (-1 : Int32)), .val (.int (1 : Int32)), .val (.int (1 : Int32))] [(.int (1 : Int32)), (.ref b294)])
    obtain ⟨cq483, kq483, q483a, q483b, q483c⟩ := isOf hZ eq478 f472
    obtain ⟨_, _, ⟨T483, L483, k483, n483⟩, -, X483, ⟨Lc483, hQ483, l483, y483, z483⟩, st483⟩ := X478.virtualBack hx (y := xm4) (z := xm4) hown (mvT hZ (tw121 hw)) (mvT hZ (tw122 hw)) (notFace_of_selects (args := #[]) (mvT hZ (tw124 hw))) (mvT hZ (tw124 hw)) (mvT hZ (tw123 hw)) (by decide) (backOf (W := 0) (rm_PropertyIndex_valueStart_1 l Z a0 hw [] b294 b360_372_452 k360_372_452 p2 p3 p4 p6 p5 (p4 ^^^ (1 : Int32)) T464.heap n0 f468 f477 P464_0) hZ (tw125 hw) (tw32 hw) (by decide) (by decide)) q483a q483c (g := (mkF m 161 #[.val (.int p1), .val (.int p2), .val (.int p3), .val (.int p4), .val (.int p5), .val (.int p6), .val (.int (1 : Int32)), .val (.ref b272), .val (.ref b294), .val (.int (-1 : Int32)), .val (.int (-1 : Int32)), .val (.int (1 : Int32)), .val (.int (1 : Int32))] [(.int (1 : Int32)), (.ref b294)])) rfl (by rw [hml]; rfl) (Steps.refl _) (argsL := [(.int (1 : Int32))]) (rest := []) (lenOf pd_8 rfl) rfl (by show 2 * 0 + _ ≤ _; exact Nat.le_of_eq rfl) (hb hby at_161) (fun _ _ => ⟨rfl, eq478, (by decide : 7 + 0 ≤ _), (by decide : 38 + 0 ≤ _)⟩)
    dsimp only [Pt.U, Pt.locs, Pt.cells, Pt.slots] at X483 l483 y483 z483 st483 hQ483
    subst l483 y483 z483
    obtain ⟨rfl, N483q, eq483⟩ := hQ483
    have N484 := Fr.app N479 N483q
    refine Go.step (fun _ k => st483.trans (XS.iload X483.here hx rfl (hb hby at_164) rfl (XS.icmpNo X483.here hx rfl (hb hby at_166) rfl (teq rfl).2 (XS.aload X483.here hx rfl (hb hby at_169) rfl rfl (XS.iconst X483.here hx rfl (hb hby at_171) k))))) ?_
    show Go p e below s _ _ _ T483 (mkF m 172 #[.val (.int p1), .val (.int p2), .val (.int p3), .val (.int p4), .val (.int p5), .val (.int p6), .val (.int (1 : Int32)), .val (.ref b272), .val (.ref b294), .val (.int (-1 : Int32)), .val (.int (-1 : Int32)), .val (.int (1 : Int32)), .val (.int (1 : Int32))] [(.int (1 : Int32)), (.ref b294)])
    obtain ⟨cq488, kq488, q488a, q488b, q488c⟩ := isOf hZ eq483 f472
    obtain ⟨_, _, ⟨T488, L488, k488, n488⟩, -, X488, ⟨Lc488, hQ488, l488, y488, z488⟩, st488⟩ := X483.virtualBack hx (y := xm20) (z := xm20) hown (mvT hZ (tw126 hw)) (mvT hZ (tw127 hw)) (notFace_of_selects (args := #[]) (mvT hZ (tw129 hw))) (mvT hZ (tw129 hw)) (mvT hZ (tw128 hw)) (by decide) (backOf (W := 0) (rm_PropertyIndex_line_1 l Z a0 hw [] b294 b360_372_452 k360_372_452 p2 p3 p4 p6 p5 (p4 ^^^ (1 : Int32)) T464.heap n0 f468 f477 P464_0) hZ (tw130 hw) (tw32 hw) (by decide) (by decide)) q488a q488c (g := (mkF m 172 #[.val (.int p1), .val (.int p2), .val (.int p3), .val (.int p4), .val (.int p5), .val (.int p6), .val (.int (1 : Int32)), .val (.ref b272), .val (.ref b294), .val (.int (-1 : Int32)), .val (.int (-1 : Int32)), .val (.int (1 : Int32)), .val (.int (1 : Int32))] [(.int (1 : Int32)), (.ref b294)])) rfl (by rw [hml]; rfl) (Steps.refl _) (argsL := [(.int (1 : Int32))]) (rest := []) (lenOf pd_8 rfl) rfl (by show 2 * 0 + _ ≤ _; exact Nat.le_of_eq rfl) (hb hby at_172) (fun _ _ => ⟨rfl, eq483, (by decide : 7 + 0 ≤ _), (by decide : 38 + 0 ≤ _)⟩)
    dsimp only [Pt.U, Pt.locs, Pt.cells, Pt.slots] at X488 l488 y488 z488 st488 hQ488
    subst l488 y488 z488
    obtain ⟨rfl, N488q, eq488⟩ := hQ488
    have N489 := Fr.app N484 N488q
    refine Go.step (fun _ k => st488.trans (XS.iloadN X488.here hx rfl (hb hby at_175) rfl (XS.iconst X488.here hx rfl (hb hby at_176) (XS.ixor X488.here hx rfl (hb hby at_177) rfl (XS.icmpNo X488.here hx rfl (hb hby at_178) rfl (teq rfl).2 (XS.aload X488.here hx rfl (hb hby at_181) rfl rfl (XS.iconst X488.here hx rfl (hb hby at_183) k))))))) ?_
    show Go p e below s _ _ _ T488 (mkF m 184 #[.val (.int p1), .val (.int p2), .val (.int p3), .val (.int p4), .val (.int p5), .val (.int p6), .val (.int (1 : Int32)), .val (.ref b272), .val (.ref b294), .val (.int (-1 : Int32)), .val (.int (-1 : Int32)), .val (.int (1 : Int32)), .val (.int (1 : Int32))] [(.int (0 : Int32)), (.ref b294)])
    obtain ⟨cq493, kq493, q493a, q493b, q493c⟩ := isOf hZ eq488 f472
    obtain ⟨_, _, ⟨T493, L493, k493, n493⟩, -, X493, ⟨Lc493, hQ493, l493, y493, z493⟩, st493⟩ := X488.virtualBack hx (y := xm4) (z := xm4) hown (mvT hZ (tw121 hw)) (mvT hZ (tw122 hw)) (notFace_of_selects (args := #[]) (mvT hZ (tw124 hw))) (mvT hZ (tw124 hw)) (mvT hZ (tw123 hw)) (by decide) (backOf (W := 0) (rm_PropertyIndex_valueStart_2 l Z a0 hw [] b294 b360_372_452 k360_372_452 p2 p3 p4 p6 p5 (p4 ^^^ (1 : Int32)) T464.heap n0 f468 f477 P464_0) hZ (tw125 hw) (tw32 hw) (by decide) (by decide)) q493a q493c (g := (mkF m 184 #[.val (.int p1), .val (.int p2), .val (.int p3), .val (.int p4), .val (.int p5), .val (.int p6), .val (.int (1 : Int32)), .val (.ref b272), .val (.ref b294), .val (.int (-1 : Int32)), .val (.int (-1 : Int32)), .val (.int (1 : Int32)), .val (.int (1 : Int32))] [(.int (0 : Int32)), (.ref b294)])) rfl (by rw [hml]; rfl) (Steps.refl _) (argsL := [(.int (0 : Int32))]) (rest := []) (lenOf pd_8 rfl) rfl (by show 2 * 0 + _ ≤ _; exact Nat.le_of_eq rfl) (hb hby at_184) (fun _ _ => ⟨rfl, eq488, (by decide : 7 + 0 ≤ _), (by decide : 38 + 0 ≤ _)⟩)
    dsimp only [Pt.U, Pt.locs, Pt.cells, Pt.slots] at X493 l493 y493 z493 st493 hQ493
    subst l493 y493 z493
    obtain ⟨rfl, N493q, eq493⟩ := hQ493
    have N494 := Fr.app N489 N493q
    refine Go.step (fun _ k => st493.trans (XS.iloadN X493.here hx rfl (hb hby at_187) rfl (XS.icmpNo X493.here hx rfl (hb hby at_188) rfl (teq rfl).2 (XS.aload X493.here hx rfl (hb hby at_191) rfl rfl (XS.iconst X493.here hx rfl (hb hby at_193) k))))) ?_
    show Go p e below s _ _ _ T493 (mkF m 194 #[.val (.int p1), .val (.int p2), .val (.int p3), .val (.int p4), .val (.int p5), .val (.int p6), .val (.int (1 : Int32)), .val (.ref b272), .val (.ref b294), .val (.int (-1 : Int32)), .val (.int (-1 : Int32)), .val (.int (1 : Int32)), .val (.int (1 : Int32))] [(.int (0 : Int32)), (.ref b294)])
    obtain ⟨cq498, kq498, q498a, q498b, q498c⟩ := isOf hZ eq493 f472
    obtain ⟨_, _, ⟨T498, L498, k498, n498⟩, -, X498, ⟨Lc498, hQ498, l498, y498, z498⟩, st498⟩ := X493.virtualBack hx (y := xm10) (z := xm10) hown (mvT hZ (tw116 hw)) (mvT hZ (tw117 hw)) (notFace_of_selects (args := #[]) (mvT hZ (tw119 hw))) (mvT hZ (tw119 hw)) (mvT hZ (tw118 hw)) (by decide) (backOf (W := 0) (rm_PropertyIndex_valueEnd_2 l Z a0 hw [] b294 b360_372_452 k360_372_452 p2 p3 p4 p6 p5 (p4 ^^^ (1 : Int32)) T464.heap n0 f468 f477 P464_0) hZ (tw120 hw) (tw32 hw) (by decide) (by decide)) q498a q498c (g := (mkF m 194 #[.val (.int p1), .val (.int p2), .val (.int p3), .val (.int p4), .val (.int p5), .val (.int p6), .val (.int (1 : Int32)), .val (.ref b272), .val (.ref b294), .val (.int (-1 : Int32)), .val (.int (-1 : Int32)), .val (.int (1 : Int32)), .val (.int (1 : Int32))] [(.int (0 : Int32)), (.ref b294)])) rfl (by rw [hml]; rfl) (Steps.refl _) (argsL := [(.int (0 : Int32))]) (rest := []) (lenOf pd_8 rfl) rfl (by show 2 * 0 + _ ≤ _; exact Nat.le_of_eq rfl) (hb hby at_194) (fun _ _ => ⟨rfl, eq493, (by decide : 7 + 0 ≤ _), (by decide : 38 + 0 ≤ _)⟩)
    dsimp only [Pt.U, Pt.locs, Pt.cells, Pt.slots] at X498 l498 y498 z498 st498 hQ498
    subst l498 y498 z498
    obtain ⟨rfl, N498q, eq498⟩ := hQ498
    have N499 := Fr.app N494 N498q
    refine Go.step (fun _ k => st498.trans (XS.iloadN X498.here hx rfl (hb hby at_197) rfl (XS.icmpNo X498.here hx rfl (hb hby at_198) rfl (teq rfl).2 (XS.aload X498.here hx rfl (hb hby at_201) rfl rfl (XS.iconst X498.here hx rfl (hb hby at_203) k))))) ?_
    show Go p e below s _ _ _ T498 (mkF m 204 #[.val (.int p1), .val (.int p2), .val (.int p3), .val (.int p4), .val (.int p5), .val (.int p6), .val (.int (1 : Int32)), .val (.ref b272), .val (.ref b294), .val (.int (-1 : Int32)), .val (.int (-1 : Int32)), .val (.int (1 : Int32)), .val (.int (1 : Int32))] [(.int (0 : Int32)), (.ref b294)])
    obtain ⟨cq503, kq503, q503a, q503b, q503c⟩ := isOf hZ eq498 f472
    obtain ⟨_, _, ⟨T503, L503, k503, n503⟩, -, X503, ⟨Lc503, hQ503, l503, y503, z503⟩, st503⟩ := X498.virtualBack hx (y := xm20) (z := xm20) hown (mvT hZ (tw126 hw)) (mvT hZ (tw127 hw)) (notFace_of_selects (args := #[]) (mvT hZ (tw129 hw))) (mvT hZ (tw129 hw)) (mvT hZ (tw128 hw)) (by decide) (backOf (W := 0) (rm_PropertyIndex_line_2 l Z a0 hw [] b294 b360_372_452 k360_372_452 p2 p3 p4 p6 p5 (p4 ^^^ (1 : Int32)) T464.heap n0 f468 f477 P464_0) hZ (tw130 hw) (tw32 hw) (by decide) (by decide)) q503a q503c (g := (mkF m 204 #[.val (.int p1), .val (.int p2), .val (.int p3), .val (.int p4), .val (.int p5), .val (.int p6), .val (.int (1 : Int32)), .val (.ref b272), .val (.ref b294), .val (.int (-1 : Int32)), .val (.int (-1 : Int32)), .val (.int (1 : Int32)), .val (.int (1 : Int32))] [(.int (0 : Int32)), (.ref b294)])) rfl (by rw [hml]; rfl) (Steps.refl _) (argsL := [(.int (0 : Int32))]) (rest := []) (lenOf pd_8 rfl) rfl (by show 2 * 0 + _ ≤ _; exact Nat.le_of_eq rfl) (hb hby at_204) (fun _ _ => ⟨rfl, eq498, (by decide : 7 + 0 ≤ _), (by decide : 38 + 0 ≤ _)⟩)
    dsimp only [Pt.U, Pt.locs, Pt.cells, Pt.slots] at X503 l503 y503 z503 st503 hQ503
    subst l503 y503 z503
    obtain ⟨rfl, N503q, eq503⟩ := hQ503
    have N504 := Fr.app N499 N503q
    refine Go.step (fun _ k => st503.trans (XS.iloadN X503.here hx rfl (hb hby at_207) rfl (XS.icmpNo X503.here hx rfl (hb hby at_208) rfl (teq rfl).2 (XS.iconst X503.here hx rfl (hb hby at_211) (XS.goto X503.here hx rfl (pc0 := 212) (pc' := 216) rfl (hb hby at_212) (by decide) (by decide) (XS.istore X503.here hx rfl (hb hby at_216) rfl (l' := #[.val (.int p1), .val (.int p2), .val (.int p3), .val (.int p4), .val (.int p5), .val (.int p6), .val (.int (1 : Int32)), .val (.ref b272), .val (.ref b294), .val (.int (-1 : Int32)), .val (.int (-1 : Int32)), .val (.int (1 : Int32)), .val (.int (1 : Int32))]) rfl (XS.goto X503.here hx rfl (pc0 := 218) (pc' := 253) rfl (hb hby at_218) (by decide) (by decide) (XS.iload X503.here hx rfl (hb hby at_253) rfl k)))))))) ?_
    show Go p e below s _ _ _ T503 (mkF m 255 #[.val (.int p1), .val (.int p2), .val (.int p3), .val (.int p4), .val (.int p5), .val (.int p6), .val (.int (1 : Int32)), .val (.ref b272), .val (.ref b294), .val (.int (-1 : Int32)), .val (.int (-1 : Int32)), .val (.int (1 : Int32)), .val (.int (1 : Int32))] [(.int (1 : Int32))])
    exact Go.retN X503 hx hlk (t := .boolean) Bd.returns (by simp) (hb hby at_255) eq503 ⟨rfl, N504⟩ (by decide) (by decide)

set_option maxRecDepth 65536 in
set_option maxHeartbeats 40000000 in
theorem comes_1 {Post : Tables → Env → Array Value → State → Outcome → State → Prop} (hpost : ∀ tb e args s v u, (limb_1_1.after args s (.returned v) u = true ∧ limb_1_2.after args s (.returned v) u = true ∧ True) → FrameEnd s (.returned v) u (Jvm.fieldLocs frame_1_writes args s ++ Jvm.arrayLocs frame_1_arrays args s ++ Jvm.staticLocs frame_1_statics s) 24 192 → Post tb e args s (.returned v) u) :
    ArmFor flags0 classFile x code maxLocals ret World_1 tables_1 room_1 Calls_1 rest_1 Pre_1 Post := by
  intro l hfl _ _ p e ha hc hk s m args below hf hA hF happ hP
  obtain ⟨hcalls, hrest, hpre⟩ := hP
  obtain ⟨-, -, -, hnamed, -, -, -, hat⟩ := (Spec.applies_iff hf).mp happ
  obtain ⟨hg, hn⟩ := and_e (Cond.before_iff.mp (show (Jvm.Cond.and given_1 narrow_1).before args s = true from hpre))
  obtain ⟨gv1, gv2⟩ := and_e hg
  obtain ⟨gv3, gv4⟩ := and_e gv2
  obtain ⟨gv5, gv6⟩ := and_e gv4
  obtain ⟨gv7, gv8⟩ := and_e gv6
  obtain ⟨gv9, gv10⟩ := and_e gv8
  obtain ⟨gv11, gv12⟩ := and_e gv10
  obtain ⟨w0, w1, w2, w3, w4, w5, rfl⟩ : ∃ w0 w1 w2 w3 w4 w5 : Value, args = #[w0, w1, w2, w3, w4, w5] := by
    have hs : args.size = 6 := by simpa [Cond.value, given_1] using gv1
    obtain ⟨L⟩ := args
    match L, hs with
    | [w0, w1, w2, w3, w4, w5], _ => exact ⟨w0, w1, w2, w3, w4, w5, rfl⟩
  have hw := fun d (hd : d ∈ tables_1) => atoms_spec (ws := Jvm.Cond.code x code maxLocals ret :: tables_1) hat d (List.mem_cons_of_mem _ hd)
  have hfit : Fit s := fun {y c} hc i hi => by
    obtain ⟨ha, rfl⟩ := Array.getElem?_eq_some_iff.mp hc
    have q := List.all_eq_true.mp ((Array.all_eq_true_iff_forall_mem.mp hF) _ (Array.getElem_mem ha)) i (List.mem_range.mpr hi)
    simpa [Array.getElem?_eq_getElem hi] using q
  obtain ⟨i0, ei0⟩ := is_v gv3
  obtain rfl : w0 = (.int i0) := Option.some.inj ei0
  obtain ⟨i1, ei1⟩ := is_v gv5
  obtain rfl : w1 = (.int i1) := Option.some.inj ei1
  obtain ⟨i2, ei2⟩ := is_v gv7
  obtain rfl : w2 = (.int i2) := Option.some.inj ei2
  obtain ⟨i3, ei3⟩ := is_v gv9
  obtain rfl : w3 = (.int i3) := Option.some.inj ei3
  obtain ⟨i4, ei4⟩ := is_v gv11
  obtain rfl : w4 = (.int i4) := Option.some.inj ei4
  obtain ⟨i5, ei5⟩ := is_v gv12
  obtain rfl : w5 = (.int i5) := Option.some.inj ei5
  obtain ⟨hsets, hown0⟩ := atoms_of _ (rest_1_c_eq ▸ (show rest_1_c.before _ s = true from hrest))
  obtain ⟨cs, ecs⟩ := is_v (Cond.before_iff.mp (hsets _ (List.mem_of_getElem? (i := 1) rfl)))
  have Z_S_COMPACT_STRINGS := Sta.start ecs (Or.inl (hsets _ (List.mem_of_getElem? (i := 0) rfl)))
  have hcs : ¬ cs = (0 : Int32) := gotF (Cond.eq_ints ecs (Term.int_eval _)) (not_v (Cond.before_iff.mp (hsets _ (List.mem_of_getElem? (i := 2) rfl))))
  obtain ⟨fv, efv, hfv⟩ := isR_v (Cond.before_iff.mp (hsets _ (List.mem_of_getElem? (i := 8) rfl)))
  have Z_S_SIOOBE_FORMATTER := Sta.start efv (Or.inl (hsets _ (List.mem_of_getElem? (i := 7) rfl)))
  obtain ⟨n, o, h1, h2, h3, _, L, rfl, ⟨rfl, N⟩, hq⟩ := rm_law l s _ hw tables_1 i0 i1 i2 i3 i4 i5 cs fv s.heap s.heap.size (Nat.le_refl _) (Old.start s) Z_S_COMPACT_STRINGS hcs Z_S_SIOOBE_FORMATTER hfv p e ha hc hk s m _ below hf ((Spec.applies_iff_loose hf).mp happ).1 ⟨rfl, State.Warmed39.refl s, rfl⟩ trivial
  refine ⟨n, _, h1, h2, h3, hpost _ _ _ _ _ _ ⟨Cond.after_iff.mpr rfl, Cond.after_iff.mpr (eq_i res_at (Term.int_eval (1)) rfl), trivial⟩ ⟨hq.1, hq.2.1, (hq.2.2.sift fun y hy => Or.inr (N y hy)).mono (by decide) (by decide)⟩⟩
theorem main_1_1 : Claimed_1_1 := comes_1 fun _ _ _ _ _ _ h hF => ⟨h.1, hF⟩
theorem main_1_2 : Claimed_1_2 := comes_1 fun _ _ _ _ _ _ h hF => ⟨h.2.1, hF⟩
end Jvm.Pilot.@@N@@
namespace Jvm.Pilot.@@N@@
open Jvm Jvm.ClassFile Sem Op Lib Jvm.Free Jvm.Stand Jvm.Pilot.@@N@@.Jvm.D
/-! MADE BY PROGRAM (witnessworld.py) out of the Statement's table words and the real class files: 27 classes; the members and pool entries that the words name. The judged class is class 1, her method 1. -/
namespace start1
open Jvm.ClassFile
def u (s : String) : CpInfo := .utf8 (stringToUtf16 s)
/-- a pool by its gaps: so many unusable entries, then the entry; so many at the end -/
def gap : Nat → List CpInfo → List CpInfo
  | 0, r => r
  | n + 1, r => .unusable :: gap n r
def poolList (es : List (Nat × CpInfo)) (last : Nat) : List CpInfo := es.foldr (fun e r => gap e.1 (e.2 :: r)) (gap last [])
def pool (es : List (Nat × CpInfo)) (last : Nat) : Array CpInfo := ⟨poolList es last⟩
def fileOf (pool : Array CpInfo) (this : Nat) (attrs : Array Attribute := #[]) (ms : Array MethodInfo := #[]) (fl : Nat := 33) (sup : Nat := 0) (ifs : Array Nat := #[]) (fds : Array FieldInfo := #[]) : ClassFile where
  minorVersion := 0
  majorVersion := 65
  constantPool := pool
  accessFlags := fl
  thisClass := this
  superClass := sup
  interfaces := ifs
  fields := fds
  methods := ms
  attributes := attrs
def plain (name : String) (sup : Option ClassId) : Class where
  name := name
  kind := .ordinary
  loader := none
  accessFlags := 33
  super := sup
  interfaces := #[]
  cf := none
  fields := #[]
  methods := #[]
  instanceTypes := #[]
  staticTypes := #[]
  resolved := #[]
  callSites := []
  init := .initialized
  statics := none
  mirror := none

def pool0 : Array CpInfo := pool [(5, u "<init>"), (0, u "()V"), (1, .class_ 10), (1, u "java/lang/Object")] 113

def k0c0 : Code := { maxStack := 0, maxLocals := 1, code := object_method_1_code, exceptionTable := #[], attributes := #[] }
def k0m0 : Method := { name := "<init>", desc := "()V", sig := { parameters := [], returnType := none }, accessFlags := 1, code := some k0c0 }
/-- java/lang/Object -/
def k0 : Class := { plain "java/lang/Object" none with
  accessFlags := 33
  interfaces := #[]
  cf := some (fileOf pool0 8 #[] #[{ accessFlags := 1, nameIndex := 5, descriptorIndex := 6, attributes := #[] }] 33 0 #[] #[])
  fields := #[]
  methods := #[k0m0]
  instanceTypes := #[]
  staticTypes := #[]
  resolved := Array.replicate 124 none
  statics := none }

def pool1 : Array CpInfo := pool [(2, .class_ 4), (1, u "java/lang/Object"), (0, u "<init>"), (0, u "()V"), (0, .class_ 8), (0, u "java/lang/String"), (0, .methodref 7 10), (0, .nameAndType 5 11), (0, u "([C)V"), (0, .class_ 13), (0, u "com/example/vaatimus/vaatimus/io/PropertyIndex"), (0, .methodref 12 15), (0, .nameAndType 5 16), (0, u "(Ljava/lang/String;Lcom/example/vaatimus/vaatimus/io/LineEnds;I)V"), (0, .methodref 12 18), (0, .nameAndType 19 20), (0, u "add"), (0, u "(IIIII)I"), (0, .methodref 12 22), (0, .nameAndType 23 24), (0, u "endValue"), (0, u "(I)V"), (0, .methodref 12 26), (0, .nameAndType 27 28), (0, u "size"), (0, u "()I"), (0, .methodref 12 30), (0, .nameAndType 31 32), (0, u "valueEnd"), (0, u "(I)I"), (0, .methodref 12 34), (0, .nameAndType 35 32), (0, u "valueStart"), (0, .methodref 12 37), (0, .nameAndType 38 32), (0, u "line"), (0, .class_ 40), (0, u "com/example/vaatimus/vaatimus/io/PropertyIndexEndValuePinLaw"), (2, u "law"), (0, u "(IIIIII)Z")] 3

def k1m0 : Method := { name := "<init>", desc := "()V", sig := { parameters := [], returnType := none }, accessFlags := 1, code := none }
def k1c1 : Code := { maxStack := 7, maxLocals := 13, code := code, exceptionTable := #[], attributes := #[] }
def k1m1 : Method := { name := "law", desc := "(IIIIII)Z", sig := { parameters := [.int, .int, .int, .int, .int, .int], returnType := some .boolean }, accessFlags := 9, code := some k1c1 }
/-- com/example/vaatimus/vaatimus/io/PropertyIndexEndValuePinLaw -/
def k1 : Class := { plain "com/example/vaatimus/vaatimus/io/PropertyIndexEndValuePinLaw" (some 0) with
  accessFlags := 49
  interfaces := #[]
  cf := some (fileOf pool1 39 #[] #[{ accessFlags := 1, nameIndex := 5, descriptorIndex := 6, attributes := #[] }, { accessFlags := 9, nameIndex := 43, descriptorIndex := 44, attributes := #[] }] 49 2 #[] #[])
  fields := #[]
  methods := #[k1m0, k1m1]
  instanceTypes := #[]
  staticTypes := #[]
  resolved := Array.replicate 48 none
  statics := none }

def pool2 : Array CpInfo := pool [(1, .class_ 2), (0, u "java/io/Serializable"), (0, .class_ 4), (0, u "java/lang/Object")] 2

/-- java/io/Serializable -/
def k2 : Class := { plain "java/io/Serializable" (some 0) with
  accessFlags := 1537
  interfaces := #[]
  cf := some (fileOf pool2 1 #[] #[] 1537 3 #[] #[])
  fields := #[]
  methods := #[]
  instanceTypes := #[]
  staticTypes := #[]
  resolved := Array.replicate 7 none
  statics := none }

def pool3 : Array CpInfo := pool [(1, .class_ 2), (0, u "java/lang/Comparable"), (0, .class_ 4), (0, u "java/lang/Object")] 7

/-- java/lang/Comparable -/
def k3 : Class := { plain "java/lang/Comparable" (some 0) with
  accessFlags := 1537
  interfaces := #[]
  cf := some (fileOf pool3 1 #[] #[] 1537 3 #[] #[])
  fields := #[]
  methods := #[]
  instanceTypes := #[]
  staticTypes := #[]
  resolved := Array.replicate 12 none
  statics := none }

def pool4 : Array CpInfo := pool [(2, .class_ 4), (1, u "java/lang/CharSequence"), (42, .class_ 48), (0, u "java/lang/CharSequence$1CodePointIterator"), (10, .class_ 60), (0, u "java/lang/CharSequence$1CharIterator"), (5, .class_ 67), (0, u "java/lang/Object")] 63

/-- java/lang/CharSequence -/
def k4 : Class := { plain "java/lang/CharSequence" (some 0) with
  accessFlags := 1537
  interfaces := #[]
  cf := some (fileOf pool4 2 #[.nestMembers #[47, 59]] #[] 1537 66 #[] #[])
  fields := #[]
  methods := #[]
  instanceTypes := #[]
  staticTypes := #[]
  resolved := Array.replicate 131 none
  statics := none }

def pool5 : Array CpInfo := pool [(1, .class_ 2), (0, u "java/lang/constant/Constable"), (0, .class_ 4), (0, u "java/lang/Object")] 6

/-- java/lang/constant/Constable -/
def k5 : Class := { plain "java/lang/constant/Constable" (some 0) with
  accessFlags := 1537
  interfaces := #[]
  cf := some (fileOf pool5 1 #[] #[] 1537 3 #[] #[])
  fields := #[]
  methods := #[]
  instanceTypes := #[]
  staticTypes := #[]
  resolved := Array.replicate 11 none
  statics := none }

def pool6 : Array CpInfo := pool [(1, .class_ 2), (0, u "java/lang/constant/ConstantDesc"), (0, .class_ 4), (0, u "java/lang/Object")] 32

/-- java/lang/constant/ConstantDesc -/
def k6 : Class := { plain "java/lang/constant/ConstantDesc" (some 0) with
  accessFlags := 1537
  interfaces := #[]
  cf := some (fileOf pool6 1 #[] #[] 1537 3 #[] #[])
  fields := #[]
  methods := #[]
  instanceTypes := #[]
  staticTypes := #[]
  resolved := Array.replicate 37 none
  statics := none }

def pool7 : Array CpInfo := pool [(1, .methodref 2 3), (0, .class_ 4), (0, .nameAndType 5 6), (0, u "java/lang/Object"), (0, u "<init>"), (0, u "()V"), (2, .fieldref 10 11), (0, .class_ 12), (0, .nameAndType 13 14), (0, u "java/lang/String"), (0, u "value"), (0, u "[B"), (0, .fieldref 10 16), (0, .nameAndType 17 18), (0, u "coder"), (0, u "B"), (2, u "hash"), (0, u "I"), (2, u "hashIsZero"), (0, u "Z"), (0, .methodref 10 28), (0, .nameAndType 5 29), (0, u "([CIILjava/lang/Void;)V"), (8, .fieldref 10 39), (0, .nameAndType 40 26), (0, u "COMPACT_STRINGS"), (1, .class_ 44), (1, u "java/lang/StringUTF16"), (0, u "compress"), (1, .methodref 42 48), (0, .nameAndType 49 50), (0, u "coderFromArrayLen"), (0, u "([BI)B"), (56, .class_ 109), (1, u "java/lang/StringLatin1"), (32, u "()Z"), (34, .methodref 42 178), (0, .nameAndType 45 179), (0, u "([CII)[B"), (183, u "([BI)C"), (27, u "(II)V"), (35, u "(I)C"), (64, .methodref 10 493), (0, .nameAndType 494 142), (0, u "isLatin1"), (0, .methodref 107 496), (0, .nameAndType 497 363), (0, u "charAt"), (3, u "checkIndex"), (73, .class_ 576), (0, u "java/lang/CharSequence"), (22, u "CASE_INSENSITIVE_ORDER"), (0, u "Ljava/util/Comparator;"), (409, u "([C)V"), (42, .fieldref 1054 1055), (0, .class_ 1056), (0, .nameAndType 1057 1058), (0, u "jdk/internal/util/Preconditions"), (0, u "SIOOBE_FORMATTER"), (0, u "Ljava/util/function/BiFunction;"), (0, .methodref 1054 1060), (0, .nameAndType 501 1061), (0, u "(IILjava/util/function/BiFunction;)I"), (39, u "serialPersistentFields"), (0, u "[Ljava/io/ObjectStreamField;"), (0, .class_ 1104), (0, u "java/lang/String$CaseInsensitiveComparator"), (1, .class_ 1107), (0, u "java/io/Serializable"), (0, .class_ 1109), (0, u "java/lang/Comparable"), (0, .class_ 1111), (0, u "java/lang/constant/Constable"), (0, .class_ 1113), (0, u "java/lang/constant/ConstantDesc"), (2, u "serialVersionUID"), (0, u "J"), (3, u "REPL"), (0, u "C"), (2, u "LATIN1"), (1, u "UTF16")] 323

def k7m0 : Method := { name := "<init>", desc := "()V", sig := { parameters := [], returnType := none }, accessFlags := 1, code := none }
def k7c1 : Code := { maxStack := 5, maxLocals := 2, code := jdk_42_method_3_code, exceptionTable := #[], attributes := #[] }
def k7m1 : Method := { name := "<init>", desc := "([C)V", sig := { parameters := [(.array .char)], returnType := none }, accessFlags := 1, code := some k7c1 }
def k7c2 : Code := { maxStack := 2, maxLocals := 2, code := jdk_42_method_56_code, exceptionTable := #[], attributes := #[] }
def k7m2 : Method := { name := "charAt", desc := "(I)C", sig := { parameters := [.int], returnType := some .char }, accessFlags := 1, code := some k7c2 }
def k7c3 : Code := { maxStack := 4, maxLocals := 6, code := jdk_42_method_149_code, exceptionTable := #[], attributes := #[] }
def k7m3 : Method := { name := "<init>", desc := "([CIILjava/lang/Void;)V", sig := { parameters := [(.array .char), .int, .int, (.object "java/lang/Void")], returnType := none }, accessFlags := 2, code := some k7c3 }
def k7c4 : Code := { maxStack := 1, maxLocals := 1, code := jdk_42_method_154_code, exceptionTable := #[], attributes := #[] }
def k7m4 : Method := { name := "isLatin1", desc := "()Z", sig := { parameters := [], returnType := some .boolean }, accessFlags := 0, code := some k7c4 }
def k7c5 : Code := { maxStack := 3, maxLocals := 2, code := jdk_42_method_155_code, exceptionTable := #[], attributes := #[] }
def k7m5 : Method := { name := "checkIndex", desc := "(II)V", sig := { parameters := [.int, .int], returnType := none }, accessFlags := 8, code := some k7c5 }
/-- java/lang/String -/
def k7 : Class := { plain "java/lang/String" (some 0) with
  accessFlags := 49
  interfaces := #[2, 3, 4, 5, 6]
  cf := some (fileOf pool7 10 #[.nestMembers #[1103]] #[{ accessFlags := 1, nameIndex := 5, descriptorIndex := 6, attributes := #[] }, { accessFlags := 1, nameIndex := 5, descriptorIndex := 1010, attributes := #[] }, { accessFlags := 1, nameIndex := 497, descriptorIndex := 427, attributes := #[] }, { accessFlags := 2, nameIndex := 5, descriptorIndex := 29, attributes := #[] }, { accessFlags := 0, nameIndex := 494, descriptorIndex := 142, attributes := #[] }, { accessFlags := 8, nameIndex := 501, descriptorIndex := 391, attributes := #[] }] 49 2 #[1106, 1108, 575, 1110, 1112] #[{ accessFlags := 18, nameIndex := 13, descriptorIndex := 14, attributes := #[] }, { accessFlags := 18, nameIndex := 17, descriptorIndex := 18, attributes := #[] }, { accessFlags := 2, nameIndex := 21, descriptorIndex := 22, attributes := #[] }, { accessFlags := 2, nameIndex := 25, descriptorIndex := 26, attributes := #[] }, { accessFlags := 26, nameIndex := 1116, descriptorIndex := 1117, attributes := #[] }, { accessFlags := 24, nameIndex := 40, descriptorIndex := 26, attributes := #[] }, { accessFlags := 26, nameIndex := 1101, descriptorIndex := 1102, attributes := #[] }, { accessFlags := 26, nameIndex := 1121, descriptorIndex := 1122, attributes := #[] }, { accessFlags := 25, nameIndex := 599, descriptorIndex := 600, attributes := #[] }, { accessFlags := 24, nameIndex := 1125, descriptorIndex := 18, attributes := #[] }, { accessFlags := 24, nameIndex := 1127, descriptorIndex := 18, attributes := #[] }])
  fields := #[{ name := "value", type := (.array .byte), accessFlags := 18, slot := 0, constantValue := 0 }, { name := "coder", type := .byte, accessFlags := 18, slot := 1, constantValue := 0 }, { name := "hash", type := .int, accessFlags := 2, slot := 2, constantValue := 0 }, { name := "hashIsZero", type := .boolean, accessFlags := 2, slot := 3, constantValue := 0 }, { name := "serialVersionUID", type := .long, accessFlags := 26, slot := 0, constantValue := 0 }, { name := "COMPACT_STRINGS", type := .boolean, accessFlags := 24, slot := 1, constantValue := 0 }, { name := "serialPersistentFields", type := (.array (.object "java/io/ObjectStreamField")), accessFlags := 26, slot := 2, constantValue := 0 }, { name := "REPL", type := .char, accessFlags := 26, slot := 3, constantValue := 0 }, { name := "CASE_INSENSITIVE_ORDER", type := (.object "java/util/Comparator"), accessFlags := 25, slot := 4, constantValue := 0 }, { name := "LATIN1", type := .byte, accessFlags := 24, slot := 5, constantValue := 0 }, { name := "UTF16", type := .byte, accessFlags := 24, slot := 6, constantValue := 0 }]
  methods := #[k7m0, k7m1, k7m2, k7m3, k7m4, k7m5]
  instanceTypes := #[(.array .byte), .byte, .int, .boolean]
  staticTypes := #[.long, .boolean, (.array (.object "java/io/ObjectStreamField")), .char, (.object "java/util/Comparator"), .byte, .byte]
  resolved := Array.replicate 1451 none
  statics := some 0 }

def pool8 : Array CpInfo := pool [(6, .class_ 8), (1, u "java/lang/Object"), (0, u "<init>"), (0, u "()V"), (1, .class_ 14), (1, u "java/lang/StringUTF16"), (31, u "$assertionsDisabled"), (0, u "Z"), (13, u "HI_BYTE_SHIFT"), (0, u "I"), (2, u "LO_BYTE_SHIFT"), (49, .methodref 12 116), (0, .nameAndType 117 118), (0, u "compress"), (0, u "([CI[BII)I"), (3, u "([CII)[B"), (138, u "coderFromArrayLen"), (0, u "([BI)B"), (106, .class_ 371), (1, u "java/lang/StringUTF16$LinesSpliterator"), (58, u "MAX_LENGTH"), (196, .class_ 628), (0, u "java/lang/StringUTF16$CodePointsSpliterator"), (0, .class_ 630), (0, u "java/lang/StringUTF16$CharsSpliterator")] 4

def k8m0 : Method := { name := "<init>", desc := "()V", sig := { parameters := [], returnType := none }, accessFlags := 0, code := none }
def k8c1 : Code := { maxStack := 2, maxLocals := 2, code := jdk_52_method_15_code, exceptionTable := #[], attributes := #[] }
def k8m1 : Method := { name := "coderFromArrayLen", desc := "([BI)B", sig := { parameters := [(.array .byte), .int], returnType := some .byte }, accessFlags := 8, code := some k8c1 }
def k8c2 : Code := { maxStack := 5, maxLocals := 6, code := jdk_52_method_16_code, exceptionTable := #[], attributes := #[] }
def k8m2 : Method := { name := "compress", desc := "([CII)[B", sig := { parameters := [(.array .char), .int, .int], returnType := some (.array .byte) }, accessFlags := 9, code := some k8c2 }
def k8c3 : Code := { maxStack := 3, maxLocals := 7, code := jdk_52_method_21_code, exceptionTable := #[], attributes := #[] }
def k8m3 : Method := { name := "compress", desc := "([CI[BII)I", sig := { parameters := [(.array .char), .int, (.array .byte), .int, .int], returnType := some .int }, accessFlags := 9, code := some k8c3 }
/-- java/lang/StringUTF16 -/
def k8 : Class := { plain "java/lang/StringUTF16" (some 0) with
  accessFlags := 48
  interfaces := #[]
  cf := some (fileOf pool8 12 #[.nestMembers #[627, 629, 369]] #[{ accessFlags := 0, nameIndex := 9, descriptorIndex := 10, attributes := #[] }, { accessFlags := 8, nameIndex := 261, descriptorIndex := 262, attributes := #[] }, { accessFlags := 9, nameIndex := 117, descriptorIndex := 122, attributes := #[] }, { accessFlags := 9, nameIndex := 117, descriptorIndex := 118, attributes := #[] }] 48 6 #[] #[{ accessFlags := 26, nameIndex := 61, descriptorIndex := 62, attributes := #[] }, { accessFlags := 26, nameIndex := 65, descriptorIndex := 62, attributes := #[] }, { accessFlags := 24, nameIndex := 430, descriptorIndex := 62, attributes := #[] }, { accessFlags := 4120, nameIndex := 46, descriptorIndex := 47, attributes := #[] }])
  fields := #[{ name := "HI_BYTE_SHIFT", type := .int, accessFlags := 26, slot := 0, constantValue := 0 }, { name := "LO_BYTE_SHIFT", type := .int, accessFlags := 26, slot := 1, constantValue := 0 }, { name := "MAX_LENGTH", type := .int, accessFlags := 24, slot := 2, constantValue := 0 }, { name := "$assertionsDisabled", type := .boolean, accessFlags := 4120, slot := 3, constantValue := 0 }]
  methods := #[k8m0, k8m1, k8m2, k8m3]
  instanceTypes := #[]
  staticTypes := #[.int, .int, .int, .boolean]
  resolved := Array.replicate 635 none
  statics := none }

def pool9 : Array CpInfo := pool [(2, .class_ 4), (1, u "java/util/Map"), (31, .class_ 37), (0, u "java/util/Map$Entry"), (55, .class_ 94), (0, u "java/lang/Object")] 168

/-- java/util/Map -/
def k9 : Class := { plain "java/util/Map" (some 0) with
  accessFlags := 1537
  interfaces := #[]
  cf := some (fileOf pool9 2 #[.nestMembers #[36]] #[] 1537 93 #[] #[])
  fields := #[]
  methods := #[]
  instanceTypes := #[]
  staticTypes := #[]
  resolved := Array.replicate 263 none
  statics := none }

def pool10 : Array CpInfo := pool [(1, .methodref 2 3), (0, .class_ 4), (0, .nameAndType 5 6), (0, u "java/lang/Object"), (0, u "<init>"), (0, u "()V"), (1, .class_ 10), (1, u "java/util/AbstractMap"), (42, .class_ 54), (0, u "java/util/Map"), (9, u "keySet"), (0, u "Ljava/util/Set;"), (0, .class_ 67), (0, u "java/util/AbstractMap$1"), (5, u "values"), (0, u "Ljava/util/Collection;"), (0, .class_ 76), (0, u "java/util/AbstractMap$2"), (104, .class_ 182), (0, u "java/util/AbstractMap$ViewCollection"), (0, .class_ 184), (0, u "java/util/AbstractMap$SimpleImmutableEntry"), (0, .class_ 186), (0, u "java/util/AbstractMap$SimpleEntry"), (0, .class_ 188), (0, u "java/util/AbstractMap$2$1"), (0, .class_ 190), (0, u "java/util/AbstractMap$1$1")] 5

def k10c0 : Code := { maxStack := 1, maxLocals := 1, code := jdk_71_method_1_code, exceptionTable := #[], attributes := #[] }
def k10m0 : Method := { name := "<init>", desc := "()V", sig := { parameters := [], returnType := none }, accessFlags := 4, code := some k10c0 }
/-- java/util/AbstractMap -/
def k10 : Class := { plain "java/util/AbstractMap" (some 0) with
  accessFlags := 1057
  interfaces := #[9]
  cf := some (fileOf pool10 8 #[.nestMembers #[181, 183, 185, 75, 187, 66, 189]] #[{ accessFlags := 4, nameIndex := 5, descriptorIndex := 6, attributes := #[] }] 1057 2 #[53] #[{ accessFlags := 128, nameIndex := 64, descriptorIndex := 65, attributes := #[] }, { accessFlags := 128, nameIndex := 73, descriptorIndex := 74, attributes := #[] }])
  fields := #[{ name := "keySet", type := (.object "java/util/Set"), accessFlags := 128, slot := 0, constantValue := 0 }, { name := "values", type := (.object "java/util/Collection"), accessFlags := 128, slot := 1, constantValue := 0 }]
  methods := #[k10m0]
  instanceTypes := #[(.object "java/util/Set"), (.object "java/util/Collection")]
  staticTypes := #[]
  resolved := Array.replicate 196 none
  statics := none }

def pool11 : Array CpInfo := pool [(2, .class_ 4), (1, u "java/lang/String"), (1, u "()I"), (0, .class_ 8), (0, u "com/example/vaatimus/vaatimus/io/PropertyIndex"), (1, .class_ 12), (1, u "java/lang/Math"), (1, u "(II)I"), (2, u "<init>"), (0, u "(Ljava/lang/String;Lcom/example/vaatimus/vaatimus/io/LineEnds;I)V"), (0, .methodref 20 21), (0, .class_ 22), (0, .nameAndType 17 23), (0, u "java/util/AbstractMap"), (0, u "()V"), (0, .fieldref 7 25), (0, .nameAndType 26 27), (0, u "text"), (0, u "Ljava/lang/String;"), (0, .fieldref 7 29), (0, .nameAndType 30 31), (0, u "lineEnds"), (0, u "Lcom/example/vaatimus/vaatimus/io/LineEnds;"), (0, .methodref 10 33), (0, .nameAndType 34 14), (0, u "max"), (0, .fieldref 7 36), (0, .nameAndType 37 38), (0, u "entries"), (0, u "[I"), (0, .methodref 40 41), (0, .class_ 42), (0, .nameAndType 43 44), (0, u "java/lang/Integer"), (0, u "highestOneBit"), (0, u "(I)I"), (0, .fieldref 7 46), (0, .nameAndType 47 38), (0, u "slots"), (0, .methodref 7 49), (0, .nameAndType 50 51), (0, u "hash"), (0, u "(Ljava/lang/String;II)I"), (0, .methodref 7 53), (0, .nameAndType 54 55), (0, u "slot"), (0, u "(Ljava/lang/String;III)I"), (0, .fieldref 7 57), (0, .nameAndType 58 59), (0, u "keyed"), (0, u "Z"), (0, .fieldref 7 61), (0, .nameAndType 62 63), (0, u "size"), (0, u "I"), (3, u "(I)V"), (0, .methodref 69 70), (0, .class_ 71), (0, .nameAndType 72 73), (0, u "java/util/Arrays"), (0, u "copyOf"), (0, u "([II)[I"), (23, u "add"), (18, .methodref 7 117), (0, .nameAndType 118 51), (0, u "plainHash"), (0, .methodref 2 120), (0, .nameAndType 121 122), (0, u "charAt"), (0, u "(I)C"), (2, u "MULTIPLIER"), (0, u "J"), (30, u "NAME_START"), (2, u "NAME_END"), (1, u "VALUE_START"), (1, u "VALUE_END"), (1, u "LINE"), (1, u "HASH"), (1, u "WIDTH"), (1, u "LONGEST_PROBE"), (1, u "MOST_FIRST_ROOM"), (1, u "PRIME"), (3, u "(IIIII)I"), (1, u "endValue"), (7, u "line"), (0, u "valueStart"), (0, u "valueEnd")] 13

def k11c0 : Code := { maxStack := 3, maxLocals := 5, code := prog_15_method_2_code, exceptionTable := #[], attributes := #[] }
def k11m0 : Method := { name := "<init>", desc := "(Ljava/lang/String;Lcom/example/vaatimus/vaatimus/io/LineEnds;I)V", sig := { parameters := [(.object "java/lang/String"), (.object "com/example/vaatimus/vaatimus/io/LineEnds"), .int], returnType := none }, accessFlags := 0, code := some k11c0 }
def k11c1 : Code := { maxStack := 8, maxLocals := 10, code := prog_15_method_3_code, exceptionTable := #[], attributes := #[] }
def k11m1 : Method := { name := "add", desc := "(IIIII)I", sig := { parameters := [.int, .int, .int, .int, .int], returnType := some .int }, accessFlags := 0, code := some k11c1 }
def k11c2 : Code := { maxStack := 3, maxLocals := 2, code := prog_15_method_4_code, exceptionTable := #[], attributes := #[] }
def k11m2 : Method := { name := "endValue", desc := "(I)V", sig := { parameters := [.int], returnType := none }, accessFlags := 0, code := some k11c2 }
def k11c3 : Code := { maxStack := 1, maxLocals := 1, code := prog_15_method_8_code, exceptionTable := #[], attributes := #[] }
def k11m3 : Method := { name := "size", desc := "()I", sig := { parameters := [], returnType := some .int }, accessFlags := 1, code := some k11c3 }
def k11c4 : Code := { maxStack := 6, maxLocals := 7, code := prog_15_method_11_code, exceptionTable := #[], attributes := #[] }
def k11m4 : Method := { name := "slot", desc := "(Ljava/lang/String;III)I", sig := { parameters := [(.object "java/lang/String"), .int, .int, .int], returnType := some .int }, accessFlags := 2, code := some k11c4 }
def k11c5 : Code := { maxStack := 3, maxLocals := 4, code := prog_15_method_14_code, exceptionTable := #[], attributes := #[] }
def k11m5 : Method := { name := "hash", desc := "(Ljava/lang/String;II)I", sig := { parameters := [(.object "java/lang/String"), .int, .int], returnType := some .int }, accessFlags := 2, code := some k11c5 }
def k11c6 : Code := { maxStack := 3, maxLocals := 5, code := prog_15_method_15_code, exceptionTable := #[], attributes := #[] }
def k11m6 : Method := { name := "plainHash", desc := "(Ljava/lang/String;II)I", sig := { parameters := [(.object "java/lang/String"), .int, .int], returnType := some .int }, accessFlags := 10, code := some k11c6 }
def k11c7 : Code := { maxStack := 3, maxLocals := 2, code := prog_15_method_18_code, exceptionTable := #[], attributes := #[] }
def k11m7 : Method := { name := "line", desc := "(I)I", sig := { parameters := [.int], returnType := some .int }, accessFlags := 0, code := some k11c7 }
def k11c8 : Code := { maxStack := 3, maxLocals := 2, code := prog_15_method_19_code, exceptionTable := #[], attributes := #[] }
def k11m8 : Method := { name := "valueStart", desc := "(I)I", sig := { parameters := [.int], returnType := some .int }, accessFlags := 0, code := some k11c8 }
def k11c9 : Code := { maxStack := 3, maxLocals := 2, code := prog_15_method_20_code, exceptionTable := #[], attributes := #[] }
def k11m9 : Method := { name := "valueEnd", desc := "(I)I", sig := { parameters := [.int], returnType := some .int }, accessFlags := 0, code := some k11c9 }
/-- com/example/vaatimus/vaatimus/io/PropertyIndex -/
def k11 : Class := { plain "com/example/vaatimus/vaatimus/io/PropertyIndex" (some 10) with
  accessFlags := 48
  interfaces := #[]
  cf := some (fileOf pool11 7 #[] #[{ accessFlags := 0, nameIndex := 17, descriptorIndex := 18, attributes := #[] }, { accessFlags := 0, nameIndex := 97, descriptorIndex := 180, attributes := #[] }, { accessFlags := 0, nameIndex := 182, descriptorIndex := 67, attributes := #[] }, { accessFlags := 1, nameIndex := 62, descriptorIndex := 6, attributes := #[] }, { accessFlags := 2, nameIndex := 54, descriptorIndex := 55, attributes := #[] }, { accessFlags := 2, nameIndex := 50, descriptorIndex := 51, attributes := #[] }, { accessFlags := 10, nameIndex := 118, descriptorIndex := 51, attributes := #[] }, { accessFlags := 0, nameIndex := 190, descriptorIndex := 44, attributes := #[] }, { accessFlags := 0, nameIndex := 191, descriptorIndex := 44, attributes := #[] }, { accessFlags := 0, nameIndex := 192, descriptorIndex := 44, attributes := #[] }] 48 20 #[] #[{ accessFlags := 26, nameIndex := 157, descriptorIndex := 63, attributes := #[] }, { accessFlags := 26, nameIndex := 160, descriptorIndex := 63, attributes := #[] }, { accessFlags := 26, nameIndex := 162, descriptorIndex := 63, attributes := #[] }, { accessFlags := 26, nameIndex := 164, descriptorIndex := 63, attributes := #[] }, { accessFlags := 26, nameIndex := 166, descriptorIndex := 63, attributes := #[] }, { accessFlags := 26, nameIndex := 168, descriptorIndex := 63, attributes := #[] }, { accessFlags := 26, nameIndex := 170, descriptorIndex := 63, attributes := #[] }, { accessFlags := 26, nameIndex := 172, descriptorIndex := 63, attributes := #[] }, { accessFlags := 26, nameIndex := 174, descriptorIndex := 63, attributes := #[] }, { accessFlags := 26, nameIndex := 176, descriptorIndex := 126, attributes := #[] }, { accessFlags := 26, nameIndex := 125, descriptorIndex := 126, attributes := #[] }, { accessFlags := 18, nameIndex := 26, descriptorIndex := 27, attributes := #[] }, { accessFlags := 18, nameIndex := 30, descriptorIndex := 31, attributes := #[] }, { accessFlags := 2, nameIndex := 37, descriptorIndex := 38, attributes := #[] }, { accessFlags := 2, nameIndex := 62, descriptorIndex := 63, attributes := #[] }, { accessFlags := 2, nameIndex := 47, descriptorIndex := 38, attributes := #[] }, { accessFlags := 2, nameIndex := 58, descriptorIndex := 59, attributes := #[] }])
  fields := #[{ name := "NAME_START", type := .int, accessFlags := 26, slot := 0, constantValue := 0 }, { name := "NAME_END", type := .int, accessFlags := 26, slot := 1, constantValue := 0 }, { name := "VALUE_START", type := .int, accessFlags := 26, slot := 2, constantValue := 0 }, { name := "VALUE_END", type := .int, accessFlags := 26, slot := 3, constantValue := 0 }, { name := "LINE", type := .int, accessFlags := 26, slot := 4, constantValue := 0 }, { name := "HASH", type := .int, accessFlags := 26, slot := 5, constantValue := 0 }, { name := "WIDTH", type := .int, accessFlags := 26, slot := 6, constantValue := 0 }, { name := "LONGEST_PROBE", type := .int, accessFlags := 26, slot := 7, constantValue := 0 }, { name := "MOST_FIRST_ROOM", type := .int, accessFlags := 26, slot := 8, constantValue := 0 }, { name := "PRIME", type := .long, accessFlags := 26, slot := 9, constantValue := 0 }, { name := "MULTIPLIER", type := .long, accessFlags := 26, slot := 10, constantValue := 0 }, { name := "text", type := (.object "java/lang/String"), accessFlags := 18, slot := 2, constantValue := 0 }, { name := "lineEnds", type := (.object "com/example/vaatimus/vaatimus/io/LineEnds"), accessFlags := 18, slot := 3, constantValue := 0 }, { name := "entries", type := (.array .int), accessFlags := 2, slot := 4, constantValue := 0 }, { name := "size", type := .int, accessFlags := 2, slot := 5, constantValue := 0 }, { name := "slots", type := (.array .int), accessFlags := 2, slot := 6, constantValue := 0 }, { name := "keyed", type := .boolean, accessFlags := 2, slot := 7, constantValue := 0 }]
  methods := #[k11m0, k11m1, k11m2, k11m3, k11m4, k11m5, k11m6, k11m7, k11m8, k11m9]
  instanceTypes := #[(.object "java/util/Set"), (.object "java/util/Collection"), (.object "java/lang/String"), (.object "com/example/vaatimus/vaatimus/io/LineEnds"), (.array .int), .int, (.array .int), .boolean]
  staticTypes := #[.int, .int, .int, .int, .int, .int, .int, .int, .int, .long, .long]
  resolved := Array.replicate 206 none
  statics := none }

def pool12 : Array CpInfo := pool [(1, .class_ 2), (0, u "java/lang/Math"), (1, .class_ 6), (1, u "java/lang/Object"), (0, u "<init>"), (0, u "()V"), (89, .class_ 100), (1, u "java/lang/Math$RandomNumberGeneratorHolder"), (71, u "negativeZeroFloatBits"), (0, u "J"), (2, u "negativeZeroDoubleBits"), (21, u "max"), (2, u "min"), (43, u "$assertionsDisabled"), (0, u "Z"), (88, u "(II)I"), (2, u "twoToTheDoubleScaleDown"), (0, u "D"), (4, u "twoToTheDoubleScaleUp"), (9, u "E"), (3, u "PI"), (2, u "TAU"), (2, u "DEGREES_TO_RADIANS"), (0, u "RADIANS_TO_DEGREES")] 94

def k12m0 : Method := { name := "<init>", desc := "()V", sig := { parameters := [], returnType := none }, accessFlags := 2, code := none }
def k12c1 : Code := { maxStack := 2, maxLocals := 2, code := jdk_29_method_65_code, exceptionTable := #[], attributes := #[] }
def k12m1 : Method := { name := "max", desc := "(II)I", sig := { parameters := [.int, .int], returnType := some .int }, accessFlags := 9, code := some k12c1 }
def k12c2 : Code := { maxStack := 2, maxLocals := 2, code := jdk_29_method_69_code, exceptionTable := #[], attributes := #[] }
def k12m2 : Method := { name := "min", desc := "(II)I", sig := { parameters := [.int, .int], returnType := some .int }, accessFlags := 9, code := some k12c2 }
/-- java/lang/Math -/
def k12 : Class := { plain "java/lang/Math" (some 0) with
  accessFlags := 49
  interfaces := #[]
  cf := some (fileOf pool12 1 #[.nestMembers #[98]] #[{ accessFlags := 2, nameIndex := 7, descriptorIndex := 8, attributes := #[] }, { accessFlags := 9, nameIndex := 198, descriptorIndex := 335, attributes := #[] }, { accessFlags := 9, nameIndex := 201, descriptorIndex := 335, attributes := #[] }] 49 4 #[] #[{ accessFlags := 25, nameIndex := 354, descriptorIndex := 339, attributes := #[] }, { accessFlags := 25, nameIndex := 358, descriptorIndex := 339, attributes := #[] }, { accessFlags := 25, nameIndex := 361, descriptorIndex := 339, attributes := #[] }, { accessFlags := 26, nameIndex := 364, descriptorIndex := 339, attributes := #[] }, { accessFlags := 26, nameIndex := 365, descriptorIndex := 339, attributes := #[] }, { accessFlags := 26, nameIndex := 172, descriptorIndex := 173, attributes := #[] }, { accessFlags := 26, nameIndex := 176, descriptorIndex := 173, attributes := #[] }, { accessFlags := 8, nameIndex := 344, descriptorIndex := 339, attributes := #[] }, { accessFlags := 8, nameIndex := 338, descriptorIndex := 339, attributes := #[] }, { accessFlags := 4120, nameIndex := 245, descriptorIndex := 246, attributes := #[] }])
  fields := #[{ name := "E", type := .double, accessFlags := 25, slot := 0, constantValue := 0 }, { name := "PI", type := .double, accessFlags := 25, slot := 1, constantValue := 0 }, { name := "TAU", type := .double, accessFlags := 25, slot := 2, constantValue := 0 }, { name := "DEGREES_TO_RADIANS", type := .double, accessFlags := 26, slot := 3, constantValue := 0 }, { name := "RADIANS_TO_DEGREES", type := .double, accessFlags := 26, slot := 4, constantValue := 0 }, { name := "negativeZeroFloatBits", type := .long, accessFlags := 26, slot := 5, constantValue := 0 }, { name := "negativeZeroDoubleBits", type := .long, accessFlags := 26, slot := 6, constantValue := 0 }, { name := "twoToTheDoubleScaleUp", type := .double, accessFlags := 8, slot := 7, constantValue := 0 }, { name := "twoToTheDoubleScaleDown", type := .double, accessFlags := 8, slot := 8, constantValue := 0 }, { name := "$assertionsDisabled", type := .boolean, accessFlags := 4120, slot := 9, constantValue := 0 }]
  methods := #[k12m0, k12m1, k12m2]
  instanceTypes := #[]
  staticTypes := #[.double, .double, .double, .double, .double, .long, .long, .double, .double, .boolean]
  resolved := Array.replicate 460 none
  statics := none }

def pool13 : Array CpInfo := pool [(2, .class_ 4), (1, u "java/lang/Object"), (0, u "<init>"), (0, u "()V"), (1, .class_ 10), (1, u "java/lang/Number"), (2, .class_ 14), (0, u "java/io/Serializable"), (0, u "serialVersionUID"), (0, u "J")] 20

def k13m0 : Method := { name := "<init>", desc := "()V", sig := { parameters := [], returnType := none }, accessFlags := 1, code := none }
/-- java/lang/Number -/
def k13 : Class := { plain "java/lang/Number" (some 0) with
  accessFlags := 1057
  interfaces := #[2]
  cf := some (fileOf pool13 8 #[] #[{ accessFlags := 1, nameIndex := 5, descriptorIndex := 6, attributes := #[] }] 1057 2 #[13] #[{ accessFlags := 26, nameIndex := 15, descriptorIndex := 16, attributes := #[] }])
  fields := #[{ name := "serialVersionUID", type := .long, accessFlags := 26, slot := 0, constantValue := 0 }]
  methods := #[k13m0]
  instanceTypes := #[]
  staticTypes := #[.long]
  resolved := Array.replicate 37 none
  statics := none }

def pool14 : Array CpInfo := pool [(1, .class_ 2), (0, u "java/lang/Integer"), (16, u "digits"), (0, u "[C"), (30, .methodref 1 52), (0, .nameAndType 53 54), (0, u "numberOfLeadingZeros"), (0, u "(I)I"), (30, u "DigitOnes"), (0, u "[B"), (2, u "DigitTens"), (37, .integer 2147483648), (61, .class_ 190), (0, u "java/lang/Integer$IntegerCache"), (3, u "I"), (8, .class_ 204), (0, u "java/lang/Number"), (2, u "value"), (56, .integer 65536), (37, u "TYPE"), (0, u "Ljava/lang/Class;"), (0, .class_ 305), (0, u "java/lang/Comparable"), (0, .class_ 307), (0, u "java/lang/constant/Constable"), (0, .class_ 309), (0, u "java/lang/constant/ConstantDesc"), (0, u "MIN_VALUE"), (1, u "MAX_VALUE"), (3, u "SIZE"), (1, u "BYTES"), (1, u "serialVersionUID"), (0, u "J"), (81, u "highestOneBit")] 49

def k14c0 : Code := { maxStack := 3, maxLocals := 1, code := jdk_33_method_45_code, exceptionTable := #[], attributes := #[] }
def k14m0 : Method := { name := "highestOneBit", desc := "(I)I", sig := { parameters := [.int], returnType := some .int }, accessFlags := 9, code := some k14c0 }
def k14c1 : Code := { maxStack := 3, maxLocals := 2, code := jdk_33_method_47_code, exceptionTable := #[], attributes := #[] }
def k14m1 : Method := { name := "numberOfLeadingZeros", desc := "(I)I", sig := { parameters := [.int], returnType := some .int }, accessFlags := 9, code := some k14c1 }
/-- java/lang/Integer -/
def k14 : Class := { plain "java/lang/Integer" (some 13) with
  accessFlags := 49
  interfaces := #[3, 5, 6]
  cf := some (fileOf pool14 1 #[.nestMembers #[189]] #[{ accessFlags := 9, nameIndex := 403, descriptorIndex := 54, attributes := #[] }, { accessFlags := 9, nameIndex := 53, descriptorIndex := 54, attributes := #[] }] 49 203 #[304, 306, 308] #[{ accessFlags := 25, nameIndex := 310, descriptorIndex := 194, attributes := #[] }, { accessFlags := 25, nameIndex := 312, descriptorIndex := 194, attributes := #[] }, { accessFlags := 25, nameIndex := 302, descriptorIndex := 303, attributes := #[] }, { accessFlags := 24, nameIndex := 19, descriptorIndex := 20, attributes := #[] }, { accessFlags := 24, nameIndex := 89, descriptorIndex := 86, attributes := #[] }, { accessFlags := 24, nameIndex := 85, descriptorIndex := 86, attributes := #[] }, { accessFlags := 18, nameIndex := 207, descriptorIndex := 194, attributes := #[] }, { accessFlags := 25, nameIndex := 316, descriptorIndex := 194, attributes := #[] }, { accessFlags := 25, nameIndex := 318, descriptorIndex := 194, attributes := #[] }, { accessFlags := 26, nameIndex := 320, descriptorIndex := 321, attributes := #[] }])
  fields := #[{ name := "MIN_VALUE", type := .int, accessFlags := 25, slot := 0, constantValue := 0 }, { name := "MAX_VALUE", type := .int, accessFlags := 25, slot := 1, constantValue := 0 }, { name := "TYPE", type := (.object "java/lang/Class"), accessFlags := 25, slot := 2, constantValue := 0 }, { name := "digits", type := (.array .char), accessFlags := 24, slot := 3, constantValue := 0 }, { name := "DigitTens", type := (.array .byte), accessFlags := 24, slot := 4, constantValue := 0 }, { name := "DigitOnes", type := (.array .byte), accessFlags := 24, slot := 5, constantValue := 0 }, { name := "value", type := .int, accessFlags := 18, slot := 0, constantValue := 0 }, { name := "SIZE", type := .int, accessFlags := 25, slot := 6, constantValue := 0 }, { name := "BYTES", type := .int, accessFlags := 25, slot := 7, constantValue := 0 }, { name := "serialVersionUID", type := .long, accessFlags := 26, slot := 8, constantValue := 0 }]
  methods := #[k14m0, k14m1]
  instanceTypes := #[.int]
  staticTypes := #[.int, .int, (.object "java/lang/Class"), (.array .char), (.array .byte), (.array .byte), .int, .int, .long]
  resolved := Array.replicate 453 none
  statics := none }

def pool15 : Array CpInfo := pool [(1, .class_ 2), (0, u "java/lang/String"), (1, .class_ 6), (1, u "java/lang/Object"), (0, u "<init>"), (0, u "()V"), (0, .methodref 1 10), (0, .nameAndType 11 12), (0, u "checkIndex"), (0, u "(II)V"), (1, .class_ 16), (1, u "java/lang/StringLatin1"), (36, u "([BI)C"), (67, u "$assertionsDisabled"), (0, u "Z"), (98, .class_ 223), (1, u "java/lang/StringLatin1$LinesSpliterator"), (28, u "charAt"), (137, .class_ 391), (0, u "java/lang/StringLatin1$CharsSpliterator")] 3

def k15m0 : Method := { name := "<init>", desc := "()V", sig := { parameters := [], returnType := none }, accessFlags := 0, code := none }
def k15c1 : Code := { maxStack := 2, maxLocals := 2, code := jdk_43_method_2_code, exceptionTable := #[], attributes := #[] }
def k15m1 : Method := { name := "charAt", desc := "([BI)C", sig := { parameters := [(.array .byte), .int], returnType := some .char }, accessFlags := 9, code := some k15c1 }
/-- java/lang/StringLatin1 -/
def k15 : Class := { plain "java/lang/StringLatin1" (some 0) with
  accessFlags := 48
  interfaces := #[]
  cf := some (fileOf pool15 14 #[.nestMembers #[390, 221]] #[{ accessFlags := 0, nameIndex := 7, descriptorIndex := 8, attributes := #[] }, { accessFlags := 9, nameIndex := 252, descriptorIndex := 53, attributes := #[] }] 48 4 #[] #[{ accessFlags := 4120, nameIndex := 121, descriptorIndex := 122, attributes := #[] }])
  fields := #[{ name := "$assertionsDisabled", type := .boolean, accessFlags := 4120, slot := 0, constantValue := 0 }]
  methods := #[k15m0, k15m1]
  instanceTypes := #[]
  staticTypes := #[.boolean]
  resolved := Array.replicate 395 none
  statics := none }

def pool16 : Array CpInfo := pool [(2, .class_ 4), (1, u "java/lang/Object"), (0, u "<init>"), (0, u "()V"), (17, .class_ 26), (1, u "jdk/internal/util/Preconditions"), (6, u "checkIndex"), (21, .class_ 56), (0, u "jdk/internal/util/Preconditions$4"), (57, .class_ 115), (0, u "jdk/internal/util/Preconditions$1"), (7, u "SIOOBE_FORMATTER"), (0, u "Ljava/util/function/BiFunction;"), (0, .class_ 126), (0, u "jdk/internal/util/Preconditions$2"), (3, u "AIOOBE_FORMATTER"), (0, .class_ 132), (0, u "jdk/internal/util/Preconditions$3"), (3, u "IOOBE_FORMATTER"), (41, u "(IILjava/util/function/BiFunction;)I")] 15

def k16m0 : Method := { name := "<init>", desc := "()V", sig := { parameters := [], returnType := none }, accessFlags := 1, code := none }
def k16c1 : Code := { maxStack := 3, maxLocals := 3, code := jdk_41_method_11_code, exceptionTable := #[], attributes := #[] }
def k16m1 : Method := { name := "checkIndex", desc := "(IILjava/util/function/BiFunction;)I", sig := { parameters := [.int, .int, (.object "java/util/function/BiFunction")], returnType := some .int }, accessFlags := 9, code := some k16c1 }
/-- jdk/internal/util/Preconditions -/
def k16 : Class := { plain "jdk/internal/util/Preconditions" (some 0) with
  accessFlags := 33
  interfaces := #[]
  cf := some (fileOf pool16 24 #[.nestMembers #[55, 131, 125, 114]] #[{ accessFlags := 1, nameIndex := 5, descriptorIndex := 6, attributes := #[] }, { accessFlags := 9, nameIndex := 33, descriptorIndex := 178, attributes := #[] }] 33 2 #[] #[{ accessFlags := 25, nameIndex := 123, descriptorIndex := 124, attributes := #[] }, { accessFlags := 25, nameIndex := 130, descriptorIndex := 124, attributes := #[] }, { accessFlags := 25, nameIndex := 136, descriptorIndex := 124, attributes := #[] }])
  fields := #[{ name := "SIOOBE_FORMATTER", type := (.object "java/util/function/BiFunction"), accessFlags := 25, slot := 0, constantValue := 0 }, { name := "AIOOBE_FORMATTER", type := (.object "java/util/function/BiFunction"), accessFlags := 25, slot := 1, constantValue := 0 }, { name := "IOOBE_FORMATTER", type := (.object "java/util/function/BiFunction"), accessFlags := 25, slot := 2, constantValue := 0 }]
  methods := #[k16m0, k16m1]
  instanceTypes := #[]
  staticTypes := #[(.object "java/util/function/BiFunction"), (.object "java/util/function/BiFunction"), (.object "java/util/function/BiFunction")]
  resolved := Array.replicate 194 none
  statics := some 1 }

def pool17 : Array CpInfo := pool [(2, .class_ 4), (1, u "java/lang/Object"), (0, u "<init>"), (0, u "()V"), (7, .class_ 16), (1, u "java/util/Arrays"), (57, .class_ 76), (1, u "java/util/Arrays$NaturalOrder"), (36, .class_ 115), (1, u "java/util/Arrays$LegacyMergeSort"), (1, u "Z"), (32, .methodref 151 152), (0, .class_ 153), (0, .nameAndType 154 155), (0, u "java/lang/System"), (0, u "arraycopy"), (0, u "(Ljava/lang/Object;ILjava/lang/Object;II)V"), (146, u "copyOf"), (1, .methodref 305 306), (0, .class_ 307), (0, .nameAndType 308 309), (0, u "java/lang/Math"), (0, u "min"), (0, u "(II)I"), (65, .class_ 376), (0, u "java/util/Arrays$ArrayList"), (68, u "$assertionsDisabled"), (269, u "MIN_ARRAY_SORT_GRAN"), (0, u "I"), (2, u "INSERTIONSORT_THRESHOLD"), (151, u "([II)[I"), (103, .class_ 976), (0, u "java/util/Arrays$ArrayItr")] 52

def k17m0 : Method := { name := "<init>", desc := "()V", sig := { parameters := [], returnType := none }, accessFlags := 2, code := none }
def k17c1 : Code := { maxStack := 6, maxLocals := 3, code := jdk_65_method_123_code, exceptionTable := #[], attributes := #[] }
def k17m1 : Method := { name := "copyOf", desc := "([II)[I", sig := { parameters := [(.array .int), .int], returnType := some (.array .int) }, accessFlags := 9, code := some k17c1 }
/-- java/util/Arrays -/
def k17 : Class := { plain "java/util/Arrays" (some 0) with
  accessFlags := 49
  interfaces := #[]
  cf := some (fileOf pool17 14 #[.nestMembers #[975, 375, 113, 74]] #[{ accessFlags := 2, nameIndex := 5, descriptorIndex := 6, attributes := #[] }, { accessFlags := 9, nameIndex := 302, descriptorIndex := 871, attributes := #[] }] 49 2 #[] #[{ accessFlags := 26, nameIndex := 715, descriptorIndex := 716, attributes := #[] }, { accessFlags := 26, nameIndex := 719, descriptorIndex := 716, attributes := #[] }, { accessFlags := 4120, nameIndex := 445, descriptorIndex := 117, attributes := #[] }])
  fields := #[{ name := "MIN_ARRAY_SORT_GRAN", type := .int, accessFlags := 26, slot := 0, constantValue := 0 }, { name := "INSERTIONSORT_THRESHOLD", type := .int, accessFlags := 26, slot := 1, constantValue := 0 }, { name := "$assertionsDisabled", type := .boolean, accessFlags := 4120, slot := 2, constantValue := 0 }]
  methods := #[k17m0, k17m1]
  instanceTypes := #[]
  staticTypes := #[.int, .int, .boolean]
  resolved := Array.replicate 1029 none
  statics := none }

def pool18 : Array CpInfo := pool [(2, .class_ 4), (1, u "java/lang/Object"), (0, u "<init>"), (0, u "()V"), (1, .class_ 10), (1, u "java/lang/System"), (0, u "allowSecurityManager"), (0, u "I"), (16, u "cons"), (0, u "Ljava/io/Console;"), (77, .class_ 110), (1, u "java/lang/System$CallersHolder"), (43, u "initialErrStream"), (0, u "Ljava/io/PrintStream;"), (19, u "security"), (0, u "Ljava/lang/SecurityManager;"), (31, .class_ 209), (0, u "java/lang/System$1"), (7, u "props"), (0, u "Ljava/util/Properties;"), (2, u "lineSeparator"), (0, u "Ljava/lang/String;"), (96, .class_ 321), (1, u "java/lang/System$LoggerFinder"), (5, .class_ 328), (0, u "java/lang/System$Logger"), (67, u "err"), (2, u "out"), (91, u "notSupportedJnuEncoding"), (15, u "in"), (17, u "initialIn"), (0, u "Ljava/io/InputStream;"), (35, u "bootLayer"), (0, u "Ljava/lang/ModuleLayer;"), (99, .class_ 664), (0, u "java/lang/System$2"), (9, u "NEVER"), (2, u "MAYBE"), (49, u "arraycopy"), (0, u "(Ljava/lang/Object;ILjava/lang/Object;II)V"), (72, .class_ 802), (0, u "java/lang/System$Logger$Level")] 31

def k18m0 : Method := { name := "<init>", desc := "()V", sig := { parameters := [], returnType := none }, accessFlags := 2, code := none }
def k18m1 : Method := { name := "arraycopy", desc := "(Ljava/lang/Object;ILjava/lang/Object;II)V", sig := { parameters := [(.object "java/lang/Object"), .int, (.object "java/lang/Object"), .int, .int], returnType := none }, accessFlags := 265, code := none }
/-- java/lang/System -/
def k18 : Class := { plain "java/lang/System" (some 0) with
  accessFlags := 49
  interfaces := #[]
  cf := some (fileOf pool18 8 #[.nestMembers #[319, 327, 801, 108, 663, 208]] #[{ accessFlags := 2, nameIndex := 5, descriptorIndex := 6, attributes := #[] }, { accessFlags := 265, nameIndex := 727, descriptorIndex := 728, attributes := #[] }] 49 2 #[] #[{ accessFlags := 25, nameIndex := 507, descriptorIndex := 526, attributes := #[] }, { accessFlags := 25, nameIndex := 399, descriptorIndex := 155, attributes := #[] }, { accessFlags := 25, nameIndex := 396, descriptorIndex := 155, attributes := #[] }, { accessFlags := 10, nameIndex := 525, descriptorIndex := 526, attributes := #[] }, { accessFlags := 26, nameIndex := 674, descriptorIndex := 12, attributes := #[] }, { accessFlags := 26, nameIndex := 677, descriptorIndex := 12, attributes := #[] }, { accessFlags := 10, nameIndex := 11, descriptorIndex := 12, attributes := #[] }, { accessFlags := 74, nameIndex := 175, descriptorIndex := 176, attributes := #[] }, { accessFlags := 10, nameIndex := 491, descriptorIndex := 222, attributes := #[] }, { accessFlags := 74, nameIndex := 29, descriptorIndex := 30, attributes := #[] }, { accessFlags := 74, nameIndex := 154, descriptorIndex := 155, attributes := #[] }, { accessFlags := 10, nameIndex := 217, descriptorIndex := 218, attributes := #[] }, { accessFlags := 10, nameIndex := 221, descriptorIndex := 222, attributes := #[] }, { accessFlags := 8, nameIndex := 562, descriptorIndex := 563, attributes := #[] }])
  fields := #[{ name := "in", type := (.object "java/io/InputStream"), accessFlags := 25, slot := 0, constantValue := 0 }, { name := "out", type := (.object "java/io/PrintStream"), accessFlags := 25, slot := 1, constantValue := 0 }, { name := "err", type := (.object "java/io/PrintStream"), accessFlags := 25, slot := 2, constantValue := 0 }, { name := "initialIn", type := (.object "java/io/InputStream"), accessFlags := 10, slot := 3, constantValue := 0 }, { name := "NEVER", type := .int, accessFlags := 26, slot := 4, constantValue := 0 }, { name := "MAYBE", type := .int, accessFlags := 26, slot := 5, constantValue := 0 }, { name := "allowSecurityManager", type := .int, accessFlags := 10, slot := 6, constantValue := 0 }, { name := "security", type := (.object "java/lang/SecurityManager"), accessFlags := 74, slot := 7, constantValue := 0 }, { name := "notSupportedJnuEncoding", type := (.object "java/lang/String"), accessFlags := 10, slot := 8, constantValue := 0 }, { name := "cons", type := (.object "java/io/Console"), accessFlags := 74, slot := 9, constantValue := 0 }, { name := "initialErrStream", type := (.object "java/io/PrintStream"), accessFlags := 74, slot := 10, constantValue := 0 }, { name := "props", type := (.object "java/util/Properties"), accessFlags := 10, slot := 11, constantValue := 0 }, { name := "lineSeparator", type := (.object "java/lang/String"), accessFlags := 10, slot := 12, constantValue := 0 }, { name := "bootLayer", type := (.object "java/lang/ModuleLayer"), accessFlags := 8, slot := 13, constantValue := 0 }]
  methods := #[k18m0, k18m1]
  instanceTypes := #[]
  staticTypes := #[(.object "java/io/InputStream"), (.object "java/io/PrintStream"), (.object "java/io/PrintStream"), (.object "java/io/InputStream"), .int, .int, .int, (.object "java/lang/SecurityManager"), (.object "java/lang/String"), (.object "java/io/Console"), (.object "java/io/PrintStream"), (.object "java/util/Properties"), (.object "java/lang/String"), (.object "java/lang/ModuleLayer")]
  resolved := Array.replicate 834 none
  statics := none }

def pool19 : Array CpInfo := pool [(9, u "<init>"), (6, .class_ 18), (1, u "java/lang/Object"), (0, u "()V"), (1, .class_ 23), (1, u "jdk/internal/util/ArraysSupport"), (0, u "LOG2_ARRAY_LONG_INDEX_SCALE"), (0, u "I"), (2, u "U"), (0, u "Ljdk/internal/misc/Unsafe;"), (8, u "BIG_ENDIAN"), (0, u "Z"), (8, u "LOG2_BYTE_BIT_SIZE"), (4, u "LOG2_ARRAY_INT_INDEX_SCALE"), (54, u "JLA"), (0, u "Ljdk/internal/access/JavaLangAccess;"), (11, u "LOG2_ARRAY_BOOLEAN_INDEX_SCALE"), (9, u "LOG2_ARRAY_BYTE_INDEX_SCALE"), (5, u "LOG2_ARRAY_CHAR_INDEX_SCALE"), (5, u "LOG2_ARRAY_SHORT_INDEX_SCALE"), (18, u "LOG2_ARRAY_FLOAT_INDEX_SCALE"), (24, u "LOG2_ARRAY_DOUBLE_INDEX_SCALE"), (89, u "T_BOOLEAN"), (2, u "T_CHAR"), (1, u "T_FLOAT"), (1, u "T_DOUBLE"), (1, u "T_BYTE"), (1, u "T_SHORT"), (1, u "T_INT"), (1, u "T_LONG"), (1, u "SOFT_MAX_ARRAY_LENGTH")] 83

def k19m0 : Method := { name := "<init>", desc := "()V", sig := { parameters := [], returnType := none }, accessFlags := 2, code := none }
/-- jdk/internal/util/ArraysSupport -/
def k19 : Class := { plain "jdk/internal/util/ArraysSupport" (some 0) with
  accessFlags := 33
  interfaces := #[]
  cf := some (fileOf pool19 21 #[] #[{ accessFlags := 2, nameIndex := 9, descriptorIndex := 19, attributes := #[] }] 33 16 #[] #[{ accessFlags := 24, nameIndex := 28, descriptorIndex := 29, attributes := #[] }, { accessFlags := 26, nameIndex := 38, descriptorIndex := 39, attributes := #[] }, { accessFlags := 25, nameIndex := 121, descriptorIndex := 25, attributes := #[] }, { accessFlags := 25, nameIndex := 131, descriptorIndex := 25, attributes := #[] }, { accessFlags := 25, nameIndex := 137, descriptorIndex := 25, attributes := #[] }, { accessFlags := 25, nameIndex := 143, descriptorIndex := 25, attributes := #[] }, { accessFlags := 25, nameIndex := 53, descriptorIndex := 25, attributes := #[] }, { accessFlags := 25, nameIndex := 24, descriptorIndex := 25, attributes := #[] }, { accessFlags := 25, nameIndex := 162, descriptorIndex := 25, attributes := #[] }, { accessFlags := 25, nameIndex := 187, descriptorIndex := 25, attributes := #[] }, { accessFlags := 26, nameIndex := 48, descriptorIndex := 25, attributes := #[] }, { accessFlags := 25, nameIndex := 277, descriptorIndex := 25, attributes := #[] }, { accessFlags := 25, nameIndex := 280, descriptorIndex := 25, attributes := #[] }, { accessFlags := 25, nameIndex := 282, descriptorIndex := 25, attributes := #[] }, { accessFlags := 25, nameIndex := 284, descriptorIndex := 25, attributes := #[] }, { accessFlags := 25, nameIndex := 286, descriptorIndex := 25, attributes := #[] }, { accessFlags := 25, nameIndex := 288, descriptorIndex := 25, attributes := #[] }, { accessFlags := 25, nameIndex := 290, descriptorIndex := 25, attributes := #[] }, { accessFlags := 25, nameIndex := 292, descriptorIndex := 25, attributes := #[] }, { accessFlags := 26, nameIndex := 108, descriptorIndex := 109, attributes := #[] }, { accessFlags := 25, nameIndex := 294, descriptorIndex := 25, attributes := #[] }])
  fields := #[{ name := "U", type := (.object "jdk/internal/misc/Unsafe"), accessFlags := 24, slot := 0, constantValue := 0 }, { name := "BIG_ENDIAN", type := .boolean, accessFlags := 26, slot := 1, constantValue := 0 }, { name := "LOG2_ARRAY_BOOLEAN_INDEX_SCALE", type := .int, accessFlags := 25, slot := 2, constantValue := 0 }, { name := "LOG2_ARRAY_BYTE_INDEX_SCALE", type := .int, accessFlags := 25, slot := 3, constantValue := 0 }, { name := "LOG2_ARRAY_CHAR_INDEX_SCALE", type := .int, accessFlags := 25, slot := 4, constantValue := 0 }, { name := "LOG2_ARRAY_SHORT_INDEX_SCALE", type := .int, accessFlags := 25, slot := 5, constantValue := 0 }, { name := "LOG2_ARRAY_INT_INDEX_SCALE", type := .int, accessFlags := 25, slot := 6, constantValue := 0 }, { name := "LOG2_ARRAY_LONG_INDEX_SCALE", type := .int, accessFlags := 25, slot := 7, constantValue := 0 }, { name := "LOG2_ARRAY_FLOAT_INDEX_SCALE", type := .int, accessFlags := 25, slot := 8, constantValue := 0 }, { name := "LOG2_ARRAY_DOUBLE_INDEX_SCALE", type := .int, accessFlags := 25, slot := 9, constantValue := 0 }, { name := "LOG2_BYTE_BIT_SIZE", type := .int, accessFlags := 26, slot := 10, constantValue := 0 }, { name := "T_BOOLEAN", type := .int, accessFlags := 25, slot := 11, constantValue := 0 }, { name := "T_CHAR", type := .int, accessFlags := 25, slot := 12, constantValue := 0 }, { name := "T_FLOAT", type := .int, accessFlags := 25, slot := 13, constantValue := 0 }, { name := "T_DOUBLE", type := .int, accessFlags := 25, slot := 14, constantValue := 0 }, { name := "T_BYTE", type := .int, accessFlags := 25, slot := 15, constantValue := 0 }, { name := "T_SHORT", type := .int, accessFlags := 25, slot := 16, constantValue := 0 }, { name := "T_INT", type := .int, accessFlags := 25, slot := 17, constantValue := 0 }, { name := "T_LONG", type := .int, accessFlags := 25, slot := 18, constantValue := 0 }, { name := "JLA", type := (.object "jdk/internal/access/JavaLangAccess"), accessFlags := 26, slot := 19, constantValue := 0 }, { name := "SOFT_MAX_ARRAY_LENGTH", type := .int, accessFlags := 25, slot := 20, constantValue := 0 }]
  methods := #[k19m0]
  instanceTypes := #[]
  staticTypes := #[(.object "jdk/internal/misc/Unsafe"), .boolean, .int, .int, .int, .int, .int, .int, .int, .int, .int, .int, .int, .int, .int, .int, .int, .int, .int, (.object "jdk/internal/access/JavaLangAccess"), .int]
  resolved := Array.replicate 378 none
  statics := none }

def pool20 : Array CpInfo := pool [(1, u "java/lang/Cloneable"), (0, .class_ 1), (0, u "java/lang/Object"), (0, .class_ 3)] 3

/-- java/lang/Cloneable -/
def k20 : Class := { plain "java/lang/Cloneable" (some 0) with
  accessFlags := 1537
  interfaces := #[]
  cf := some (fileOf pool20 2 #[] #[] 1537 4 #[] #[])
  fields := #[]
  methods := #[]
  instanceTypes := #[]
  staticTypes := #[]
  resolved := Array.replicate 8 none
  statics := none }

/-- the primitive byte -/
def k21 : Class := { plain "byte" none with kind := .primitive 'B', accessFlags := 0x411 }
/-- [B -/
def k22 : Class := { plain "[B" (some 0) with kind := .array 21 .byte, interfaces := #[20, 2], accessFlags := 1041 }

/-- the primitive char -/
def k23 : Class := { plain "char" none with kind := .primitive 'C', accessFlags := 0x411 }
/-- [C -/
def k24 : Class := { plain "[C" (some 0) with kind := .array 23 .char, interfaces := #[20, 2], accessFlags := 1041 }

/-- the primitive int -/
def k25 : Class := { plain "int" none with kind := .primitive 'I', accessFlags := 0x411 }
/-- [I -/
def k26 : Class := { plain "[I" (some 0) with kind := .array 25 .int, interfaces := #[20, 2], accessFlags := 1041 }

def heap : Heap := #[{ cls := 7, slots := #[.long 0, .int 1, .null, .int 0, .null, .int 0, .int 0], vm := .statics 7 },
  { cls := 16, slots := #[.null, .null, .null], vm := .statics 16 }]
def classes : Array Class := #[k0, k1, k2, k3, k4, k5, k6, k7, k8, k9, k10, k11, k12, k13, k14, k15, k16, k17, k18, k19, k20, k21, k22, k23, k24, k25, k26]
def interned : List (Array UInt16 × Addr) := []
def slotsUsed : Nat := 10
def theMethod : MethodId := ⟨1, 1⟩
def args0 : Array Value := #[.int 1, .int 2, .int 3, .int 4, .int 5, .int 6]
def aboutOver (below : List Frame) : State where
  vm := { classes := classes, interned := interned.toArray }
  heap := heap
  slotsUsed := slotsUsed
  threads := #[{ frames := .invoking theMethod args0 :: below }]
def below0 : List Frame := [.native { method := ⟨0, 0⟩, args := #[] }]
def about1 : State := aboutOver below0
def p0 : Program := .bare "" "" ""
def e0 : Env := launch0.env 0 0 0
theorem w_frames : about1.frames = Frame.invoking theMethod args0 :: below0 := rfl
set_option maxRecDepth 65536 in
theorem w_args : argsFit about1.vm theMethod args0 = true := by decide +kernel
set_option maxRecDepth 65536 in
theorem w_heap : heapFits about1 = true := by decide +kernel
set_option maxRecDepth 65536 in
theorem w_runnable : about1.curStatus? = some .runnable := by decide +kernel
set_option maxRecDepth 65536 in
theorem w_alone : about1.alone = true := by decide +kernel
set_option maxRecDepth 65536 in
theorem w_named : about1.methodNamed? x = some theMethod := by decide +kernel
set_option maxRecDepth 65536 in
theorem w_hears : about1.hears theMethod below0 = true := by decide +kernel
set_option maxRecDepth 65536 in
theorem w_ripe : about1.ripe theMethod args0 below0 = true := by decide +kernel
theorem w_running : about1.status = .running := rfl
set_option maxRecDepth 65536 in
theorem w_room : about1.hasRoom e0.platform room_1 = true :=
  launch0.hasRoom_least _ room_1 (by decide +kernel) (by decide +kernel) (by decide +kernel) (by decide +kernel) (by decide +kernel) (by decide +kernel)
theorem allAtoms_all (ts : List Jvm.Cond) (a : Array Jvm.Value) (st : Jvm.State) : (allAtoms ts).before a st = ts.all (fun c => c.before a st) := by
  induction ts with
  | nil => rfl
  | cons c t ih =>
    show (Jvm.Cond.and c (allAtoms t)).before a st = _
    rw [Jvm.Cond.before_and, ih, List.all_cons]
def words1 : List Jvm.Cond := Jvm.Cond.code x code maxLocals ret :: tables_1
/-- a 'code' word, met by the world's own term for the bytes: nothing is compared byte by byte -/
theorem code_word {y : MethodName} {bytes : ByteArray} {mx : Nat} {rt : Option FieldType} {a : Array Value} {s : State} {m : MethodId} {meth : Method} {c : Code} (h1 : s.methodNamed? y = some m) (h2 : s.vm.method? m = some meth) (h3 : meth.code = some c) (h4 : c.code = bytes)
    (h5 : (c.maxLocals == mx && c.exceptionTable.isEmpty && decide (c.maxStack ≤ mostOperands) && decide (meth.sig.returnType = rt) && !meth.locks && decide (parseMethodDescriptor y.desc = some meth.sig)) = true) : (Jvm.Cond.code y bytes mx rt).before a s = true := by
  simp only [Bool.and_eq_true, beq_iff_eq, Bool.not_eq_true', decide_eq_true_eq] at h5
  obtain ⟨⟨⟨⟨⟨g1, g2⟩, g3⟩, g4⟩, g5⟩, g6⟩ := h5
  simp [Cond.before, Cond.holds, Cond.value, h1, h2, h3, h4, g1, g2, g3, g4, g5, g6]
def isCode : Jvm.Cond → Bool
  | .code _ _ _ _ => true
  | _ => false
theorem all_split {L : List Jvm.Cond} {P : Jvm.Cond → Bool} (h1 : L.all (fun c => isCode c || P c) = true) (h2 : ∀ c ∈ L.filter isCode, P c = true) : L.all P = true := by
  refine List.all_eq_true.mpr fun c hc => ?_
  have h := List.all_eq_true.mp h1 c hc
  rcases Bool.eq_false_or_eq_true (isCode c) with hi | hi
  · exact h2 c (List.mem_filter.mpr ⟨hc, hi⟩)
  · simpa [hi] using h
set_option maxRecDepth 65536 in
theorem w_c0 : (Jvm.Cond.code x code maxLocals ret).before args0 about1 = true := code_word (m := ⟨1, 1⟩) (meth := k1m1) (c := k1c1) (by decide +kernel) rfl rfl rfl (by decide +kernel)
set_option maxRecDepth 65536 in
theorem w_c1 : (Jvm.Cond.code ({ cls := "java/lang/String", name := "<init>", desc := "([C)V" } : Jvm.MethodName) jdk_42_method_3_code (2 : Nat) (Option.none : Option Jvm.ClassFile.FieldType)).before args0 about1 = true := code_word (m := ⟨7, 1⟩) (meth := k7m1) (c := k7c1) (by decide +kernel) rfl rfl rfl (by decide +kernel)
set_option maxRecDepth 65536 in
theorem w_c2 : (Jvm.Cond.code ({ cls := "java/lang/String", name := "<init>", desc := "([CIILjava/lang/Void;)V" } : Jvm.MethodName) jdk_42_method_149_code (6 : Nat) (Option.none : Option Jvm.ClassFile.FieldType)).before args0 about1 = true := code_word (m := ⟨7, 3⟩) (meth := k7m3) (c := k7c3) (by decide +kernel) rfl rfl rfl (by decide +kernel)
set_option maxRecDepth 65536 in
theorem w_c3 : (Jvm.Cond.code ({ cls := "java/lang/Object", name := "<init>", desc := "()V" } : Jvm.MethodName) object_method_1_code (1 : Nat) (Option.none : Option Jvm.ClassFile.FieldType)).before args0 about1 = true := code_word (m := ⟨0, 0⟩) (meth := k0m0) (c := k0c0) (by decide +kernel) rfl rfl rfl (by decide +kernel)
set_option maxRecDepth 65536 in
theorem w_c4 : (Jvm.Cond.code ({ cls := "java/lang/StringUTF16", name := "compress", desc := "([CII)[B" } : Jvm.MethodName) jdk_52_method_16_code (6 : Nat) (Option.some (Jvm.ClassFile.FieldType.array Jvm.ClassFile.FieldType.byte))).before args0 about1 = true := code_word (m := ⟨8, 2⟩) (meth := k8m2) (c := k8c2) (by decide +kernel) rfl rfl rfl (by decide +kernel)
set_option maxRecDepth 65536 in
theorem w_c5 : (Jvm.Cond.code ({ cls := "java/lang/StringUTF16", name := "compress", desc := "([CI[BII)I" } : Jvm.MethodName) jdk_52_method_21_code (7 : Nat) (Option.some Jvm.ClassFile.FieldType.int)).before args0 about1 = true := code_word (m := ⟨8, 3⟩) (meth := k8m3) (c := k8c3) (by decide +kernel) rfl rfl rfl (by decide +kernel)
set_option maxRecDepth 65536 in
theorem w_c6 : (Jvm.Cond.code ({ cls := "java/lang/StringUTF16", name := "coderFromArrayLen", desc := "([BI)B" } : Jvm.MethodName) jdk_52_method_15_code (2 : Nat) (Option.some Jvm.ClassFile.FieldType.byte)).before args0 about1 = true := code_word (m := ⟨8, 1⟩) (meth := k8m1) (c := k8c1) (by decide +kernel) rfl rfl rfl (by decide +kernel)
set_option maxRecDepth 65536 in
theorem w_c7 : (Jvm.Cond.code ({ cls := "com/example/vaatimus/vaatimus/io/PropertyIndex", name := "<init>", desc := "(Ljava/lang/String;Lcom/example/vaatimus/vaatimus/io/LineEnds;I)V" } : Jvm.MethodName) prog_15_method_2_code (5 : Nat) (Option.none : Option Jvm.ClassFile.FieldType)).before args0 about1 = true := code_word (m := ⟨11, 0⟩) (meth := k11m0) (c := k11c0) (by decide +kernel) rfl rfl rfl (by decide +kernel)
set_option maxRecDepth 65536 in
theorem w_c8 : (Jvm.Cond.code ({ cls := "java/util/AbstractMap", name := "<init>", desc := "()V" } : Jvm.MethodName) jdk_71_method_1_code (1 : Nat) (Option.none : Option Jvm.ClassFile.FieldType)).before args0 about1 = true := code_word (m := ⟨10, 0⟩) (meth := k10m0) (c := k10c0) (by decide +kernel) rfl rfl rfl (by decide +kernel)
set_option maxRecDepth 65536 in
theorem w_c9 : (Jvm.Cond.code ({ cls := "java/lang/Math", name := "max", desc := "(II)I" } : Jvm.MethodName) jdk_29_method_65_code (2 : Nat) (Option.some Jvm.ClassFile.FieldType.int)).before args0 about1 = true := code_word (m := ⟨12, 1⟩) (meth := k12m1) (c := k12c1) (by decide +kernel) rfl rfl rfl (by decide +kernel)
set_option maxRecDepth 65536 in
theorem w_c10 : (Jvm.Cond.code ({ cls := "java/lang/Integer", name := "highestOneBit", desc := "(I)I" } : Jvm.MethodName) jdk_33_method_45_code (1 : Nat) (Option.some Jvm.ClassFile.FieldType.int)).before args0 about1 = true := code_word (m := ⟨14, 0⟩) (meth := k14m0) (c := k14c0) (by decide +kernel) rfl rfl rfl (by decide +kernel)
set_option maxRecDepth 65536 in
theorem w_c11 : (Jvm.Cond.code ({ cls := "java/lang/Integer", name := "numberOfLeadingZeros", desc := "(I)I" } : Jvm.MethodName) jdk_33_method_47_code (2 : Nat) (Option.some Jvm.ClassFile.FieldType.int)).before args0 about1 = true := code_word (m := ⟨14, 1⟩) (meth := k14m1) (c := k14c1) (by decide +kernel) rfl rfl rfl (by decide +kernel)
set_option maxRecDepth 65536 in
theorem w_c12 : (Jvm.Cond.code ({ cls := "com/example/vaatimus/vaatimus/io/PropertyIndex", name := "add", desc := "(IIIII)I" } : Jvm.MethodName) prog_15_method_3_code (10 : Nat) (Option.some Jvm.ClassFile.FieldType.int)).before args0 about1 = true := code_word (m := ⟨11, 1⟩) (meth := k11m1) (c := k11c1) (by decide +kernel) rfl rfl rfl (by decide +kernel)
set_option maxRecDepth 65536 in
theorem w_c13 : (Jvm.Cond.code ({ cls := "com/example/vaatimus/vaatimus/io/PropertyIndex", name := "hash", desc := "(Ljava/lang/String;II)I" } : Jvm.MethodName) prog_15_method_14_code (4 : Nat) (Option.some Jvm.ClassFile.FieldType.int)).before args0 about1 = true := code_word (m := ⟨11, 5⟩) (meth := k11m5) (c := k11c5) (by decide +kernel) rfl rfl rfl (by decide +kernel)
set_option maxRecDepth 65536 in
theorem w_c14 : (Jvm.Cond.code ({ cls := "com/example/vaatimus/vaatimus/io/PropertyIndex", name := "plainHash", desc := "(Ljava/lang/String;II)I" } : Jvm.MethodName) prog_15_method_15_code (5 : Nat) (Option.some Jvm.ClassFile.FieldType.int)).before args0 about1 = true := code_word (m := ⟨11, 6⟩) (meth := k11m6) (c := k11c6) (by decide +kernel) rfl rfl rfl (by decide +kernel)
set_option maxRecDepth 65536 in
theorem w_c15 : (Jvm.Cond.code ({ cls := "java/lang/String", name := "charAt", desc := "(I)C" } : Jvm.MethodName) jdk_42_method_56_code (2 : Nat) (Option.some Jvm.ClassFile.FieldType.char)).before args0 about1 = true := code_word (m := ⟨7, 2⟩) (meth := k7m2) (c := k7c2) (by decide +kernel) rfl rfl rfl (by decide +kernel)
set_option maxRecDepth 65536 in
theorem w_c16 : (Jvm.Cond.code ({ cls := "java/lang/String", name := "isLatin1", desc := "()Z" } : Jvm.MethodName) jdk_42_method_154_code (1 : Nat) (Option.some Jvm.ClassFile.FieldType.boolean)).before args0 about1 = true := code_word (m := ⟨7, 4⟩) (meth := k7m4) (c := k7c4) (by decide +kernel) rfl rfl rfl (by decide +kernel)
set_option maxRecDepth 65536 in
theorem w_c17 : (Jvm.Cond.code ({ cls := "java/lang/StringLatin1", name := "charAt", desc := "([BI)C" } : Jvm.MethodName) jdk_43_method_2_code (2 : Nat) (Option.some Jvm.ClassFile.FieldType.char)).before args0 about1 = true := code_word (m := ⟨15, 1⟩) (meth := k15m1) (c := k15c1) (by decide +kernel) rfl rfl rfl (by decide +kernel)
set_option maxRecDepth 65536 in
theorem w_c18 : (Jvm.Cond.code ({ cls := "java/lang/String", name := "checkIndex", desc := "(II)V" } : Jvm.MethodName) jdk_42_method_155_code (2 : Nat) (Option.none : Option Jvm.ClassFile.FieldType)).before args0 about1 = true := code_word (m := ⟨7, 5⟩) (meth := k7m5) (c := k7c5) (by decide +kernel) rfl rfl rfl (by decide +kernel)
set_option maxRecDepth 65536 in
theorem w_c19 : (Jvm.Cond.code ({ cls := "jdk/internal/util/Preconditions", name := "checkIndex", desc := "(IILjava/util/function/BiFunction;)I" } : Jvm.MethodName) jdk_41_method_11_code (3 : Nat) (Option.some Jvm.ClassFile.FieldType.int)).before args0 about1 = true := code_word (m := ⟨16, 1⟩) (meth := k16m1) (c := k16c1) (by decide +kernel) rfl rfl rfl (by decide +kernel)
set_option maxRecDepth 65536 in
theorem w_c20 : (Jvm.Cond.code ({ cls := "com/example/vaatimus/vaatimus/io/PropertyIndex", name := "slot", desc := "(Ljava/lang/String;III)I" } : Jvm.MethodName) prog_15_method_11_code (7 : Nat) (Option.some Jvm.ClassFile.FieldType.int)).before args0 about1 = true := code_word (m := ⟨11, 4⟩) (meth := k11m4) (c := k11c4) (by decide +kernel) rfl rfl rfl (by decide +kernel)
set_option maxRecDepth 65536 in
theorem w_c21 : (Jvm.Cond.code ({ cls := "com/example/vaatimus/vaatimus/io/PropertyIndex", name := "endValue", desc := "(I)V" } : Jvm.MethodName) prog_15_method_4_code (2 : Nat) (Option.none : Option Jvm.ClassFile.FieldType)).before args0 about1 = true := code_word (m := ⟨11, 2⟩) (meth := k11m2) (c := k11c2) (by decide +kernel) rfl rfl rfl (by decide +kernel)
set_option maxRecDepth 65536 in
theorem w_c22 : (Jvm.Cond.code ({ cls := "com/example/vaatimus/vaatimus/io/PropertyIndex", name := "size", desc := "()I" } : Jvm.MethodName) prog_15_method_8_code (1 : Nat) (Option.some Jvm.ClassFile.FieldType.int)).before args0 about1 = true := code_word (m := ⟨11, 3⟩) (meth := k11m3) (c := k11c3) (by decide +kernel) rfl rfl rfl (by decide +kernel)
set_option maxRecDepth 65536 in
theorem w_c23 : (Jvm.Cond.code ({ cls := "com/example/vaatimus/vaatimus/io/PropertyIndex", name := "valueEnd", desc := "(I)I" } : Jvm.MethodName) prog_15_method_20_code (2 : Nat) (Option.some Jvm.ClassFile.FieldType.int)).before args0 about1 = true := code_word (m := ⟨11, 9⟩) (meth := k11m9) (c := k11c9) (by decide +kernel) rfl rfl rfl (by decide +kernel)
set_option maxRecDepth 65536 in
theorem w_c24 : (Jvm.Cond.code ({ cls := "com/example/vaatimus/vaatimus/io/PropertyIndex", name := "valueStart", desc := "(I)I" } : Jvm.MethodName) prog_15_method_19_code (2 : Nat) (Option.some Jvm.ClassFile.FieldType.int)).before args0 about1 = true := code_word (m := ⟨11, 8⟩) (meth := k11m8) (c := k11c8) (by decide +kernel) rfl rfl rfl (by decide +kernel)
set_option maxRecDepth 65536 in
theorem w_c25 : (Jvm.Cond.code ({ cls := "com/example/vaatimus/vaatimus/io/PropertyIndex", name := "line", desc := "(I)I" } : Jvm.MethodName) prog_15_method_18_code (2 : Nat) (Option.some Jvm.ClassFile.FieldType.int)).before args0 about1 = true := code_word (m := ⟨11, 7⟩) (meth := k11m7) (c := k11c7) (by decide +kernel) rfl rfl rfl (by decide +kernel)
set_option maxRecDepth 65536 in
theorem w_c26 : (Jvm.Cond.code ({ cls := "java/util/Arrays", name := "copyOf", desc := "([II)[I" } : Jvm.MethodName) jdk_65_method_123_code (3 : Nat) (Option.some (Jvm.ClassFile.FieldType.array Jvm.ClassFile.FieldType.int))).before args0 about1 = true := code_word (m := ⟨17, 1⟩) (meth := k17m1) (c := k17c1) (by decide +kernel) rfl rfl rfl (by decide +kernel)
set_option maxRecDepth 65536 in
theorem w_c27 : (Jvm.Cond.code ({ cls := "java/lang/Math", name := "min", desc := "(II)I" } : Jvm.MethodName) jdk_29_method_69_code (2 : Nat) (Option.some Jvm.ClassFile.FieldType.int)).before args0 about1 = true := code_word (m := ⟨12, 2⟩) (meth := k12m2) (c := k12c2) (by decide +kernel) rfl rfl rfl (by decide +kernel)
def codes1 : List Jvm.Cond := [Jvm.Cond.code x code maxLocals ret, Jvm.Cond.code ({ cls := "java/lang/String", name := "<init>", desc := "([C)V" } : Jvm.MethodName) jdk_42_method_3_code (2 : Nat) (Option.none : Option Jvm.ClassFile.FieldType), Jvm.Cond.code ({ cls := "java/lang/String", name := "<init>", desc := "([CIILjava/lang/Void;)V" } : Jvm.MethodName) jdk_42_method_149_code (6 : Nat) (Option.none : Option Jvm.ClassFile.FieldType), Jvm.Cond.code ({ cls := "java/lang/Object", name := "<init>", desc := "()V" } : Jvm.MethodName) object_method_1_code (1 : Nat) (Option.none : Option Jvm.ClassFile.FieldType), Jvm.Cond.code ({ cls := "java/lang/StringUTF16", name := "compress", desc := "([CII)[B" } : Jvm.MethodName) jdk_52_method_16_code (6 : Nat) (Option.some (Jvm.ClassFile.FieldType.array Jvm.ClassFile.FieldType.byte)), Jvm.Cond.code ({ cls := "java/lang/StringUTF16", name := "compress", desc := "([CI[BII)I" } : Jvm.MethodName) jdk_52_method_21_code (7 : Nat) (Option.some Jvm.ClassFile.FieldType.int), Jvm.Cond.code ({ cls := "java/lang/StringUTF16", name := "coderFromArrayLen", desc := "([BI)B" } : Jvm.MethodName) jdk_52_method_15_code (2 : Nat) (Option.some Jvm.ClassFile.FieldType.byte), Jvm.Cond.code ({ cls := "com/example/vaatimus/vaatimus/io/PropertyIndex", name := "<init>", desc := "(Ljava/lang/String;Lcom/example/vaatimus/vaatimus/io/LineEnds;I)V" } : Jvm.MethodName) prog_15_method_2_code (5 : Nat) (Option.none : Option Jvm.ClassFile.FieldType), Jvm.Cond.code ({ cls := "java/util/AbstractMap", name := "<init>", desc := "()V" } : Jvm.MethodName) jdk_71_method_1_code (1 : Nat) (Option.none : Option Jvm.ClassFile.FieldType), Jvm.Cond.code ({ cls := "java/lang/Math", name := "max", desc := "(II)I" } : Jvm.MethodName) jdk_29_method_65_code (2 : Nat) (Option.some Jvm.ClassFile.FieldType.int), Jvm.Cond.code ({ cls := "java/lang/Integer", name := "highestOneBit", desc := "(I)I" } : Jvm.MethodName) jdk_33_method_45_code (1 : Nat) (Option.some Jvm.ClassFile.FieldType.int), Jvm.Cond.code ({ cls := "java/lang/Integer", name := "numberOfLeadingZeros", desc := "(I)I" } : Jvm.MethodName) jdk_33_method_47_code (2 : Nat) (Option.some Jvm.ClassFile.FieldType.int), Jvm.Cond.code ({ cls := "com/example/vaatimus/vaatimus/io/PropertyIndex", name := "add", desc := "(IIIII)I" } : Jvm.MethodName) prog_15_method_3_code (10 : Nat) (Option.some Jvm.ClassFile.FieldType.int), Jvm.Cond.code ({ cls := "com/example/vaatimus/vaatimus/io/PropertyIndex", name := "hash", desc := "(Ljava/lang/String;II)I" } : Jvm.MethodName) prog_15_method_14_code (4 : Nat) (Option.some Jvm.ClassFile.FieldType.int), Jvm.Cond.code ({ cls := "com/example/vaatimus/vaatimus/io/PropertyIndex", name := "plainHash", desc := "(Ljava/lang/String;II)I" } : Jvm.MethodName) prog_15_method_15_code (5 : Nat) (Option.some Jvm.ClassFile.FieldType.int), Jvm.Cond.code ({ cls := "java/lang/String", name := "charAt", desc := "(I)C" } : Jvm.MethodName) jdk_42_method_56_code (2 : Nat) (Option.some Jvm.ClassFile.FieldType.char), Jvm.Cond.code ({ cls := "java/lang/String", name := "isLatin1", desc := "()Z" } : Jvm.MethodName) jdk_42_method_154_code (1 : Nat) (Option.some Jvm.ClassFile.FieldType.boolean), Jvm.Cond.code ({ cls := "java/lang/StringLatin1", name := "charAt", desc := "([BI)C" } : Jvm.MethodName) jdk_43_method_2_code (2 : Nat) (Option.some Jvm.ClassFile.FieldType.char), Jvm.Cond.code ({ cls := "java/lang/String", name := "checkIndex", desc := "(II)V" } : Jvm.MethodName) jdk_42_method_155_code (2 : Nat) (Option.none : Option Jvm.ClassFile.FieldType), Jvm.Cond.code ({ cls := "jdk/internal/util/Preconditions", name := "checkIndex", desc := "(IILjava/util/function/BiFunction;)I" } : Jvm.MethodName) jdk_41_method_11_code (3 : Nat) (Option.some Jvm.ClassFile.FieldType.int), Jvm.Cond.code ({ cls := "com/example/vaatimus/vaatimus/io/PropertyIndex", name := "slot", desc := "(Ljava/lang/String;III)I" } : Jvm.MethodName) prog_15_method_11_code (7 : Nat) (Option.some Jvm.ClassFile.FieldType.int), Jvm.Cond.code ({ cls := "com/example/vaatimus/vaatimus/io/PropertyIndex", name := "endValue", desc := "(I)V" } : Jvm.MethodName) prog_15_method_4_code (2 : Nat) (Option.none : Option Jvm.ClassFile.FieldType), Jvm.Cond.code ({ cls := "com/example/vaatimus/vaatimus/io/PropertyIndex", name := "size", desc := "()I" } : Jvm.MethodName) prog_15_method_8_code (1 : Nat) (Option.some Jvm.ClassFile.FieldType.int), Jvm.Cond.code ({ cls := "com/example/vaatimus/vaatimus/io/PropertyIndex", name := "valueEnd", desc := "(I)I" } : Jvm.MethodName) prog_15_method_20_code (2 : Nat) (Option.some Jvm.ClassFile.FieldType.int), Jvm.Cond.code ({ cls := "com/example/vaatimus/vaatimus/io/PropertyIndex", name := "valueStart", desc := "(I)I" } : Jvm.MethodName) prog_15_method_19_code (2 : Nat) (Option.some Jvm.ClassFile.FieldType.int), Jvm.Cond.code ({ cls := "com/example/vaatimus/vaatimus/io/PropertyIndex", name := "line", desc := "(I)I" } : Jvm.MethodName) prog_15_method_18_code (2 : Nat) (Option.some Jvm.ClassFile.FieldType.int), Jvm.Cond.code ({ cls := "java/util/Arrays", name := "copyOf", desc := "([II)[I" } : Jvm.MethodName) jdk_65_method_123_code (3 : Nat) (Option.some (Jvm.ClassFile.FieldType.array Jvm.ClassFile.FieldType.int)), Jvm.Cond.code ({ cls := "java/lang/Math", name := "min", desc := "(II)I" } : Jvm.MethodName) jdk_29_method_69_code (2 : Nat) (Option.some Jvm.ClassFile.FieldType.int)]
set_option maxRecDepth 65536 in
theorem codes_eq : words1.filter isCode = codes1 := rfl
theorem w_codes : ∀ c ∈ words1.filter isCode, c.before args0 about1 = true := by
  rw [codes_eq]
  intro c hc
  simp only [codes1, List.mem_cons, List.not_mem_nil, or_false] at hc
  rcases hc with rfl | rfl | rfl | rfl | rfl | rfl | rfl | rfl | rfl | rfl | rfl | rfl | rfl | rfl | rfl | rfl | rfl | rfl | rfl | rfl | rfl | rfl | rfl | rfl | rfl | rfl | rfl | rfl
  · exact w_c0
  · exact w_c1
  · exact w_c2
  · exact w_c3
  · exact w_c4
  · exact w_c5
  · exact w_c6
  · exact w_c7
  · exact w_c8
  · exact w_c9
  · exact w_c10
  · exact w_c11
  · exact w_c12
  · exact w_c13
  · exact w_c14
  · exact w_c15
  · exact w_c16
  · exact w_c17
  · exact w_c18
  · exact w_c19
  · exact w_c20
  · exact w_c21
  · exact w_c22
  · exact w_c23
  · exact w_c24
  · exact w_c25
  · exact w_c26
  · exact w_c27
set_option maxRecDepth 65536 in
theorem w_t1 : (words1.take 24).all (fun c => isCode c || c.before args0 about1) = true := by decide +kernel
set_option maxRecDepth 65536 in
theorem w_t2 : ((words1.drop 24).take 24).all (fun c => isCode c || c.before args0 about1) = true := by decide +kernel
set_option maxRecDepth 65536 in
theorem w_t3 : (((words1.drop 24).drop 24).take 24).all (fun c => isCode c || c.before args0 about1) = true := by decide +kernel
set_option maxRecDepth 65536 in
theorem w_t4 : ((((words1.drop 24).drop 24).drop 24).take 24).all (fun c => isCode c || c.before args0 about1) = true := by decide +kernel
set_option maxRecDepth 65536 in
theorem w_t5 : (((((words1.drop 24).drop 24).drop 24).drop 24).take 24).all (fun c => isCode c || c.before args0 about1) = true := by decide +kernel
set_option maxRecDepth 65536 in
theorem w_t6 : (((((words1.drop 24).drop 24).drop 24).drop 24).drop 24).all (fun c => isCode c || c.before args0 about1) = true := by decide +kernel
theorem w_tables : (allAtoms (Jvm.Cond.code x code maxLocals ret :: tables_1)).before args0 about1 = true := by
  rw [allAtoms_all]
  show words1.all (fun c => c.before args0 about1) = true
  refine all_split ?_ w_codes
  rw [← List.take_append_drop 24 words1, List.all_append, w_t1, ← List.take_append_drop 24 (words1.drop 24), List.all_append, w_t2, ← List.take_append_drop 24 ((words1.drop 24).drop 24), List.all_append, w_t3, ← List.take_append_drop 24 (((words1.drop 24).drop 24).drop 24), List.all_append, w_t4, ← List.take_append_drop 24 ((((words1.drop 24).drop 24).drop 24).drop 24), List.all_append, w_t5, w_t6]
  rfl
set_option maxRecDepth 65536 in
theorem w_rest : rest_1_c.before args0 about1 = true := by decide +kernel
set_option maxRecDepth 65536 in
theorem w_case : (Jvm.Cond.and given_1 narrow_1).before args0 about1 = true := by decide +kernel
theorem w_applies : (headSpec (Jvm.Cond.code x code maxLocals ret :: tables_1) room_1).applies x e0.platform about1 = true :=
  (Spec.applies_iff w_frames).mpr ⟨w_running, w_runnable, w_alone, w_named, w_hears, w_ripe, w_room, w_tables⟩
theorem atStart : AtStart classFile x code maxLocals ret World_1 tables_1 room_1 Calls_1 rest_1 Pre_1 launch0 p0 e0 about1 theMethod args0 below0 :=
  ⟨lists_1, trivial, launch0.admits_env _ _ _, launch0.least_env, fairChoices_fair.cas, fairChoices_fair.clock, w_frames, w_args, w_heap, w_applies, trivial, w_rest, w_case⟩
end start1
theorem witness_1 : WitnessClaimed_1 := ⟨start1.p0, start1.e0, start1.about1, start1.theMethod, start1.args0, start1.below0, start1.atStart⟩
end Jvm.Pilot.@@N@@
