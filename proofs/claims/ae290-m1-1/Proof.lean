import JvmDerived
import JvmDerived.Pilot.@@N@@Statement
import JvmDerived.Pilot.@@N@@Code
set_option linter.unusedVariables false
set_option linter.unusedSimpArgs false
namespace Jvm.RoadKit
open Sem ClassFile Op Lib Jvm.Stand Jvm.Free Jvm.LawKit
section New
variable {p : Program} {l : Launch} {e : Env} {R : Room} {s : State} {m : MethodId} {args : Array Value} {below : List Frame} {meth : Method} {c : Code} {T T' : State} {locs : List Loc} {cells slots : Nat}
theorem retI (X : Stand p l e R s m args below meth c T locs cells slots) (hx : p.tables.exec = Jvm.exec) {pc : Nat} {Ls : Array Slot} {z : Int32} {rest : List Value} (hret : meth.sig.returnType = some .int) (hd : decode c.code pc = .ok (.ireturn, 1)) {fs : List Frame}
    (hl : ∀ (f : JFrame) (acts : List Action), f.method = m → f.locked = none → f.entered = [] → (doReturn e (T.setTop f) acts (some (.int z))).1 = T.setFrames fs) : Steps p.tables e below (T.setTop (mkF m pc Ls (.int z :: rest))) (T.setFrames fs) := by
  have hm' : T.vm.method? m = some meth := X.method'
  have hn : narrow .int (.int z) = .int z := rfl
  show Steps p.tables e below (T.setTop { method := m, pc := pc, locals := Ls, stack := _ :: rest, locked := none }) _
  jvm_step X.here [X.here.top, hx, hd, hm', hret, hn]
  first | (intro acts; rw [hl _ acts rfl rfl rfl]) | rw [hl _ _ rfl rfl rfl]
  exact Steps.refl _
/-- from here the run comes to its return, and Q holds of what it returns, of the heap and of what it wrote -/
def Go (p : Program) (e : Env) (below : List Frame) (s : State) (Q : Option Value → Heap → List Loc → Prop) (kc ks : Nat) (T : State) (g : JFrame) : Prop :=
  ∃ s₂ o, Steps p.tables e below (T.setTop g) s₂ ∧ s₂.status = .running ∧ Ended s₂ below o ∧ ∃ v L, o = .returned v ∧ Q v s₂.heap L ∧ FrameEnd s o s₂ L kc ks
variable {Q : Option Value → Heap → List Loc → Prop} {kc ks : Nat} {g g' : JFrame}
theorem Go.step (h : ∀ t, Steps p.tables e below (T'.setTop g') t → Steps p.tables e below (T.setTop g) t) (k : Go p e below s Q kc ks T' g') : Go p e below s Q kc ks T g := by
  obtain ⟨s₂, o, h1, r⟩ := k
  exact ⟨s₂, o, h _ h1, r⟩
theorem Go.cast (q : g = g') (k : Go p e below s Q kc ks T g') : Go p e below s Q kc ks T g := q ▸ k
theorem Go.done (X : Stand p l e R s m args below meth c T locs cells slots) (hlocks : meth.locks = false) {v : Option Value} (hv : meth.sig.returnType = none → v = none)
    (hret : ∀ fs, (∀ (f : JFrame) (acts : List Action), f.method = m → f.locked = none → f.entered = [] → (doReturn e (T.setTop f) acts v).1 = T.setFrames fs) → Steps p.tables e below (T.setTop g) (T.setFrames fs))
    {h : Heap} (eT : T.heap = h) (hQ : Q v h locs) (hc : cells ≤ kc) (hs : slots ≤ ks) : Go p e below s Q kc ks T g := by
  obtain ⟨fs, hr, hrun, hended, hW, hsame⟩ := X.leave hv hlocks
  refine ⟨_, _, hret fs hr, hrun, hended, _, _, rfl, ?_, ⟨_, rfl⟩, hW, hsame.mono hc hs⟩
  show Q v T.heap locs
  rw [eT]
  exact hQ
theorem Go.retV (X : Stand p l e R s m args below meth c T locs cells slots) (hx : p.tables.exec = Jvm.exec) (hlocks : meth.locks = false) (hr : meth.sig.returnType = none) {pc : Nat} {Ls : Array Slot} (hd : decode c.code pc = .ok (.return_, 1))
    {h : Heap} (eT : T.heap = h) (hQ : Q none h locs) (hc : cells ≤ kc) (hs : slots ≤ ks) : Go p e below s Q kc ks T (mkF m pc Ls []) :=
  Go.done X hlocks (fun _ => rfl) (fun fs k => X.returnOut hx hr hd k) eT hQ hc hs
theorem Go.retN (X : Stand p l e R s m args below meth c T locs cells slots) (hx : p.tables.exec = Jvm.exec) (hlocks : meth.locks = false) {t : FieldType} (hr : meth.sig.returnType = some t) (ht : t = .boolean ∨ t = .byte ∨ t = .char ∨ t = .short) {pc : Nat} {Ls : Array Slot} {z : Int32} {st : List Value} (hd : decode c.code pc = .ok (.ireturn, 1))
    {h : Heap} (eT : T.heap = h) (hQ : Q (some (.int (nar t z))) h locs) (hc : cells ≤ kc) (hs : slots ≤ ks) : Go p e below s Q kc ks T (mkF m pc Ls (.int z :: st)) :=
  Go.done X hlocks (fun q => by rw [hr] at q; cases q) (fun fs k => Jvm.RoadKit.retN X hx hr ht hd k) eT hQ hc hs
theorem Go.retI (X : Stand p l e R s m args below meth c T locs cells slots) (hx : p.tables.exec = Jvm.exec) (hlocks : meth.locks = false) (hr : meth.sig.returnType = some .int) {pc : Nat} {Ls : Array Slot} {z : Int32} {st : List Value} (hd : decode c.code pc = .ok (.ireturn, 1))
    {h : Heap} (eT : T.heap = h) (hQ : Q (some (.int z)) h locs) (hc : cells ≤ kc) (hs : slots ≤ ks) : Go p e below s Q kc ks T (mkF m pc Ls (.int z :: st)) :=
  Go.done X hlocks (fun q => by rw [hr] at q; cases q) (fun fs k => Jvm.RoadKit.retI X hx hr hd k) eT hQ hc hs
theorem Go.retJ (X : Stand p l e R s m args below meth c T locs cells slots) (hx : p.tables.exec = Jvm.exec) (hlocks : meth.locks = false) (hr : meth.sig.returnType = some .long) {pc : Nat} {Ls : Array Slot} {z : Int64} {st : List Value} (hd : decode c.code pc = .ok (.lreturn, 1))
    {h : Heap} (eT : T.heap = h) (hQ : Q (some (.long z)) h locs) (hc : cells ≤ kc) (hs : slots ≤ ks) : Go p e below s Q kc ks T (mkF m pc Ls (.long z :: st)) :=
  Go.done X hlocks (fun q => by rw [hr] at q; cases q) (fun fs k => retOut X hx hr rfl (Or.inr (Or.inl ⟨rfl, rfl, _, rfl⟩)) hd k) eT hQ hc hs
theorem Go.retA (X : Stand p l e R s m args below meth c T locs cells slots) (hx : p.tables.exec = Jvm.exec) (hlocks : meth.locks = false) {t : FieldType} (hr : meth.sig.returnType = some t) (ht : t.isReference = true) {w : Value} (hw : w.isRef = true) {pc : Nat} {Ls : Array Slot} {st : List Value} (hd : decode c.code pc = .ok (.areturn, 1))
    {h : Heap} (eT : T.heap = h) (hQ : Q (some w) h locs) (hc : cells ≤ kc) (hs : slots ≤ ks) : Go p e below s Q kc ks T (mkF m pc Ls (w :: st)) :=
  Go.done X hlocks (fun q => by rw [hr] at q; cases q) (fun fs k => retOut X hx hr (by cases t <;> first | (cases ht; done) | (rcases ref_cases hw with rfl | ⟨a, rfl⟩ <;> rfl)) (Or.inr (Or.inr (Or.inr (Or.inr ⟨rfl, ht, hw⟩)))) hd k) eT hQ hc hs
end New
end Jvm.RoadKit
namespace Jvm.Pilot.@@N@@
open Jvm Jvm.ClassFile Sem Op Lib Jvm.Free Jvm.Stand Jvm.LawKit Jvm.RoadKit Bundle Jvm.Pilot.@@N@@.Jvm.D
def own_sh (z : Int64) (k : Int32) : Int64 := (z.toUInt64 >>> (k &&& 0x3f).toInt64.toUInt64).toInt64
def own_mix (z : Int64) : Int64 :=
  let a := (z ^^^ own_sh z 30) * (-4658895280553007687 : Int64)
  let b := (a ^^^ own_sh a 27) * (-7723592293110705685 : Int64)
  b ^^^ own_sh b 31
def own_unmix (z : Int64) : Int64 :=
  let a := ((z ^^^ own_sh z 31) ^^^ own_sh z 62) * (3573116690164977347 : Int64)
  let b := ((a ^^^ own_sh a 27) ^^^ own_sh a 54) * (-7575587736534282103 : Int64)
  (b ^^^ own_sh b 30) ^^^ own_sh b 60
theorem own_sh_bv (z : Int64) (k : Int32) (n : Nat) (h : (k &&& 0x3f).toInt64.toUInt64 = UInt64.ofNat n) (hn : n < 64) : (own_sh z k).toBitVec = z.toBitVec >>> n := by
  unfold own_sh
  rw [h]
  show (z.toUInt64 >>> UInt64.ofNat n).toBitVec = _
  rw [UInt64.toBitVec_shiftRight]
  show z.toBitVec >>> _ = _
  have : (UInt64.ofNat n).toBitVec % 64 = BitVec.ofNat 64 n := by
    apply BitVec.eq_of_toNat_eq
    simp
    omega
  rw [this]
  show z.toBitVec >>> (BitVec.ofNat 64 n).toNat = _
  congr 1
  simp
  omega
theorem own_xs (b : BitVec 64) (n : Nat) (hn : 64 ≤ 3 * n) : ((b ^^^ b >>> n) ^^^ (b ^^^ b >>> n) >>> n) ^^^ (b ^^^ b >>> n) >>> (2 * n) = b := by
  have e1 : b >>> n >>> n = b >>> (2 * n) := by rw [← BitVec.shiftRight_add]; congr 1; omega
  have e2 : b >>> n >>> (2 * n) = 0#64 := by
    rw [← BitVec.shiftRight_add]
    exact BitVec.ushiftRight_eq_zero (by omega)
  rw [BitVec.ushiftRight_xor_distrib, BitVec.ushiftRight_xor_distrib, e1, e2]
  simp only [BitVec.xor_zero]
  rw [BitVec.xor_assoc b, ← BitVec.xor_assoc (b >>> n), BitVec.xor_self, BitVec.zero_xor, BitVec.xor_assoc, BitVec.xor_self, BitVec.xor_zero]
theorem own_xsh (z : Int64) (k k2 : Int32) (n : Nat) (h : (k &&& 0x3f).toInt64.toUInt64 = UInt64.ofNat n) (h2 : (k2 &&& 0x3f).toInt64.toUInt64 = UInt64.ofNat (2 * n)) (hn : 64 ≤ 3 * n) (hn2 : 2 * n < 64) :
    ((z ^^^ own_sh z k) ^^^ own_sh (z ^^^ own_sh z k) k) ^^^ own_sh (z ^^^ own_sh z k) k2 = z := by
  apply Int64.toBitVec_inj.mp
  simp only [Int64.toBitVec_xor, own_sh_bv _ k n h (by omega), own_sh_bv _ k2 (2 * n) h2 hn2]
  exact own_xs _ n hn
theorem own_mul (a c d : Int64) (h : c * d = 1) : a * c * d = a := by rw [Int64.mul_assoc, h, Int64.mul_one]
theorem own_inv (z : Int64) : own_unmix (own_mix z) = z := by
  unfold own_unmix own_mix
  simp only
  rw [own_xsh _ 31 62 31 (by decide) (by decide) (by omega) (by omega), own_mul _ _ _ (by decide), own_xsh _ 27 54 27 (by decide) (by decide) (by omega) (by omega), own_mul _ _ _ (by decide), own_xsh _ 30 60 30 (by decide) (by decide) (by omega) (by omega)]
theorem d2_0 : decode method_2_code 0 = .ok (.lload_n 0, 1) := by decide +kernel
theorem d2_1 : decode method_2_code 1 = .ok (.lload_n 0, 1) := by decide +kernel
theorem d2_2 : decode method_2_code 2 = .ok (.bipush 31, 2) := by decide +kernel
theorem d2_4 : decode method_2_code 4 = .ok (.lushr, 1) := by decide +kernel
theorem d2_5 : decode method_2_code 5 = .ok (.lxor, 1) := by decide +kernel
theorem d2_6 : decode method_2_code 6 = .ok (.lload_n 0, 1) := by decide +kernel
theorem d2_7 : decode method_2_code 7 = .ok (.bipush 62, 2) := by decide +kernel
theorem d2_9 : decode method_2_code 9 = .ok (.lushr, 1) := by decide +kernel
theorem d2_10 : decode method_2_code 10 = .ok (.lxor, 1) := by decide +kernel
theorem d2_11 : decode method_2_code 11 = .ok (.ldc2_w 7, 3) := by decide +kernel
theorem d2_14 : decode method_2_code 14 = .ok (.lmul, 1) := by decide +kernel
theorem d2_15 : decode method_2_code 15 = .ok (.lstore_n 0, 1) := by decide +kernel
theorem d2_16 : decode method_2_code 16 = .ok (.lload_n 0, 1) := by decide +kernel
theorem d2_17 : decode method_2_code 17 = .ok (.lload_n 0, 1) := by decide +kernel
theorem d2_18 : decode method_2_code 18 = .ok (.bipush 27, 2) := by decide +kernel
theorem d2_20 : decode method_2_code 20 = .ok (.lushr, 1) := by decide +kernel
theorem d2_21 : decode method_2_code 21 = .ok (.lxor, 1) := by decide +kernel
theorem d2_22 : decode method_2_code 22 = .ok (.lload_n 0, 1) := by decide +kernel
theorem d2_23 : decode method_2_code 23 = .ok (.bipush 54, 2) := by decide +kernel
theorem d2_25 : decode method_2_code 25 = .ok (.lushr, 1) := by decide +kernel
theorem d2_26 : decode method_2_code 26 = .ok (.lxor, 1) := by decide +kernel
theorem d2_27 : decode method_2_code 27 = .ok (.ldc2_w 9, 3) := by decide +kernel
theorem d2_30 : decode method_2_code 30 = .ok (.lmul, 1) := by decide +kernel
theorem d2_31 : decode method_2_code 31 = .ok (.lstore_n 0, 1) := by decide +kernel
theorem d2_32 : decode method_2_code 32 = .ok (.lload_n 0, 1) := by decide +kernel
theorem d2_33 : decode method_2_code 33 = .ok (.lload_n 0, 1) := by decide +kernel
theorem d2_34 : decode method_2_code 34 = .ok (.bipush 30, 2) := by decide +kernel
theorem d2_36 : decode method_2_code 36 = .ok (.lushr, 1) := by decide +kernel
theorem d2_37 : decode method_2_code 37 = .ok (.lxor, 1) := by decide +kernel
theorem d2_38 : decode method_2_code 38 = .ok (.lload_n 0, 1) := by decide +kernel
theorem d2_39 : decode method_2_code 39 = .ok (.bipush 60, 2) := by decide +kernel
theorem d2_41 : decode method_2_code 41 = .ok (.lushr, 1) := by decide +kernel
theorem d2_42 : decode method_2_code 42 = .ok (.lxor, 1) := by decide +kernel
theorem d2_43 : decode method_2_code 43 = .ok (.lreturn, 1) := by decide +kernel
theorem d0_0 : decode prog_68_method_1_code 0 = .ok (.aload_n 0, 1) := by decide +kernel
theorem d0_1 : decode prog_68_method_1_code 1 = .ok (.invokespecial 1, 3) := by decide +kernel
theorem d0_4 : decode prog_68_method_1_code 4 = .ok (.aload_n 0, 1) := by decide +kernel
theorem d0_5 : decode prog_68_method_1_code 5 = .ok (.lload_n 1, 1) := by decide +kernel
theorem d0_6 : decode prog_68_method_1_code 6 = .ok (.putfield 7, 3) := by decide +kernel
theorem d0_9 : decode prog_68_method_1_code 9 = .ok (.return_, 1) := by decide +kernel
theorem d1_0 : decode prog_68_method_2_code 0 = .ok (.aload_n 0, 1) := by decide +kernel
theorem d1_1 : decode prog_68_method_2_code 1 = .ok (.dup, 1) := by decide +kernel
theorem d1_2 : decode prog_68_method_2_code 2 = .ok (.getfield 7, 3) := by decide +kernel
theorem d1_5 : decode prog_68_method_2_code 5 = .ok (.ldc2_w 13, 3) := by decide +kernel
theorem d1_8 : decode prog_68_method_2_code 8 = .ok (.ladd, 1) := by decide +kernel
theorem d1_9 : decode prog_68_method_2_code 9 = .ok (.putfield 7, 3) := by decide +kernel
theorem d1_12 : decode prog_68_method_2_code 12 = .ok (.aload_n 0, 1) := by decide +kernel
theorem d1_13 : decode prog_68_method_2_code 13 = .ok (.getfield 7, 3) := by decide +kernel
theorem d1_16 : decode prog_68_method_2_code 16 = .ok (.lstore_n 1, 1) := by decide +kernel
theorem d1_17 : decode prog_68_method_2_code 17 = .ok (.lload_n 1, 1) := by decide +kernel
theorem d1_18 : decode prog_68_method_2_code 18 = .ok (.lload_n 1, 1) := by decide +kernel
theorem d1_19 : decode prog_68_method_2_code 19 = .ok (.bipush 30, 2) := by decide +kernel
theorem d1_21 : decode prog_68_method_2_code 21 = .ok (.lushr, 1) := by decide +kernel
theorem d1_22 : decode prog_68_method_2_code 22 = .ok (.lxor, 1) := by decide +kernel
theorem d1_23 : decode prog_68_method_2_code 23 = .ok (.ldc2_w 15, 3) := by decide +kernel
theorem d1_26 : decode prog_68_method_2_code 26 = .ok (.lmul, 1) := by decide +kernel
theorem d1_27 : decode prog_68_method_2_code 27 = .ok (.lstore_n 1, 1) := by decide +kernel
theorem d1_28 : decode prog_68_method_2_code 28 = .ok (.lload_n 1, 1) := by decide +kernel
theorem d1_29 : decode prog_68_method_2_code 29 = .ok (.lload_n 1, 1) := by decide +kernel
theorem d1_30 : decode prog_68_method_2_code 30 = .ok (.bipush 27, 2) := by decide +kernel
theorem d1_32 : decode prog_68_method_2_code 32 = .ok (.lushr, 1) := by decide +kernel
theorem d1_33 : decode prog_68_method_2_code 33 = .ok (.lxor, 1) := by decide +kernel
theorem d1_34 : decode prog_68_method_2_code 34 = .ok (.ldc2_w 17, 3) := by decide +kernel
theorem d1_37 : decode prog_68_method_2_code 37 = .ok (.lmul, 1) := by decide +kernel
theorem d1_38 : decode prog_68_method_2_code 38 = .ok (.lstore_n 1, 1) := by decide +kernel
theorem d1_39 : decode prog_68_method_2_code 39 = .ok (.lload_n 1, 1) := by decide +kernel
theorem d1_40 : decode prog_68_method_2_code 40 = .ok (.lload_n 1, 1) := by decide +kernel
theorem d1_41 : decode prog_68_method_2_code 41 = .ok (.bipush 31, 2) := by decide +kernel
theorem d1_43 : decode prog_68_method_2_code 43 = .ok (.lushr, 1) := by decide +kernel
theorem d1_44 : decode prog_68_method_2_code 44 = .ok (.lxor, 1) := by decide +kernel
theorem d1_45 : decode prog_68_method_2_code 45 = .ok (.lreturn, 1) := by decide +kernel
theorem tw0 {Z : State} {a0 : Array Value} (hw : ∀ d ∈ tables_1, d.before a0 Z = true) : (Jvm.Cond.classLink "com/example/wayfare/wayfare/market/RandomSourceNextLongPinLaw" (11 : Nat) "com/example/wayfare/wayfare/market/RandomSource").before a0 Z = true := hw _ (List.mem_of_getElem? (i := 0) rfl)
theorem tw1 {Z : State} {a0 : Array Value} (hw : ∀ d ∈ tables_1, d.before a0 Z = true) : (Jvm.Cond.instantiable "com/example/wayfare/wayfare/market/RandomSource" (1 : Nat)).before a0 Z = true := hw _ (List.mem_of_getElem? (i := 1) rfl)
theorem tw2 {Z : State} {a0 : Array Value} (hw : ∀ d ∈ tables_1, d.before a0 Z = true) : (Jvm.Cond.initialized "com/example/wayfare/wayfare/market/RandomSource").before a0 Z = true := hw _ (List.mem_of_getElem? (i := 2) rfl)
theorem tw3 {Z : State} {a0 : Array Value} (hw : ∀ d ∈ tables_1, d.before a0 Z = true) : (Jvm.Cond.methodLink "com/example/wayfare/wayfare/market/RandomSourceNextLongPinLaw" (13 : Nat) ({ cls := "com/example/wayfare/wayfare/market/RandomSource", name := "<init>", desc := "(J)V" } : Jvm.MethodName)).before a0 Z = true := hw _ (List.mem_of_getElem? (i := 3) rfl)
theorem tw4 {Z : State} {a0 : Array Value} (hw : ∀ d ∈ tables_1, d.before a0 Z = true) : (Jvm.Cond.instanceMethod ({ cls := "com/example/wayfare/wayfare/market/RandomSource", name := "<init>", desc := "(J)V" } : Jvm.MethodName)).before a0 Z = true := hw _ (List.mem_of_getElem? (i := 4) rfl)
theorem tw5 {Z : State} {a0 : Array Value} (hw : ∀ d ∈ tables_1, d.before a0 Z = true) : (Jvm.Cond.code ({ cls := "com/example/wayfare/wayfare/market/RandomSource", name := "<init>", desc := "(J)V" } : Jvm.MethodName) prog_68_method_1_code (3 : Nat) (Option.none : Option Jvm.ClassFile.FieldType)).before a0 Z = true := hw _ (List.mem_of_getElem? (i := 5) rfl)
theorem tw6 {Z : State} {a0 : Array Value} (hw : ∀ d ∈ tables_1, d.before a0 Z = true) : (Jvm.Cond.methodLink "com/example/wayfare/wayfare/market/RandomSource" (1 : Nat) ({ cls := "java/lang/Object", name := "<init>", desc := "()V" } : Jvm.MethodName)).before a0 Z = true := hw _ (List.mem_of_getElem? (i := 6) rfl)
theorem tw7 {Z : State} {a0 : Array Value} (hw : ∀ d ∈ tables_1, d.before a0 Z = true) : (Jvm.Cond.instanceMethod ({ cls := "java/lang/Object", name := "<init>", desc := "()V" } : Jvm.MethodName)).before a0 Z = true := hw _ (List.mem_of_getElem? (i := 7) rfl)
theorem tw8 {Z : State} {a0 : Array Value} (hw : ∀ d ∈ tables_1, d.before a0 Z = true) : (Jvm.Cond.code ({ cls := "java/lang/Object", name := "<init>", desc := "()V" } : Jvm.MethodName) object_method_1_code (1 : Nat) (Option.none : Option Jvm.ClassFile.FieldType)).before a0 Z = true := hw _ (List.mem_of_getElem? (i := 8) rfl)
theorem tw9 {Z : State} {a0 : Array Value} (hw : ∀ d ∈ tables_1, d.before a0 Z = true) : (Jvm.Cond.fieldLink "com/example/wayfare/wayfare/market/RandomSource" (7 : Nat) "com/example/wayfare/wayfare/market/RandomSource" "state" "J").before a0 Z = true := hw _ (List.mem_of_getElem? (i := 9) rfl)
theorem tw10 {Z : State} {a0 : Array Value} (hw : ∀ d ∈ tables_1, d.before a0 Z = true) : (Jvm.Cond.lays "com/example/wayfare/wayfare/market/RandomSource" "com/example/wayfare/wayfare/market/RandomSource" "state" "J").before a0 Z = true := hw _ (List.mem_of_getElem? (i := 10) rfl)
theorem tw11 {Z : State} {a0 : Array Value} (hw : ∀ d ∈ tables_1, d.before a0 Z = true) : (Jvm.Cond.methodLink "com/example/wayfare/wayfare/market/RandomSourceNextLongPinLaw" (16 : Nat) ({ cls := "com/example/wayfare/wayfare/market/RandomSource", name := "nextLong", desc := "()J" } : Jvm.MethodName)).before a0 Z = true := hw _ (List.mem_of_getElem? (i := 11) rfl)
theorem tw12 {Z : State} {a0 : Array Value} (hw : ∀ d ∈ tables_1, d.before a0 Z = true) : (Jvm.Cond.declares ({ cls := "com/example/wayfare/wayfare/market/RandomSource", name := "nextLong", desc := "()J" } : Jvm.MethodName)).before a0 Z = true := hw _ (List.mem_of_getElem? (i := 12) rfl)
theorem tw13 {Z : State} {a0 : Array Value} (hw : ∀ d ∈ tables_1, d.before a0 Z = true) : (Jvm.Cond.instanceMethod ({ cls := "com/example/wayfare/wayfare/market/RandomSource", name := "nextLong", desc := "()J" } : Jvm.MethodName)).before a0 Z = true := hw _ (List.mem_of_getElem? (i := 13) rfl)
theorem tw14 {Z : State} {a0 : Array Value} (hw : ∀ d ∈ tables_1, d.before a0 Z = true) : (Jvm.Cond.selects "com/example/wayfare/wayfare/market/RandomSource" ({ cls := "com/example/wayfare/wayfare/market/RandomSource", name := "nextLong", desc := "()J" } : Jvm.MethodName) ({ cls := "com/example/wayfare/wayfare/market/RandomSource", name := "nextLong", desc := "()J" } : Jvm.MethodName)).before a0 Z = true := hw _ (List.mem_of_getElem? (i := 14) rfl)
theorem tw15 {Z : State} {a0 : Array Value} (hw : ∀ d ∈ tables_1, d.before a0 Z = true) : (Jvm.Cond.code ({ cls := "com/example/wayfare/wayfare/market/RandomSource", name := "nextLong", desc := "()J" } : Jvm.MethodName) prog_68_method_2_code (3 : Nat) (Option.some Jvm.ClassFile.FieldType.long)).before a0 Z = true := hw _ (List.mem_of_getElem? (i := 15) rfl)
theorem tw16 {Z : State} {a0 : Array Value} (hw : ∀ d ∈ tables_1, d.before a0 Z = true) : (Jvm.Cond.constantLong "com/example/wayfare/wayfare/market/RandomSource" (13 : Nat) (-7046029254386353131 : Int64)).before a0 Z = true := hw _ (List.mem_of_getElem? (i := 16) rfl)
theorem tw17 {Z : State} {a0 : Array Value} (hw : ∀ d ∈ tables_1, d.before a0 Z = true) : (Jvm.Cond.constantLong "com/example/wayfare/wayfare/market/RandomSource" (15 : Nat) (-4658895280553007687 : Int64)).before a0 Z = true := hw _ (List.mem_of_getElem? (i := 17) rfl)
theorem tw18 {Z : State} {a0 : Array Value} (hw : ∀ d ∈ tables_1, d.before a0 Z = true) : (Jvm.Cond.constantLong "com/example/wayfare/wayfare/market/RandomSource" (17 : Nat) (-7723592293110705685 : Int64)).before a0 Z = true := hw _ (List.mem_of_getElem? (i := 18) rfl)
theorem tw19 {Z : State} {a0 : Array Value} (hw : ∀ d ∈ tables_1, d.before a0 Z = true) : (Jvm.Cond.methodLink "com/example/wayfare/wayfare/market/RandomSourceNextLongPinLaw" (20 : Nat) ({ cls := "com/example/wayfare/wayfare/market/RandomSourceNextLongPinLaw", name := "unmix", desc := "(J)J" } : Jvm.MethodName)).before a0 Z = true := hw _ (List.mem_of_getElem? (i := 19) rfl)
theorem tw20 {Z : State} {a0 : Array Value} (hw : ∀ d ∈ tables_1, d.before a0 Z = true) : (Jvm.Cond.static ({ cls := "com/example/wayfare/wayfare/market/RandomSourceNextLongPinLaw", name := "unmix", desc := "(J)J" } : Jvm.MethodName)).before a0 Z = true := hw _ (List.mem_of_getElem? (i := 20) rfl)
theorem tw21 {Z : State} {a0 : Array Value} (hw : ∀ d ∈ tables_1, d.before a0 Z = true) : (Jvm.Cond.initialized "com/example/wayfare/wayfare/market/RandomSourceNextLongPinLaw").before a0 Z = true := hw _ (List.mem_of_getElem? (i := 21) rfl)
theorem tw22 {Z : State} {a0 : Array Value} (hw : ∀ d ∈ tables_1, d.before a0 Z = true) : (Jvm.Cond.code ({ cls := "com/example/wayfare/wayfare/market/RandomSourceNextLongPinLaw", name := "unmix", desc := "(J)J" } : Jvm.MethodName) method_2_code (2 : Nat) (Option.some Jvm.ClassFile.FieldType.long)).before a0 Z = true := hw _ (List.mem_of_getElem? (i := 22) rfl)
theorem tw23 {Z : State} {a0 : Array Value} (hw : ∀ d ∈ tables_1, d.before a0 Z = true) : (Jvm.Cond.constantLong "com/example/wayfare/wayfare/market/RandomSourceNextLongPinLaw" (7 : Nat) (3573116690164977347 : Int64)).before a0 Z = true := hw _ (List.mem_of_getElem? (i := 23) rfl)
theorem tw24 {Z : State} {a0 : Array Value} (hw : ∀ d ∈ tables_1, d.before a0 Z = true) : (Jvm.Cond.constantLong "com/example/wayfare/wayfare/market/RandomSourceNextLongPinLaw" (9 : Nat) (-7575587736534282103 : Int64)).before a0 Z = true := hw _ (List.mem_of_getElem? (i := 24) rfl)
theorem tw25 {Z : State} {a0 : Array Value} (hw : ∀ d ∈ tables_1, d.before a0 Z = true) : (Jvm.Cond.constantLong "com/example/wayfare/wayfare/market/RandomSourceNextLongPinLaw" (26 : Nat) (-7046029254386353131 : Int64)).before a0 Z = true := hw _ (List.mem_of_getElem? (i := 25) rfl)
theorem pd_0 : parseMethodDescriptor "(J)V" = some ⟨[.long], none⟩ := by decide +kernel
theorem pd_1 : parseMethodDescriptor "()J" = some ⟨[], some .long⟩ := by decide +kernel
theorem pd_2 : parseMethodDescriptor "(J)J" = some ⟨[.long], some .long⟩ := by decide +kernel
theorem pn_0 : plainName "com/example/wayfare/wayfare/market/RandomSource" = true := by first | (simp [plainName, overriddenIn]; done) | decide +kernel
theorem pn_1 : plainName "com/example/wayfare/wayfare/market/RandomSourceNextLongPinLaw" = true := by first | (simp [plainName, overriddenIn]; done) | decide +kernel
abbrev xs0 : String := "com/example/wayfare/wayfare/market/RandomSourceNextLongPinLaw"
abbrev xs1 : String := "com/example/wayfare/wayfare/market/RandomSource"
abbrev xs2 : String := "⟩ : MethodName) (head1 (Jvm.Cond.code (⟨"
abbrev xm0 : MethodName := (⟨xs1, "nextLong", "()J"⟩ : MethodName)
abbrev xm1 : MethodName := (⟨xs1, "<init>", "(J)V"⟩ : MethodName)
abbrev xm2 : MethodName := (⟨xs0, "unmix", "(J)J"⟩ : MethodName)
abbrev xr0 : Room := ({ frames := 1, cells := 0, slots := 0, locals := 12 } : Room)
abbrev xr1 : Room := ({ frames := 0, cells := 0, slots := 0, locals := 0 } : Room)
theorem ef_new (m : MethodId) (x0 : Addr) (x1 : Int64) : entryFrame m #[(.ref x0), (.long x1)] 3 = mkF m 0 #[.val (.ref x0), .val (.long x1), .second] [] := by first | (simp [entryFrame, mkF, argsToLocals, Value.category]; done) | rfl
def Q_new (Z : State) (a1 : Addr) (q2 : Int64) (h0 : Heap) (n0 : Nat) (v : Option Value) (h : Heap) (L : List Loc) : Prop := v = none ∧ Fr n0 L ∧ Keep h0 h [a1] ∧ Fld Z h a1 xs1 "state" "J" (.long q2)
set_option maxRecDepth 65536 in
set_option maxHeartbeats 40000000 in
theorem rm_new (l : Launch) (Z : State) (a0 : Array Value) (hw : ∀ d ∈ tables_1, d.before a0 Z = true) (ws : List Jvm.Cond) (a1 : Addr) (q2 : Int64) (h0 : Heap) (n0 : Nat) (Z0 : n0 ≤ h0.size) (E_a1 : Exa Z h0 a1 xs1) (F_state_a1 : Fld Z h0 a1 xs1 "state" "J" (.long (0 : Int64))) (g_a1 : n0 ≤ a1) :
    MetFree l xm1 (head1 (Jvm.Cond.code xm1 prog_68_method_1_code 3 none :: ws) xr0) (fun a U => a = #[(.ref a1), (.long q2)] ∧ Z.Warmed39 U.vm ∧ U.heap = h0) (fun _ _ _ _ _ => True) (fun _ U o U' => ∃ v L, o = .returned v ∧ Q_new Z a1 q2 h0 n0 v U'.heap L ∧ FrameEnd U o U' L xr0.cells xr0.slots) := by
  refine MetFree.of_bodySF (plainFor_of_name pn_0) hisR ?_
  intro p e s m args below meth c s₁ Bd hml0 hP hK
  obtain ⟨rfl, hZ, hh⟩ := hP
  have hx := Bd.exec
  have hby := Bd.bytes
  have hlk : meth.locks = false := BodyLoose.notSynchronized Bd
  have hml : c.maxLocals = 3 := hml0
  have hown : s.vm.findClass xs1 = some m.cls := findClass_of_methodNamed Bd.named
  have hnm := (name_of_methodNamed Bd.named Bd.method).1
  have X0 : Stand p l e xr0 s m #[(.ref a1), (.long q2)] below meth c s₁ [] 0 0 := Stand.of_body Bd
  have e0 : s₁.heap = h0 := by rw [← hh, Bd.state]; rfl
  have N0 := Fr.nil n0
  show Go p e below s (Q_new Z a1 q2 h0 n0) xr0.cells xr0.slots s₁ (entryFrame m #[(.ref a1), (.long q2)] 3)
  refine Go.cast (ef_new m a1 q2) ?_
  show Go p e below s _ _ _ s₁ (mkF m 0 #[.val (.ref a1), .val (.long q2), .second] [])
  refine Go.step (fun _ k => XS.aloadN X0.here hx rfl (hb hby d0_0) rfl rfl k) ?_
  show Go p e below s _ _ _ s₁ (mkF m 1 #[.val (.ref a1), .val (.long q2), .second] [(.ref a1)])
  obtain ⟨T1, X1, e1, st1⟩ := initO X0 hx hZ hown (tw6 hw) (tw7 hw) (tw8 hw) e0 (g := (mkF m 1 #[.val (.ref a1), .val (.long q2), .second] [(.ref a1)])) rfl (by rw [hml]; rfl) rfl (hb hby d0_1) (by decide) (W := 0) (by show 2 * 0 + _ ≤ _; exact Nat.le_of_eq rfl) (by decide)
  refine Go.step (fun _ k => st1 _ (XS.aloadN X1.here hx rfl (hb hby d0_4) rfl rfl (XS.lloadN X1.here hx rfl (hb hby d0_5) rfl k))) ?_
  show Go p e below s _ _ _ T1 (mkF m 6 #[.val (.ref a1), .val (.long q2), .second] [(.long q2), (.ref a1)])
  obtain ⟨T2, h2, X2, e2, W2, st2⟩ := putF X1 hx hZ hown (host := "") (Or.inl (tw9 hw)) Via.refl e1 F_state_a1 E_a1 (Or.inl (tw10 hw)) (tw1 hw) (ty := .long) (by decide) rfl rfl (g := (mkF m 6 #[.val (.ref a1), .val (.long q2), .second] [(.long q2), (.ref a1)])) rfl rfl (hb hby d0_6)
  have f3 := F_state_a1.same W2
  have N4 := Fr.snoc X2 N0 g_a1
  refine Go.step (fun _ k => st2 _ k) ?_
  show Go p e below s _ _ _ T2 (mkF m 9 #[.val (.ref a1), .val (.long q2), .second] [])
  have f5 := ((Keep.refl h0 [a1]).wr W2 (Or.inl (List.mem_of_getElem? (i := 0) rfl)))
  exact Go.retV X2 hx hlk Bd.returns (hb hby d0_9) e2 ⟨rfl, N4, f5, f3⟩ (by decide) (by decide)

theorem ef_next (m : MethodId) (x0 : Addr) : entryFrame m #[(.ref x0)] 3 = mkF m 0 #[.val (.ref x0), .unset, .unset] [] := by first | (simp [entryFrame, mkF, argsToLocals, Value.category]; done) | rfl
def Q_next (Z : State) (a1 : Addr) (q2 : Int64) (h0 : Heap) (n0 : Nat) (v : Option Value) (h : Heap) (L : List Loc) : Prop := v = some (.long (own_mix (q2 + (-7046029254386353131 : Int64)))) ∧ Fr n0 L ∧ Keep h0 h [a1] ∧ Fld Z h a1 xs1 "state" "J" (.long (q2 + (-7046029254386353131 : Int64)))
set_option maxRecDepth 65536 in
set_option maxHeartbeats 40000000 in
theorem rm_next (l : Launch) (Z : State) (a0 : Array Value) (hw : ∀ d ∈ tables_1, d.before a0 Z = true) (ws : List Jvm.Cond) (a1 : Addr) (q2 : Int64) (h0 : Heap) (n0 : Nat) (Z0 : n0 ≤ h0.size) (E_a1 : Exa Z h0 a1 xs1) (F_state_a1 : Fld Z h0 a1 xs1 "state" "J" (.long q2)) (g_a1 : n0 ≤ a1) :
    MetFree l xm0 (head1 (Jvm.Cond.code xm0 prog_68_method_2_code 3 (some .long) :: ws) xr1) (fun a U => a = #[(.ref a1)] ∧ Z.Warmed39 U.vm ∧ U.heap = h0) (fun _ _ _ _ _ => True) (fun _ U o U' => ∃ v L, o = .returned v ∧ Q_next Z a1 q2 h0 n0 v U'.heap L ∧ FrameEnd U o U' L xr1.cells xr1.slots) := by
  refine MetFree.of_bodySF (plainFor_of_name pn_0) hisR ?_
  intro p e s m args below meth c s₁ Bd hml0 hP hK
  obtain ⟨rfl, hZ, hh⟩ := hP
  have hx := Bd.exec
  have hby := Bd.bytes
  have hlk : meth.locks = false := BodyLoose.notSynchronized Bd
  have hml : c.maxLocals = 3 := hml0
  have hown : s.vm.findClass xs1 = some m.cls := findClass_of_methodNamed Bd.named
  have hnm := (name_of_methodNamed Bd.named Bd.method).1
  have X0 : Stand p l e xr1 s m #[(.ref a1)] below meth c s₁ [] 0 0 := Stand.of_body Bd
  have e0 : s₁.heap = h0 := by rw [← hh, Bd.state]; rfl
  have N0 := Fr.nil n0
  show Go p e below s (Q_next Z a1 q2 h0 n0) xr1.cells xr1.slots s₁ (entryFrame m #[(.ref a1)] 3)
  refine Go.cast (ef_next m a1) ?_
  show Go p e below s _ _ _ s₁ (mkF m 0 #[.val (.ref a1), .unset, .unset] [])
  refine Go.step (fun _ k => XS.aloadN X0.here hx rfl (hb hby d1_0) rfl rfl (XS.dup X0.here hx rfl (hb hby d1_1) rfl rfl k)) ?_
  show Go p e below s _ _ _ s₁ (mkF m 2 #[.val (.ref a1), .unset, .unset] [(.ref a1), (.ref a1)])
  obtain ⟨T1, X1, e1, st1⟩ := getF X0 hx hZ hown (host := "") (Or.inl (tw9 hw)) Via.refl e0 F_state_a1 (g := (mkF m 2 #[.val (.ref a1), .unset, .unset] [(.ref a1), (.ref a1)])) rfl rfl (hb hby d1_2)
  refine Go.step (fun _ k => st1 _ (X1.ldc2Long hx hown (mvT hZ (tw16 hw)) (g := (mkF m 5 #[.val (.ref a1), .unset, .unset] [(.long q2), (.ref a1)])) rfl (hb hby d1_5) _ (XS.ladd X1.here hx rfl (hb hby d1_8) rfl k))) ?_
  show Go p e below s _ _ _ T1 (mkF m 9 #[.val (.ref a1), .unset, .unset] [(.long (q2 + (-7046029254386353131 : Int64))), (.ref a1)])
  obtain ⟨T2, h2, X2, e2, W2, st2⟩ := putF X1 hx hZ hown (host := "") (Or.inl (tw9 hw)) Via.refl e1 F_state_a1 E_a1 (Or.inl (tw10 hw)) (tw1 hw) (ty := .long) (by decide) rfl rfl (g := (mkF m 9 #[.val (.ref a1), .unset, .unset] [(.long (q2 + (-7046029254386353131 : Int64))), (.ref a1)])) rfl rfl (hb hby d1_9)
  have f3 := F_state_a1.same W2
  have N4 := Fr.snoc X2 N0 g_a1
  refine Go.step (fun _ k => st2 _ (XS.aloadN X2.here hx rfl (hb hby d1_12) rfl rfl k)) ?_
  show Go p e below s _ _ _ T2 (mkF m 13 #[.val (.ref a1), .unset, .unset] [(.ref a1)])
  obtain ⟨T5, X5, e5, st5⟩ := getF X2 hx hZ hown (host := "") (Or.inl (tw9 hw)) Via.refl e2 f3 (g := (mkF m 13 #[.val (.ref a1), .unset, .unset] [(.ref a1)])) rfl rfl (hb hby d1_13)
  refine Go.step (fun _ k => st5 _ (XS.lstoreN X5.here hx rfl (hb hby d1_16) rfl (l' := #[.val (.ref a1), .val (.long (q2 + (-7046029254386353131 : Int64))), .second]) rfl (XS.lloadN X5.here hx rfl (hb hby d1_17) rfl (XS.lloadN X5.here hx rfl (hb hby d1_18) rfl (XS.bipush X5.here hx rfl (hb hby d1_19) (XS.lushr X5.here hx rfl (hb hby d1_21) rfl (XS.lxor X5.here hx rfl (hb hby d1_22) rfl (X5.ldc2Long hx hown (mvT hZ (tw17 hw)) (g := (mkF m 23 #[.val (.ref a1), .val (.long (q2 + (-7046029254386353131 : Int64))), .second] [(.long ((q2 + (-7046029254386353131 : Int64)) ^^^ (((q2 + (-7046029254386353131 : Int64)).toUInt64 >>> ((30 : Int32) &&& 0x3f).toInt64.toUInt64).toInt64)))])) rfl (hb hby d1_23) _ (XS.lmul X5.here hx rfl (hb hby d1_26) rfl (XS.lstoreN X5.here hx rfl (hb hby d1_27) rfl (l' := #[.val (.ref a1), .val (.long (((q2 + (-7046029254386353131 : Int64)) ^^^ (((q2 + (-7046029254386353131 : Int64)).toUInt64 >>> ((30 : Int32) &&& 0x3f).toInt64.toUInt64).toInt64)) * (-4658895280553007687 : Int64))), .second]) rfl k)))))))))) ?_
  show Go p e below s _ _ _ T5 (mkF m 28 #[.val (.ref a1), .val (.long (((q2 + (-7046029254386353131 : Int64)) ^^^ (((q2 + (-7046029254386353131 : Int64)).toUInt64 >>> ((30 : Int32) &&& 0x3f).toInt64.toUInt64).toInt64)) * (-4658895280553007687 : Int64))), .second] [])
  refine Go.step (fun _ k => XS.lloadN X5.here hx rfl (hb hby d1_28) rfl (XS.lloadN X5.here hx rfl (hb hby d1_29) rfl (XS.bipush X5.here hx rfl (hb hby d1_30) (XS.lushr X5.here hx rfl (hb hby d1_32) rfl (XS.lxor X5.here hx rfl (hb hby d1_33) rfl (X5.ldc2Long hx hown (mvT hZ (tw18 hw)) (g := (mkF m 34 #[.val (.ref a1), .val (.long (((q2 + (-7046029254386353131 : Int64)) ^^^ (((q2 + (-7046029254386353131 : Int64)).toUInt64 >>> ((30 : Int32) &&& 0x3f).toInt64.toUInt64).toInt64)) * (-4658895280553007687 : Int64))), .second] [(.long ((((q2 + (-7046029254386353131 : Int64)) ^^^ (((q2 + (-7046029254386353131 : Int64)).toUInt64 >>> ((30 : Int32) &&& 0x3f).toInt64.toUInt64).toInt64)) * (-4658895280553007687 : Int64)) ^^^ (((((q2 + (-7046029254386353131 : Int64)) ^^^ (((q2 + (-7046029254386353131 : Int64)).toUInt64 >>> ((30 : Int32) &&& 0x3f).toInt64.toUInt64).toInt64)) * (-4658895280553007687 : Int64)).toUInt64 >>> ((27 : Int32) &&& 0x3f).toInt64.toUInt64).toInt64)))])) rfl (hb hby d1_34) _ (XS.lmul X5.here hx rfl (hb hby d1_37) rfl (XS.lstoreN X5.here hx rfl (hb hby d1_38) rfl (l' := #[.val (.ref a1), .val (.long (((((q2 + (-7046029254386353131 : Int64)) ^^^ (((q2 + (-7046029254386353131 : Int64)).toUInt64 >>> ((30 : Int32) &&& 0x3f).toInt64.toUInt64).toInt64)) * (-4658895280553007687 : Int64)) ^^^ (((((q2 + (-7046029254386353131 : Int64)) ^^^ (((q2 + (-7046029254386353131 : Int64)).toUInt64 >>> ((30 : Int32) &&& 0x3f).toInt64.toUInt64).toInt64)) * (-4658895280553007687 : Int64)).toUInt64 >>> ((27 : Int32) &&& 0x3f).toInt64.toUInt64).toInt64)) * (-7723592293110705685 : Int64))), .second]) rfl (XS.lloadN X5.here hx rfl (hb hby d1_39) rfl (XS.lloadN X5.here hx rfl (hb hby d1_40) rfl k)))))))))) ?_
  show Go p e below s _ _ _ T5 (mkF m 41 #[.val (.ref a1), .val (.long (((((q2 + (-7046029254386353131 : Int64)) ^^^ (((q2 + (-7046029254386353131 : Int64)).toUInt64 >>> ((30 : Int32) &&& 0x3f).toInt64.toUInt64).toInt64)) * (-4658895280553007687 : Int64)) ^^^ (((((q2 + (-7046029254386353131 : Int64)) ^^^ (((q2 + (-7046029254386353131 : Int64)).toUInt64 >>> ((30 : Int32) &&& 0x3f).toInt64.toUInt64).toInt64)) * (-4658895280553007687 : Int64)).toUInt64 >>> ((27 : Int32) &&& 0x3f).toInt64.toUInt64).toInt64)) * (-7723592293110705685 : Int64))), .second] [(.long (((((q2 + (-7046029254386353131 : Int64)) ^^^ (((q2 + (-7046029254386353131 : Int64)).toUInt64 >>> ((30 : Int32) &&& 0x3f).toInt64.toUInt64).toInt64)) * (-4658895280553007687 : Int64)) ^^^ (((((q2 + (-7046029254386353131 : Int64)) ^^^ (((q2 + (-7046029254386353131 : Int64)).toUInt64 >>> ((30 : Int32) &&& 0x3f).toInt64.toUInt64).toInt64)) * (-4658895280553007687 : Int64)).toUInt64 >>> ((27 : Int32) &&& 0x3f).toInt64.toUInt64).toInt64)) * (-7723592293110705685 : Int64))), (.long (((((q2 + (-7046029254386353131 : Int64)) ^^^ (((q2 + (-7046029254386353131 : Int64)).toUInt64 >>> ((30 : Int32) &&& 0x3f).toInt64.toUInt64).toInt64)) * (-4658895280553007687 : Int64)) ^^^ (((((q2 + (-7046029254386353131 : Int64)) ^^^ (((q2 + (-7046029254386353131 : Int64)).toUInt64 >>> ((30 : Int32) &&& 0x3f).toInt64.toUInt64).toInt64)) * (-4658895280553007687 : Int64)).toUInt64 >>> ((27 : Int32) &&& 0x3f).toInt64.toUInt64).toInt64)) * (-7723592293110705685 : Int64)))])
  refine Go.step (fun _ k => XS.bipush X5.here hx rfl (hb hby d1_41) (XS.lushr X5.here hx rfl (hb hby d1_43) rfl (XS.lxor X5.here hx rfl (hb hby d1_44) rfl k))) ?_
  show Go p e below s _ _ _ T5 (mkF m 45 #[.val (.ref a1), .val (.long (((((q2 + (-7046029254386353131 : Int64)) ^^^ (((q2 + (-7046029254386353131 : Int64)).toUInt64 >>> ((30 : Int32) &&& 0x3f).toInt64.toUInt64).toInt64)) * (-4658895280553007687 : Int64)) ^^^ (((((q2 + (-7046029254386353131 : Int64)) ^^^ (((q2 + (-7046029254386353131 : Int64)).toUInt64 >>> ((30 : Int32) &&& 0x3f).toInt64.toUInt64).toInt64)) * (-4658895280553007687 : Int64)).toUInt64 >>> ((27 : Int32) &&& 0x3f).toInt64.toUInt64).toInt64)) * (-7723592293110705685 : Int64))), .second] [(.long ((((((q2 + (-7046029254386353131 : Int64)) ^^^ (((q2 + (-7046029254386353131 : Int64)).toUInt64 >>> ((30 : Int32) &&& 0x3f).toInt64.toUInt64).toInt64)) * (-4658895280553007687 : Int64)) ^^^ (((((q2 + (-7046029254386353131 : Int64)) ^^^ (((q2 + (-7046029254386353131 : Int64)).toUInt64 >>> ((30 : Int32) &&& 0x3f).toInt64.toUInt64).toInt64)) * (-4658895280553007687 : Int64)).toUInt64 >>> ((27 : Int32) &&& 0x3f).toInt64.toUInt64).toInt64)) * (-7723592293110705685 : Int64)) ^^^ (((((((q2 + (-7046029254386353131 : Int64)) ^^^ (((q2 + (-7046029254386353131 : Int64)).toUInt64 >>> ((30 : Int32) &&& 0x3f).toInt64.toUInt64).toInt64)) * (-4658895280553007687 : Int64)) ^^^ (((((q2 + (-7046029254386353131 : Int64)) ^^^ (((q2 + (-7046029254386353131 : Int64)).toUInt64 >>> ((30 : Int32) &&& 0x3f).toInt64.toUInt64).toInt64)) * (-4658895280553007687 : Int64)).toUInt64 >>> ((27 : Int32) &&& 0x3f).toInt64.toUInt64).toInt64)) * (-7723592293110705685 : Int64)).toUInt64 >>> ((31 : Int32) &&& 0x3f).toInt64.toUInt64).toInt64)))])
  have f6 := ((Keep.refl h0 [a1]).wr W2 (Or.inl (List.mem_of_getElem? (i := 0) rfl)))
  exact Go.retJ X5 hx hlk Bd.returns (hb hby d1_45) e5 ⟨rfl, N4, f6, f3⟩ (by decide) (by decide)

theorem ef_unmix (m : MethodId) (x0 : Int64) : entryFrame m #[(.long x0)] 2 = mkF m 0 #[.val (.long x0), .second] [] := by first | (simp [entryFrame, mkF, argsToLocals, Value.category]; done) | rfl
def Q_unmix (Z : State) (q1 : Int64) (h0 : Heap) (n0 : Nat) (v : Option Value) (h : Heap) (L : List Loc) : Prop := v = some (.long (own_unmix q1)) ∧ Fr n0 L ∧ h = h0
set_option maxRecDepth 65536 in
set_option maxHeartbeats 40000000 in
theorem rm_unmix (l : Launch) (Z : State) (a0 : Array Value) (hw : ∀ d ∈ tables_1, d.before a0 Z = true) (ws : List Jvm.Cond) (q1 : Int64) (h0 : Heap) (n0 : Nat) (Z0 : n0 ≤ h0.size) :
    MetFree l xm2 (head1 (Jvm.Cond.code xm2 method_2_code 2 (some .long) :: ws) xr1) (fun a U => a = #[(.long q1)] ∧ Z.Warmed39 U.vm ∧ U.heap = h0) (fun _ _ _ _ _ => True) (fun _ U o U' => ∃ v L, o = .returned v ∧ Q_unmix Z q1 h0 n0 v U'.heap L ∧ FrameEnd U o U' L xr1.cells xr1.slots) := by
  refine MetFree.of_bodySF (plainFor_of_name pn_1) hisR ?_
  intro p e s m args below meth c s₁ Bd hml0 hP hK
  obtain ⟨rfl, hZ, hh⟩ := hP
  have hx := Bd.exec
  have hby := Bd.bytes
  have hlk : meth.locks = false := BodyLoose.notSynchronized Bd
  have hml : c.maxLocals = 2 := hml0
  have hown : s.vm.findClass xs0 = some m.cls := findClass_of_methodNamed Bd.named
  have hnm := (name_of_methodNamed Bd.named Bd.method).1
  have X0 : Stand p l e xr1 s m #[(.long q1)] below meth c s₁ [] 0 0 := Stand.of_body Bd
  have e0 : s₁.heap = h0 := by rw [← hh, Bd.state]; rfl
  have N0 := Fr.nil n0
  show Go p e below s (Q_unmix Z q1 h0 n0) xr1.cells xr1.slots s₁ (entryFrame m #[(.long q1)] 2)
  refine Go.cast (ef_unmix m q1) ?_
  show Go p e below s _ _ _ s₁ (mkF m 0 #[.val (.long q1), .second] [])
  refine Go.step (fun _ k => XS.lloadN X0.here hx rfl (hb hby d2_0) rfl (XS.lloadN X0.here hx rfl (hb hby d2_1) rfl (XS.bipush X0.here hx rfl (hb hby d2_2) (XS.lushr X0.here hx rfl (hb hby d2_4) rfl (XS.lxor X0.here hx rfl (hb hby d2_5) rfl (XS.lloadN X0.here hx rfl (hb hby d2_6) rfl (XS.bipush X0.here hx rfl (hb hby d2_7) (XS.lushr X0.here hx rfl (hb hby d2_9) rfl (XS.lxor X0.here hx rfl (hb hby d2_10) rfl (X0.ldc2Long hx hown (mvT hZ (tw23 hw)) (g := (mkF m 11 #[.val (.long q1), .second] [(.long ((q1 ^^^ ((q1.toUInt64 >>> ((31 : Int32) &&& 0x3f).toInt64.toUInt64).toInt64)) ^^^ ((q1.toUInt64 >>> ((62 : Int32) &&& 0x3f).toInt64.toUInt64).toInt64)))])) rfl (hb hby d2_11) _ k)))))))))) ?_
  show Go p e below s _ _ _ s₁ (mkF m 14 #[.val (.long q1), .second] [(.long (3573116690164977347 : Int64)), (.long ((q1 ^^^ ((q1.toUInt64 >>> ((31 : Int32) &&& 0x3f).toInt64.toUInt64).toInt64)) ^^^ ((q1.toUInt64 >>> ((62 : Int32) &&& 0x3f).toInt64.toUInt64).toInt64)))])
  refine Go.step (fun _ k => XS.lmul X0.here hx rfl (hb hby d2_14) rfl (XS.lstoreN X0.here hx rfl (hb hby d2_15) rfl (l' := #[.val (.long (((q1 ^^^ ((q1.toUInt64 >>> ((31 : Int32) &&& 0x3f).toInt64.toUInt64).toInt64)) ^^^ ((q1.toUInt64 >>> ((62 : Int32) &&& 0x3f).toInt64.toUInt64).toInt64)) * (3573116690164977347 : Int64))), .second]) rfl (XS.lloadN X0.here hx rfl (hb hby d2_16) rfl (XS.lloadN X0.here hx rfl (hb hby d2_17) rfl (XS.bipush X0.here hx rfl (hb hby d2_18) (XS.lushr X0.here hx rfl (hb hby d2_20) rfl (XS.lxor X0.here hx rfl (hb hby d2_21) rfl (XS.lloadN X0.here hx rfl (hb hby d2_22) rfl (XS.bipush X0.here hx rfl (hb hby d2_23) (XS.lushr X0.here hx rfl (hb hby d2_25) rfl k)))))))))) ?_
  show Go p e below s _ _ _ s₁ (mkF m 26 #[.val (.long (((q1 ^^^ ((q1.toUInt64 >>> ((31 : Int32) &&& 0x3f).toInt64.toUInt64).toInt64)) ^^^ ((q1.toUInt64 >>> ((62 : Int32) &&& 0x3f).toInt64.toUInt64).toInt64)) * (3573116690164977347 : Int64))), .second] [(.long (((((q1 ^^^ ((q1.toUInt64 >>> ((31 : Int32) &&& 0x3f).toInt64.toUInt64).toInt64)) ^^^ ((q1.toUInt64 >>> ((62 : Int32) &&& 0x3f).toInt64.toUInt64).toInt64)) * (3573116690164977347 : Int64)).toUInt64 >>> ((54 : Int32) &&& 0x3f).toInt64.toUInt64).toInt64)), (.long ((((q1 ^^^ ((q1.toUInt64 >>> ((31 : Int32) &&& 0x3f).toInt64.toUInt64).toInt64)) ^^^ ((q1.toUInt64 >>> ((62 : Int32) &&& 0x3f).toInt64.toUInt64).toInt64)) * (3573116690164977347 : Int64)) ^^^ (((((q1 ^^^ ((q1.toUInt64 >>> ((31 : Int32) &&& 0x3f).toInt64.toUInt64).toInt64)) ^^^ ((q1.toUInt64 >>> ((62 : Int32) &&& 0x3f).toInt64.toUInt64).toInt64)) * (3573116690164977347 : Int64)).toUInt64 >>> ((27 : Int32) &&& 0x3f).toInt64.toUInt64).toInt64)))])
  refine Go.step (fun _ k => XS.lxor X0.here hx rfl (hb hby d2_26) rfl (X0.ldc2Long hx hown (mvT hZ (tw24 hw)) (g := (mkF m 27 #[.val (.long (((q1 ^^^ ((q1.toUInt64 >>> ((31 : Int32) &&& 0x3f).toInt64.toUInt64).toInt64)) ^^^ ((q1.toUInt64 >>> ((62 : Int32) &&& 0x3f).toInt64.toUInt64).toInt64)) * (3573116690164977347 : Int64))), .second] [(.long (((((q1 ^^^ ((q1.toUInt64 >>> ((31 : Int32) &&& 0x3f).toInt64.toUInt64).toInt64)) ^^^ ((q1.toUInt64 >>> ((62 : Int32) &&& 0x3f).toInt64.toUInt64).toInt64)) * (3573116690164977347 : Int64)) ^^^ (((((q1 ^^^ ((q1.toUInt64 >>> ((31 : Int32) &&& 0x3f).toInt64.toUInt64).toInt64)) ^^^ ((q1.toUInt64 >>> ((62 : Int32) &&& 0x3f).toInt64.toUInt64).toInt64)) * (3573116690164977347 : Int64)).toUInt64 >>> ((27 : Int32) &&& 0x3f).toInt64.toUInt64).toInt64)) ^^^ (((((q1 ^^^ ((q1.toUInt64 >>> ((31 : Int32) &&& 0x3f).toInt64.toUInt64).toInt64)) ^^^ ((q1.toUInt64 >>> ((62 : Int32) &&& 0x3f).toInt64.toUInt64).toInt64)) * (3573116690164977347 : Int64)).toUInt64 >>> ((54 : Int32) &&& 0x3f).toInt64.toUInt64).toInt64)))])) rfl (hb hby d2_27) _ (XS.lmul X0.here hx rfl (hb hby d2_30) rfl (XS.lstoreN X0.here hx rfl (hb hby d2_31) rfl (l' := #[.val (.long ((((((q1 ^^^ ((q1.toUInt64 >>> ((31 : Int32) &&& 0x3f).toInt64.toUInt64).toInt64)) ^^^ ((q1.toUInt64 >>> ((62 : Int32) &&& 0x3f).toInt64.toUInt64).toInt64)) * (3573116690164977347 : Int64)) ^^^ (((((q1 ^^^ ((q1.toUInt64 >>> ((31 : Int32) &&& 0x3f).toInt64.toUInt64).toInt64)) ^^^ ((q1.toUInt64 >>> ((62 : Int32) &&& 0x3f).toInt64.toUInt64).toInt64)) * (3573116690164977347 : Int64)).toUInt64 >>> ((27 : Int32) &&& 0x3f).toInt64.toUInt64).toInt64)) ^^^ (((((q1 ^^^ ((q1.toUInt64 >>> ((31 : Int32) &&& 0x3f).toInt64.toUInt64).toInt64)) ^^^ ((q1.toUInt64 >>> ((62 : Int32) &&& 0x3f).toInt64.toUInt64).toInt64)) * (3573116690164977347 : Int64)).toUInt64 >>> ((54 : Int32) &&& 0x3f).toInt64.toUInt64).toInt64)) * (-7575587736534282103 : Int64))), .second]) rfl (XS.lloadN X0.here hx rfl (hb hby d2_32) rfl (XS.lloadN X0.here hx rfl (hb hby d2_33) rfl (XS.bipush X0.here hx rfl (hb hby d2_34) (XS.lushr X0.here hx rfl (hb hby d2_36) rfl (XS.lxor X0.here hx rfl (hb hby d2_37) rfl (XS.lloadN X0.here hx rfl (hb hby d2_38) rfl k)))))))))) ?_
  show Go p e below s _ _ _ s₁ (mkF m 39 #[.val (.long ((((((q1 ^^^ ((q1.toUInt64 >>> ((31 : Int32) &&& 0x3f).toInt64.toUInt64).toInt64)) ^^^ ((q1.toUInt64 >>> ((62 : Int32) &&& 0x3f).toInt64.toUInt64).toInt64)) * (3573116690164977347 : Int64)) ^^^ (((((q1 ^^^ ((q1.toUInt64 >>> ((31 : Int32) &&& 0x3f).toInt64.toUInt64).toInt64)) ^^^ ((q1.toUInt64 >>> ((62 : Int32) &&& 0x3f).toInt64.toUInt64).toInt64)) * (3573116690164977347 : Int64)).toUInt64 >>> ((27 : Int32) &&& 0x3f).toInt64.toUInt64).toInt64)) ^^^ (((((q1 ^^^ ((q1.toUInt64 >>> ((31 : Int32) &&& 0x3f).toInt64.toUInt64).toInt64)) ^^^ ((q1.toUInt64 >>> ((62 : Int32) &&& 0x3f).toInt64.toUInt64).toInt64)) * (3573116690164977347 : Int64)).toUInt64 >>> ((54 : Int32) &&& 0x3f).toInt64.toUInt64).toInt64)) * (-7575587736534282103 : Int64))), .second] [(.long ((((((q1 ^^^ ((q1.toUInt64 >>> ((31 : Int32) &&& 0x3f).toInt64.toUInt64).toInt64)) ^^^ ((q1.toUInt64 >>> ((62 : Int32) &&& 0x3f).toInt64.toUInt64).toInt64)) * (3573116690164977347 : Int64)) ^^^ (((((q1 ^^^ ((q1.toUInt64 >>> ((31 : Int32) &&& 0x3f).toInt64.toUInt64).toInt64)) ^^^ ((q1.toUInt64 >>> ((62 : Int32) &&& 0x3f).toInt64.toUInt64).toInt64)) * (3573116690164977347 : Int64)).toUInt64 >>> ((27 : Int32) &&& 0x3f).toInt64.toUInt64).toInt64)) ^^^ (((((q1 ^^^ ((q1.toUInt64 >>> ((31 : Int32) &&& 0x3f).toInt64.toUInt64).toInt64)) ^^^ ((q1.toUInt64 >>> ((62 : Int32) &&& 0x3f).toInt64.toUInt64).toInt64)) * (3573116690164977347 : Int64)).toUInt64 >>> ((54 : Int32) &&& 0x3f).toInt64.toUInt64).toInt64)) * (-7575587736534282103 : Int64))), (.long (((((((q1 ^^^ ((q1.toUInt64 >>> ((31 : Int32) &&& 0x3f).toInt64.toUInt64).toInt64)) ^^^ ((q1.toUInt64 >>> ((62 : Int32) &&& 0x3f).toInt64.toUInt64).toInt64)) * (3573116690164977347 : Int64)) ^^^ (((((q1 ^^^ ((q1.toUInt64 >>> ((31 : Int32) &&& 0x3f).toInt64.toUInt64).toInt64)) ^^^ ((q1.toUInt64 >>> ((62 : Int32) &&& 0x3f).toInt64.toUInt64).toInt64)) * (3573116690164977347 : Int64)).toUInt64 >>> ((27 : Int32) &&& 0x3f).toInt64.toUInt64).toInt64)) ^^^ (((((q1 ^^^ ((q1.toUInt64 >>> ((31 : Int32) &&& 0x3f).toInt64.toUInt64).toInt64)) ^^^ ((q1.toUInt64 >>> ((62 : Int32) &&& 0x3f).toInt64.toUInt64).toInt64)) * (3573116690164977347 : Int64)).toUInt64 >>> ((54 : Int32) &&& 0x3f).toInt64.toUInt64).toInt64)) * (-7575587736534282103 : Int64)) ^^^ ((((((((q1 ^^^ ((q1.toUInt64 >>> ((31 : Int32) &&& 0x3f).toInt64.toUInt64).toInt64)) ^^^ ((q1.toUInt64 >>> ((62 : Int32) &&& 0x3f).toInt64.toUInt64).toInt64)) * (3573116690164977347 : Int64)) ^^^ (((((q1 ^^^ ((q1.toUInt64 >>> ((31 : Int32) &&& 0x3f).toInt64.toUInt64).toInt64)) ^^^ ((q1.toUInt64 >>> ((62 : Int32) &&& 0x3f).toInt64.toUInt64).toInt64)) * (3573116690164977347 : Int64)).toUInt64 >>> ((27 : Int32) &&& 0x3f).toInt64.toUInt64).toInt64)) ^^^ (((((q1 ^^^ ((q1.toUInt64 >>> ((31 : Int32) &&& 0x3f).toInt64.toUInt64).toInt64)) ^^^ ((q1.toUInt64 >>> ((62 : Int32) &&& 0x3f).toInt64.toUInt64).toInt64)) * (3573116690164977347 : Int64)).toUInt64 >>> ((54 : Int32) &&& 0x3f).toInt64.toUInt64).toInt64)) * (-7575587736534282103 : Int64)).toUInt64 >>> ((30 : Int32) &&& 0x3f).toInt64.toUInt64).toInt64)))])
  refine Go.step (fun _ k => XS.bipush X0.here hx rfl (hb hby d2_39) (XS.lushr X0.here hx rfl (hb hby d2_41) rfl (XS.lxor X0.here hx rfl (hb hby d2_42) rfl k))) ?_
  show Go p e below s _ _ _ s₁ (mkF m 43 #[.val (.long ((((((q1 ^^^ ((q1.toUInt64 >>> ((31 : Int32) &&& 0x3f).toInt64.toUInt64).toInt64)) ^^^ ((q1.toUInt64 >>> ((62 : Int32) &&& 0x3f).toInt64.toUInt64).toInt64)) * (3573116690164977347 : Int64)) ^^^ (((((q1 ^^^ ((q1.toUInt64 >>> ((31 : Int32) &&& 0x3f).toInt64.toUInt64).toInt64)) ^^^ ((q1.toUInt64 >>> ((62 : Int32) &&& 0x3f).toInt64.toUInt64).toInt64)) * (3573116690164977347 : Int64)).toUInt64 >>> ((27 : Int32) &&& 0x3f).toInt64.toUInt64).toInt64)) ^^^ (((((q1 ^^^ ((q1.toUInt64 >>> ((31 : Int32) &&& 0x3f).toInt64.toUInt64).toInt64)) ^^^ ((q1.toUInt64 >>> ((62 : Int32) &&& 0x3f).toInt64.toUInt64).toInt64)) * (3573116690164977347 : Int64)).toUInt64 >>> ((54 : Int32) &&& 0x3f).toInt64.toUInt64).toInt64)) * (-7575587736534282103 : Int64))), .second] [(.long ((((((((q1 ^^^ ((q1.toUInt64 >>> ((31 : Int32) &&& 0x3f).toInt64.toUInt64).toInt64)) ^^^ ((q1.toUInt64 >>> ((62 : Int32) &&& 0x3f).toInt64.toUInt64).toInt64)) * (3573116690164977347 : Int64)) ^^^ (((((q1 ^^^ ((q1.toUInt64 >>> ((31 : Int32) &&& 0x3f).toInt64.toUInt64).toInt64)) ^^^ ((q1.toUInt64 >>> ((62 : Int32) &&& 0x3f).toInt64.toUInt64).toInt64)) * (3573116690164977347 : Int64)).toUInt64 >>> ((27 : Int32) &&& 0x3f).toInt64.toUInt64).toInt64)) ^^^ (((((q1 ^^^ ((q1.toUInt64 >>> ((31 : Int32) &&& 0x3f).toInt64.toUInt64).toInt64)) ^^^ ((q1.toUInt64 >>> ((62 : Int32) &&& 0x3f).toInt64.toUInt64).toInt64)) * (3573116690164977347 : Int64)).toUInt64 >>> ((54 : Int32) &&& 0x3f).toInt64.toUInt64).toInt64)) * (-7575587736534282103 : Int64)) ^^^ ((((((((q1 ^^^ ((q1.toUInt64 >>> ((31 : Int32) &&& 0x3f).toInt64.toUInt64).toInt64)) ^^^ ((q1.toUInt64 >>> ((62 : Int32) &&& 0x3f).toInt64.toUInt64).toInt64)) * (3573116690164977347 : Int64)) ^^^ (((((q1 ^^^ ((q1.toUInt64 >>> ((31 : Int32) &&& 0x3f).toInt64.toUInt64).toInt64)) ^^^ ((q1.toUInt64 >>> ((62 : Int32) &&& 0x3f).toInt64.toUInt64).toInt64)) * (3573116690164977347 : Int64)).toUInt64 >>> ((27 : Int32) &&& 0x3f).toInt64.toUInt64).toInt64)) ^^^ (((((q1 ^^^ ((q1.toUInt64 >>> ((31 : Int32) &&& 0x3f).toInt64.toUInt64).toInt64)) ^^^ ((q1.toUInt64 >>> ((62 : Int32) &&& 0x3f).toInt64.toUInt64).toInt64)) * (3573116690164977347 : Int64)).toUInt64 >>> ((54 : Int32) &&& 0x3f).toInt64.toUInt64).toInt64)) * (-7575587736534282103 : Int64)).toUInt64 >>> ((30 : Int32) &&& 0x3f).toInt64.toUInt64).toInt64)) ^^^ ((((((((q1 ^^^ ((q1.toUInt64 >>> ((31 : Int32) &&& 0x3f).toInt64.toUInt64).toInt64)) ^^^ ((q1.toUInt64 >>> ((62 : Int32) &&& 0x3f).toInt64.toUInt64).toInt64)) * (3573116690164977347 : Int64)) ^^^ (((((q1 ^^^ ((q1.toUInt64 >>> ((31 : Int32) &&& 0x3f).toInt64.toUInt64).toInt64)) ^^^ ((q1.toUInt64 >>> ((62 : Int32) &&& 0x3f).toInt64.toUInt64).toInt64)) * (3573116690164977347 : Int64)).toUInt64 >>> ((27 : Int32) &&& 0x3f).toInt64.toUInt64).toInt64)) ^^^ (((((q1 ^^^ ((q1.toUInt64 >>> ((31 : Int32) &&& 0x3f).toInt64.toUInt64).toInt64)) ^^^ ((q1.toUInt64 >>> ((62 : Int32) &&& 0x3f).toInt64.toUInt64).toInt64)) * (3573116690164977347 : Int64)).toUInt64 >>> ((54 : Int32) &&& 0x3f).toInt64.toUInt64).toInt64)) * (-7575587736534282103 : Int64)).toUInt64 >>> ((60 : Int32) &&& 0x3f).toInt64.toUInt64).toInt64)))])
  exact Go.retJ X0 hx hlk Bd.returns (hb hby d2_43) e0 ⟨rfl, N0, rfl⟩ (by decide) (by decide)

theorem ef_law (m : MethodId) (x0 : Int64) : entryFrame m #[(.long x0)] maxLocals = mkF m 0 #[.val (.long x0), .second, .unset, .unset, .unset, .unset, .unset] [] := by first | (simp [entryFrame, mkF, argsToLocals, Value.category, maxLocals]; done) | rfl
def Q_law (Z : State) (q1 : Int64) (h0 : Heap) (n0 : Nat) (v : Option Value) (h : Heap) (L : List Loc) : Prop := v = some (.int (1 : Int32)) ∧ Fr n0 L
set_option maxRecDepth 65536 in
set_option maxHeartbeats 40000000 in
theorem rm_law (l : Launch) (Z : State) (a0 : Array Value) (hw : ∀ d ∈ tables_1, d.before a0 Z = true) (ws : List Jvm.Cond) (q1 : Int64) (h0 : Heap) (n0 : Nat) (Z0 : n0 ≤ h0.size) :
    MetFree l x (head1 (Jvm.Cond.code x code maxLocals ret :: ws) room_1) (fun a U => a = #[(.long q1)] ∧ Z.Warmed39 U.vm ∧ U.heap = h0) (fun _ _ _ _ _ => True) (fun _ U o U' => ∃ v L, o = .returned v ∧ Q_law Z q1 h0 n0 v U'.heap L ∧ FrameEnd U o U' L room_1.cells room_1.slots) := by
  refine MetFree.of_bodySF (plainFor_of_name pn_1) hisR ?_
  intro p e s m args below meth c s₁ Bd hml0 hP hK
  obtain ⟨rfl, hZ, hh⟩ := hP
  have hx := Bd.exec
  have hby := Bd.bytes
  have hlk : meth.locks = false := BodyLoose.notSynchronized Bd
  have hml : c.maxLocals = 7 := hml0
  have hown : s.vm.findClass xs0 = some m.cls := findClass_of_methodNamed Bd.named
  have hnm := (name_of_methodNamed Bd.named Bd.method).1
  have X0 : Stand p l e room_1 s m #[(.long q1)] below meth c s₁ [] 0 0 := Stand.of_body Bd
  have e0 : s₁.heap = h0 := by rw [← hh, Bd.state]; rfl
  have N0 := Fr.nil n0
  show Go p e below s (Q_law Z q1 h0 n0) room_1.cells room_1.slots s₁ (entryFrame m #[(.long q1)] maxLocals)
  refine Go.cast (ef_law m q1) ?_
  show Go p e below s _ _ _ s₁ (mkF m 0 #[.val (.long q1), .second, .unset, .unset, .unset, .unset, .unset] [])
  obtain ⟨T1, h1, X1, e1, E1, A1, D1, -, st1⟩ := newO X0 hx hZ hown (tw0 hw) (tw1 hw) (tw2 hw) e0 (g := (mkF m 0 #[.val (.long q1), .second, .unset, .unset, .unset, .unset, .unset] [])) rfl (hb hby at_0) (by decide) (by decide)
  obtain ⟨b1, g1⟩ : ∃ z, z = h0.size := ⟨_, rfl⟩
  rw [← g1] at A1 D1 st1
  have f2 : Fld Z h1 b1 xs1 "state" "J" (.long (0 : Int64)) := D1 (Or.inl (tw10 hw)) (ty := .long) (by decide)
  refine Go.step (fun _ k => st1 _ (XS.dup X1.here hx rfl (hb hby at_3) rfl rfl (XS.lloadN X1.here hx rfl (hb hby at_4) rfl k))) ?_
  show Go p e below s _ _ _ T1 (mkF m 5 #[.val (.long q1), .second, .unset, .unset, .unset, .unset, .unset] [(.long q1), (.ref b1), (.ref b1)])
  have f3 := (Nat.le_trans Z0 E1.1)
  have g4 := Nat.le_trans Z0 (Nat.le_of_eq g1.symm)
  obtain ⟨_, _, ⟨T5, L5, k5, n5⟩, -, X5, ⟨Lc5, hQ5, l5, y5, z5⟩, st5⟩ := X1.specialBack hx (y := xm1) rfl hown (mvT hZ (tw3 hw)) (mvT hZ (tw4 hw)) (mvT hZ (tw5 hw)) (by decide) (backOf (W := 1) (rm_new l Z a0 hw [] b1 q1 h1 n0 f3 A1 f2 g4) hZ (tw5 hw) (tw2 hw) (by decide) (by decide)) (g := (mkF m 5 #[.val (.long q1), .second, .unset, .unset, .unset, .unset, .unset] [(.long q1), (.ref b1), (.ref b1)])) rfl (by rw [hml]; rfl) (Steps.refl _) (a := b1) (argsL := [(.long q1)]) (rest := [(.ref b1)]) (lenOf pd_0 rfl) rfl (by show 2 * 0 + _ ≤ _; exact Nat.le_of_eq rfl) (hb hby at_5) (fun _ _ => ⟨rfl, e1, (by decide : 1 + 0 ≤ _), (by decide : 1 + 0 ≤ _)⟩)
  dsimp only [Pt.U, Pt.locs, Pt.cells, Pt.slots] at X5 l5 y5 z5 st5 hQ5
  subst l5 y5 z5
  obtain ⟨rfl, N5q, K5, P5_0⟩ := hQ5
  have N6 := Fr.app N0 N5q
  refine Go.step (fun _ k => st5.trans (XS.astoreN X5.here hx rfl (hb hby at_8) rfl rfl (l' := #[.val (.long q1), .second, .val (.ref b1), .unset, .unset, .unset, .unset]) rfl (XS.aloadN X5.here hx rfl (hb hby at_9) rfl rfl k))) ?_
  show Go p e below s _ _ _ T5 (mkF m 10 #[.val (.long q1), .second, .val (.ref b1), .unset, .unset, .unset, .unset] [(.ref b1)])
  have f7 := (Nat.le_trans f3 K5.1)
  have f8 := (A1.keep K5)
  obtain ⟨cq9, kq9, q9a, q9b, q9c⟩ := isOf hZ rfl f8
  obtain ⟨_, _, ⟨T9, L9, k9, n9⟩, -, X9, ⟨Lc9, hQ9, l9, y9, z9⟩, st9⟩ := X5.virtualBack hx (y := xm0) (z := xm0) hown (mvT hZ (tw11 hw)) (mvT hZ (tw12 hw)) (notFace_of_selects (args := #[]) (mvT hZ (tw14 hw))) (mvT hZ (tw14 hw)) (mvT hZ (tw13 hw)) (by decide) (backOf (W := 0) (rm_next l Z a0 hw [] b1 q1 T5.heap n0 f7 f8 P5_0 g4) hZ (tw15 hw) (tw2 hw) (by decide) (by decide)) q9a q9c (g := (mkF m 10 #[.val (.long q1), .second, .val (.ref b1), .unset, .unset, .unset, .unset] [(.ref b1)])) rfl (by rw [hml]; rfl) (Steps.refl _) (argsL := []) (rest := []) (lenOf pd_1 rfl) rfl (by show 2 * 0 + _ ≤ _; exact Nat.le_of_eq rfl) (hb hby at_10) (fun _ _ => ⟨rfl, rfl, (by decide : 1 + 0 ≤ _), (by decide : 1 + 0 ≤ _)⟩)
  dsimp only [Pt.U, Pt.locs, Pt.cells, Pt.slots] at X9 l9 y9 z9 st9 hQ9
  subst l9 y9 z9
  obtain ⟨rfl, N9q, K9, P9_0⟩ := hQ9
  have N10 := Fr.app N6 N9q
  refine Go.step (fun _ k => st9.trans (XS.lstoreN X9.here hx rfl (hb hby at_13) rfl (l' := #[.val (.long q1), .second, .val (.ref b1), .val (.long (own_mix (q1 + (-7046029254386353131 : Int64)))), .second, .unset, .unset]) rfl (XS.aloadN X9.here hx rfl (hb hby at_14) rfl rfl k))) ?_
  show Go p e below s _ _ _ T9 (mkF m 15 #[.val (.long q1), .second, .val (.ref b1), .val (.long (own_mix (q1 + (-7046029254386353131 : Int64)))), .second, .unset, .unset] [(.ref b1)])
  have f11 := (Nat.le_trans f7 K9.1)
  have f12 := (f8.keep K9)
  obtain ⟨cq13, kq13, q13a, q13b, q13c⟩ := isOf hZ rfl f12
  obtain ⟨_, _, ⟨T13, L13, k13, n13⟩, -, X13, ⟨Lc13, hQ13, l13, y13, z13⟩, st13⟩ := X9.virtualBack hx (y := xm0) (z := xm0) hown (mvT hZ (tw11 hw)) (mvT hZ (tw12 hw)) (notFace_of_selects (args := #[]) (mvT hZ (tw14 hw))) (mvT hZ (tw14 hw)) (mvT hZ (tw13 hw)) (by decide) (backOf (W := 0) (rm_next l Z a0 hw [] b1 (q1 + (-7046029254386353131 : Int64)) T9.heap n0 f11 f12 P9_0 g4) hZ (tw15 hw) (tw2 hw) (by decide) (by decide)) q13a q13c (g := (mkF m 15 #[.val (.long q1), .second, .val (.ref b1), .val (.long (own_mix (q1 + (-7046029254386353131 : Int64)))), .second, .unset, .unset] [(.ref b1)])) rfl (by rw [hml]; rfl) (Steps.refl _) (argsL := []) (rest := []) (lenOf pd_1 rfl) rfl (by show 2 * 0 + _ ≤ _; exact Nat.le_of_eq rfl) (hb hby at_15) (fun _ _ => ⟨rfl, rfl, (by decide : 1 + 0 ≤ _), (by decide : 1 + 0 ≤ _)⟩)
  dsimp only [Pt.U, Pt.locs, Pt.cells, Pt.slots] at X13 l13 y13 z13 st13 hQ13
  subst l13 y13 z13
  obtain ⟨rfl, N13q, K13, P13_0⟩ := hQ13
  have N14 := Fr.app N10 N13q
  refine Go.step (fun _ k => st13.trans (XS.lstore X13.here hx rfl (hb hby at_18) rfl (l' := #[.val (.long q1), .second, .val (.ref b1), .val (.long (own_mix (q1 + (-7046029254386353131 : Int64)))), .second, .val (.long (own_mix ((q1 + (-7046029254386353131 : Int64)) + (-7046029254386353131 : Int64)))), .second]) rfl (XS.lloadN X13.here hx rfl (hb hby at_20) rfl k))) ?_
  show Go p e below s _ _ _ T13 (mkF m 21 #[.val (.long q1), .second, .val (.ref b1), .val (.long (own_mix (q1 + (-7046029254386353131 : Int64)))), .second, .val (.long (own_mix ((q1 + (-7046029254386353131 : Int64)) + (-7046029254386353131 : Int64)))), .second] [(.long (own_mix (q1 + (-7046029254386353131 : Int64))))])
  have f15 := (Nat.le_trans f11 K13.1)
  obtain ⟨_, _, ⟨T16, L16, k16, n16⟩, -, X16, ⟨Lc16, hQ16, l16, y16, z16⟩, st16⟩ := Jvm.LawKit.callS X13 hx (y := xm2) hown (mvT hZ (tw19 hw)) (mvT hZ (tw20 hw)) (mvT hZ (tw21 hw)) (mvT hZ (tw22 hw)) (by decide) (backOf (W := 0) (rm_unmix l Z a0 hw [] (own_mix (q1 + (-7046029254386353131 : Int64))) T13.heap n0 f15) hZ (tw22 hw) (tw21 hw) (by decide) (by decide)) (g := (mkF m 21 #[.val (.long q1), .second, .val (.ref b1), .val (.long (own_mix (q1 + (-7046029254386353131 : Int64)))), .second, .val (.long (own_mix ((q1 + (-7046029254386353131 : Int64)) + (-7046029254386353131 : Int64)))), .second] [(.long (own_mix (q1 + (-7046029254386353131 : Int64))))])) rfl (by rw [hml]; rfl) (argsL := [(.long (own_mix (q1 + (-7046029254386353131 : Int64))))]) (rest := []) (lenOf pd_2 rfl) rfl (by show 2 * 0 + _ ≤ _; exact Nat.le_of_eq rfl) (hb hby at_21) (fun _ _ => ⟨rfl, rfl, (by decide : 1 + 0 ≤ _), (by decide : 1 + 0 ≤ _)⟩)
  dsimp only [Pt.U, Pt.locs, Pt.cells, Pt.slots] at X16 l16 y16 z16 st16 hQ16
  subst l16 y16 z16
  obtain ⟨rfl, N16q, eq16⟩ := hQ16
  have N17 := Fr.app N14 N16q
  refine Go.step (fun _ k => st16 _ (XS.lloadN X16.here hx rfl (hb hby at_24) rfl (X16.ldc2Long hx hown (mvT hZ (tw25 hw)) (g := (mkF m 25 #[.val (.long q1), .second, .val (.ref b1), .val (.long (own_mix (q1 + (-7046029254386353131 : Int64)))), .second, .val (.long (own_mix ((q1 + (-7046029254386353131 : Int64)) + (-7046029254386353131 : Int64)))), .second] [(.long q1), (.long (own_unmix (own_mix (q1 + (-7046029254386353131 : Int64)))))])) rfl (hb hby at_25) _ (XS.ladd X16.here hx rfl (hb hby at_28) rfl (XS.lcmp X16.here hx rfl (hb hby at_29) rfl (XS.ifNo X16.here hx rfl (hb hby at_30) rfl ((if0 _ _).trans (teq ((lw_eq _ _).mpr (own_inv _))).2) (XS.lload X16.here hx rfl (hb hby at_33) rfl k))))))) ?_
  show Go p e below s _ _ _ T16 (mkF m 35 #[.val (.long q1), .second, .val (.ref b1), .val (.long (own_mix (q1 + (-7046029254386353131 : Int64)))), .second, .val (.long (own_mix ((q1 + (-7046029254386353131 : Int64)) + (-7046029254386353131 : Int64)))), .second] [(.long (own_mix ((q1 + (-7046029254386353131 : Int64)) + (-7046029254386353131 : Int64))))])
  obtain ⟨_, _, ⟨T18, L18, k18, n18⟩, -, X18, ⟨Lc18, hQ18, l18, y18, z18⟩, st18⟩ := Jvm.LawKit.callS X16 hx (y := xm2) hown (mvT hZ (tw19 hw)) (mvT hZ (tw20 hw)) (mvT hZ (tw21 hw)) (mvT hZ (tw22 hw)) (by decide) (backOf (W := 0) (rm_unmix l Z a0 hw [] ((own_mix ((q1 + (-7046029254386353131 : Int64)) + (-7046029254386353131 : Int64)))) T13.heap n0 f15) hZ (tw22 hw) (tw21 hw) (by decide) (by decide)) (g := (mkF m 35 #[.val (.long q1), .second, .val (.ref b1), .val (.long (own_mix (q1 + (-7046029254386353131 : Int64)))), .second, .val (.long (own_mix ((q1 + (-7046029254386353131 : Int64)) + (-7046029254386353131 : Int64)))), .second] [(.long (own_mix ((q1 + (-7046029254386353131 : Int64)) + (-7046029254386353131 : Int64))))])) rfl (by rw [hml]; rfl) (argsL := [(.long (own_mix ((q1 + (-7046029254386353131 : Int64)) + (-7046029254386353131 : Int64))))]) (rest := []) (lenOf pd_2 rfl) rfl (by show 2 * 0 + _ ≤ _; exact Nat.le_of_eq rfl) (hb hby at_35) (fun _ _ => ⟨rfl, eq16, (by decide : 1 + 0 ≤ _), (by decide : 1 + 0 ≤ _)⟩)
  dsimp only [Pt.U, Pt.locs, Pt.cells, Pt.slots] at X18 l18 y18 z18 st18 hQ18
  subst l18 y18 z18
  obtain ⟨rfl, N18q, eq18⟩ := hQ18
  have N19 := Fr.app N17 N18q
  refine Go.step (fun _ k => st18 _ (XS.lloadN X18.here hx rfl (hb hby at_38) rfl (X18.ldc2Long hx hown (mvT hZ (tw25 hw)) (g := (mkF m 39 #[.val (.long q1), .second, .val (.ref b1), .val (.long (own_mix (q1 + (-7046029254386353131 : Int64)))), .second, .val (.long (own_mix ((q1 + (-7046029254386353131 : Int64)) + (-7046029254386353131 : Int64)))), .second] [(.long q1), (.long (own_unmix ((own_mix ((q1 + (-7046029254386353131 : Int64)) + (-7046029254386353131 : Int64))))))])) rfl (hb hby at_39) _ (XS.ladd X18.here hx rfl (hb hby at_42) rfl (X18.ldc2Long hx hown (mvT hZ (tw25 hw)) (g := (mkF m 43 #[.val (.long q1), .second, .val (.ref b1), .val (.long (own_mix (q1 + (-7046029254386353131 : Int64)))), .second, .val (.long (own_mix ((q1 + (-7046029254386353131 : Int64)) + (-7046029254386353131 : Int64)))), .second] [(.long (q1 + (-7046029254386353131 : Int64))), (.long (own_unmix ((own_mix ((q1 + (-7046029254386353131 : Int64)) + (-7046029254386353131 : Int64))))))])) rfl (hb hby at_43) _ (XS.ladd X18.here hx rfl (hb hby at_46) rfl (XS.lcmp X18.here hx rfl (hb hby at_47) rfl (XS.ifNo X18.here hx rfl (hb hby at_48) rfl ((if0 _ _).trans (teq ((lw_eq _ _).mpr (own_inv _))).2) (XS.iconst X18.here hx rfl (hb hby at_51) (XS.goto X18.here hx rfl (pc0 := 52) (pc' := 56) rfl (hb hby at_52) (by decide) (by decide) k)))))))))) ?_
  show Go p e below s _ _ _ T18 (mkF m 56 #[.val (.long q1), .second, .val (.ref b1), .val (.long (own_mix (q1 + (-7046029254386353131 : Int64)))), .second, .val (.long (own_mix ((q1 + (-7046029254386353131 : Int64)) + (-7046029254386353131 : Int64)))), .second] [(.int (1 : Int32))])
  exact Go.retN X18 hx hlk (t := .boolean) Bd.returns (by simp) (hb hby at_56) eq18 ⟨rfl, N19⟩ (by decide) (by decide)

set_option maxRecDepth 65536 in
set_option maxHeartbeats 40000000 in
theorem comes_1 {Post : Tables → Env → Array Value → State → Outcome → State → Prop} (hpost : ∀ tb e args s v u, (limb_1_1.after args s (.returned v) u = true ∧ limb_1_2.after args s (.returned v) u = true ∧ True) → FrameEnd s (.returned v) u (Jvm.fieldLocs frame_1_writes args s ++ Jvm.arrayLocs frame_1_arrays args s ++ Jvm.staticLocs frame_1_statics s) 16 128 → Post tb e args s (.returned v) u) :
    ArmFor flags0 classFile x code maxLocals ret World_1 tables_1 room_1 Calls_1 rest_1 Pre_1 Post := by
  intro l hfl _ _ p e ha hc hk s m args below hf hA hF happ hP
  obtain ⟨hcalls, hrest, hpre⟩ := hP
  obtain ⟨-, -, -, hnamed, -, -, -, hat⟩ := (Spec.applies_iff hf).mp happ
  obtain ⟨hg, hn⟩ := and_e (Cond.before_iff.mp (show (Jvm.Cond.and given_1 narrow_1).before args s = true from hpre))
  obtain ⟨gv1, gv2⟩ := and_e hg
  obtain ⟨w0, rfl⟩ : ∃ w0 : Value, args = #[w0] := by
    have hs : args.size = 1 := by simpa [Cond.value, given_1] using gv1
    obtain ⟨L⟩ := args
    match L, hs with
    | [w0], _ => exact ⟨w0, rfl⟩
  have hw := fun d (hd : d ∈ tables_1) => atoms_spec (ws := Jvm.Cond.code x code maxLocals ret :: tables_1) hat d (List.mem_cons_of_mem _ hd)
  have hfit : Fit s := fun {y c} hc i hi => by
    obtain ⟨ha, rfl⟩ := Array.getElem?_eq_some_iff.mp hc
    have q := List.all_eq_true.mp ((Array.all_eq_true_iff_forall_mem.mp hF) _ (Array.getElem_mem ha)) i (List.mem_range.mpr hi)
    simpa [Array.getElem?_eq_getElem hi] using q
  obtain ⟨i0, ei0⟩ := isL_v gv2
  obtain rfl : w0 = (.long i0) := Option.some.inj ei0
  obtain ⟨n, o, h1, h2, h3, _, L, rfl, ⟨rfl, N⟩, hq⟩ := rm_law l s _ hw tables_1 i0 s.heap s.heap.size (Nat.le_refl _)  p e ha hc hk s m _ below hf ((Spec.applies_iff_loose hf).mp happ).1 ⟨rfl, State.Warmed39.refl s, rfl⟩ trivial
  refine ⟨n, _, h1, h2, h3, hpost _ _ _ _ _ _ ⟨Cond.after_iff.mpr rfl, Cond.after_iff.mpr (eq_i res_at (Term.int_eval (1)) rfl), trivial⟩ ⟨hq.1, hq.2.1, (hq.2.2.sift fun y hy => Or.inr (N y hy)).mono (by decide) (by decide)⟩⟩
theorem main_1_1 : Claimed_1_1 := comes_1 fun _ _ _ _ _ _ h hF => ⟨h.1, hF⟩
theorem main_1_2 : Claimed_1_2 := comes_1 fun _ _ _ _ _ _ h hF => ⟨h.2.1, hF⟩
end Jvm.Pilot.@@N@@
namespace Jvm.Pilot.@@N@@
open Jvm Jvm.ClassFile Sem Op Lib Jvm.Free Jvm.Stand Jvm.Pilot.@@N@@.Jvm.D
/-! MADE BY PROGRAM (witnessworld.py) out of the Statement's table words and the real class files: 9 classes; the members and pool entries that the words name. The judged class is class 1, her method 2. -/
namespace start1
open Jvm.ClassFile
def u (s : String) : CpInfo := .utf8 (stringToUtf16 s)
/-- a pool by its gaps: so many unusable entries, then the entry; so many at the end -/
def gap : Nat → List CpInfo → List CpInfo
  | 0, r => r
  | n + 1, r => .unusable :: gap n r
def poolList (es : List (Nat × CpInfo)) (last : Nat) : List CpInfo := es.foldr (fun e r => gap e.1 (e.2 :: r)) (gap last [])
def pool (es : List (Nat × CpInfo)) (last : Nat) : Array CpInfo := ⟨poolList es last⟩
def fileOf (pool : Array CpInfo) (this : Nat) (attrs : Array Attribute := #[]) (ms : Array MethodInfo := #[]) (fl : Nat := 33) (sup : Nat := 0) (ifs : Array Nat := #[]) (fds : Array FieldInfo := #[]) : ClassFile where
  minorVersion := 0
  majorVersion := 65
  constantPool := pool
  accessFlags := fl
  thisClass := this
  superClass := sup
  interfaces := ifs
  fields := fds
  methods := ms
  attributes := attrs
def plain (name : String) (sup : Option ClassId) : Class where
  name := name
  kind := .ordinary
  loader := none
  accessFlags := 33
  super := sup
  interfaces := #[]
  cf := none
  fields := #[]
  methods := #[]
  instanceTypes := #[]
  staticTypes := #[]
  resolved := #[]
  callSites := []
  init := .initialized
  statics := none
  mirror := none

def pool0 : Array CpInfo := pool [(5, u "<init>"), (0, u "()V"), (1, .class_ 10), (1, u "java/lang/Object")] 113

def k0c0 : Code := { maxStack := 0, maxLocals := 1, code := object_method_1_code, exceptionTable := #[], attributes := #[] }
def k0m0 : Method := { name := "<init>", desc := "()V", sig := { parameters := [], returnType := none }, accessFlags := 1, code := some k0c0 }
/-- java/lang/Object -/
def k0 : Class := { plain "java/lang/Object" none with
  accessFlags := 33
  interfaces := #[]
  cf := some (fileOf pool0 8 #[] #[{ accessFlags := 1, nameIndex := 5, descriptorIndex := 6, attributes := #[] }] 33 0 #[] #[])
  fields := #[]
  methods := #[k0m0]
  instanceTypes := #[]
  staticTypes := #[]
  resolved := Array.replicate 124 none
  statics := none }

def pool1 : Array CpInfo := pool [(2, .class_ 4), (1, u "java/lang/Object"), (0, u "<init>"), (0, u "()V"), (0, .long 3573116690164977347), (1, .long 10871156337175269513), (1, .class_ 12), (0, u "com/example/wayfare/wayfare/market/RandomSource"), (0, .methodref 11 14), (0, .nameAndType 5 15), (0, u "(J)V"), (0, .methodref 11 17), (0, .nameAndType 18 19), (0, u "nextLong"), (0, u "()J"), (0, .methodref 21 22), (0, .class_ 23), (0, .nameAndType 24 25), (0, u "com/example/wayfare/wayfare/market/RandomSourceNextLongPinLaw"), (0, u "unmix"), (0, u "(J)J"), (0, .long 11400714819323198485), (1, u "STEP"), (0, u "J"), (3, u "law"), (0, u "(J)Z")] 3

def k1m0 : Method := { name := "<init>", desc := "()V", sig := { parameters := [], returnType := none }, accessFlags := 1, code := none }
def k1c1 : Code := { maxStack := 5, maxLocals := 2, code := method_2_code, exceptionTable := #[], attributes := #[] }
def k1m1 : Method := { name := "unmix", desc := "(J)J", sig := { parameters := [.long], returnType := some .long }, accessFlags := 10, code := some k1c1 }
def k1c2 : Code := { maxStack := 6, maxLocals := 7, code := code, exceptionTable := #[], attributes := #[] }
def k1m2 : Method := { name := "law", desc := "(J)Z", sig := { parameters := [.long], returnType := some .boolean }, accessFlags := 9, code := some k1c2 }
/-- com/example/wayfare/wayfare/market/RandomSourceNextLongPinLaw -/
def k1 : Class := { plain "com/example/wayfare/wayfare/market/RandomSourceNextLongPinLaw" (some 0) with
  accessFlags := 49
  interfaces := #[]
  cf := some (fileOf pool1 21 #[] #[{ accessFlags := 1, nameIndex := 5, descriptorIndex := 6, attributes := #[] }, { accessFlags := 10, nameIndex := 24, descriptorIndex := 25, attributes := #[] }, { accessFlags := 9, nameIndex := 33, descriptorIndex := 34, attributes := #[] }] 49 2 #[] #[{ accessFlags := 26, nameIndex := 28, descriptorIndex := 29, attributes := #[] }])
  fields := #[{ name := "STEP", type := .long, accessFlags := 26, slot := 0, constantValue := 0 }]
  methods := #[k1m0, k1m1, k1m2]
  instanceTypes := #[]
  staticTypes := #[.long]
  resolved := Array.replicate 38 none
  statics := none }

def pool2 : Array CpInfo := pool [(1, .methodref 2 3), (0, .class_ 4), (0, .nameAndType 5 6), (0, u "java/lang/Object"), (0, u "<init>"), (0, u "()V"), (0, .fieldref 8 9), (0, .class_ 10), (0, .nameAndType 11 12), (0, u "com/example/wayfare/wayfare/market/RandomSource"), (0, u "state"), (0, u "J"), (0, .long 11400714819323198485), (1, .long 13787848793156543929), (1, .long 10723151780598845931), (3, u "nextLong"), (0, u "()J"), (2, u "(J)V"), (32, u "STEP")] 31

def k2c0 : Code := { maxStack := 3, maxLocals := 3, code := prog_68_method_1_code, exceptionTable := #[], attributes := #[] }
def k2m0 : Method := { name := "<init>", desc := "(J)V", sig := { parameters := [.long], returnType := none }, accessFlags := 1, code := some k2c0 }
def k2c1 : Code := { maxStack := 5, maxLocals := 3, code := prog_68_method_2_code, exceptionTable := #[], attributes := #[] }
def k2m1 : Method := { name := "nextLong", desc := "()J", sig := { parameters := [], returnType := some .long }, accessFlags := 1, code := some k2c1 }
/-- com/example/wayfare/wayfare/market/RandomSource -/
def k2 : Class := { plain "com/example/wayfare/wayfare/market/RandomSource" (some 0) with
  accessFlags := 49
  interfaces := #[]
  cf := some (fileOf pool2 8 #[] #[{ accessFlags := 1, nameIndex := 5, descriptorIndex := 25, attributes := #[] }, { accessFlags := 1, nameIndex := 21, descriptorIndex := 22, attributes := #[] }] 49 2 #[] #[{ accessFlags := 26, nameIndex := 58, descriptorIndex := 12, attributes := #[] }, { accessFlags := 2, nameIndex := 11, descriptorIndex := 12, attributes := #[] }])
  fields := #[{ name := "STEP", type := .long, accessFlags := 26, slot := 0, constantValue := 0 }, { name := "state", type := .long, accessFlags := 2, slot := 0, constantValue := 0 }]
  methods := #[k2m0, k2m1]
  instanceTypes := #[.long]
  staticTypes := #[.long]
  resolved := Array.replicate 90 none
  statics := none }

def pool3 : Array CpInfo := pool [(1, u "java/lang/Cloneable"), (0, .class_ 1), (0, u "java/lang/Object"), (0, .class_ 3)] 3

/-- java/lang/Cloneable -/
def k3 : Class := { plain "java/lang/Cloneable" (some 0) with
  accessFlags := 1537
  interfaces := #[]
  cf := some (fileOf pool3 2 #[] #[] 1537 4 #[] #[])
  fields := #[]
  methods := #[]
  instanceTypes := #[]
  staticTypes := #[]
  resolved := Array.replicate 8 none
  statics := none }

def pool4 : Array CpInfo := pool [(1, u "java/io/Serializable"), (0, .class_ 1), (0, u "java/lang/Object"), (0, .class_ 3)] 3

/-- java/io/Serializable -/
def k4 : Class := { plain "java/io/Serializable" (some 0) with
  accessFlags := 1537
  interfaces := #[]
  cf := some (fileOf pool4 2 #[] #[] 1537 4 #[] #[])
  fields := #[]
  methods := #[]
  instanceTypes := #[]
  staticTypes := #[]
  resolved := Array.replicate 8 none
  statics := none }

/-- the primitive byte -/
def k5 : Class := { plain "byte" none with kind := .primitive 'B', accessFlags := 0x411 }
/-- [B -/
def k6 : Class := { plain "[B" (some 0) with kind := .array 5 .byte, interfaces := #[3, 4], accessFlags := 1041 }

/-- the primitive int -/
def k7 : Class := { plain "int" none with kind := .primitive 'I', accessFlags := 0x411 }
/-- [I -/
def k8 : Class := { plain "[I" (some 0) with kind := .array 7 .int, interfaces := #[3, 4], accessFlags := 1041 }

def heap : Heap := #[]
def classes : Array Class := #[k0, k1, k2, k3, k4, k5, k6, k7, k8]
def interned : List (Array UInt16 × Addr) := []
def slotsUsed : Nat := 0
def theMethod : MethodId := ⟨1, 2⟩
def args0 : Array Value := #[.long 5]
def aboutOver (below : List Frame) : State where
  vm := { classes := classes, interned := interned.toArray }
  heap := heap
  slotsUsed := slotsUsed
  threads := #[{ frames := .invoking theMethod args0 :: below }]
def below0 : List Frame := [.native { method := ⟨0, 0⟩, args := #[] }]
def about1 : State := aboutOver below0
def p0 : Program := .bare "" "" ""
def e0 : Env := launch0.env 0 0 0
theorem w_frames : about1.frames = Frame.invoking theMethod args0 :: below0 := rfl
set_option maxRecDepth 65536 in
theorem w_args : argsFit about1.vm theMethod args0 = true := by decide +kernel
set_option maxRecDepth 65536 in
theorem w_heap : heapFits about1 = true := by decide +kernel
set_option maxRecDepth 65536 in
theorem w_runnable : about1.curStatus? = some .runnable := by decide +kernel
set_option maxRecDepth 65536 in
theorem w_alone : about1.alone = true := by decide +kernel
set_option maxRecDepth 65536 in
theorem w_named : about1.methodNamed? x = some theMethod := by decide +kernel
set_option maxRecDepth 65536 in
theorem w_hears : about1.hears theMethod below0 = true := by decide +kernel
set_option maxRecDepth 65536 in
theorem w_ripe : about1.ripe theMethod args0 below0 = true := by decide +kernel
theorem w_running : about1.status = .running := rfl
set_option maxRecDepth 65536 in
theorem w_room : about1.hasRoom e0.platform room_1 = true :=
  launch0.hasRoom_least _ room_1 (by decide +kernel) (by decide +kernel) (by decide +kernel) (by decide +kernel) (by decide +kernel) (by decide +kernel)
theorem allAtoms_all (ts : List Jvm.Cond) (a : Array Jvm.Value) (st : Jvm.State) : (allAtoms ts).before a st = ts.all (fun c => c.before a st) := by
  induction ts with
  | nil => rfl
  | cons c t ih =>
    show (Jvm.Cond.and c (allAtoms t)).before a st = _
    rw [Jvm.Cond.before_and, ih, List.all_cons]
def words1 : List Jvm.Cond := Jvm.Cond.code x code maxLocals ret :: tables_1
/-- a 'code' word, met by the world's own term for the bytes: nothing is compared byte by byte -/
theorem code_word {y : MethodName} {bytes : ByteArray} {mx : Nat} {rt : Option FieldType} {a : Array Value} {s : State} {m : MethodId} {meth : Method} {c : Code} (h1 : s.methodNamed? y = some m) (h2 : s.vm.method? m = some meth) (h3 : meth.code = some c) (h4 : c.code = bytes)
    (h5 : (c.maxLocals == mx && c.exceptionTable.isEmpty && decide (c.maxStack ≤ mostOperands) && decide (meth.sig.returnType = rt) && !meth.locks && decide (parseMethodDescriptor y.desc = some meth.sig)) = true) : (Jvm.Cond.code y bytes mx rt).before a s = true := by
  simp only [Bool.and_eq_true, beq_iff_eq, Bool.not_eq_true', decide_eq_true_eq] at h5
  obtain ⟨⟨⟨⟨⟨g1, g2⟩, g3⟩, g4⟩, g5⟩, g6⟩ := h5
  simp [Cond.before, Cond.holds, Cond.value, h1, h2, h3, h4, g1, g2, g3, g4, g5, g6]
def isCode : Jvm.Cond → Bool
  | .code _ _ _ _ => true
  | _ => false
theorem all_split {L : List Jvm.Cond} {P : Jvm.Cond → Bool} (h1 : L.all (fun c => isCode c || P c) = true) (h2 : ∀ c ∈ L.filter isCode, P c = true) : L.all P = true := by
  refine List.all_eq_true.mpr fun c hc => ?_
  have h := List.all_eq_true.mp h1 c hc
  rcases Bool.eq_false_or_eq_true (isCode c) with hi | hi
  · exact h2 c (List.mem_filter.mpr ⟨hc, hi⟩)
  · simpa [hi] using h
set_option maxRecDepth 65536 in
theorem w_c0 : (Jvm.Cond.code x code maxLocals ret).before args0 about1 = true := code_word (m := ⟨1, 2⟩) (meth := k1m2) (c := k1c2) (by decide +kernel) rfl rfl rfl (by decide +kernel)
set_option maxRecDepth 65536 in
theorem w_c1 : (Jvm.Cond.code ({ cls := "com/example/wayfare/wayfare/market/RandomSource", name := "<init>", desc := "(J)V" } : Jvm.MethodName) prog_68_method_1_code (3 : Nat) (Option.none : Option Jvm.ClassFile.FieldType)).before args0 about1 = true := code_word (m := ⟨2, 0⟩) (meth := k2m0) (c := k2c0) (by decide +kernel) rfl rfl rfl (by decide +kernel)
set_option maxRecDepth 65536 in
theorem w_c2 : (Jvm.Cond.code ({ cls := "java/lang/Object", name := "<init>", desc := "()V" } : Jvm.MethodName) object_method_1_code (1 : Nat) (Option.none : Option Jvm.ClassFile.FieldType)).before args0 about1 = true := code_word (m := ⟨0, 0⟩) (meth := k0m0) (c := k0c0) (by decide +kernel) rfl rfl rfl (by decide +kernel)
set_option maxRecDepth 65536 in
theorem w_c3 : (Jvm.Cond.code ({ cls := "com/example/wayfare/wayfare/market/RandomSource", name := "nextLong", desc := "()J" } : Jvm.MethodName) prog_68_method_2_code (3 : Nat) (Option.some Jvm.ClassFile.FieldType.long)).before args0 about1 = true := code_word (m := ⟨2, 1⟩) (meth := k2m1) (c := k2c1) (by decide +kernel) rfl rfl rfl (by decide +kernel)
set_option maxRecDepth 65536 in
theorem w_c4 : (Jvm.Cond.code ({ cls := "com/example/wayfare/wayfare/market/RandomSourceNextLongPinLaw", name := "unmix", desc := "(J)J" } : Jvm.MethodName) method_2_code (2 : Nat) (Option.some Jvm.ClassFile.FieldType.long)).before args0 about1 = true := code_word (m := ⟨1, 1⟩) (meth := k1m1) (c := k1c1) (by decide +kernel) rfl rfl rfl (by decide +kernel)
def codes1 : List Jvm.Cond := [Jvm.Cond.code x code maxLocals ret, Jvm.Cond.code ({ cls := "com/example/wayfare/wayfare/market/RandomSource", name := "<init>", desc := "(J)V" } : Jvm.MethodName) prog_68_method_1_code (3 : Nat) (Option.none : Option Jvm.ClassFile.FieldType), Jvm.Cond.code ({ cls := "java/lang/Object", name := "<init>", desc := "()V" } : Jvm.MethodName) object_method_1_code (1 : Nat) (Option.none : Option Jvm.ClassFile.FieldType), Jvm.Cond.code ({ cls := "com/example/wayfare/wayfare/market/RandomSource", name := "nextLong", desc := "()J" } : Jvm.MethodName) prog_68_method_2_code (3 : Nat) (Option.some Jvm.ClassFile.FieldType.long), Jvm.Cond.code ({ cls := "com/example/wayfare/wayfare/market/RandomSourceNextLongPinLaw", name := "unmix", desc := "(J)J" } : Jvm.MethodName) method_2_code (2 : Nat) (Option.some Jvm.ClassFile.FieldType.long)]
set_option maxRecDepth 65536 in
theorem codes_eq : words1.filter isCode = codes1 := rfl
theorem w_codes : ∀ c ∈ words1.filter isCode, c.before args0 about1 = true := by
  rw [codes_eq]
  intro c hc
  simp only [codes1, List.mem_cons, List.not_mem_nil, or_false] at hc
  rcases hc with rfl | rfl | rfl | rfl | rfl
  · exact w_c0
  · exact w_c1
  · exact w_c2
  · exact w_c3
  · exact w_c4
set_option maxRecDepth 65536 in
theorem w_t1 : (words1.take 24).all (fun c => isCode c || c.before args0 about1) = true := by decide +kernel
set_option maxRecDepth 65536 in
theorem w_t2 : (words1.drop 24).all (fun c => isCode c || c.before args0 about1) = true := by decide +kernel
theorem w_tables : (allAtoms (Jvm.Cond.code x code maxLocals ret :: tables_1)).before args0 about1 = true := by
  rw [allAtoms_all]
  show words1.all (fun c => c.before args0 about1) = true
  refine all_split ?_ w_codes
  rw [← List.take_append_drop 24 words1, List.all_append, w_t1, w_t2]
  rfl
set_option maxRecDepth 65536 in
theorem w_case : (Jvm.Cond.and given_1 narrow_1).before args0 about1 = true := by decide +kernel
theorem w_applies : (headSpec (Jvm.Cond.code x code maxLocals ret :: tables_1) room_1).applies x e0.platform about1 = true :=
  (Spec.applies_iff w_frames).mpr ⟨w_running, w_runnable, w_alone, w_named, w_hears, w_ripe, w_room, w_tables⟩
theorem atStart : AtStart classFile x code maxLocals ret World_1 tables_1 room_1 Calls_1 rest_1 Pre_1 launch0 p0 e0 about1 theMethod args0 below0 :=
  ⟨lists_1, trivial, launch0.admits_env _ _ _, launch0.least_env, fairChoices_fair.cas, fairChoices_fair.clock, w_frames, w_args, w_heap, w_applies, trivial, trivial, w_case⟩
end start1
theorem witness_1 : WitnessClaimed_1 := ⟨start1.p0, start1.e0, start1.about1, start1.theMethod, start1.args0, start1.below0, start1.atStart⟩
end Jvm.Pilot.@@N@@
