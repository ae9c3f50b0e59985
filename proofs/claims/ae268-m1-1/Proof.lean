import JvmDerived
import JvmDerived.Pilot.@@N@@Statement
import JvmDerived.Pilot.@@N@@Code
set_option linter.unusedVariables false
set_option linter.unusedSimpArgs false
namespace Jvm.RoadKit
open Sem ClassFile Op Lib Jvm.Stand Jvm.Free Jvm.LawKit
section New
variable {p : Program} {l : Launch} {e : Env} {R : Room} {s : State} {m : MethodId} {args : Array Value} {below : List Frame} {meth : Method} {c : Code} {T T' : State} {locs : List Loc} {cells slots : Nat}
theorem retI (X : Stand p l e R s m args below meth c T locs cells slots) (hx : p.tables.exec = Jvm.exec) {pc : Nat} {Ls : Array Slot} {z : Int32} {rest : List Value} (hret : meth.sig.returnType = some .int) (hd : decode c.code pc = .ok (.ireturn, 1)) {fs : List Frame}
    (hl : ∀ (f : JFrame) (acts : List Action), f.method = m → f.locked = none → f.entered = [] → (doReturn e (T.setTop f) acts (some (.int z))).1 = T.setFrames fs) : Steps p.tables e below (T.setTop (mkF m pc Ls (.int z :: rest))) (T.setFrames fs) := by
  have hm' : T.vm.method? m = some meth := X.method'
  have hn : narrow .int (.int z) = .int z := rfl
  show Steps p.tables e below (T.setTop { method := m, pc := pc, locals := Ls, stack := _ :: rest, locked := none }) _
  jvm_step X.here [X.here.top, hx, hd, hm', hret, hn]
  first | (intro acts; rw [hl _ acts rfl rfl rfl]) | rw [hl _ _ rfl rfl rfl]
  exact Steps.refl _
/-- from here the run comes to its return, and Q holds of what it returns, of the heap and of what it wrote -/
def Go (p : Program) (e : Env) (below : List Frame) (s : State) (Q : Option Value → Heap → List Loc → Prop) (kc ks : Nat) (T : State) (g : JFrame) : Prop :=
  ∃ s₂ o, Steps p.tables e below (T.setTop g) s₂ ∧ s₂.status = .running ∧ Ended s₂ below o ∧ ∃ v L, o = .returned v ∧ Q v s₂.heap L ∧ FrameEnd s o s₂ L kc ks
variable {Q : Option Value → Heap → List Loc → Prop} {kc ks : Nat} {g g' : JFrame}
theorem Go.step (h : ∀ t, Steps p.tables e below (T'.setTop g') t → Steps p.tables e below (T.setTop g) t) (k : Go p e below s Q kc ks T' g') : Go p e below s Q kc ks T g := by
  obtain ⟨s₂, o, h1, r⟩ := k
  exact ⟨s₂, o, h _ h1, r⟩
theorem Go.cast (q : g = g') (k : Go p e below s Q kc ks T g') : Go p e below s Q kc ks T g := q ▸ k
theorem Go.done (X : Stand p l e R s m args below meth c T locs cells slots) (hlocks : meth.locks = false) {v : Option Value} (hv : meth.sig.returnType = none → v = none)
    (hret : ∀ fs, (∀ (f : JFrame) (acts : List Action), f.method = m → f.locked = none → f.entered = [] → (doReturn e (T.setTop f) acts v).1 = T.setFrames fs) → Steps p.tables e below (T.setTop g) (T.setFrames fs))
    {h : Heap} (eT : T.heap = h) (hQ : Q v h locs) (hc : cells ≤ kc) (hs : slots ≤ ks) : Go p e below s Q kc ks T g := by
  obtain ⟨fs, hr, hrun, hended, hW, hsame⟩ := X.leave hv hlocks
  refine ⟨_, _, hret fs hr, hrun, hended, _, _, rfl, ?_, ⟨_, rfl⟩, hW, hsame.mono hc hs⟩
  show Q v T.heap locs
  rw [eT]
  exact hQ
theorem Go.retV (X : Stand p l e R s m args below meth c T locs cells slots) (hx : p.tables.exec = Jvm.exec) (hlocks : meth.locks = false) (hr : meth.sig.returnType = none) {pc : Nat} {Ls : Array Slot} (hd : decode c.code pc = .ok (.return_, 1))
    {h : Heap} (eT : T.heap = h) (hQ : Q none h locs) (hc : cells ≤ kc) (hs : slots ≤ ks) : Go p e below s Q kc ks T (mkF m pc Ls []) :=
  Go.done X hlocks (fun _ => rfl) (fun fs k => X.returnOut hx hr hd k) eT hQ hc hs
theorem Go.retN (X : Stand p l e R s m args below meth c T locs cells slots) (hx : p.tables.exec = Jvm.exec) (hlocks : meth.locks = false) {t : FieldType} (hr : meth.sig.returnType = some t) (ht : t = .boolean ∨ t = .byte ∨ t = .char ∨ t = .short) {pc : Nat} {Ls : Array Slot} {z : Int32} {st : List Value} (hd : decode c.code pc = .ok (.ireturn, 1))
    {h : Heap} (eT : T.heap = h) (hQ : Q (some (.int (nar t z))) h locs) (hc : cells ≤ kc) (hs : slots ≤ ks) : Go p e below s Q kc ks T (mkF m pc Ls (.int z :: st)) :=
  Go.done X hlocks (fun q => by rw [hr] at q; cases q) (fun fs k => Jvm.RoadKit.retN X hx hr ht hd k) eT hQ hc hs
theorem Go.retI (X : Stand p l e R s m args below meth c T locs cells slots) (hx : p.tables.exec = Jvm.exec) (hlocks : meth.locks = false) (hr : meth.sig.returnType = some .int) {pc : Nat} {Ls : Array Slot} {z : Int32} {st : List Value} (hd : decode c.code pc = .ok (.ireturn, 1))
    {h : Heap} (eT : T.heap = h) (hQ : Q (some (.int z)) h locs) (hc : cells ≤ kc) (hs : slots ≤ ks) : Go p e below s Q kc ks T (mkF m pc Ls (.int z :: st)) :=
  Go.done X hlocks (fun q => by rw [hr] at q; cases q) (fun fs k => Jvm.RoadKit.retI X hx hr hd k) eT hQ hc hs
theorem Go.retJ (X : Stand p l e R s m args below meth c T locs cells slots) (hx : p.tables.exec = Jvm.exec) (hlocks : meth.locks = false) (hr : meth.sig.returnType = some .long) {pc : Nat} {Ls : Array Slot} {z : Int64} {st : List Value} (hd : decode c.code pc = .ok (.lreturn, 1))
    {h : Heap} (eT : T.heap = h) (hQ : Q (some (.long z)) h locs) (hc : cells ≤ kc) (hs : slots ≤ ks) : Go p e below s Q kc ks T (mkF m pc Ls (.long z :: st)) :=
  Go.done X hlocks (fun q => by rw [hr] at q; cases q) (fun fs k => retOut X hx hr rfl (Or.inr (Or.inl ⟨rfl, rfl, _, rfl⟩)) hd k) eT hQ hc hs
theorem Go.retA (X : Stand p l e R s m args below meth c T locs cells slots) (hx : p.tables.exec = Jvm.exec) (hlocks : meth.locks = false) {t : FieldType} (hr : meth.sig.returnType = some t) (ht : t.isReference = true) {w : Value} (hw : w.isRef = true) {pc : Nat} {Ls : Array Slot} {st : List Value} (hd : decode c.code pc = .ok (.areturn, 1))
    {h : Heap} (eT : T.heap = h) (hQ : Q (some w) h locs) (hc : cells ≤ kc) (hs : slots ≤ ks) : Go p e below s Q kc ks T (mkF m pc Ls (w :: st)) :=
  Go.done X hlocks (fun q => by rw [hr] at q; cases q) (fun fs k => retOut X hx hr (by cases t <;> first | (cases ht; done) | (rcases ref_cases hw with rfl | ⟨a, rfl⟩ <;> rfl)) (Or.inr (Or.inr (Or.inr (Or.inr ⟨rfl, ht, hw⟩)))) hd k) eT hQ hc hs
end New
end Jvm.RoadKit
namespace Jvm.Pilot.@@N@@
open Jvm Jvm.ClassFile Sem Op Lib Jvm.Free Jvm.Stand Jvm.LawKit Jvm.RoadKit Bundle Jvm.Pilot.@@N@@.Jvm.D
theorem own_m8 (w i : Nat) : (BitVec.ofNat w 255).getLsbD i = (decide (i < w) && decide (i < 8)) := by
  rw [BitVec.getLsbD_ofNat]
  congr 1
  exact Nat.testBit_two_pow_sub_one 8 i
theorem own_m32 (w i : Nat) : (BitVec.ofNat w 4294967295).getLsbD i = (decide (i < w) && decide (i < 32)) := by
  rw [BitVec.getLsbD_ofNat]
  congr 1
  exact Nat.testBit_two_pow_sub_one 32 i
def own_w (x : Int32) : Int32 := x.toInt8.toInt32.toInt8.toInt32
theorem own_wb (x : Int32) (i : Nat) (h : i < 8) : (own_w x).toBitVec.getLsbD i = x.toBitVec.getLsbD i := by
  show (BitVec.signExtend 32 (BitVec.signExtend 8 (BitVec.signExtend 32 (BitVec.signExtend 8 x.toBitVec)))).getLsbD i = _
  simp only [BitVec.getLsbD_signExtend, h, show i < 32 by omega, decide_true, if_true, Bool.true_and]
def own_sr (x : Int32) (k : Int32) : Int32 := (x.toUInt32 >>> (k &&& 31).toUInt32).toInt32
theorem own_u (v : Int32) :
    (((((own_w (own_sr v 24)).toInt64) &&& (255 : Int64)) <<< ((24 : Int32) &&& 0x3f).toInt64) ||| ((((own_w (own_sr v 16)) &&& (255 : Int32)) <<< ((16 : Int32) &&& 31)).toInt64) ||| ((((own_w (own_sr v 8)) &&& (255 : Int32)) <<< ((8 : Int32) &&& 31)).toInt64)) ||| (((own_w v) &&& (255 : Int32)).toInt64) = v.toInt64 &&& (4294967295 : Int64) := by
  apply Int64.toBitVec_inj.mp
  have e1 : ∀ x : Int64, (x <<< ((24 : Int32) &&& 0x3f).toInt64).toBitVec = x.toBitVec <<< 24 := fun x => by rw [Int64.toBitVec_shiftLeft]; rfl
  have e2 : ∀ x : Int32, (x <<< ((16 : Int32) &&& 31)).toBitVec = x.toBitVec <<< 16 := fun x => by rw [Int32.toBitVec_shiftLeft]; rfl
  have e3 : ∀ x : Int32, (x <<< ((8 : Int32) &&& 31)).toBitVec = x.toBitVec <<< 8 := fun x => by rw [Int32.toBitVec_shiftLeft]; rfl
  have f1 : (own_sr v 24).toBitVec = v.toBitVec >>> 24 := by show (v.toUInt32 >>> _).toBitVec = _; rw [UInt32.toBitVec_shiftRight]; rfl
  have f2 : (own_sr v 16).toBitVec = v.toBitVec >>> 16 := by show (v.toUInt32 >>> _).toBitVec = _; rw [UInt32.toBitVec_shiftRight]; rfl
  have f3 : (own_sr v 8).toBitVec = v.toBitVec >>> 8 := by show (v.toUInt32 >>> _).toBitVec = _; rw [UInt32.toBitVec_shiftRight]; rfl
  have k8 : (255 : Int32).toBitVec = BitVec.ofNat 32 255 := rfl
  have k8' : (255 : Int64).toBitVec = BitVec.ofNat 64 255 := rfl
  have k32 : (4294967295 : Int64).toBitVec = BitVec.ofNat 64 4294967295 := rfl
  simp only [Int64.toBitVec_or, Int64.toBitVec_and, Int32.toBitVec_toInt64, Int32.toBitVec_and, e1, e2, e3, k8, k8', k32]
  apply BitVec.eq_of_getLsbD_eq
  intro i hi
  have g0 := fun (h : i < 8) => own_wb v i h
  have g1 := fun (h : i - 8 < 8) => (own_wb (own_sr v 8) (i - 8) h).trans (by rw [f3, BitVec.getLsbD_ushiftRight])
  have g2 := fun (h : i - 16 < 8) => (own_wb (own_sr v 16) (i - 16) h).trans (by rw [f2, BitVec.getLsbD_ushiftRight])
  have g3 := fun (h : i - 24 < 8) => (own_wb (own_sr v 24) (i - 24) h).trans (by rw [f1, BitVec.getLsbD_ushiftRight])
  simp only [BitVec.getLsbD_or, BitVec.getLsbD_and, BitVec.getLsbD_shiftLeft, BitVec.getLsbD_signExtend, own_m8, own_m32, BitVec.msb_and, BitVec.msb_shiftLeft]
  generalize own_w v = w0 at *
  generalize own_w (own_sr v 8) = w1 at *
  generalize own_w (own_sr v 16) = w2 at *
  generalize own_w (own_sr v 24) = w3 at *
  by_cases h0 : i < 8
  · simpa [h0, hi, show i < 16 by omega, show i < 24 by omega, show i < 32 by omega] using g0 h0
  · by_cases h1 : i < 16
    · have : 8 + (i - 8) = i := by omega
      have q := g1 (by omega)
      rw [this] at q
      simpa [h0, h1, hi, show i < 24 by omega, show i < 32 by omega, show i - 8 < 8 by omega, show i - 8 < 32 by omega] using q
    · by_cases h2 : i < 24
      · have : 16 + (i - 16) = i := by omega
        have q := g2 (by omega)
        rw [this] at q
        simpa [h0, h1, h2, hi, show i < 32 by omega, show i - 16 < 8 by omega, show ¬ (i - 8 < 8) by omega, show i - 16 < 32 by omega] using q
      · by_cases h3 : i < 32
        · have : 24 + (i - 24) = i := by omega
          have q := g3 (by omega)
          rw [this] at q
          simpa [h0, h1, h2, h3, hi, show i - 24 < 8 by omega, show ¬ (i - 8 < 8) by omega, show ¬ (i - 16 < 8) by omega, show i - 24 < 32 by omega, show i - 24 < 64 by omega] using q
        · have km : (BitVec.ofNat 32 255).msb = false := rfl
          simp [h0, h1, h2, h3, hi, km, show ¬ (i - 24 < 8) by omega]

def own_ui (w0 w1 w2 w3 : Int32) : Int64 := ((((((w0.toInt64) &&& (255 : Int64)) <<< ((24 : Int32) &&& 0x3f).toInt64) ||| (((w1 &&& (255 : Int32)) <<< ((16 : Int32) &&& 31)).toInt64)) ||| (((w2 &&& (255 : Int32)) <<< ((8 : Int32) &&& 31)).toInt64)) ||| ((w3 &&& (255 : Int32)).toInt64))
theorem own_mod5 (x : Int32) : (x &&& (2147483647 : Int32)) % (5 : Int32) = (0 : Int32) ∨ (x &&& (2147483647 : Int32)) % (5 : Int32) = (1 : Int32) ∨ (x &&& (2147483647 : Int32)) % (5 : Int32) = (2 : Int32) ∨ (x &&& (2147483647 : Int32)) % (5 : Int32) = (3 : Int32) ∨ (x &&& (2147483647 : Int32)) % (5 : Int32) = (4 : Int32) := by
  have h := c_and x (2147483647 : Int32) (by decide)
  have r := (c_irem (x &&& (2147483647 : Int32)) (5 : Int32) 5 rfl).1 h.1
  simp only [← Int32.toInt_inj]
  rw [r]
  show _ = 0 ∨ _ = 1 ∨ _ = 2 ∨ _ = 3 ∨ _ = 4
  omega
theorem own_lo (v : Int32) : ¬ (lcmpW (v.toInt64 &&& (4294967295 : Int64)) (0 : Int64)) < (0 : Int32) := by
  rw [lw_lt, Int64.lt_iff_toInt_lt, c_maskL v.toInt64 4294967295 32 (by decide) (by decide)]
  show ¬ _ < (0 : Int)
  omega
theorem own_hi (v : Int32) : ¬ (0 : Int32) < (lcmpW (v.toInt64 &&& (4294967295 : Int64)) (4294967295 : Int64)) := by
  rw [lw_gt, Int64.lt_iff_toInt_lt, c_maskL v.toInt64 4294967295 32 (by decide) (by decide)]
  show ¬ (4294967295 : Int) < _
  omega
theorem d0_0 : decode prog_54_method_29_code 0 = .ok (.aload_n 0, 1) := by decide +kernel
theorem d0_1 : decode prog_54_method_29_code 1 = .ok (.iload_n 1, 1) := by decide +kernel
theorem d0_2 : decode prog_54_method_29_code 2 = .ok (.baload, 1) := by decide +kernel
theorem d0_3 : decode prog_54_method_29_code 3 = .ok (.i2l, 1) := by decide +kernel
theorem d0_4 : decode prog_54_method_29_code 4 = .ok (.ldc2_w 217, 3) := by decide +kernel
theorem d0_7 : decode prog_54_method_29_code 7 = .ok (.land, 1) := by decide +kernel
theorem d0_8 : decode prog_54_method_29_code 8 = .ok (.bipush 24, 2) := by decide +kernel
theorem d0_10 : decode prog_54_method_29_code 10 = .ok (.lshl, 1) := by decide +kernel
theorem d0_11 : decode prog_54_method_29_code 11 = .ok (.aload_n 0, 1) := by decide +kernel
theorem d0_12 : decode prog_54_method_29_code 12 = .ok (.iload_n 1, 1) := by decide +kernel
theorem d0_13 : decode prog_54_method_29_code 13 = .ok (.iconst 1, 1) := by decide +kernel
theorem d0_14 : decode prog_54_method_29_code 14 = .ok (.iadd, 1) := by decide +kernel
theorem d0_15 : decode prog_54_method_29_code 15 = .ok (.baload, 1) := by decide +kernel
theorem d0_16 : decode prog_54_method_29_code 16 = .ok (.sipush 255, 3) := by decide +kernel
theorem d0_19 : decode prog_54_method_29_code 19 = .ok (.iand, 1) := by decide +kernel
theorem d0_20 : decode prog_54_method_29_code 20 = .ok (.bipush 16, 2) := by decide +kernel
theorem d0_22 : decode prog_54_method_29_code 22 = .ok (.ishl, 1) := by decide +kernel
theorem d0_23 : decode prog_54_method_29_code 23 = .ok (.i2l, 1) := by decide +kernel
theorem d0_24 : decode prog_54_method_29_code 24 = .ok (.lor, 1) := by decide +kernel
theorem d0_25 : decode prog_54_method_29_code 25 = .ok (.aload_n 0, 1) := by decide +kernel
theorem d0_26 : decode prog_54_method_29_code 26 = .ok (.iload_n 1, 1) := by decide +kernel
theorem d0_27 : decode prog_54_method_29_code 27 = .ok (.iconst 2, 1) := by decide +kernel
theorem d0_28 : decode prog_54_method_29_code 28 = .ok (.iadd, 1) := by decide +kernel
theorem d0_29 : decode prog_54_method_29_code 29 = .ok (.baload, 1) := by decide +kernel
theorem d0_30 : decode prog_54_method_29_code 30 = .ok (.sipush 255, 3) := by decide +kernel
theorem d0_33 : decode prog_54_method_29_code 33 = .ok (.iand, 1) := by decide +kernel
theorem d0_34 : decode prog_54_method_29_code 34 = .ok (.bipush 8, 2) := by decide +kernel
theorem d0_36 : decode prog_54_method_29_code 36 = .ok (.ishl, 1) := by decide +kernel
theorem d0_37 : decode prog_54_method_29_code 37 = .ok (.i2l, 1) := by decide +kernel
theorem d0_38 : decode prog_54_method_29_code 38 = .ok (.lor, 1) := by decide +kernel
theorem d0_39 : decode prog_54_method_29_code 39 = .ok (.aload_n 0, 1) := by decide +kernel
theorem d0_40 : decode prog_54_method_29_code 40 = .ok (.iload_n 1, 1) := by decide +kernel
theorem d0_41 : decode prog_54_method_29_code 41 = .ok (.iconst 3, 1) := by decide +kernel
theorem d0_42 : decode prog_54_method_29_code 42 = .ok (.iadd, 1) := by decide +kernel
theorem d0_43 : decode prog_54_method_29_code 43 = .ok (.baload, 1) := by decide +kernel
theorem d0_44 : decode prog_54_method_29_code 44 = .ok (.sipush 255, 3) := by decide +kernel
theorem d0_47 : decode prog_54_method_29_code 47 = .ok (.iand, 1) := by decide +kernel
theorem d0_48 : decode prog_54_method_29_code 48 = .ok (.i2l, 1) := by decide +kernel
theorem d0_49 : decode prog_54_method_29_code 49 = .ok (.lor, 1) := by decide +kernel
theorem d0_50 : decode prog_54_method_29_code 50 = .ok (.lreturn, 1) := by decide +kernel
theorem tw0 {Z : State} {a0 : Array Value} (hw : ∀ d ∈ tables_1, d.before a0 Z = true) : (Jvm.Cond.arrayClass Jvm.ClassFile.FieldType.byte).before a0 Z = true := hw _ (List.mem_of_getElem? (i := 0) rfl)
theorem tw1 {Z : State} {a0 : Array Value} (hw : ∀ d ∈ tables_1, d.before a0 Z = true) : (Jvm.Cond.constant "com/example/shellwire/shellwire/wire/NativeFramesUnsignedIntPinLaw" (7 : Nat) (2147483647 : Int32)).before a0 Z = true := hw _ (List.mem_of_getElem? (i := 1) rfl)
theorem tw2 {Z : State} {a0 : Array Value} (hw : ∀ d ∈ tables_1, d.before a0 Z = true) : (Jvm.Cond.constantLong "com/example/shellwire/shellwire/wire/NativeFramesUnsignedIntPinLaw" (8 : Nat) (4294967295 : Int64)).before a0 Z = true := hw _ (List.mem_of_getElem? (i := 2) rfl)
theorem tw3 {Z : State} {a0 : Array Value} (hw : ∀ d ∈ tables_1, d.before a0 Z = true) : (Jvm.Cond.methodLink "com/example/shellwire/shellwire/wire/NativeFramesUnsignedIntPinLaw" (10 : Nat) ({ cls := "com/example/shellwire/shellwire/wire/NativeFrames", name := "unsignedInt", desc := "([BI)J" } : Jvm.MethodName)).before a0 Z = true := hw _ (List.mem_of_getElem? (i := 3) rfl)
theorem tw4 {Z : State} {a0 : Array Value} (hw : ∀ d ∈ tables_1, d.before a0 Z = true) : (Jvm.Cond.static ({ cls := "com/example/shellwire/shellwire/wire/NativeFrames", name := "unsignedInt", desc := "([BI)J" } : Jvm.MethodName)).before a0 Z = true := hw _ (List.mem_of_getElem? (i := 4) rfl)
theorem tw5 {Z : State} {a0 : Array Value} (hw : ∀ d ∈ tables_1, d.before a0 Z = true) : (Jvm.Cond.initialized "com/example/shellwire/shellwire/wire/NativeFrames").before a0 Z = true := hw _ (List.mem_of_getElem? (i := 5) rfl)
theorem tw6 {Z : State} {a0 : Array Value} (hw : ∀ d ∈ tables_1, d.before a0 Z = true) : (Jvm.Cond.code ({ cls := "com/example/shellwire/shellwire/wire/NativeFrames", name := "unsignedInt", desc := "([BI)J" } : Jvm.MethodName) prog_54_method_29_code (2 : Nat) (Option.some Jvm.ClassFile.FieldType.long)).before a0 Z = true := hw _ (List.mem_of_getElem? (i := 6) rfl)
theorem tw7 {Z : State} {a0 : Array Value} (hw : ∀ d ∈ tables_1, d.before a0 Z = true) : (Jvm.Cond.constantLong "com/example/shellwire/shellwire/wire/NativeFrames" (217 : Nat) (255 : Int64)).before a0 Z = true := hw _ (List.mem_of_getElem? (i := 7) rfl)
theorem pd_0 : parseMethodDescriptor "([BI)J" = some ⟨[(.array .byte), .int], some .long⟩ := by decide +kernel
theorem pn_0 : plainName "com/example/shellwire/shellwire/wire/NativeFrames" = true := by first | (simp [plainName, overriddenIn]; done) | decide +kernel
theorem pn_1 : plainName "com/example/shellwire/shellwire/wire/NativeFramesUnsignedIntPinLaw" = true := by first | (simp [plainName, overriddenIn]; done) | decide +kernel
abbrev xs0 : String := "com/example/shellwire/shellwire/wire/NativeFrames"
abbrev xm0 : MethodName := (⟨xs0, "unsignedInt", "([BI)J"⟩ : MethodName)
abbrev xr0 : Room := ({ frames := 0, cells := 0, slots := 0, locals := 0 } : Room)
theorem ef_ui (m : MethodId) (x0 : Addr) (x1 : Int32) : entryFrame m #[(.ref x0), (.int x1)] 2 = mkF m 0 #[.val (.ref x0), .val (.int x1)] [] := by first | (simp [entryFrame, mkF, argsToLocals, Value.category]; done) | rfl
def Q_ui (Z : State) (a1 : Addr) (p2 : Int32) (kk : ClassId) (zz : Int32) (vs : List Value) (dv : Value) (w0 : Int32) (w1 : Int32) (w2 : Int32) (w3 : Int32) (h0 : Heap) (n0 : Nat) (v : Option Value) (h : Heap) (L : List Loc) : Prop := v = some (.long (own_ui w0 w1 w2 w3)) ∧ Fr n0 L ∧ h = h0
set_option maxRecDepth 65536 in
set_option maxHeartbeats 40000000 in
theorem rm_ui (l : Launch) (Z : State) (a0 : Array Value) (hw : ∀ d ∈ tables_1, d.before a0 Z = true) (ws : List Jvm.Cond) (a1 : Addr) (p2 : Int32) (kk : ClassId) (zz : Int32) (vs : List Value) (dv : Value) (w0 : Int32) (w1 : Int32) (w2 : Int32) (w3 : Int32) (h0 : Heap) (n0 : Nat) (Z0 : n0 ≤ h0.size) (V_a1 : Arv Z h0 a1 kk .byte zz vs dv) (in0 : ¬ p2 < 0 ∧ p2 < zz) (at0 : vs.getD (p2).toNatClampNeg dv = .int w0) (in1 : ¬ (p2 + (1 : Int32)) < 0 ∧ (p2 + (1 : Int32)) < zz) (at1 : vs.getD ((p2 + (1 : Int32))).toNatClampNeg dv = .int w1) (in2 : ¬ (p2 + (2 : Int32)) < 0 ∧ (p2 + (2 : Int32)) < zz) (at2 : vs.getD ((p2 + (2 : Int32))).toNatClampNeg dv = .int w2) (in3 : ¬ (p2 + (3 : Int32)) < 0 ∧ (p2 + (3 : Int32)) < zz) (at3 : vs.getD ((p2 + (3 : Int32))).toNatClampNeg dv = .int w3) :
    MetFree l xm0 (head1 (Jvm.Cond.code xm0 prog_54_method_29_code 2 (some .long) :: ws) xr0) (fun a U => a = #[(.ref a1), (.int p2)] ∧ Z.Warmed39 U.vm ∧ U.heap = h0) (fun _ _ _ _ _ => True) (fun _ U o U' => ∃ v L, o = .returned v ∧ Q_ui Z a1 p2 kk zz vs dv w0 w1 w2 w3 h0 n0 v U'.heap L ∧ FrameEnd U o U' L xr0.cells xr0.slots) := by
  refine MetFree.of_bodySF (plainFor_of_name pn_0) hisR ?_
  intro p e s m args below meth c s₁ Bd hml0 hP hK
  obtain ⟨rfl, hZ, hh⟩ := hP
  have hx := Bd.exec
  have hby := Bd.bytes
  have hlk : meth.locks = false := BodyLoose.notSynchronized Bd
  have hml : c.maxLocals = 2 := hml0
  have hown : s.vm.findClass xs0 = some m.cls := findClass_of_methodNamed Bd.named
  have hnm := (name_of_methodNamed Bd.named Bd.method).1
  have X0 : Stand p l e xr0 s m #[(.ref a1), (.int p2)] below meth c s₁ [] 0 0 := Stand.of_body Bd
  have e0 : s₁.heap = h0 := by rw [← hh, Bd.state]; rfl
  have N0 := Fr.nil n0
  show Go p e below s (Q_ui Z a1 p2 kk zz vs dv w0 w1 w2 w3 h0 n0) xr0.cells xr0.slots s₁ (entryFrame m #[(.ref a1), (.int p2)] 2)
  refine Go.cast (ef_ui m a1 p2) ?_
  show Go p e below s _ _ _ s₁ (mkF m 0 #[.val (.ref a1), .val (.int p2)] [])
  refine Go.step (fun _ k => XS.aloadN X0.here hx rfl (hb hby d0_0) rfl rfl (XS.iloadN X0.here hx rfl (hb hby d0_1) rfl k)) ?_
  show Go p e below s _ _ _ s₁ (mkF m 2 #[.val (.ref a1), .val (.int p2)] [(.int p2), (.ref a1)])
  obtain ⟨cl11, Ar11, -, Sz11, Ng11, Hs11, Ft11⟩ := id V_a1
  have in11 : ¬ (p2 < 0 ∨ cl11.slots.size ≤ (p2).toNatClampNeg) := inb_of Sz11 in0
  have at11 : cl11.slots[(p2).toNatClampNeg]? = some (.int w0) := Hs11.at in11 at0
  refine Go.step (fun _ k => X0.baloadBytes hx (j := p2) (v := (.int w0)) (by rw [e0]; exact Ar11.1) (State.isArrayOf_alike hZ.alike Ar11.2.1) Ar11.2.2 in11 at11 (g := (mkF m 2 #[.val (.ref a1), .val (.int p2)] [(.int p2), (.ref a1)])) rfl rfl (hb hby d0_2) _ (XS.i2l X0.here hx rfl (hb hby d0_3) rfl (X0.ldc2Long hx hown (mvT hZ (tw7 hw)) (g := (mkF m 4 #[.val (.ref a1), .val (.int p2)] [(.long (w0.toInt64))])) rfl (hb hby d0_4) _ (XS.land X0.here hx rfl (hb hby d0_7) rfl (XS.bipush X0.here hx rfl (hb hby d0_8) (XS.lshl X0.here hx rfl (hb hby d0_10) rfl (XS.aloadN X0.here hx rfl (hb hby d0_11) rfl rfl (XS.iloadN X0.here hx rfl (hb hby d0_12) rfl (XS.iconst X0.here hx rfl (hb hby d0_13) (XS.iadd X0.here hx rfl (hb hby d0_14) rfl k)))))))))) ?_
  show Go p e below s _ _ _ s₁ (mkF m 15 #[.val (.ref a1), .val (.int p2)] [(.int (p2 + (1 : Int32))), (.ref a1), (.long (((w0.toInt64) &&& (255 : Int64)) <<< ((24 : Int32) &&& 0x3f).toInt64))])
  obtain ⟨cl12, Ar12, -, Sz12, Ng12, Hs12, Ft12⟩ := id V_a1
  have in12 : ¬ ((p2 + (1 : Int32)) < 0 ∨ cl12.slots.size ≤ ((p2 + (1 : Int32))).toNatClampNeg) := inb_of Sz12 in1
  have at12 : cl12.slots[((p2 + (1 : Int32))).toNatClampNeg]? = some (.int w1) := Hs12.at in12 at1
  refine Go.step (fun _ k => X0.baloadBytes hx (j := (p2 + (1 : Int32))) (v := (.int w1)) (by rw [e0]; exact Ar12.1) (State.isArrayOf_alike hZ.alike Ar12.2.1) Ar12.2.2 in12 at12 (g := (mkF m 15 #[.val (.ref a1), .val (.int p2)] [(.int (p2 + (1 : Int32))), (.ref a1), (.long (((w0.toInt64) &&& (255 : Int64)) <<< ((24 : Int32) &&& 0x3f).toInt64))])) rfl rfl (hb hby d0_15) _ (XS.sipush X0.here hx rfl (hb hby d0_16) (XS.iand X0.here hx rfl (hb hby d0_19) rfl (XS.bipush X0.here hx rfl (hb hby d0_20) (XS.ishl X0.here hx rfl (hb hby d0_22) rfl (XS.i2l X0.here hx rfl (hb hby d0_23) rfl (XS.lor X0.here hx rfl (hb hby d0_24) rfl (XS.aloadN X0.here hx rfl (hb hby d0_25) rfl rfl (XS.iloadN X0.here hx rfl (hb hby d0_26) rfl (XS.iconst X0.here hx rfl (hb hby d0_27) k)))))))))) ?_
  show Go p e below s _ _ _ s₁ (mkF m 28 #[.val (.ref a1), .val (.int p2)] [(.int (2 : Int32)), (.int p2), (.ref a1), (.long ((((w0.toInt64) &&& (255 : Int64)) <<< ((24 : Int32) &&& 0x3f).toInt64) ||| (((w1 &&& (255 : Int32)) <<< ((16 : Int32) &&& 31)).toInt64)))])
  refine Go.step (fun _ k => XS.iadd X0.here hx rfl (hb hby d0_28) rfl k) ?_
  show Go p e below s _ _ _ s₁ (mkF m 29 #[.val (.ref a1), .val (.int p2)] [(.int (p2 + (2 : Int32))), (.ref a1), (.long ((((w0.toInt64) &&& (255 : Int64)) <<< ((24 : Int32) &&& 0x3f).toInt64) ||| (((w1 &&& (255 : Int32)) <<< ((16 : Int32) &&& 31)).toInt64)))])
  obtain ⟨cl13, Ar13, -, Sz13, Ng13, Hs13, Ft13⟩ := id V_a1
  have in13 : ¬ ((p2 + (2 : Int32)) < 0 ∨ cl13.slots.size ≤ ((p2 + (2 : Int32))).toNatClampNeg) := inb_of Sz13 in2
  have at13 : cl13.slots[((p2 + (2 : Int32))).toNatClampNeg]? = some (.int w2) := Hs13.at in13 at2
  refine Go.step (fun _ k => X0.baloadBytes hx (j := (p2 + (2 : Int32))) (v := (.int w2)) (by rw [e0]; exact Ar13.1) (State.isArrayOf_alike hZ.alike Ar13.2.1) Ar13.2.2 in13 at13 (g := (mkF m 29 #[.val (.ref a1), .val (.int p2)] [(.int (p2 + (2 : Int32))), (.ref a1), (.long ((((w0.toInt64) &&& (255 : Int64)) <<< ((24 : Int32) &&& 0x3f).toInt64) ||| (((w1 &&& (255 : Int32)) <<< ((16 : Int32) &&& 31)).toInt64)))])) rfl rfl (hb hby d0_29) _ (XS.sipush X0.here hx rfl (hb hby d0_30) (XS.iand X0.here hx rfl (hb hby d0_33) rfl (XS.bipush X0.here hx rfl (hb hby d0_34) (XS.ishl X0.here hx rfl (hb hby d0_36) rfl (XS.i2l X0.here hx rfl (hb hby d0_37) rfl (XS.lor X0.here hx rfl (hb hby d0_38) rfl (XS.aloadN X0.here hx rfl (hb hby d0_39) rfl rfl (XS.iloadN X0.here hx rfl (hb hby d0_40) rfl (XS.iconst X0.here hx rfl (hb hby d0_41) k)))))))))) ?_
  show Go p e below s _ _ _ s₁ (mkF m 42 #[.val (.ref a1), .val (.int p2)] [(.int (3 : Int32)), (.int p2), (.ref a1), (.long (((((w0.toInt64) &&& (255 : Int64)) <<< ((24 : Int32) &&& 0x3f).toInt64) ||| (((w1 &&& (255 : Int32)) <<< ((16 : Int32) &&& 31)).toInt64)) ||| (((w2 &&& (255 : Int32)) <<< ((8 : Int32) &&& 31)).toInt64)))])
  refine Go.step (fun _ k => XS.iadd X0.here hx rfl (hb hby d0_42) rfl k) ?_
  show Go p e below s _ _ _ s₁ (mkF m 43 #[.val (.ref a1), .val (.int p2)] [(.int (p2 + (3 : Int32))), (.ref a1), (.long (((((w0.toInt64) &&& (255 : Int64)) <<< ((24 : Int32) &&& 0x3f).toInt64) ||| (((w1 &&& (255 : Int32)) <<< ((16 : Int32) &&& 31)).toInt64)) ||| (((w2 &&& (255 : Int32)) <<< ((8 : Int32) &&& 31)).toInt64)))])
  obtain ⟨cl14, Ar14, -, Sz14, Ng14, Hs14, Ft14⟩ := id V_a1
  have in14 : ¬ ((p2 + (3 : Int32)) < 0 ∨ cl14.slots.size ≤ ((p2 + (3 : Int32))).toNatClampNeg) := inb_of Sz14 in3
  have at14 : cl14.slots[((p2 + (3 : Int32))).toNatClampNeg]? = some (.int w3) := Hs14.at in14 at3
  refine Go.step (fun _ k => X0.baloadBytes hx (j := (p2 + (3 : Int32))) (v := (.int w3)) (by rw [e0]; exact Ar14.1) (State.isArrayOf_alike hZ.alike Ar14.2.1) Ar14.2.2 in14 at14 (g := (mkF m 43 #[.val (.ref a1), .val (.int p2)] [(.int (p2 + (3 : Int32))), (.ref a1), (.long (((((w0.toInt64) &&& (255 : Int64)) <<< ((24 : Int32) &&& 0x3f).toInt64) ||| (((w1 &&& (255 : Int32)) <<< ((16 : Int32) &&& 31)).toInt64)) ||| (((w2 &&& (255 : Int32)) <<< ((8 : Int32) &&& 31)).toInt64)))])) rfl rfl (hb hby d0_43) _ (XS.sipush X0.here hx rfl (hb hby d0_44) (XS.iand X0.here hx rfl (hb hby d0_47) rfl (XS.i2l X0.here hx rfl (hb hby d0_48) rfl (XS.lor X0.here hx rfl (hb hby d0_49) rfl k))))) ?_
  show Go p e below s _ _ _ s₁ (mkF m 50 #[.val (.ref a1), .val (.int p2)] [(.long ((((((w0.toInt64) &&& (255 : Int64)) <<< ((24 : Int32) &&& 0x3f).toInt64) ||| (((w1 &&& (255 : Int32)) <<< ((16 : Int32) &&& 31)).toInt64)) ||| (((w2 &&& (255 : Int32)) <<< ((8 : Int32) &&& 31)).toInt64)) ||| ((w3 &&& (255 : Int32)).toInt64)))])
  exact Go.retJ X0 hx hlk Bd.returns (hb hby d0_50) e0 ⟨rfl, N0, rfl⟩ (by decide) (by decide)

theorem ef_law (m : MethodId) (x0 : Int32) (x1 : Int32) (x2 : Int64) : entryFrame m #[(.int x0), (.int x1), (.long x2)] maxLocals = mkF m 0 #[.val (.int x0), .val (.int x1), .val (.long x2), .second, .unset, .unset, .unset, .unset, .unset, .unset] [] := by first | (simp [entryFrame, mkF, argsToLocals, Value.category, maxLocals]; done) | rfl
def Q_law (Z : State) (p1 : Int32) (p2 : Int32) (q3 : Int64) (h0 : Heap) (n0 : Nat) (v : Option Value) (h : Heap) (L : List Loc) : Prop := v = some (.int (1 : Int32)) ∧ Fr n0 L
set_option maxRecDepth 65536 in
set_option maxHeartbeats 40000000 in
theorem rm_law (l : Launch) (Z : State) (a0 : Array Value) (hw : ∀ d ∈ tables_1, d.before a0 Z = true) (ws : List Jvm.Cond) (p1 : Int32) (p2 : Int32) (q3 : Int64) (h0 : Heap) (n0 : Nat) (Z0 : n0 ≤ h0.size) :
    MetFree l x (head1 (Jvm.Cond.code x code maxLocals ret :: ws) room_1) (fun a U => a = #[(.int p1), (.int p2), (.long q3)] ∧ Z.Warmed39 U.vm ∧ U.heap = h0) (fun _ _ _ _ _ => True) (fun _ U o U' => ∃ v L, o = .returned v ∧ Q_law Z p1 p2 q3 h0 n0 v U'.heap L ∧ FrameEnd U o U' L room_1.cells room_1.slots) := by
  refine MetFree.of_bodySF (plainFor_of_name pn_1) hisR ?_
  intro p e s m args below meth c s₁ Bd hml0 hP hK
  obtain ⟨rfl, hZ, hh⟩ := hP
  have hx := Bd.exec
  have hby := Bd.bytes
  have hlk : meth.locks = false := BodyLoose.notSynchronized Bd
  have hml : c.maxLocals = 10 := hml0
  have hown : s.vm.findClass "com/example/shellwire/shellwire/wire/NativeFramesUnsignedIntPinLaw" = some m.cls := findClass_of_methodNamed Bd.named
  have hnm := (name_of_methodNamed Bd.named Bd.method).1
  have X0 : Stand p l e room_1 s m #[(.int p1), (.int p2), (.long q3)] below meth c s₁ [] 0 0 := Stand.of_body Bd
  have e0 : s₁.heap = h0 := by rw [← hh, Bd.state]; rfl
  have N0 := Fr.nil n0
  show Go p e below s (Q_law Z p1 p2 q3 h0 n0) room_1.cells room_1.slots s₁ (entryFrame m #[(.int p1), (.int p2), (.long q3)] maxLocals)
  refine Go.cast (ef_law m p1 p2 q3) ?_
  show Go p e below s _ _ _ s₁ (mkF m 0 #[.val (.int p1), .val (.int p2), .val (.long q3), .second, .unset, .unset, .unset, .unset, .unset, .unset] [])
  refine Go.step (fun _ k => XS.bipush X0.here hx rfl (hb hby at_0) k) ?_
  show Go p e below s _ _ _ s₁ (mkF m 2 #[.val (.int p1), .val (.int p2), .val (.long q3), .second, .unset, .unset, .unset, .unset, .unset, .unset] [(.int (8 : Int32))])
  obtain ⟨T1, h1, k1, X1, e1, E1, A1, st1⟩ := newP (aty := .byte) X0 hx hZ (tw0 hw) e0 (g := (mkF m 2 #[.val (.int p1), .val (.int p2), .val (.long q3), .second, .unset, .unset, .unset, .unset, .unset, .unset] [(.int (8 : Int32))])) rfl (hb hby at_2) rfl (by decide) (cap := 8) (by decide) (by decide) (by decide) (by decide)
  obtain ⟨b1, g1⟩ : ∃ z, z = h0.size := ⟨_, rfl⟩
  rw [← g1] at A1 st1
  have f2 : Arv Z h1 b1 k1 .byte (8 : Int32) [(.int (0 : Int32)), (.int (0 : Int32)), (.int (0 : Int32)), (.int (0 : Int32)), (.int (0 : Int32)), (.int (0 : Int32)), (.int (0 : Int32)), (.int (0 : Int32))] (.int (0 : Int32)) := (Arv.new A1 (by decide)).pad (pad_rep [] (.int (0 : Int32)) 8)
  refine Go.step (fun _ k => st1 _ (XS.astore X1.here hx rfl (hb hby at_4) rfl rfl (l' := #[.val (.int p1), .val (.int p2), .val (.long q3), .second, .val (.ref b1), .unset, .unset, .unset, .unset, .unset]) rfl (XS.aload X1.here hx rfl (hb hby at_6) rfl rfl (XS.iconst X1.here hx rfl (hb hby at_8) (XS.lloadN X1.here hx rfl (hb hby at_9) rfl (XS.l2i X1.here hx rfl (hb hby at_10) rfl (XS.i2b X1.here hx rfl (hb hby at_11) rfl k))))))) ?_
  show Go p e below s _ _ _ T1 (mkF m 12 #[.val (.int p1), .val (.int p2), .val (.long q3), .second, .val (.ref b1), .unset, .unset, .unset, .unset, .unset] [(.int ((q3.toInt32).toInt8.toInt32)), (.int (0 : Int32)), (.ref b1)])
  obtain ⟨cl3, Ar3, qq3, Sz3, Ng3, Hs3, Ft3⟩ := id f2
  have in3 : ¬ ((0 : Int32) < 0 ∨ cl3.slots.size ≤ ((0 : Int32)).toNatClampNeg) := (inb_of Sz3 ⟨by decide, by decide⟩)
  obtain ⟨T3, h3, X3, e3, W3, st3⟩ := stB X1 hx hZ e1 Ar3 (j := (0 : Int32)) in3 (g := (mkF m 12 #[.val (.int p1), .val (.int p2), .val (.long q3), .second, .val (.ref b1), .unset, .unset, .unset, .unset, .unset] [(.int ((q3.toInt32).toInt8.toInt32)), (.int (0 : Int32)), (.ref b1)])) rfl rfl (hb hby at_12)
  have g4 := Nat.le_trans Z0 (Nat.le_of_eq g1.symm)
  have f5 : Arv Z h3 b1 k1 .byte (8 : Int32) [(.int (nar .byte ((q3.toInt32).toInt8.toInt32))), (.int (0 : Int32)), (.int (0 : Int32)), (.int (0 : Int32)), (.int (0 : Int32)), (.int (0 : Int32)), (.int (0 : Int32)), (.int (0 : Int32))] (.int (0 : Int32)) := Arv.set Ar3 qq3 Sz3 Ng3 Hs3 Ft3 (fits_nar_byte _) W3 0 rfl (Nat.le_of_ble_eq_true rfl)
  have N6 := Fr.snoc X3 N0 g4
  refine Go.step (fun _ k => st3 _ (XS.aload X3.here hx rfl (hb hby at_13) rfl rfl (XS.iconst X3.here hx rfl (hb hby at_15) (XS.lloadN X3.here hx rfl (hb hby at_16) rfl (XS.bipush X3.here hx rfl (hb hby at_17) (XS.lushr X3.here hx rfl (hb hby at_19) rfl (XS.l2i X3.here hx rfl (hb hby at_20) rfl (XS.i2b X3.here hx rfl (hb hby at_21) rfl k)))))))) ?_
  show Go p e below s _ _ _ T3 (mkF m 22 #[.val (.int p1), .val (.int p2), .val (.long q3), .second, .val (.ref b1), .unset, .unset, .unset, .unset, .unset] [(.int ((((q3.toUInt64 >>> ((8 : Int32) &&& 0x3f).toInt64.toUInt64).toInt64).toInt32).toInt8.toInt32)), (.int (1 : Int32)), (.ref b1)])
  obtain ⟨cl7, Ar7, qq7, Sz7, Ng7, Hs7, Ft7⟩ := id f5
  have in7 : ¬ ((1 : Int32) < 0 ∨ cl7.slots.size ≤ ((1 : Int32)).toNatClampNeg) := (inb_of Sz7 ⟨by decide, by decide⟩)
  obtain ⟨T7, h7, X7, e7, W7, st7⟩ := stB X3 hx hZ e3 Ar7 (j := (1 : Int32)) in7 (g := (mkF m 22 #[.val (.int p1), .val (.int p2), .val (.long q3), .second, .val (.ref b1), .unset, .unset, .unset, .unset, .unset] [(.int ((((q3.toUInt64 >>> ((8 : Int32) &&& 0x3f).toInt64.toUInt64).toInt64).toInt32).toInt8.toInt32)), (.int (1 : Int32)), (.ref b1)])) rfl rfl (hb hby at_22)
  have f8 : Arv Z h7 b1 k1 .byte (8 : Int32) [(.int (nar .byte ((q3.toInt32).toInt8.toInt32))), (.int (nar .byte ((((q3.toUInt64 >>> ((8 : Int32) &&& 0x3f).toInt64.toUInt64).toInt64).toInt32).toInt8.toInt32))), (.int (0 : Int32)), (.int (0 : Int32)), (.int (0 : Int32)), (.int (0 : Int32)), (.int (0 : Int32)), (.int (0 : Int32))] (.int (0 : Int32)) := Arv.set Ar7 qq7 Sz7 Ng7 Hs7 Ft7 (fits_nar_byte _) W7 1 rfl (Nat.le_of_ble_eq_true rfl)
  have N9 := Fr.snoc X7 N6 g4
  refine Go.step (fun _ k => st7 _ (XS.aload X7.here hx rfl (hb hby at_23) rfl rfl (XS.iconst X7.here hx rfl (hb hby at_25) (XS.lloadN X7.here hx rfl (hb hby at_26) rfl (XS.bipush X7.here hx rfl (hb hby at_27) (XS.lushr X7.here hx rfl (hb hby at_29) rfl (XS.l2i X7.here hx rfl (hb hby at_30) rfl (XS.i2b X7.here hx rfl (hb hby at_31) rfl k)))))))) ?_
  show Go p e below s _ _ _ T7 (mkF m 32 #[.val (.int p1), .val (.int p2), .val (.long q3), .second, .val (.ref b1), .unset, .unset, .unset, .unset, .unset] [(.int ((((q3.toUInt64 >>> ((16 : Int32) &&& 0x3f).toInt64.toUInt64).toInt64).toInt32).toInt8.toInt32)), (.int (2 : Int32)), (.ref b1)])
  obtain ⟨cl10, Ar10, qq10, Sz10, Ng10, Hs10, Ft10⟩ := id f8
  have in10 : ¬ ((2 : Int32) < 0 ∨ cl10.slots.size ≤ ((2 : Int32)).toNatClampNeg) := (inb_of Sz10 ⟨by decide, by decide⟩)
  obtain ⟨T10, h10, X10, e10, W10, st10⟩ := stB X7 hx hZ e7 Ar10 (j := (2 : Int32)) in10 (g := (mkF m 32 #[.val (.int p1), .val (.int p2), .val (.long q3), .second, .val (.ref b1), .unset, .unset, .unset, .unset, .unset] [(.int ((((q3.toUInt64 >>> ((16 : Int32) &&& 0x3f).toInt64.toUInt64).toInt64).toInt32).toInt8.toInt32)), (.int (2 : Int32)), (.ref b1)])) rfl rfl (hb hby at_32)
  have f11 : Arv Z h10 b1 k1 .byte (8 : Int32) [(.int (nar .byte ((q3.toInt32).toInt8.toInt32))), (.int (nar .byte ((((q3.toUInt64 >>> ((8 : Int32) &&& 0x3f).toInt64.toUInt64).toInt64).toInt32).toInt8.toInt32))), (.int (nar .byte ((((q3.toUInt64 >>> ((16 : Int32) &&& 0x3f).toInt64.toUInt64).toInt64).toInt32).toInt8.toInt32))), (.int (0 : Int32)), (.int (0 : Int32)), (.int (0 : Int32)), (.int (0 : Int32)), (.int (0 : Int32))] (.int (0 : Int32)) := Arv.set Ar10 qq10 Sz10 Ng10 Hs10 Ft10 (fits_nar_byte _) W10 2 rfl (Nat.le_of_ble_eq_true rfl)
  have N12 := Fr.snoc X10 N9 g4
  refine Go.step (fun _ k => st10 _ (XS.aload X10.here hx rfl (hb hby at_33) rfl rfl (XS.iconst X10.here hx rfl (hb hby at_35) (XS.lloadN X10.here hx rfl (hb hby at_36) rfl (XS.bipush X10.here hx rfl (hb hby at_37) (XS.lushr X10.here hx rfl (hb hby at_39) rfl (XS.l2i X10.here hx rfl (hb hby at_40) rfl (XS.i2b X10.here hx rfl (hb hby at_41) rfl k)))))))) ?_
  show Go p e below s _ _ _ T10 (mkF m 42 #[.val (.int p1), .val (.int p2), .val (.long q3), .second, .val (.ref b1), .unset, .unset, .unset, .unset, .unset] [(.int ((((q3.toUInt64 >>> ((24 : Int32) &&& 0x3f).toInt64.toUInt64).toInt64).toInt32).toInt8.toInt32)), (.int (3 : Int32)), (.ref b1)])
  obtain ⟨cl13, Ar13, qq13, Sz13, Ng13, Hs13, Ft13⟩ := id f11
  have in13 : ¬ ((3 : Int32) < 0 ∨ cl13.slots.size ≤ ((3 : Int32)).toNatClampNeg) := (inb_of Sz13 ⟨by decide, by decide⟩)
  obtain ⟨T13, h13, X13, e13, W13, st13⟩ := stB X10 hx hZ e10 Ar13 (j := (3 : Int32)) in13 (g := (mkF m 42 #[.val (.int p1), .val (.int p2), .val (.long q3), .second, .val (.ref b1), .unset, .unset, .unset, .unset, .unset] [(.int ((((q3.toUInt64 >>> ((24 : Int32) &&& 0x3f).toInt64.toUInt64).toInt64).toInt32).toInt8.toInt32)), (.int (3 : Int32)), (.ref b1)])) rfl rfl (hb hby at_42)
  have f14 : Arv Z h13 b1 k1 .byte (8 : Int32) [(.int (nar .byte ((q3.toInt32).toInt8.toInt32))), (.int (nar .byte ((((q3.toUInt64 >>> ((8 : Int32) &&& 0x3f).toInt64.toUInt64).toInt64).toInt32).toInt8.toInt32))), (.int (nar .byte ((((q3.toUInt64 >>> ((16 : Int32) &&& 0x3f).toInt64.toUInt64).toInt64).toInt32).toInt8.toInt32))), (.int (nar .byte ((((q3.toUInt64 >>> ((24 : Int32) &&& 0x3f).toInt64.toUInt64).toInt64).toInt32).toInt8.toInt32))), (.int (0 : Int32)), (.int (0 : Int32)), (.int (0 : Int32)), (.int (0 : Int32))] (.int (0 : Int32)) := Arv.set Ar13 qq13 Sz13 Ng13 Hs13 Ft13 (fits_nar_byte _) W13 3 rfl (Nat.le_of_ble_eq_true rfl)
  have N15 := Fr.snoc X13 N12 g4
  refine Go.step (fun _ k => st13 _ (XS.aload X13.here hx rfl (hb hby at_43) rfl rfl (XS.iconst X13.here hx rfl (hb hby at_45) (XS.lloadN X13.here hx rfl (hb hby at_46) rfl (XS.bipush X13.here hx rfl (hb hby at_47) (XS.lushr X13.here hx rfl (hb hby at_49) rfl (XS.l2i X13.here hx rfl (hb hby at_50) rfl (XS.i2b X13.here hx rfl (hb hby at_51) rfl k)))))))) ?_
  show Go p e below s _ _ _ T13 (mkF m 52 #[.val (.int p1), .val (.int p2), .val (.long q3), .second, .val (.ref b1), .unset, .unset, .unset, .unset, .unset] [(.int ((((q3.toUInt64 >>> ((32 : Int32) &&& 0x3f).toInt64.toUInt64).toInt64).toInt32).toInt8.toInt32)), (.int (4 : Int32)), (.ref b1)])
  obtain ⟨cl16, Ar16, qq16, Sz16, Ng16, Hs16, Ft16⟩ := id f14
  have in16 : ¬ ((4 : Int32) < 0 ∨ cl16.slots.size ≤ ((4 : Int32)).toNatClampNeg) := (inb_of Sz16 ⟨by decide, by decide⟩)
  obtain ⟨T16, h16, X16, e16, W16, st16⟩ := stB X13 hx hZ e13 Ar16 (j := (4 : Int32)) in16 (g := (mkF m 52 #[.val (.int p1), .val (.int p2), .val (.long q3), .second, .val (.ref b1), .unset, .unset, .unset, .unset, .unset] [(.int ((((q3.toUInt64 >>> ((32 : Int32) &&& 0x3f).toInt64.toUInt64).toInt64).toInt32).toInt8.toInt32)), (.int (4 : Int32)), (.ref b1)])) rfl rfl (hb hby at_52)
  have f17 : Arv Z h16 b1 k1 .byte (8 : Int32) [(.int (nar .byte ((q3.toInt32).toInt8.toInt32))), (.int (nar .byte ((((q3.toUInt64 >>> ((8 : Int32) &&& 0x3f).toInt64.toUInt64).toInt64).toInt32).toInt8.toInt32))), (.int (nar .byte ((((q3.toUInt64 >>> ((16 : Int32) &&& 0x3f).toInt64.toUInt64).toInt64).toInt32).toInt8.toInt32))), (.int (nar .byte ((((q3.toUInt64 >>> ((24 : Int32) &&& 0x3f).toInt64.toUInt64).toInt64).toInt32).toInt8.toInt32))), (.int (nar .byte ((((q3.toUInt64 >>> ((32 : Int32) &&& 0x3f).toInt64.toUInt64).toInt64).toInt32).toInt8.toInt32))), (.int (0 : Int32)), (.int (0 : Int32)), (.int (0 : Int32))] (.int (0 : Int32)) := Arv.set Ar16 qq16 Sz16 Ng16 Hs16 Ft16 (fits_nar_byte _) W16 4 rfl (Nat.le_of_ble_eq_true rfl)
  have N18 := Fr.snoc X16 N15 g4
  refine Go.step (fun _ k => st16 _ (XS.aload X16.here hx rfl (hb hby at_53) rfl rfl (XS.iconst X16.here hx rfl (hb hby at_55) (XS.lloadN X16.here hx rfl (hb hby at_56) rfl (XS.bipush X16.here hx rfl (hb hby at_57) (XS.lushr X16.here hx rfl (hb hby at_59) rfl (XS.l2i X16.here hx rfl (hb hby at_60) rfl (XS.i2b X16.here hx rfl (hb hby at_61) rfl k)))))))) ?_
  show Go p e below s _ _ _ T16 (mkF m 62 #[.val (.int p1), .val (.int p2), .val (.long q3), .second, .val (.ref b1), .unset, .unset, .unset, .unset, .unset] [(.int ((((q3.toUInt64 >>> ((40 : Int32) &&& 0x3f).toInt64.toUInt64).toInt64).toInt32).toInt8.toInt32)), (.int (5 : Int32)), (.ref b1)])
  obtain ⟨cl19, Ar19, qq19, Sz19, Ng19, Hs19, Ft19⟩ := id f17
  have in19 : ¬ ((5 : Int32) < 0 ∨ cl19.slots.size ≤ ((5 : Int32)).toNatClampNeg) := (inb_of Sz19 ⟨by decide, by decide⟩)
  obtain ⟨T19, h19, X19, e19, W19, st19⟩ := stB X16 hx hZ e16 Ar19 (j := (5 : Int32)) in19 (g := (mkF m 62 #[.val (.int p1), .val (.int p2), .val (.long q3), .second, .val (.ref b1), .unset, .unset, .unset, .unset, .unset] [(.int ((((q3.toUInt64 >>> ((40 : Int32) &&& 0x3f).toInt64.toUInt64).toInt64).toInt32).toInt8.toInt32)), (.int (5 : Int32)), (.ref b1)])) rfl rfl (hb hby at_62)
  have f20 : Arv Z h19 b1 k1 .byte (8 : Int32) [(.int (nar .byte ((q3.toInt32).toInt8.toInt32))), (.int (nar .byte ((((q3.toUInt64 >>> ((8 : Int32) &&& 0x3f).toInt64.toUInt64).toInt64).toInt32).toInt8.toInt32))), (.int (nar .byte ((((q3.toUInt64 >>> ((16 : Int32) &&& 0x3f).toInt64.toUInt64).toInt64).toInt32).toInt8.toInt32))), (.int (nar .byte ((((q3.toUInt64 >>> ((24 : Int32) &&& 0x3f).toInt64.toUInt64).toInt64).toInt32).toInt8.toInt32))), (.int (nar .byte ((((q3.toUInt64 >>> ((32 : Int32) &&& 0x3f).toInt64.toUInt64).toInt64).toInt32).toInt8.toInt32))), (.int (nar .byte ((((q3.toUInt64 >>> ((40 : Int32) &&& 0x3f).toInt64.toUInt64).toInt64).toInt32).toInt8.toInt32))), (.int (0 : Int32)), (.int (0 : Int32))] (.int (0 : Int32)) := Arv.set Ar19 qq19 Sz19 Ng19 Hs19 Ft19 (fits_nar_byte _) W19 5 rfl (Nat.le_of_ble_eq_true rfl)
  have N21 := Fr.snoc X19 N18 g4
  refine Go.step (fun _ k => st19 _ (XS.aload X19.here hx rfl (hb hby at_63) rfl rfl (XS.bipush X19.here hx rfl (hb hby at_65) (XS.lloadN X19.here hx rfl (hb hby at_67) rfl (XS.bipush X19.here hx rfl (hb hby at_68) (XS.lushr X19.here hx rfl (hb hby at_70) rfl (XS.l2i X19.here hx rfl (hb hby at_71) rfl (XS.i2b X19.here hx rfl (hb hby at_72) rfl k)))))))) ?_
  show Go p e below s _ _ _ T19 (mkF m 73 #[.val (.int p1), .val (.int p2), .val (.long q3), .second, .val (.ref b1), .unset, .unset, .unset, .unset, .unset] [(.int ((((q3.toUInt64 >>> ((48 : Int32) &&& 0x3f).toInt64.toUInt64).toInt64).toInt32).toInt8.toInt32)), (.int (6 : Int32)), (.ref b1)])
  obtain ⟨cl22, Ar22, qq22, Sz22, Ng22, Hs22, Ft22⟩ := id f20
  have in22 : ¬ ((6 : Int32) < 0 ∨ cl22.slots.size ≤ ((6 : Int32)).toNatClampNeg) := (inb_of Sz22 ⟨by decide, by decide⟩)
  obtain ⟨T22, h22, X22, e22, W22, st22⟩ := stB X19 hx hZ e19 Ar22 (j := (6 : Int32)) in22 (g := (mkF m 73 #[.val (.int p1), .val (.int p2), .val (.long q3), .second, .val (.ref b1), .unset, .unset, .unset, .unset, .unset] [(.int ((((q3.toUInt64 >>> ((48 : Int32) &&& 0x3f).toInt64.toUInt64).toInt64).toInt32).toInt8.toInt32)), (.int (6 : Int32)), (.ref b1)])) rfl rfl (hb hby at_73)
  have f23 : Arv Z h22 b1 k1 .byte (8 : Int32) [(.int (nar .byte ((q3.toInt32).toInt8.toInt32))), (.int (nar .byte ((((q3.toUInt64 >>> ((8 : Int32) &&& 0x3f).toInt64.toUInt64).toInt64).toInt32).toInt8.toInt32))), (.int (nar .byte ((((q3.toUInt64 >>> ((16 : Int32) &&& 0x3f).toInt64.toUInt64).toInt64).toInt32).toInt8.toInt32))), (.int (nar .byte ((((q3.toUInt64 >>> ((24 : Int32) &&& 0x3f).toInt64.toUInt64).toInt64).toInt32).toInt8.toInt32))), (.int (nar .byte ((((q3.toUInt64 >>> ((32 : Int32) &&& 0x3f).toInt64.toUInt64).toInt64).toInt32).toInt8.toInt32))), (.int (nar .byte ((((q3.toUInt64 >>> ((40 : Int32) &&& 0x3f).toInt64.toUInt64).toInt64).toInt32).toInt8.toInt32))), (.int (nar .byte ((((q3.toUInt64 >>> ((48 : Int32) &&& 0x3f).toInt64.toUInt64).toInt64).toInt32).toInt8.toInt32))), (.int (0 : Int32))] (.int (0 : Int32)) := Arv.set Ar22 qq22 Sz22 Ng22 Hs22 Ft22 (fits_nar_byte _) W22 6 rfl (Nat.le_of_ble_eq_true rfl)
  have N24 := Fr.snoc X22 N21 g4
  refine Go.step (fun _ k => st22 _ (XS.aload X22.here hx rfl (hb hby at_74) rfl rfl (XS.bipush X22.here hx rfl (hb hby at_76) (XS.lloadN X22.here hx rfl (hb hby at_78) rfl (XS.bipush X22.here hx rfl (hb hby at_79) (XS.lushr X22.here hx rfl (hb hby at_81) rfl (XS.l2i X22.here hx rfl (hb hby at_82) rfl (XS.i2b X22.here hx rfl (hb hby at_83) rfl k)))))))) ?_
  show Go p e below s _ _ _ T22 (mkF m 84 #[.val (.int p1), .val (.int p2), .val (.long q3), .second, .val (.ref b1), .unset, .unset, .unset, .unset, .unset] [(.int ((((q3.toUInt64 >>> ((56 : Int32) &&& 0x3f).toInt64.toUInt64).toInt64).toInt32).toInt8.toInt32)), (.int (7 : Int32)), (.ref b1)])
  obtain ⟨cl25, Ar25, qq25, Sz25, Ng25, Hs25, Ft25⟩ := id f23
  have in25 : ¬ ((7 : Int32) < 0 ∨ cl25.slots.size ≤ ((7 : Int32)).toNatClampNeg) := (inb_of Sz25 ⟨by decide, by decide⟩)
  obtain ⟨T25, h25, X25, e25, W25, st25⟩ := stB X22 hx hZ e22 Ar25 (j := (7 : Int32)) in25 (g := (mkF m 84 #[.val (.int p1), .val (.int p2), .val (.long q3), .second, .val (.ref b1), .unset, .unset, .unset, .unset, .unset] [(.int ((((q3.toUInt64 >>> ((56 : Int32) &&& 0x3f).toInt64.toUInt64).toInt64).toInt32).toInt8.toInt32)), (.int (7 : Int32)), (.ref b1)])) rfl rfl (hb hby at_84)
  have f26 : Arv Z h25 b1 k1 .byte (8 : Int32) [(.int (nar .byte ((q3.toInt32).toInt8.toInt32))), (.int (nar .byte ((((q3.toUInt64 >>> ((8 : Int32) &&& 0x3f).toInt64.toUInt64).toInt64).toInt32).toInt8.toInt32))), (.int (nar .byte ((((q3.toUInt64 >>> ((16 : Int32) &&& 0x3f).toInt64.toUInt64).toInt64).toInt32).toInt8.toInt32))), (.int (nar .byte ((((q3.toUInt64 >>> ((24 : Int32) &&& 0x3f).toInt64.toUInt64).toInt64).toInt32).toInt8.toInt32))), (.int (nar .byte ((((q3.toUInt64 >>> ((32 : Int32) &&& 0x3f).toInt64.toUInt64).toInt64).toInt32).toInt8.toInt32))), (.int (nar .byte ((((q3.toUInt64 >>> ((40 : Int32) &&& 0x3f).toInt64.toUInt64).toInt64).toInt32).toInt8.toInt32))), (.int (nar .byte ((((q3.toUInt64 >>> ((48 : Int32) &&& 0x3f).toInt64.toUInt64).toInt64).toInt32).toInt8.toInt32))), (.int (nar .byte ((((q3.toUInt64 >>> ((56 : Int32) &&& 0x3f).toInt64.toUInt64).toInt64).toInt32).toInt8.toInt32)))] (.int (0 : Int32)) := Arv.set Ar25 qq25 Sz25 Ng25 Hs25 Ft25 (fits_nar_byte _) W25 7 rfl (Nat.le_of_ble_eq_true rfl)
  have N27 := Fr.snoc X25 N24 g4
  refine Go.step (fun _ k => st25 _ (XS.iloadN X25.here hx rfl (hb hby at_85) rfl (X25.ldcInt hx hown (mvT hZ (tw1 hw)) (g := (mkF m 86 #[.val (.int p1), .val (.int p2), .val (.long q3), .second, .val (.ref b1), .unset, .unset, .unset, .unset, .unset] [(.int p2)])) rfl (hb hby at_86) _ (XS.iand X25.here hx rfl (hb hby at_88) rfl (XS.iconst X25.here hx rfl (hb hby at_89) (iremM X25 hx rfl (hb hby at_90) rfl (by decide) k)))))) ?_
  show Go p e below s _ _ _ T25 (mkF m 91 #[.val (.int p1), .val (.int p2), .val (.long q3), .second, .val (.ref b1), .unset, .unset, .unset, .unset, .unset] [(.int ((p2 &&& (2147483647 : Int32)) % (5 : Int32)))])
  rcases own_mod5 p2 with ho | ho | ho | ho | ho
  · rw [ho]
    refine Go.step (fun _ k => XS.istore X25.here hx rfl (hb hby at_91) rfl (l' := #[.val (.int p1), .val (.int p2), .val (.long q3), .second, .val (.ref b1), .val (.int (0 : Int32)), .unset, .unset, .unset, .unset]) rfl (XS.aload X25.here hx rfl (hb hby at_93) rfl rfl (XS.iload X25.here hx rfl (hb hby at_95) rfl (XS.iloadN X25.here hx rfl (hb hby at_97) rfl (XS.bipush X25.here hx rfl (hb hby at_98) (XS.iushr X25.here hx rfl (hb hby at_100) rfl (XS.i2b X25.here hx rfl (hb hby at_101) rfl k))))))) ?_
    show Go p e below s _ _ _ T25 (mkF m 102 #[.val (.int p1), .val (.int p2), .val (.long q3), .second, .val (.ref b1), .val (.int (0 : Int32)), .unset, .unset, .unset, .unset] [(.int (((p1.toUInt32 >>> ((24 : Int32) &&& 31).toUInt32).toInt32).toInt8.toInt32)), (.int (0 : Int32)), (.ref b1)])
    obtain ⟨cl28, Ar28, qq28, Sz28, Ng28, Hs28, Ft28⟩ := id f26
    have in28 : ¬ ((0 : Int32) < 0 ∨ cl28.slots.size ≤ ((0 : Int32)).toNatClampNeg) := (inb_of Sz28 ⟨by decide, by decide⟩)
    obtain ⟨T28, h28, X28, e28, W28, st28⟩ := stB X25 hx hZ e25 Ar28 (j := (0 : Int32)) in28 (g := (mkF m 102 #[.val (.int p1), .val (.int p2), .val (.long q3), .second, .val (.ref b1), .val (.int (0 : Int32)), .unset, .unset, .unset, .unset] [(.int (((p1.toUInt32 >>> ((24 : Int32) &&& 31).toUInt32).toInt32).toInt8.toInt32)), (.int (0 : Int32)), (.ref b1)])) rfl rfl (hb hby at_102)
    have f29 : Arv Z h28 b1 k1 .byte (8 : Int32) [(.int (nar .byte (((p1.toUInt32 >>> ((24 : Int32) &&& 31).toUInt32).toInt32).toInt8.toInt32))), (.int (nar .byte ((((q3.toUInt64 >>> ((8 : Int32) &&& 0x3f).toInt64.toUInt64).toInt64).toInt32).toInt8.toInt32))), (.int (nar .byte ((((q3.toUInt64 >>> ((16 : Int32) &&& 0x3f).toInt64.toUInt64).toInt64).toInt32).toInt8.toInt32))), (.int (nar .byte ((((q3.toUInt64 >>> ((24 : Int32) &&& 0x3f).toInt64.toUInt64).toInt64).toInt32).toInt8.toInt32))), (.int (nar .byte ((((q3.toUInt64 >>> ((32 : Int32) &&& 0x3f).toInt64.toUInt64).toInt64).toInt32).toInt8.toInt32))), (.int (nar .byte ((((q3.toUInt64 >>> ((40 : Int32) &&& 0x3f).toInt64.toUInt64).toInt64).toInt32).toInt8.toInt32))), (.int (nar .byte ((((q3.toUInt64 >>> ((48 : Int32) &&& 0x3f).toInt64.toUInt64).toInt64).toInt32).toInt8.toInt32))), (.int (nar .byte ((((q3.toUInt64 >>> ((56 : Int32) &&& 0x3f).toInt64.toUInt64).toInt64).toInt32).toInt8.toInt32)))] (.int (0 : Int32)) := Arv.set Ar28 qq28 Sz28 Ng28 Hs28 Ft28 (fits_nar_byte _) W28 0 rfl (Nat.le_of_ble_eq_true rfl)
    have N30 := Fr.snoc X28 N27 g4
    refine Go.step (fun _ k => st28 _ (XS.aload X28.here hx rfl (hb hby at_103) rfl rfl (XS.iload X28.here hx rfl (hb hby at_105) rfl (XS.iconst X28.here hx rfl (hb hby at_107) (XS.iadd X28.here hx rfl (hb hby at_108) rfl (XS.iloadN X28.here hx rfl (hb hby at_109) rfl (XS.bipush X28.here hx rfl (hb hby at_110) (XS.iushr X28.here hx rfl (hb hby at_112) rfl (XS.i2b X28.here hx rfl (hb hby at_113) rfl k))))))))) ?_
    show Go p e below s _ _ _ T28 (mkF m 114 #[.val (.int p1), .val (.int p2), .val (.long q3), .second, .val (.ref b1), .val (.int (0 : Int32)), .unset, .unset, .unset, .unset] [(.int (((p1.toUInt32 >>> ((16 : Int32) &&& 31).toUInt32).toInt32).toInt8.toInt32)), (.int (1 : Int32)), (.ref b1)])
    obtain ⟨cl31, Ar31, qq31, Sz31, Ng31, Hs31, Ft31⟩ := id f29
    have in31 : ¬ ((1 : Int32) < 0 ∨ cl31.slots.size ≤ ((1 : Int32)).toNatClampNeg) := (inb_of Sz31 ⟨by decide, by decide⟩)
    obtain ⟨T31, h31, X31, e31, W31, st31⟩ := stB X28 hx hZ e28 Ar31 (j := (1 : Int32)) in31 (g := (mkF m 114 #[.val (.int p1), .val (.int p2), .val (.long q3), .second, .val (.ref b1), .val (.int (0 : Int32)), .unset, .unset, .unset, .unset] [(.int (((p1.toUInt32 >>> ((16 : Int32) &&& 31).toUInt32).toInt32).toInt8.toInt32)), (.int (1 : Int32)), (.ref b1)])) rfl rfl (hb hby at_114)
    have f32 : Arv Z h31 b1 k1 .byte (8 : Int32) [(.int (nar .byte (((p1.toUInt32 >>> ((24 : Int32) &&& 31).toUInt32).toInt32).toInt8.toInt32))), (.int (nar .byte (((p1.toUInt32 >>> ((16 : Int32) &&& 31).toUInt32).toInt32).toInt8.toInt32))), (.int (nar .byte ((((q3.toUInt64 >>> ((16 : Int32) &&& 0x3f).toInt64.toUInt64).toInt64).toInt32).toInt8.toInt32))), (.int (nar .byte ((((q3.toUInt64 >>> ((24 : Int32) &&& 0x3f).toInt64.toUInt64).toInt64).toInt32).toInt8.toInt32))), (.int (nar .byte ((((q3.toUInt64 >>> ((32 : Int32) &&& 0x3f).toInt64.toUInt64).toInt64).toInt32).toInt8.toInt32))), (.int (nar .byte ((((q3.toUInt64 >>> ((40 : Int32) &&& 0x3f).toInt64.toUInt64).toInt64).toInt32).toInt8.toInt32))), (.int (nar .byte ((((q3.toUInt64 >>> ((48 : Int32) &&& 0x3f).toInt64.toUInt64).toInt64).toInt32).toInt8.toInt32))), (.int (nar .byte ((((q3.toUInt64 >>> ((56 : Int32) &&& 0x3f).toInt64.toUInt64).toInt64).toInt32).toInt8.toInt32)))] (.int (0 : Int32)) := Arv.set Ar31 qq31 Sz31 Ng31 Hs31 Ft31 (fits_nar_byte _) W31 1 rfl (Nat.le_of_ble_eq_true rfl)
    have N33 := Fr.snoc X31 N30 g4
    refine Go.step (fun _ k => st31 _ (XS.aload X31.here hx rfl (hb hby at_115) rfl rfl (XS.iload X31.here hx rfl (hb hby at_117) rfl (XS.iconst X31.here hx rfl (hb hby at_119) (XS.iadd X31.here hx rfl (hb hby at_120) rfl (XS.iloadN X31.here hx rfl (hb hby at_121) rfl (XS.bipush X31.here hx rfl (hb hby at_122) (XS.iushr X31.here hx rfl (hb hby at_124) rfl (XS.i2b X31.here hx rfl (hb hby at_125) rfl k))))))))) ?_
    show Go p e below s _ _ _ T31 (mkF m 126 #[.val (.int p1), .val (.int p2), .val (.long q3), .second, .val (.ref b1), .val (.int (0 : Int32)), .unset, .unset, .unset, .unset] [(.int (((p1.toUInt32 >>> ((8 : Int32) &&& 31).toUInt32).toInt32).toInt8.toInt32)), (.int (2 : Int32)), (.ref b1)])
    obtain ⟨cl34, Ar34, qq34, Sz34, Ng34, Hs34, Ft34⟩ := id f32
    have in34 : ¬ ((2 : Int32) < 0 ∨ cl34.slots.size ≤ ((2 : Int32)).toNatClampNeg) := (inb_of Sz34 ⟨by decide, by decide⟩)
    obtain ⟨T34, h34, X34, e34, W34, st34⟩ := stB X31 hx hZ e31 Ar34 (j := (2 : Int32)) in34 (g := (mkF m 126 #[.val (.int p1), .val (.int p2), .val (.long q3), .second, .val (.ref b1), .val (.int (0 : Int32)), .unset, .unset, .unset, .unset] [(.int (((p1.toUInt32 >>> ((8 : Int32) &&& 31).toUInt32).toInt32).toInt8.toInt32)), (.int (2 : Int32)), (.ref b1)])) rfl rfl (hb hby at_126)
    have f35 : Arv Z h34 b1 k1 .byte (8 : Int32) [(.int (nar .byte (((p1.toUInt32 >>> ((24 : Int32) &&& 31).toUInt32).toInt32).toInt8.toInt32))), (.int (nar .byte (((p1.toUInt32 >>> ((16 : Int32) &&& 31).toUInt32).toInt32).toInt8.toInt32))), (.int (nar .byte (((p1.toUInt32 >>> ((8 : Int32) &&& 31).toUInt32).toInt32).toInt8.toInt32))), (.int (nar .byte ((((q3.toUInt64 >>> ((24 : Int32) &&& 0x3f).toInt64.toUInt64).toInt64).toInt32).toInt8.toInt32))), (.int (nar .byte ((((q3.toUInt64 >>> ((32 : Int32) &&& 0x3f).toInt64.toUInt64).toInt64).toInt32).toInt8.toInt32))), (.int (nar .byte ((((q3.toUInt64 >>> ((40 : Int32) &&& 0x3f).toInt64.toUInt64).toInt64).toInt32).toInt8.toInt32))), (.int (nar .byte ((((q3.toUInt64 >>> ((48 : Int32) &&& 0x3f).toInt64.toUInt64).toInt64).toInt32).toInt8.toInt32))), (.int (nar .byte ((((q3.toUInt64 >>> ((56 : Int32) &&& 0x3f).toInt64.toUInt64).toInt64).toInt32).toInt8.toInt32)))] (.int (0 : Int32)) := Arv.set Ar34 qq34 Sz34 Ng34 Hs34 Ft34 (fits_nar_byte _) W34 2 rfl (Nat.le_of_ble_eq_true rfl)
    have N36 := Fr.snoc X34 N33 g4
    refine Go.step (fun _ k => st34 _ (XS.aload X34.here hx rfl (hb hby at_127) rfl rfl (XS.iload X34.here hx rfl (hb hby at_129) rfl (XS.iconst X34.here hx rfl (hb hby at_131) (XS.iadd X34.here hx rfl (hb hby at_132) rfl (XS.iloadN X34.here hx rfl (hb hby at_133) rfl (XS.i2b X34.here hx rfl (hb hby at_134) rfl k))))))) ?_
    show Go p e below s _ _ _ T34 (mkF m 135 #[.val (.int p1), .val (.int p2), .val (.long q3), .second, .val (.ref b1), .val (.int (0 : Int32)), .unset, .unset, .unset, .unset] [(.int (p1.toInt8.toInt32)), (.int (3 : Int32)), (.ref b1)])
    obtain ⟨cl37, Ar37, qq37, Sz37, Ng37, Hs37, Ft37⟩ := id f35
    have in37 : ¬ ((3 : Int32) < 0 ∨ cl37.slots.size ≤ ((3 : Int32)).toNatClampNeg) := (inb_of Sz37 ⟨by decide, by decide⟩)
    obtain ⟨T37, h37, X37, e37, W37, st37⟩ := stB X34 hx hZ e34 Ar37 (j := (3 : Int32)) in37 (g := (mkF m 135 #[.val (.int p1), .val (.int p2), .val (.long q3), .second, .val (.ref b1), .val (.int (0 : Int32)), .unset, .unset, .unset, .unset] [(.int (p1.toInt8.toInt32)), (.int (3 : Int32)), (.ref b1)])) rfl rfl (hb hby at_135)
    have f38 : Arv Z h37 b1 k1 .byte (8 : Int32) [(.int (nar .byte (((p1.toUInt32 >>> ((24 : Int32) &&& 31).toUInt32).toInt32).toInt8.toInt32))), (.int (nar .byte (((p1.toUInt32 >>> ((16 : Int32) &&& 31).toUInt32).toInt32).toInt8.toInt32))), (.int (nar .byte (((p1.toUInt32 >>> ((8 : Int32) &&& 31).toUInt32).toInt32).toInt8.toInt32))), (.int (nar .byte (p1.toInt8.toInt32))), (.int (nar .byte ((((q3.toUInt64 >>> ((32 : Int32) &&& 0x3f).toInt64.toUInt64).toInt64).toInt32).toInt8.toInt32))), (.int (nar .byte ((((q3.toUInt64 >>> ((40 : Int32) &&& 0x3f).toInt64.toUInt64).toInt64).toInt32).toInt8.toInt32))), (.int (nar .byte ((((q3.toUInt64 >>> ((48 : Int32) &&& 0x3f).toInt64.toUInt64).toInt64).toInt32).toInt8.toInt32))), (.int (nar .byte ((((q3.toUInt64 >>> ((56 : Int32) &&& 0x3f).toInt64.toUInt64).toInt64).toInt32).toInt8.toInt32)))] (.int (0 : Int32)) := Arv.set Ar37 qq37 Sz37 Ng37 Hs37 Ft37 (fits_nar_byte _) W37 3 rfl (Nat.le_of_ble_eq_true rfl)
    have N39 := Fr.snoc X37 N36 g4
    refine Go.step (fun _ k => st37 _ (XS.iloadN X37.here hx rfl (hb hby at_136) rfl (XS.i2l X37.here hx rfl (hb hby at_137) rfl (X37.ldc2Long hx hown (mvT hZ (tw2 hw)) (g := (mkF m 138 #[.val (.int p1), .val (.int p2), .val (.long q3), .second, .val (.ref b1), .val (.int (0 : Int32)), .unset, .unset, .unset, .unset] [(.long (p1.toInt64))])) rfl (hb hby at_138) _ (XS.land X37.here hx rfl (hb hby at_141) rfl (XS.lstore X37.here hx rfl (hb hby at_142) rfl (l' := #[.val (.int p1), .val (.int p2), .val (.long q3), .second, .val (.ref b1), .val (.int (0 : Int32)), .val (.long ((p1.toInt64) &&& (4294967295 : Int64))), .second, .unset, .unset]) rfl (XS.aload X37.here hx rfl (hb hby at_144) rfl rfl (XS.iload X37.here hx rfl (hb hby at_146) rfl k)))))))) ?_
    show Go p e below s _ _ _ T37 (mkF m 148 #[.val (.int p1), .val (.int p2), .val (.long q3), .second, .val (.ref b1), .val (.int (0 : Int32)), .val (.long ((p1.toInt64) &&& (4294967295 : Int64))), .second, .unset, .unset] [(.int (0 : Int32)), (.ref b1)])
    have f40 := (Nat.le_trans (Nat.le_trans (Nat.le_trans (Nat.le_trans (Nat.le_trans (Nat.le_trans (Nat.le_trans (Nat.le_trans (Nat.le_trans (Nat.le_trans (Nat.le_trans (Nat.le_trans (Nat.le_trans Z0 E1.1) (Keep.of_wr W3).1) (Keep.of_wr W7).1) (Keep.of_wr W10).1) (Keep.of_wr W13).1) (Keep.of_wr W16).1) (Keep.of_wr W19).1) (Keep.of_wr W22).1) (Keep.of_wr W25).1) (Keep.of_wr W28).1) (Keep.of_wr W31).1) (Keep.of_wr W34).1) (Keep.of_wr W37).1)
    obtain ⟨_, _, ⟨T41, L41, k41, n41⟩, -, X41, ⟨Lc41, hQ41, l41, y41, z41⟩, st41⟩ := Jvm.LawKit.callS X37 hx (y := xm0) hown (mvT hZ (tw3 hw)) (mvT hZ (tw4 hw)) (mvT hZ (tw5 hw)) (mvT hZ (tw6 hw)) (by decide) (backOf (W := 0) (rm_ui l Z a0 hw [] b1 (0 : Int32) k1 (8 : Int32) ([(.int (nar .byte (((p1.toUInt32 >>> ((24 : Int32) &&& 31).toUInt32).toInt32).toInt8.toInt32))), (.int (nar .byte (((p1.toUInt32 >>> ((16 : Int32) &&& 31).toUInt32).toInt32).toInt8.toInt32))), (.int (nar .byte (((p1.toUInt32 >>> ((8 : Int32) &&& 31).toUInt32).toInt32).toInt8.toInt32))), (.int (nar .byte (p1.toInt8.toInt32))), (.int (nar .byte ((((q3.toUInt64 >>> ((32 : Int32) &&& 0x3f).toInt64.toUInt64).toInt64).toInt32).toInt8.toInt32))), (.int (nar .byte ((((q3.toUInt64 >>> ((40 : Int32) &&& 0x3f).toInt64.toUInt64).toInt64).toInt32).toInt8.toInt32))), (.int (nar .byte ((((q3.toUInt64 >>> ((48 : Int32) &&& 0x3f).toInt64.toUInt64).toInt64).toInt32).toInt8.toInt32))), (.int (nar .byte ((((q3.toUInt64 >>> ((56 : Int32) &&& 0x3f).toInt64.toUInt64).toInt64).toInt32).toInt8.toInt32)))]) (.int (0 : Int32)) (nar .byte (((p1.toUInt32 >>> ((24 : Int32) &&& 31).toUInt32).toInt32).toInt8.toInt32)) (nar .byte (((p1.toUInt32 >>> ((16 : Int32) &&& 31).toUInt32).toInt32).toInt8.toInt32)) (nar .byte (((p1.toUInt32 >>> ((8 : Int32) &&& 31).toUInt32).toInt32).toInt8.toInt32)) (nar .byte (p1.toInt8.toInt32)) h37 n0 f40 f38 (⟨by decide, by decide⟩) rfl (⟨by decide, by decide⟩) rfl (⟨by decide, by decide⟩) rfl (⟨by decide, by decide⟩) rfl) hZ (tw6 hw) (tw5 hw) (by decide) (by decide)) (g := (mkF m 148 #[.val (.int p1), .val (.int p2), .val (.long q3), .second, .val (.ref b1), .val (.int (0 : Int32)), .val (.long ((p1.toInt64) &&& (4294967295 : Int64))), .second, .unset, .unset] [(.int (0 : Int32)), (.ref b1)])) rfl (by rw [hml]; rfl) (argsL := [(.ref b1), (.int (0 : Int32))]) (rest := []) (lenOf pd_0 rfl) rfl (by show 2 * 0 + _ ≤ _; exact Nat.le_of_eq rfl) (hb hby at_148) (fun _ _ => ⟨rfl, e37, (by decide : 1 + 0 ≤ _), (by decide : 8 + 0 ≤ _)⟩)
    dsimp only [Pt.U, Pt.locs, Pt.cells, Pt.slots] at X41 l41 y41 z41 st41 hQ41
    subst l41 y41 z41
    obtain ⟨rfl, N41q, eq41⟩ := hQ41
    have N42 := Fr.app N39 N41q
    refine Go.step (fun _ k => st41 _ k) ?_
    show Go p e below s _ _ _ T41 (mkF m 151 #[.val (.int p1), .val (.int p2), .val (.long q3), .second, .val (.ref b1), .val (.int (0 : Int32)), .val (.long ((p1.toInt64) &&& (4294967295 : Int64))), .second, .unset, .unset] [(.long (own_ui (nar .byte (((p1.toUInt32 >>> ((24 : Int32) &&& 31).toUInt32).toInt32).toInt8.toInt32)) (nar .byte (((p1.toUInt32 >>> ((16 : Int32) &&& 31).toUInt32).toInt32).toInt8.toInt32)) (nar .byte (((p1.toUInt32 >>> ((8 : Int32) &&& 31).toUInt32).toInt32).toInt8.toInt32)) (nar .byte (p1.toInt8.toInt32))))])
    rw [show (own_ui (nar .byte (((p1.toUInt32 >>> ((24 : Int32) &&& 31).toUInt32).toInt32).toInt8.toInt32)) (nar .byte (((p1.toUInt32 >>> ((16 : Int32) &&& 31).toUInt32).toInt32).toInt8.toInt32)) (nar .byte (((p1.toUInt32 >>> ((8 : Int32) &&& 31).toUInt32).toInt32).toInt8.toInt32)) (nar .byte (p1.toInt8.toInt32))) = (p1.toInt64 &&& (4294967295 : Int64)) from own_u p1]
    refine Go.step (fun _ k => XS.lstore X41.here hx rfl (hb hby at_151) rfl (l' := #[.val (.int p1), .val (.int p2), .val (.long q3), .second, .val (.ref b1), .val (.int (0 : Int32)), .val (.long ((p1.toInt64) &&& (4294967295 : Int64))), .second, .val (.long (p1.toInt64 &&& (4294967295 : Int64))), .second]) rfl (XS.lload X41.here hx rfl (hb hby at_153) rfl (XS.lload X41.here hx rfl (hb hby at_155) rfl (XS.lcmp X41.here hx rfl (hb hby at_157) rfl (XS.ifNo X41.here hx rfl (hb hby at_158) rfl ((if0 _ _).trans (teq ((lw_eq _ _).mpr rfl)).2) (XS.lload X41.here hx rfl (hb hby at_161) rfl (XS.lconst X41.here hx rfl (hb hby at_163) (XS.lcmp X41.here hx rfl (hb hby at_164) rfl (XS.ifNo X41.here hx rfl (hb hby at_165) rfl ((if0 _ _).trans (flt (own_lo p1)).1) (XS.lload X41.here hx rfl (hb hby at_168) rfl k)))))))))) ?_
    show Go p e below s _ _ _ T41 (mkF m 170 #[.val (.int p1), .val (.int p2), .val (.long q3), .second, .val (.ref b1), .val (.int (0 : Int32)), .val (.long ((p1.toInt64) &&& (4294967295 : Int64))), .second, .val (.long (p1.toInt64 &&& (4294967295 : Int64))), .second] [(.long (p1.toInt64 &&& (4294967295 : Int64)))])
    refine Go.step (fun _ k => X41.ldc2Long hx hown (mvT hZ (tw2 hw)) (g := (mkF m 170 #[.val (.int p1), .val (.int p2), .val (.long q3), .second, .val (.ref b1), .val (.int (0 : Int32)), .val (.long ((p1.toInt64) &&& (4294967295 : Int64))), .second, .val (.long (p1.toInt64 &&& (4294967295 : Int64))), .second] [(.long (p1.toInt64 &&& (4294967295 : Int64)))])) rfl (hb hby at_170) _ (XS.lcmp X41.here hx rfl (hb hby at_173) rfl (XS.ifNo X41.here hx rfl (hb hby at_174) rfl ((if0 _ _).trans (flt (own_hi p1)).2.2.1) (XS.iconst X41.here hx rfl (hb hby at_177) (XS.goto X41.here hx rfl (pc0 := 178) (pc' := 182) rfl (hb hby at_178) (by decide) (by decide) k))))) ?_
    show Go p e below s _ _ _ T41 (mkF m 182 #[.val (.int p1), .val (.int p2), .val (.long q3), .second, .val (.ref b1), .val (.int (0 : Int32)), .val (.long ((p1.toInt64) &&& (4294967295 : Int64))), .second, .val (.long (p1.toInt64 &&& (4294967295 : Int64))), .second] [(.int (1 : Int32))])
    exact Go.retN X41 hx hlk (t := .boolean) Bd.returns (by simp) (hb hby at_182) eq41 ⟨rfl, N42⟩ (by decide) (by decide)
  · rw [ho]
    refine Go.step (fun _ k => XS.istore X25.here hx rfl (hb hby at_91) rfl (l' := #[.val (.int p1), .val (.int p2), .val (.long q3), .second, .val (.ref b1), .val (.int (1 : Int32)), .unset, .unset, .unset, .unset]) rfl (XS.aload X25.here hx rfl (hb hby at_93) rfl rfl (XS.iload X25.here hx rfl (hb hby at_95) rfl (XS.iloadN X25.here hx rfl (hb hby at_97) rfl (XS.bipush X25.here hx rfl (hb hby at_98) (XS.iushr X25.here hx rfl (hb hby at_100) rfl (XS.i2b X25.here hx rfl (hb hby at_101) rfl k))))))) ?_
    show Go p e below s _ _ _ T25 (mkF m 102 #[.val (.int p1), .val (.int p2), .val (.long q3), .second, .val (.ref b1), .val (.int (1 : Int32)), .unset, .unset, .unset, .unset] [(.int (((p1.toUInt32 >>> ((24 : Int32) &&& 31).toUInt32).toInt32).toInt8.toInt32)), (.int (1 : Int32)), (.ref b1)])
    obtain ⟨cl43, Ar43, qq43, Sz43, Ng43, Hs43, Ft43⟩ := id f26
    have in43 : ¬ ((1 : Int32) < 0 ∨ cl43.slots.size ≤ ((1 : Int32)).toNatClampNeg) := (inb_of Sz43 ⟨by decide, by decide⟩)
    obtain ⟨T43, h43, X43, e43, W43, st43⟩ := stB X25 hx hZ e25 Ar43 (j := (1 : Int32)) in43 (g := (mkF m 102 #[.val (.int p1), .val (.int p2), .val (.long q3), .second, .val (.ref b1), .val (.int (1 : Int32)), .unset, .unset, .unset, .unset] [(.int (((p1.toUInt32 >>> ((24 : Int32) &&& 31).toUInt32).toInt32).toInt8.toInt32)), (.int (1 : Int32)), (.ref b1)])) rfl rfl (hb hby at_102)
    have f44 : Arv Z h43 b1 k1 .byte (8 : Int32) [(.int (nar .byte ((q3.toInt32).toInt8.toInt32))), (.int (nar .byte (((p1.toUInt32 >>> ((24 : Int32) &&& 31).toUInt32).toInt32).toInt8.toInt32))), (.int (nar .byte ((((q3.toUInt64 >>> ((16 : Int32) &&& 0x3f).toInt64.toUInt64).toInt64).toInt32).toInt8.toInt32))), (.int (nar .byte ((((q3.toUInt64 >>> ((24 : Int32) &&& 0x3f).toInt64.toUInt64).toInt64).toInt32).toInt8.toInt32))), (.int (nar .byte ((((q3.toUInt64 >>> ((32 : Int32) &&& 0x3f).toInt64.toUInt64).toInt64).toInt32).toInt8.toInt32))), (.int (nar .byte ((((q3.toUInt64 >>> ((40 : Int32) &&& 0x3f).toInt64.toUInt64).toInt64).toInt32).toInt8.toInt32))), (.int (nar .byte ((((q3.toUInt64 >>> ((48 : Int32) &&& 0x3f).toInt64.toUInt64).toInt64).toInt32).toInt8.toInt32))), (.int (nar .byte ((((q3.toUInt64 >>> ((56 : Int32) &&& 0x3f).toInt64.toUInt64).toInt64).toInt32).toInt8.toInt32)))] (.int (0 : Int32)) := Arv.set Ar43 qq43 Sz43 Ng43 Hs43 Ft43 (fits_nar_byte _) W43 1 rfl (Nat.le_of_ble_eq_true rfl)
    have N45 := Fr.snoc X43 N27 g4
    refine Go.step (fun _ k => st43 _ (XS.aload X43.here hx rfl (hb hby at_103) rfl rfl (XS.iload X43.here hx rfl (hb hby at_105) rfl (XS.iconst X43.here hx rfl (hb hby at_107) (XS.iadd X43.here hx rfl (hb hby at_108) rfl (XS.iloadN X43.here hx rfl (hb hby at_109) rfl (XS.bipush X43.here hx rfl (hb hby at_110) (XS.iushr X43.here hx rfl (hb hby at_112) rfl (XS.i2b X43.here hx rfl (hb hby at_113) rfl k))))))))) ?_
    show Go p e below s _ _ _ T43 (mkF m 114 #[.val (.int p1), .val (.int p2), .val (.long q3), .second, .val (.ref b1), .val (.int (1 : Int32)), .unset, .unset, .unset, .unset] [(.int (((p1.toUInt32 >>> ((16 : Int32) &&& 31).toUInt32).toInt32).toInt8.toInt32)), (.int (2 : Int32)), (.ref b1)])
    obtain ⟨cl46, Ar46, qq46, Sz46, Ng46, Hs46, Ft46⟩ := id f44
    have in46 : ¬ ((2 : Int32) < 0 ∨ cl46.slots.size ≤ ((2 : Int32)).toNatClampNeg) := (inb_of Sz46 ⟨by decide, by decide⟩)
    obtain ⟨T46, h46, X46, e46, W46, st46⟩ := stB X43 hx hZ e43 Ar46 (j := (2 : Int32)) in46 (g := (mkF m 114 #[.val (.int p1), .val (.int p2), .val (.long q3), .second, .val (.ref b1), .val (.int (1 : Int32)), .unset, .unset, .unset, .unset] [(.int (((p1.toUInt32 >>> ((16 : Int32) &&& 31).toUInt32).toInt32).toInt8.toInt32)), (.int (2 : Int32)), (.ref b1)])) rfl rfl (hb hby at_114)
    have f47 : Arv Z h46 b1 k1 .byte (8 : Int32) [(.int (nar .byte ((q3.toInt32).toInt8.toInt32))), (.int (nar .byte (((p1.toUInt32 >>> ((24 : Int32) &&& 31).toUInt32).toInt32).toInt8.toInt32))), (.int (nar .byte (((p1.toUInt32 >>> ((16 : Int32) &&& 31).toUInt32).toInt32).toInt8.toInt32))), (.int (nar .byte ((((q3.toUInt64 >>> ((24 : Int32) &&& 0x3f).toInt64.toUInt64).toInt64).toInt32).toInt8.toInt32))), (.int (nar .byte ((((q3.toUInt64 >>> ((32 : Int32) &&& 0x3f).toInt64.toUInt64).toInt64).toInt32).toInt8.toInt32))), (.int (nar .byte ((((q3.toUInt64 >>> ((40 : Int32) &&& 0x3f).toInt64.toUInt64).toInt64).toInt32).toInt8.toInt32))), (.int (nar .byte ((((q3.toUInt64 >>> ((48 : Int32) &&& 0x3f).toInt64.toUInt64).toInt64).toInt32).toInt8.toInt32))), (.int (nar .byte ((((q3.toUInt64 >>> ((56 : Int32) &&& 0x3f).toInt64.toUInt64).toInt64).toInt32).toInt8.toInt32)))] (.int (0 : Int32)) := Arv.set Ar46 qq46 Sz46 Ng46 Hs46 Ft46 (fits_nar_byte _) W46 2 rfl (Nat.le_of_ble_eq_true rfl)
    have N48 := Fr.snoc X46 N45 g4
    refine Go.step (fun _ k => st46 _ (XS.aload X46.here hx rfl (hb hby at_115) rfl rfl (XS.iload X46.here hx rfl (hb hby at_117) rfl (XS.iconst X46.here hx rfl (hb hby at_119) (XS.iadd X46.here hx rfl (hb hby at_120) rfl (XS.iloadN X46.here hx rfl (hb hby at_121) rfl (XS.bipush X46.here hx rfl (hb hby at_122) (XS.iushr X46.here hx rfl (hb hby at_124) rfl (XS.i2b X46.here hx rfl (hb hby at_125) rfl k))))))))) ?_
    show Go p e below s _ _ _ T46 (mkF m 126 #[.val (.int p1), .val (.int p2), .val (.long q3), .second, .val (.ref b1), .val (.int (1 : Int32)), .unset, .unset, .unset, .unset] [(.int (((p1.toUInt32 >>> ((8 : Int32) &&& 31).toUInt32).toInt32).toInt8.toInt32)), (.int (3 : Int32)), (.ref b1)])
    obtain ⟨cl49, Ar49, qq49, Sz49, Ng49, Hs49, Ft49⟩ := id f47
    have in49 : ¬ ((3 : Int32) < 0 ∨ cl49.slots.size ≤ ((3 : Int32)).toNatClampNeg) := (inb_of Sz49 ⟨by decide, by decide⟩)
    obtain ⟨T49, h49, X49, e49, W49, st49⟩ := stB X46 hx hZ e46 Ar49 (j := (3 : Int32)) in49 (g := (mkF m 126 #[.val (.int p1), .val (.int p2), .val (.long q3), .second, .val (.ref b1), .val (.int (1 : Int32)), .unset, .unset, .unset, .unset] [(.int (((p1.toUInt32 >>> ((8 : Int32) &&& 31).toUInt32).toInt32).toInt8.toInt32)), (.int (3 : Int32)), (.ref b1)])) rfl rfl (hb hby at_126)
    have f50 : Arv Z h49 b1 k1 .byte (8 : Int32) [(.int (nar .byte ((q3.toInt32).toInt8.toInt32))), (.int (nar .byte (((p1.toUInt32 >>> ((24 : Int32) &&& 31).toUInt32).toInt32).toInt8.toInt32))), (.int (nar .byte (((p1.toUInt32 >>> ((16 : Int32) &&& 31).toUInt32).toInt32).toInt8.toInt32))), (.int (nar .byte (((p1.toUInt32 >>> ((8 : Int32) &&& 31).toUInt32).toInt32).toInt8.toInt32))), (.int (nar .byte ((((q3.toUInt64 >>> ((32 : Int32) &&& 0x3f).toInt64.toUInt64).toInt64).toInt32).toInt8.toInt32))), (.int (nar .byte ((((q3.toUInt64 >>> ((40 : Int32) &&& 0x3f).toInt64.toUInt64).toInt64).toInt32).toInt8.toInt32))), (.int (nar .byte ((((q3.toUInt64 >>> ((48 : Int32) &&& 0x3f).toInt64.toUInt64).toInt64).toInt32).toInt8.toInt32))), (.int (nar .byte ((((q3.toUInt64 >>> ((56 : Int32) &&& 0x3f).toInt64.toUInt64).toInt64).toInt32).toInt8.toInt32)))] (.int (0 : Int32)) := Arv.set Ar49 qq49 Sz49 Ng49 Hs49 Ft49 (fits_nar_byte _) W49 3 rfl (Nat.le_of_ble_eq_true rfl)
    have N51 := Fr.snoc X49 N48 g4
    refine Go.step (fun _ k => st49 _ (XS.aload X49.here hx rfl (hb hby at_127) rfl rfl (XS.iload X49.here hx rfl (hb hby at_129) rfl (XS.iconst X49.here hx rfl (hb hby at_131) (XS.iadd X49.here hx rfl (hb hby at_132) rfl (XS.iloadN X49.here hx rfl (hb hby at_133) rfl (XS.i2b X49.here hx rfl (hb hby at_134) rfl k))))))) ?_
    show Go p e below s _ _ _ T49 (mkF m 135 #[.val (.int p1), .val (.int p2), .val (.long q3), .second, .val (.ref b1), .val (.int (1 : Int32)), .unset, .unset, .unset, .unset] [(.int (p1.toInt8.toInt32)), (.int (4 : Int32)), (.ref b1)])
    obtain ⟨cl52, Ar52, qq52, Sz52, Ng52, Hs52, Ft52⟩ := id f50
    have in52 : ¬ ((4 : Int32) < 0 ∨ cl52.slots.size ≤ ((4 : Int32)).toNatClampNeg) := (inb_of Sz52 ⟨by decide, by decide⟩)
    obtain ⟨T52, h52, X52, e52, W52, st52⟩ := stB X49 hx hZ e49 Ar52 (j := (4 : Int32)) in52 (g := (mkF m 135 #[.val (.int p1), .val (.int p2), .val (.long q3), .second, .val (.ref b1), .val (.int (1 : Int32)), .unset, .unset, .unset, .unset] [(.int (p1.toInt8.toInt32)), (.int (4 : Int32)), (.ref b1)])) rfl rfl (hb hby at_135)
    have f53 : Arv Z h52 b1 k1 .byte (8 : Int32) [(.int (nar .byte ((q3.toInt32).toInt8.toInt32))), (.int (nar .byte (((p1.toUInt32 >>> ((24 : Int32) &&& 31).toUInt32).toInt32).toInt8.toInt32))), (.int (nar .byte (((p1.toUInt32 >>> ((16 : Int32) &&& 31).toUInt32).toInt32).toInt8.toInt32))), (.int (nar .byte (((p1.toUInt32 >>> ((8 : Int32) &&& 31).toUInt32).toInt32).toInt8.toInt32))), (.int (nar .byte (p1.toInt8.toInt32))), (.int (nar .byte ((((q3.toUInt64 >>> ((40 : Int32) &&& 0x3f).toInt64.toUInt64).toInt64).toInt32).toInt8.toInt32))), (.int (nar .byte ((((q3.toUInt64 >>> ((48 : Int32) &&& 0x3f).toInt64.toUInt64).toInt64).toInt32).toInt8.toInt32))), (.int (nar .byte ((((q3.toUInt64 >>> ((56 : Int32) &&& 0x3f).toInt64.toUInt64).toInt64).toInt32).toInt8.toInt32)))] (.int (0 : Int32)) := Arv.set Ar52 qq52 Sz52 Ng52 Hs52 Ft52 (fits_nar_byte _) W52 4 rfl (Nat.le_of_ble_eq_true rfl)
    have N54 := Fr.snoc X52 N51 g4
    refine Go.step (fun _ k => st52 _ (XS.iloadN X52.here hx rfl (hb hby at_136) rfl (XS.i2l X52.here hx rfl (hb hby at_137) rfl (X52.ldc2Long hx hown (mvT hZ (tw2 hw)) (g := (mkF m 138 #[.val (.int p1), .val (.int p2), .val (.long q3), .second, .val (.ref b1), .val (.int (1 : Int32)), .unset, .unset, .unset, .unset] [(.long (p1.toInt64))])) rfl (hb hby at_138) _ (XS.land X52.here hx rfl (hb hby at_141) rfl (XS.lstore X52.here hx rfl (hb hby at_142) rfl (l' := #[.val (.int p1), .val (.int p2), .val (.long q3), .second, .val (.ref b1), .val (.int (1 : Int32)), .val (.long ((p1.toInt64) &&& (4294967295 : Int64))), .second, .unset, .unset]) rfl (XS.aload X52.here hx rfl (hb hby at_144) rfl rfl (XS.iload X52.here hx rfl (hb hby at_146) rfl k)))))))) ?_
    show Go p e below s _ _ _ T52 (mkF m 148 #[.val (.int p1), .val (.int p2), .val (.long q3), .second, .val (.ref b1), .val (.int (1 : Int32)), .val (.long ((p1.toInt64) &&& (4294967295 : Int64))), .second, .unset, .unset] [(.int (1 : Int32)), (.ref b1)])
    have f55 := (Nat.le_trans (Nat.le_trans (Nat.le_trans (Nat.le_trans (Nat.le_trans (Nat.le_trans (Nat.le_trans (Nat.le_trans (Nat.le_trans (Nat.le_trans (Nat.le_trans (Nat.le_trans (Nat.le_trans Z0 E1.1) (Keep.of_wr W3).1) (Keep.of_wr W7).1) (Keep.of_wr W10).1) (Keep.of_wr W13).1) (Keep.of_wr W16).1) (Keep.of_wr W19).1) (Keep.of_wr W22).1) (Keep.of_wr W25).1) (Keep.of_wr W43).1) (Keep.of_wr W46).1) (Keep.of_wr W49).1) (Keep.of_wr W52).1)
    obtain ⟨_, _, ⟨T56, L56, k56, n56⟩, -, X56, ⟨Lc56, hQ56, l56, y56, z56⟩, st56⟩ := Jvm.LawKit.callS X52 hx (y := xm0) hown (mvT hZ (tw3 hw)) (mvT hZ (tw4 hw)) (mvT hZ (tw5 hw)) (mvT hZ (tw6 hw)) (by decide) (backOf (W := 0) (rm_ui l Z a0 hw [] b1 (1 : Int32) k1 (8 : Int32) ([(.int (nar .byte ((q3.toInt32).toInt8.toInt32))), (.int (nar .byte (((p1.toUInt32 >>> ((24 : Int32) &&& 31).toUInt32).toInt32).toInt8.toInt32))), (.int (nar .byte (((p1.toUInt32 >>> ((16 : Int32) &&& 31).toUInt32).toInt32).toInt8.toInt32))), (.int (nar .byte (((p1.toUInt32 >>> ((8 : Int32) &&& 31).toUInt32).toInt32).toInt8.toInt32))), (.int (nar .byte (p1.toInt8.toInt32))), (.int (nar .byte ((((q3.toUInt64 >>> ((40 : Int32) &&& 0x3f).toInt64.toUInt64).toInt64).toInt32).toInt8.toInt32))), (.int (nar .byte ((((q3.toUInt64 >>> ((48 : Int32) &&& 0x3f).toInt64.toUInt64).toInt64).toInt32).toInt8.toInt32))), (.int (nar .byte ((((q3.toUInt64 >>> ((56 : Int32) &&& 0x3f).toInt64.toUInt64).toInt64).toInt32).toInt8.toInt32)))]) (.int (0 : Int32)) (nar .byte (((p1.toUInt32 >>> ((24 : Int32) &&& 31).toUInt32).toInt32).toInt8.toInt32)) (nar .byte (((p1.toUInt32 >>> ((16 : Int32) &&& 31).toUInt32).toInt32).toInt8.toInt32)) (nar .byte (((p1.toUInt32 >>> ((8 : Int32) &&& 31).toUInt32).toInt32).toInt8.toInt32)) (nar .byte (p1.toInt8.toInt32)) h52 n0 f55 f53 (⟨by decide, by decide⟩) rfl (⟨by decide, by decide⟩) rfl (⟨by decide, by decide⟩) rfl (⟨by decide, by decide⟩) rfl) hZ (tw6 hw) (tw5 hw) (by decide) (by decide)) (g := (mkF m 148 #[.val (.int p1), .val (.int p2), .val (.long q3), .second, .val (.ref b1), .val (.int (1 : Int32)), .val (.long ((p1.toInt64) &&& (4294967295 : Int64))), .second, .unset, .unset] [(.int (1 : Int32)), (.ref b1)])) rfl (by rw [hml]; rfl) (argsL := [(.ref b1), (.int (1 : Int32))]) (rest := []) (lenOf pd_0 rfl) rfl (by show 2 * 0 + _ ≤ _; exact Nat.le_of_eq rfl) (hb hby at_148) (fun _ _ => ⟨rfl, e52, (by decide : 1 + 0 ≤ _), (by decide : 8 + 0 ≤ _)⟩)
    dsimp only [Pt.U, Pt.locs, Pt.cells, Pt.slots] at X56 l56 y56 z56 st56 hQ56
    subst l56 y56 z56
    obtain ⟨rfl, N56q, eq56⟩ := hQ56
    have N57 := Fr.app N54 N56q
    refine Go.step (fun _ k => st56 _ k) ?_
    show Go p e below s _ _ _ T56 (mkF m 151 #[.val (.int p1), .val (.int p2), .val (.long q3), .second, .val (.ref b1), .val (.int (1 : Int32)), .val (.long ((p1.toInt64) &&& (4294967295 : Int64))), .second, .unset, .unset] [(.long (own_ui (nar .byte (((p1.toUInt32 >>> ((24 : Int32) &&& 31).toUInt32).toInt32).toInt8.toInt32)) (nar .byte (((p1.toUInt32 >>> ((16 : Int32) &&& 31).toUInt32).toInt32).toInt8.toInt32)) (nar .byte (((p1.toUInt32 >>> ((8 : Int32) &&& 31).toUInt32).toInt32).toInt8.toInt32)) (nar .byte (p1.toInt8.toInt32))))])
    rw [show (own_ui (nar .byte (((p1.toUInt32 >>> ((24 : Int32) &&& 31).toUInt32).toInt32).toInt8.toInt32)) (nar .byte (((p1.toUInt32 >>> ((16 : Int32) &&& 31).toUInt32).toInt32).toInt8.toInt32)) (nar .byte (((p1.toUInt32 >>> ((8 : Int32) &&& 31).toUInt32).toInt32).toInt8.toInt32)) (nar .byte (p1.toInt8.toInt32))) = (p1.toInt64 &&& (4294967295 : Int64)) from own_u p1]
    refine Go.step (fun _ k => XS.lstore X56.here hx rfl (hb hby at_151) rfl (l' := #[.val (.int p1), .val (.int p2), .val (.long q3), .second, .val (.ref b1), .val (.int (1 : Int32)), .val (.long ((p1.toInt64) &&& (4294967295 : Int64))), .second, .val (.long (p1.toInt64 &&& (4294967295 : Int64))), .second]) rfl (XS.lload X56.here hx rfl (hb hby at_153) rfl (XS.lload X56.here hx rfl (hb hby at_155) rfl (XS.lcmp X56.here hx rfl (hb hby at_157) rfl (XS.ifNo X56.here hx rfl (hb hby at_158) rfl ((if0 _ _).trans (teq ((lw_eq _ _).mpr rfl)).2) (XS.lload X56.here hx rfl (hb hby at_161) rfl (XS.lconst X56.here hx rfl (hb hby at_163) (XS.lcmp X56.here hx rfl (hb hby at_164) rfl (XS.ifNo X56.here hx rfl (hb hby at_165) rfl ((if0 _ _).trans (flt (own_lo p1)).1) (XS.lload X56.here hx rfl (hb hby at_168) rfl k)))))))))) ?_
    show Go p e below s _ _ _ T56 (mkF m 170 #[.val (.int p1), .val (.int p2), .val (.long q3), .second, .val (.ref b1), .val (.int (1 : Int32)), .val (.long ((p1.toInt64) &&& (4294967295 : Int64))), .second, .val (.long (p1.toInt64 &&& (4294967295 : Int64))), .second] [(.long (p1.toInt64 &&& (4294967295 : Int64)))])
    refine Go.step (fun _ k => X56.ldc2Long hx hown (mvT hZ (tw2 hw)) (g := (mkF m 170 #[.val (.int p1), .val (.int p2), .val (.long q3), .second, .val (.ref b1), .val (.int (1 : Int32)), .val (.long ((p1.toInt64) &&& (4294967295 : Int64))), .second, .val (.long (p1.toInt64 &&& (4294967295 : Int64))), .second] [(.long (p1.toInt64 &&& (4294967295 : Int64)))])) rfl (hb hby at_170) _ (XS.lcmp X56.here hx rfl (hb hby at_173) rfl (XS.ifNo X56.here hx rfl (hb hby at_174) rfl ((if0 _ _).trans (flt (own_hi p1)).2.2.1) (XS.iconst X56.here hx rfl (hb hby at_177) (XS.goto X56.here hx rfl (pc0 := 178) (pc' := 182) rfl (hb hby at_178) (by decide) (by decide) k))))) ?_
    show Go p e below s _ _ _ T56 (mkF m 182 #[.val (.int p1), .val (.int p2), .val (.long q3), .second, .val (.ref b1), .val (.int (1 : Int32)), .val (.long ((p1.toInt64) &&& (4294967295 : Int64))), .second, .val (.long (p1.toInt64 &&& (4294967295 : Int64))), .second] [(.int (1 : Int32))])
    exact Go.retN X56 hx hlk (t := .boolean) Bd.returns (by simp) (hb hby at_182) eq56 ⟨rfl, N57⟩ (by decide) (by decide)
  · rw [ho]
    refine Go.step (fun _ k => XS.istore X25.here hx rfl (hb hby at_91) rfl (l' := #[.val (.int p1), .val (.int p2), .val (.long q3), .second, .val (.ref b1), .val (.int (2 : Int32)), .unset, .unset, .unset, .unset]) rfl (XS.aload X25.here hx rfl (hb hby at_93) rfl rfl (XS.iload X25.here hx rfl (hb hby at_95) rfl (XS.iloadN X25.here hx rfl (hb hby at_97) rfl (XS.bipush X25.here hx rfl (hb hby at_98) (XS.iushr X25.here hx rfl (hb hby at_100) rfl (XS.i2b X25.here hx rfl (hb hby at_101) rfl k))))))) ?_
    show Go p e below s _ _ _ T25 (mkF m 102 #[.val (.int p1), .val (.int p2), .val (.long q3), .second, .val (.ref b1), .val (.int (2 : Int32)), .unset, .unset, .unset, .unset] [(.int (((p1.toUInt32 >>> ((24 : Int32) &&& 31).toUInt32).toInt32).toInt8.toInt32)), (.int (2 : Int32)), (.ref b1)])
    obtain ⟨cl58, Ar58, qq58, Sz58, Ng58, Hs58, Ft58⟩ := id f26
    have in58 : ¬ ((2 : Int32) < 0 ∨ cl58.slots.size ≤ ((2 : Int32)).toNatClampNeg) := (inb_of Sz58 ⟨by decide, by decide⟩)
    obtain ⟨T58, h58, X58, e58, W58, st58⟩ := stB X25 hx hZ e25 Ar58 (j := (2 : Int32)) in58 (g := (mkF m 102 #[.val (.int p1), .val (.int p2), .val (.long q3), .second, .val (.ref b1), .val (.int (2 : Int32)), .unset, .unset, .unset, .unset] [(.int (((p1.toUInt32 >>> ((24 : Int32) &&& 31).toUInt32).toInt32).toInt8.toInt32)), (.int (2 : Int32)), (.ref b1)])) rfl rfl (hb hby at_102)
    have f59 : Arv Z h58 b1 k1 .byte (8 : Int32) [(.int (nar .byte ((q3.toInt32).toInt8.toInt32))), (.int (nar .byte ((((q3.toUInt64 >>> ((8 : Int32) &&& 0x3f).toInt64.toUInt64).toInt64).toInt32).toInt8.toInt32))), (.int (nar .byte (((p1.toUInt32 >>> ((24 : Int32) &&& 31).toUInt32).toInt32).toInt8.toInt32))), (.int (nar .byte ((((q3.toUInt64 >>> ((24 : Int32) &&& 0x3f).toInt64.toUInt64).toInt64).toInt32).toInt8.toInt32))), (.int (nar .byte ((((q3.toUInt64 >>> ((32 : Int32) &&& 0x3f).toInt64.toUInt64).toInt64).toInt32).toInt8.toInt32))), (.int (nar .byte ((((q3.toUInt64 >>> ((40 : Int32) &&& 0x3f).toInt64.toUInt64).toInt64).toInt32).toInt8.toInt32))), (.int (nar .byte ((((q3.toUInt64 >>> ((48 : Int32) &&& 0x3f).toInt64.toUInt64).toInt64).toInt32).toInt8.toInt32))), (.int (nar .byte ((((q3.toUInt64 >>> ((56 : Int32) &&& 0x3f).toInt64.toUInt64).toInt64).toInt32).toInt8.toInt32)))] (.int (0 : Int32)) := Arv.set Ar58 qq58 Sz58 Ng58 Hs58 Ft58 (fits_nar_byte _) W58 2 rfl (Nat.le_of_ble_eq_true rfl)
    have N60 := Fr.snoc X58 N27 g4
    refine Go.step (fun _ k => st58 _ (XS.aload X58.here hx rfl (hb hby at_103) rfl rfl (XS.iload X58.here hx rfl (hb hby at_105) rfl (XS.iconst X58.here hx rfl (hb hby at_107) (XS.iadd X58.here hx rfl (hb hby at_108) rfl (XS.iloadN X58.here hx rfl (hb hby at_109) rfl (XS.bipush X58.here hx rfl (hb hby at_110) (XS.iushr X58.here hx rfl (hb hby at_112) rfl (XS.i2b X58.here hx rfl (hb hby at_113) rfl k))))))))) ?_
    show Go p e below s _ _ _ T58 (mkF m 114 #[.val (.int p1), .val (.int p2), .val (.long q3), .second, .val (.ref b1), .val (.int (2 : Int32)), .unset, .unset, .unset, .unset] [(.int (((p1.toUInt32 >>> ((16 : Int32) &&& 31).toUInt32).toInt32).toInt8.toInt32)), (.int (3 : Int32)), (.ref b1)])
    obtain ⟨cl61, Ar61, qq61, Sz61, Ng61, Hs61, Ft61⟩ := id f59
    have in61 : ¬ ((3 : Int32) < 0 ∨ cl61.slots.size ≤ ((3 : Int32)).toNatClampNeg) := (inb_of Sz61 ⟨by decide, by decide⟩)
    obtain ⟨T61, h61, X61, e61, W61, st61⟩ := stB X58 hx hZ e58 Ar61 (j := (3 : Int32)) in61 (g := (mkF m 114 #[.val (.int p1), .val (.int p2), .val (.long q3), .second, .val (.ref b1), .val (.int (2 : Int32)), .unset, .unset, .unset, .unset] [(.int (((p1.toUInt32 >>> ((16 : Int32) &&& 31).toUInt32).toInt32).toInt8.toInt32)), (.int (3 : Int32)), (.ref b1)])) rfl rfl (hb hby at_114)
    have f62 : Arv Z h61 b1 k1 .byte (8 : Int32) [(.int (nar .byte ((q3.toInt32).toInt8.toInt32))), (.int (nar .byte ((((q3.toUInt64 >>> ((8 : Int32) &&& 0x3f).toInt64.toUInt64).toInt64).toInt32).toInt8.toInt32))), (.int (nar .byte (((p1.toUInt32 >>> ((24 : Int32) &&& 31).toUInt32).toInt32).toInt8.toInt32))), (.int (nar .byte (((p1.toUInt32 >>> ((16 : Int32) &&& 31).toUInt32).toInt32).toInt8.toInt32))), (.int (nar .byte ((((q3.toUInt64 >>> ((32 : Int32) &&& 0x3f).toInt64.toUInt64).toInt64).toInt32).toInt8.toInt32))), (.int (nar .byte ((((q3.toUInt64 >>> ((40 : Int32) &&& 0x3f).toInt64.toUInt64).toInt64).toInt32).toInt8.toInt32))), (.int (nar .byte ((((q3.toUInt64 >>> ((48 : Int32) &&& 0x3f).toInt64.toUInt64).toInt64).toInt32).toInt8.toInt32))), (.int (nar .byte ((((q3.toUInt64 >>> ((56 : Int32) &&& 0x3f).toInt64.toUInt64).toInt64).toInt32).toInt8.toInt32)))] (.int (0 : Int32)) := Arv.set Ar61 qq61 Sz61 Ng61 Hs61 Ft61 (fits_nar_byte _) W61 3 rfl (Nat.le_of_ble_eq_true rfl)
    have N63 := Fr.snoc X61 N60 g4
    refine Go.step (fun _ k => st61 _ (XS.aload X61.here hx rfl (hb hby at_115) rfl rfl (XS.iload X61.here hx rfl (hb hby at_117) rfl (XS.iconst X61.here hx rfl (hb hby at_119) (XS.iadd X61.here hx rfl (hb hby at_120) rfl (XS.iloadN X61.here hx rfl (hb hby at_121) rfl (XS.bipush X61.here hx rfl (hb hby at_122) (XS.iushr X61.here hx rfl (hb hby at_124) rfl (XS.i2b X61.here hx rfl (hb hby at_125) rfl k))))))))) ?_
    show Go p e below s _ _ _ T61 (mkF m 126 #[.val (.int p1), .val (.int p2), .val (.long q3), .second, .val (.ref b1), .val (.int (2 : Int32)), .unset, .unset, .unset, .unset] [(.int (((p1.toUInt32 >>> ((8 : Int32) &&& 31).toUInt32).toInt32).toInt8.toInt32)), (.int (4 : Int32)), (.ref b1)])
    obtain ⟨cl64, Ar64, qq64, Sz64, Ng64, Hs64, Ft64⟩ := id f62
    have in64 : ¬ ((4 : Int32) < 0 ∨ cl64.slots.size ≤ ((4 : Int32)).toNatClampNeg) := (inb_of Sz64 ⟨by decide, by decide⟩)
    obtain ⟨T64, h64, X64, e64, W64, st64⟩ := stB X61 hx hZ e61 Ar64 (j := (4 : Int32)) in64 (g := (mkF m 126 #[.val (.int p1), .val (.int p2), .val (.long q3), .second, .val (.ref b1), .val (.int (2 : Int32)), .unset, .unset, .unset, .unset] [(.int (((p1.toUInt32 >>> ((8 : Int32) &&& 31).toUInt32).toInt32).toInt8.toInt32)), (.int (4 : Int32)), (.ref b1)])) rfl rfl (hb hby at_126)
    have f65 : Arv Z h64 b1 k1 .byte (8 : Int32) [(.int (nar .byte ((q3.toInt32).toInt8.toInt32))), (.int (nar .byte ((((q3.toUInt64 >>> ((8 : Int32) &&& 0x3f).toInt64.toUInt64).toInt64).toInt32).toInt8.toInt32))), (.int (nar .byte (((p1.toUInt32 >>> ((24 : Int32) &&& 31).toUInt32).toInt32).toInt8.toInt32))), (.int (nar .byte (((p1.toUInt32 >>> ((16 : Int32) &&& 31).toUInt32).toInt32).toInt8.toInt32))), (.int (nar .byte (((p1.toUInt32 >>> ((8 : Int32) &&& 31).toUInt32).toInt32).toInt8.toInt32))), (.int (nar .byte ((((q3.toUInt64 >>> ((40 : Int32) &&& 0x3f).toInt64.toUInt64).toInt64).toInt32).toInt8.toInt32))), (.int (nar .byte ((((q3.toUInt64 >>> ((48 : Int32) &&& 0x3f).toInt64.toUInt64).toInt64).toInt32).toInt8.toInt32))), (.int (nar .byte ((((q3.toUInt64 >>> ((56 : Int32) &&& 0x3f).toInt64.toUInt64).toInt64).toInt32).toInt8.toInt32)))] (.int (0 : Int32)) := Arv.set Ar64 qq64 Sz64 Ng64 Hs64 Ft64 (fits_nar_byte _) W64 4 rfl (Nat.le_of_ble_eq_true rfl)
    have N66 := Fr.snoc X64 N63 g4
    refine Go.step (fun _ k => st64 _ (XS.aload X64.here hx rfl (hb hby at_127) rfl rfl (XS.iload X64.here hx rfl (hb hby at_129) rfl (XS.iconst X64.here hx rfl (hb hby at_131) (XS.iadd X64.here hx rfl (hb hby at_132) rfl (XS.iloadN X64.here hx rfl (hb hby at_133) rfl (XS.i2b X64.here hx rfl (hb hby at_134) rfl k))))))) ?_
    show Go p e below s _ _ _ T64 (mkF m 135 #[.val (.int p1), .val (.int p2), .val (.long q3), .second, .val (.ref b1), .val (.int (2 : Int32)), .unset, .unset, .unset, .unset] [(.int (p1.toInt8.toInt32)), (.int (5 : Int32)), (.ref b1)])
    obtain ⟨cl67, Ar67, qq67, Sz67, Ng67, Hs67, Ft67⟩ := id f65
    have in67 : ¬ ((5 : Int32) < 0 ∨ cl67.slots.size ≤ ((5 : Int32)).toNatClampNeg) := (inb_of Sz67 ⟨by decide, by decide⟩)
    obtain ⟨T67, h67, X67, e67, W67, st67⟩ := stB X64 hx hZ e64 Ar67 (j := (5 : Int32)) in67 (g := (mkF m 135 #[.val (.int p1), .val (.int p2), .val (.long q3), .second, .val (.ref b1), .val (.int (2 : Int32)), .unset, .unset, .unset, .unset] [(.int (p1.toInt8.toInt32)), (.int (5 : Int32)), (.ref b1)])) rfl rfl (hb hby at_135)
    have f68 : Arv Z h67 b1 k1 .byte (8 : Int32) [(.int (nar .byte ((q3.toInt32).toInt8.toInt32))), (.int (nar .byte ((((q3.toUInt64 >>> ((8 : Int32) &&& 0x3f).toInt64.toUInt64).toInt64).toInt32).toInt8.toInt32))), (.int (nar .byte (((p1.toUInt32 >>> ((24 : Int32) &&& 31).toUInt32).toInt32).toInt8.toInt32))), (.int (nar .byte (((p1.toUInt32 >>> ((16 : Int32) &&& 31).toUInt32).toInt32).toInt8.toInt32))), (.int (nar .byte (((p1.toUInt32 >>> ((8 : Int32) &&& 31).toUInt32).toInt32).toInt8.toInt32))), (.int (nar .byte (p1.toInt8.toInt32))), (.int (nar .byte ((((q3.toUInt64 >>> ((48 : Int32) &&& 0x3f).toInt64.toUInt64).toInt64).toInt32).toInt8.toInt32))), (.int (nar .byte ((((q3.toUInt64 >>> ((56 : Int32) &&& 0x3f).toInt64.toUInt64).toInt64).toInt32).toInt8.toInt32)))] (.int (0 : Int32)) := Arv.set Ar67 qq67 Sz67 Ng67 Hs67 Ft67 (fits_nar_byte _) W67 5 rfl (Nat.le_of_ble_eq_true rfl)
    have N69 := Fr.snoc X67 N66 g4
    refine Go.step (fun _ k => st67 _ (XS.iloadN X67.here hx rfl (hb hby at_136) rfl (XS.i2l X67.here hx rfl (hb hby at_137) rfl (X67.ldc2Long hx hown (mvT hZ (tw2 hw)) (g := (mkF m 138 #[.val (.int p1), .val (.int p2), .val (.long q3), .second, .val (.ref b1), .val (.int (2 : Int32)), .unset, .unset, .unset, .unset] [(.long (p1.toInt64))])) rfl (hb hby at_138) _ (XS.land X67.here hx rfl (hb hby at_141) rfl (XS.lstore X67.here hx rfl (hb hby at_142) rfl (l' := #[.val (.int p1), .val (.int p2), .val (.long q3), .second, .val (.ref b1), .val (.int (2 : Int32)), .val (.long ((p1.toInt64) &&& (4294967295 : Int64))), .second, .unset, .unset]) rfl (XS.aload X67.here hx rfl (hb hby at_144) rfl rfl (XS.iload X67.here hx rfl (hb hby at_146) rfl k)))))))) ?_
    show Go p e below s _ _ _ T67 (mkF m 148 #[.val (.int p1), .val (.int p2), .val (.long q3), .second, .val (.ref b1), .val (.int (2 : Int32)), .val (.long ((p1.toInt64) &&& (4294967295 : Int64))), .second, .unset, .unset] [(.int (2 : Int32)), (.ref b1)])
    have f70 := (Nat.le_trans (Nat.le_trans (Nat.le_trans (Nat.le_trans (Nat.le_trans (Nat.le_trans (Nat.le_trans (Nat.le_trans (Nat.le_trans (Nat.le_trans (Nat.le_trans (Nat.le_trans (Nat.le_trans Z0 E1.1) (Keep.of_wr W3).1) (Keep.of_wr W7).1) (Keep.of_wr W10).1) (Keep.of_wr W13).1) (Keep.of_wr W16).1) (Keep.of_wr W19).1) (Keep.of_wr W22).1) (Keep.of_wr W25).1) (Keep.of_wr W58).1) (Keep.of_wr W61).1) (Keep.of_wr W64).1) (Keep.of_wr W67).1)
    obtain ⟨_, _, ⟨T71, L71, k71, n71⟩, -, X71, ⟨Lc71, hQ71, l71, y71, z71⟩, st71⟩ := Jvm.LawKit.callS X67 hx (y := xm0) hown (mvT hZ (tw3 hw)) (mvT hZ (tw4 hw)) (mvT hZ (tw5 hw)) (mvT hZ (tw6 hw)) (by decide) (backOf (W := 0) (rm_ui l Z a0 hw [] b1 (2 : Int32) k1 (8 : Int32) ([(.int (nar .byte ((q3.toInt32).toInt8.toInt32))), (.int (nar .byte ((((q3.toUInt64 >>> ((8 : Int32) &&& 0x3f).toInt64.toUInt64).toInt64).toInt32).toInt8.toInt32))), (.int (nar .byte (((p1.toUInt32 >>> ((24 : Int32) &&& 31).toUInt32).toInt32).toInt8.toInt32))), (.int (nar .byte (((p1.toUInt32 >>> ((16 : Int32) &&& 31).toUInt32).toInt32).toInt8.toInt32))), (.int (nar .byte (((p1.toUInt32 >>> ((8 : Int32) &&& 31).toUInt32).toInt32).toInt8.toInt32))), (.int (nar .byte (p1.toInt8.toInt32))), (.int (nar .byte ((((q3.toUInt64 >>> ((48 : Int32) &&& 0x3f).toInt64.toUInt64).toInt64).toInt32).toInt8.toInt32))), (.int (nar .byte ((((q3.toUInt64 >>> ((56 : Int32) &&& 0x3f).toInt64.toUInt64).toInt64).toInt32).toInt8.toInt32)))]) (.int (0 : Int32)) (nar .byte (((p1.toUInt32 >>> ((24 : Int32) &&& 31).toUInt32).toInt32).toInt8.toInt32)) (nar .byte (((p1.toUInt32 >>> ((16 : Int32) &&& 31).toUInt32).toInt32).toInt8.toInt32)) (nar .byte (((p1.toUInt32 >>> ((8 : Int32) &&& 31).toUInt32).toInt32).toInt8.toInt32)) (nar .byte (p1.toInt8.toInt32)) h67 n0 f70 f68 (⟨by decide, by decide⟩) rfl (⟨by decide, by decide⟩) rfl (⟨by decide, by decide⟩) rfl (⟨by decide, by decide⟩) rfl) hZ (tw6 hw) (tw5 hw) (by decide) (by decide)) (g := (mkF m 148 #[.val (.int p1), .val (.int p2), .val (.long q3), .second, .val (.ref b1), .val (.int (2 : Int32)), .val (.long ((p1.toInt64) &&& (4294967295 : Int64))), .second, .unset, .unset] [(.int (2 : Int32)), (.ref b1)])) rfl (by rw [hml]; rfl) (argsL := [(.ref b1), (.int (2 : Int32))]) (rest := []) (lenOf pd_0 rfl) rfl (by show 2 * 0 + _ ≤ _; exact Nat.le_of_eq rfl) (hb hby at_148) (fun _ _ => ⟨rfl, e67, (by decide : 1 + 0 ≤ _), (by decide : 8 + 0 ≤ _)⟩)
    dsimp only [Pt.U, Pt.locs, Pt.cells, Pt.slots] at X71 l71 y71 z71 st71 hQ71
    subst l71 y71 z71
    obtain ⟨rfl, N71q, eq71⟩ := hQ71
    have N72 := Fr.app N69 N71q
    refine Go.step (fun _ k => st71 _ k) ?_
    show Go p e below s _ _ _ T71 (mkF m 151 #[.val (.int p1), .val (.int p2), .val (.long q3), .second, .val (.ref b1), .val (.int (2 : Int32)), .val (.long ((p1.toInt64) &&& (4294967295 : Int64))), .second, .unset, .unset] [(.long (own_ui (nar .byte (((p1.toUInt32 >>> ((24 : Int32) &&& 31).toUInt32).toInt32).toInt8.toInt32)) (nar .byte (((p1.toUInt32 >>> ((16 : Int32) &&& 31).toUInt32).toInt32).toInt8.toInt32)) (nar .byte (((p1.toUInt32 >>> ((8 : Int32) &&& 31).toUInt32).toInt32).toInt8.toInt32)) (nar .byte (p1.toInt8.toInt32))))])
    rw [show (own_ui (nar .byte (((p1.toUInt32 >>> ((24 : Int32) &&& 31).toUInt32).toInt32).toInt8.toInt32)) (nar .byte (((p1.toUInt32 >>> ((16 : Int32) &&& 31).toUInt32).toInt32).toInt8.toInt32)) (nar .byte (((p1.toUInt32 >>> ((8 : Int32) &&& 31).toUInt32).toInt32).toInt8.toInt32)) (nar .byte (p1.toInt8.toInt32))) = (p1.toInt64 &&& (4294967295 : Int64)) from own_u p1]
    refine Go.step (fun _ k => XS.lstore X71.here hx rfl (hb hby at_151) rfl (l' := #[.val (.int p1), .val (.int p2), .val (.long q3), .second, .val (.ref b1), .val (.int (2 : Int32)), .val (.long ((p1.toInt64) &&& (4294967295 : Int64))), .second, .val (.long (p1.toInt64 &&& (4294967295 : Int64))), .second]) rfl (XS.lload X71.here hx rfl (hb hby at_153) rfl (XS.lload X71.here hx rfl (hb hby at_155) rfl (XS.lcmp X71.here hx rfl (hb hby at_157) rfl (XS.ifNo X71.here hx rfl (hb hby at_158) rfl ((if0 _ _).trans (teq ((lw_eq _ _).mpr rfl)).2) (XS.lload X71.here hx rfl (hb hby at_161) rfl (XS.lconst X71.here hx rfl (hb hby at_163) (XS.lcmp X71.here hx rfl (hb hby at_164) rfl (XS.ifNo X71.here hx rfl (hb hby at_165) rfl ((if0 _ _).trans (flt (own_lo p1)).1) (XS.lload X71.here hx rfl (hb hby at_168) rfl k)))))))))) ?_
    show Go p e below s _ _ _ T71 (mkF m 170 #[.val (.int p1), .val (.int p2), .val (.long q3), .second, .val (.ref b1), .val (.int (2 : Int32)), .val (.long ((p1.toInt64) &&& (4294967295 : Int64))), .second, .val (.long (p1.toInt64 &&& (4294967295 : Int64))), .second] [(.long (p1.toInt64 &&& (4294967295 : Int64)))])
    refine Go.step (fun _ k => X71.ldc2Long hx hown (mvT hZ (tw2 hw)) (g := (mkF m 170 #[.val (.int p1), .val (.int p2), .val (.long q3), .second, .val (.ref b1), .val (.int (2 : Int32)), .val (.long ((p1.toInt64) &&& (4294967295 : Int64))), .second, .val (.long (p1.toInt64 &&& (4294967295 : Int64))), .second] [(.long (p1.toInt64 &&& (4294967295 : Int64)))])) rfl (hb hby at_170) _ (XS.lcmp X71.here hx rfl (hb hby at_173) rfl (XS.ifNo X71.here hx rfl (hb hby at_174) rfl ((if0 _ _).trans (flt (own_hi p1)).2.2.1) (XS.iconst X71.here hx rfl (hb hby at_177) (XS.goto X71.here hx rfl (pc0 := 178) (pc' := 182) rfl (hb hby at_178) (by decide) (by decide) k))))) ?_
    show Go p e below s _ _ _ T71 (mkF m 182 #[.val (.int p1), .val (.int p2), .val (.long q3), .second, .val (.ref b1), .val (.int (2 : Int32)), .val (.long ((p1.toInt64) &&& (4294967295 : Int64))), .second, .val (.long (p1.toInt64 &&& (4294967295 : Int64))), .second] [(.int (1 : Int32))])
    exact Go.retN X71 hx hlk (t := .boolean) Bd.returns (by simp) (hb hby at_182) eq71 ⟨rfl, N72⟩ (by decide) (by decide)
  · rw [ho]
    refine Go.step (fun _ k => XS.istore X25.here hx rfl (hb hby at_91) rfl (l' := #[.val (.int p1), .val (.int p2), .val (.long q3), .second, .val (.ref b1), .val (.int (3 : Int32)), .unset, .unset, .unset, .unset]) rfl (XS.aload X25.here hx rfl (hb hby at_93) rfl rfl (XS.iload X25.here hx rfl (hb hby at_95) rfl (XS.iloadN X25.here hx rfl (hb hby at_97) rfl (XS.bipush X25.here hx rfl (hb hby at_98) (XS.iushr X25.here hx rfl (hb hby at_100) rfl (XS.i2b X25.here hx rfl (hb hby at_101) rfl k))))))) ?_
    show Go p e below s _ _ _ T25 (mkF m 102 #[.val (.int p1), .val (.int p2), .val (.long q3), .second, .val (.ref b1), .val (.int (3 : Int32)), .unset, .unset, .unset, .unset] [(.int (((p1.toUInt32 >>> ((24 : Int32) &&& 31).toUInt32).toInt32).toInt8.toInt32)), (.int (3 : Int32)), (.ref b1)])
    obtain ⟨cl73, Ar73, qq73, Sz73, Ng73, Hs73, Ft73⟩ := id f26
    have in73 : ¬ ((3 : Int32) < 0 ∨ cl73.slots.size ≤ ((3 : Int32)).toNatClampNeg) := (inb_of Sz73 ⟨by decide, by decide⟩)
    obtain ⟨T73, h73, X73, e73, W73, st73⟩ := stB X25 hx hZ e25 Ar73 (j := (3 : Int32)) in73 (g := (mkF m 102 #[.val (.int p1), .val (.int p2), .val (.long q3), .second, .val (.ref b1), .val (.int (3 : Int32)), .unset, .unset, .unset, .unset] [(.int (((p1.toUInt32 >>> ((24 : Int32) &&& 31).toUInt32).toInt32).toInt8.toInt32)), (.int (3 : Int32)), (.ref b1)])) rfl rfl (hb hby at_102)
    have f74 : Arv Z h73 b1 k1 .byte (8 : Int32) [(.int (nar .byte ((q3.toInt32).toInt8.toInt32))), (.int (nar .byte ((((q3.toUInt64 >>> ((8 : Int32) &&& 0x3f).toInt64.toUInt64).toInt64).toInt32).toInt8.toInt32))), (.int (nar .byte ((((q3.toUInt64 >>> ((16 : Int32) &&& 0x3f).toInt64.toUInt64).toInt64).toInt32).toInt8.toInt32))), (.int (nar .byte (((p1.toUInt32 >>> ((24 : Int32) &&& 31).toUInt32).toInt32).toInt8.toInt32))), (.int (nar .byte ((((q3.toUInt64 >>> ((32 : Int32) &&& 0x3f).toInt64.toUInt64).toInt64).toInt32).toInt8.toInt32))), (.int (nar .byte ((((q3.toUInt64 >>> ((40 : Int32) &&& 0x3f).toInt64.toUInt64).toInt64).toInt32).toInt8.toInt32))), (.int (nar .byte ((((q3.toUInt64 >>> ((48 : Int32) &&& 0x3f).toInt64.toUInt64).toInt64).toInt32).toInt8.toInt32))), (.int (nar .byte ((((q3.toUInt64 >>> ((56 : Int32) &&& 0x3f).toInt64.toUInt64).toInt64).toInt32).toInt8.toInt32)))] (.int (0 : Int32)) := Arv.set Ar73 qq73 Sz73 Ng73 Hs73 Ft73 (fits_nar_byte _) W73 3 rfl (Nat.le_of_ble_eq_true rfl)
    have N75 := Fr.snoc X73 N27 g4
    refine Go.step (fun _ k => st73 _ (XS.aload X73.here hx rfl (hb hby at_103) rfl rfl (XS.iload X73.here hx rfl (hb hby at_105) rfl (XS.iconst X73.here hx rfl (hb hby at_107) (XS.iadd X73.here hx rfl (hb hby at_108) rfl (XS.iloadN X73.here hx rfl (hb hby at_109) rfl (XS.bipush X73.here hx rfl (hb hby at_110) (XS.iushr X73.here hx rfl (hb hby at_112) rfl (XS.i2b X73.here hx rfl (hb hby at_113) rfl k))))))))) ?_
    show Go p e below s _ _ _ T73 (mkF m 114 #[.val (.int p1), .val (.int p2), .val (.long q3), .second, .val (.ref b1), .val (.int (3 : Int32)), .unset, .unset, .unset, .unset] [(.int (((p1.toUInt32 >>> ((16 : Int32) &&& 31).toUInt32).toInt32).toInt8.toInt32)), (.int (4 : Int32)), (.ref b1)])
    obtain ⟨cl76, Ar76, qq76, Sz76, Ng76, Hs76, Ft76⟩ := id f74
    have in76 : ¬ ((4 : Int32) < 0 ∨ cl76.slots.size ≤ ((4 : Int32)).toNatClampNeg) := (inb_of Sz76 ⟨by decide, by decide⟩)
    obtain ⟨T76, h76, X76, e76, W76, st76⟩ := stB X73 hx hZ e73 Ar76 (j := (4 : Int32)) in76 (g := (mkF m 114 #[.val (.int p1), .val (.int p2), .val (.long q3), .second, .val (.ref b1), .val (.int (3 : Int32)), .unset, .unset, .unset, .unset] [(.int (((p1.toUInt32 >>> ((16 : Int32) &&& 31).toUInt32).toInt32).toInt8.toInt32)), (.int (4 : Int32)), (.ref b1)])) rfl rfl (hb hby at_114)
    have f77 : Arv Z h76 b1 k1 .byte (8 : Int32) [(.int (nar .byte ((q3.toInt32).toInt8.toInt32))), (.int (nar .byte ((((q3.toUInt64 >>> ((8 : Int32) &&& 0x3f).toInt64.toUInt64).toInt64).toInt32).toInt8.toInt32))), (.int (nar .byte ((((q3.toUInt64 >>> ((16 : Int32) &&& 0x3f).toInt64.toUInt64).toInt64).toInt32).toInt8.toInt32))), (.int (nar .byte (((p1.toUInt32 >>> ((24 : Int32) &&& 31).toUInt32).toInt32).toInt8.toInt32))), (.int (nar .byte (((p1.toUInt32 >>> ((16 : Int32) &&& 31).toUInt32).toInt32).toInt8.toInt32))), (.int (nar .byte ((((q3.toUInt64 >>> ((40 : Int32) &&& 0x3f).toInt64.toUInt64).toInt64).toInt32).toInt8.toInt32))), (.int (nar .byte ((((q3.toUInt64 >>> ((48 : Int32) &&& 0x3f).toInt64.toUInt64).toInt64).toInt32).toInt8.toInt32))), (.int (nar .byte ((((q3.toUInt64 >>> ((56 : Int32) &&& 0x3f).toInt64.toUInt64).toInt64).toInt32).toInt8.toInt32)))] (.int (0 : Int32)) := Arv.set Ar76 qq76 Sz76 Ng76 Hs76 Ft76 (fits_nar_byte _) W76 4 rfl (Nat.le_of_ble_eq_true rfl)
    have N78 := Fr.snoc X76 N75 g4
    refine Go.step (fun _ k => st76 _ (XS.aload X76.here hx rfl (hb hby at_115) rfl rfl (XS.iload X76.here hx rfl (hb hby at_117) rfl (XS.iconst X76.here hx rfl (hb hby at_119) (XS.iadd X76.here hx rfl (hb hby at_120) rfl (XS.iloadN X76.here hx rfl (hb hby at_121) rfl (XS.bipush X76.here hx rfl (hb hby at_122) (XS.iushr X76.here hx rfl (hb hby at_124) rfl (XS.i2b X76.here hx rfl (hb hby at_125) rfl k))))))))) ?_
    show Go p e below s _ _ _ T76 (mkF m 126 #[.val (.int p1), .val (.int p2), .val (.long q3), .second, .val (.ref b1), .val (.int (3 : Int32)), .unset, .unset, .unset, .unset] [(.int (((p1.toUInt32 >>> ((8 : Int32) &&& 31).toUInt32).toInt32).toInt8.toInt32)), (.int (5 : Int32)), (.ref b1)])
    obtain ⟨cl79, Ar79, qq79, Sz79, Ng79, Hs79, Ft79⟩ := id f77
    have in79 : ¬ ((5 : Int32) < 0 ∨ cl79.slots.size ≤ ((5 : Int32)).toNatClampNeg) := (inb_of Sz79 ⟨by decide, by decide⟩)
    obtain ⟨T79, h79, X79, e79, W79, st79⟩ := stB X76 hx hZ e76 Ar79 (j := (5 : Int32)) in79 (g := (mkF m 126 #[.val (.int p1), .val (.int p2), .val (.long q3), .second, .val (.ref b1), .val (.int (3 : Int32)), .unset, .unset, .unset, .unset] [(.int (((p1.toUInt32 >>> ((8 : Int32) &&& 31).toUInt32).toInt32).toInt8.toInt32)), (.int (5 : Int32)), (.ref b1)])) rfl rfl (hb hby at_126)
    have f80 : Arv Z h79 b1 k1 .byte (8 : Int32) [(.int (nar .byte ((q3.toInt32).toInt8.toInt32))), (.int (nar .byte ((((q3.toUInt64 >>> ((8 : Int32) &&& 0x3f).toInt64.toUInt64).toInt64).toInt32).toInt8.toInt32))), (.int (nar .byte ((((q3.toUInt64 >>> ((16 : Int32) &&& 0x3f).toInt64.toUInt64).toInt64).toInt32).toInt8.toInt32))), (.int (nar .byte (((p1.toUInt32 >>> ((24 : Int32) &&& 31).toUInt32).toInt32).toInt8.toInt32))), (.int (nar .byte (((p1.toUInt32 >>> ((16 : Int32) &&& 31).toUInt32).toInt32).toInt8.toInt32))), (.int (nar .byte (((p1.toUInt32 >>> ((8 : Int32) &&& 31).toUInt32).toInt32).toInt8.toInt32))), (.int (nar .byte ((((q3.toUInt64 >>> ((48 : Int32) &&& 0x3f).toInt64.toUInt64).toInt64).toInt32).toInt8.toInt32))), (.int (nar .byte ((((q3.toUInt64 >>> ((56 : Int32) &&& 0x3f).toInt64.toUInt64).toInt64).toInt32).toInt8.toInt32)))] (.int (0 : Int32)) := Arv.set Ar79 qq79 Sz79 Ng79 Hs79 Ft79 (fits_nar_byte _) W79 5 rfl (Nat.le_of_ble_eq_true rfl)
    have N81 := Fr.snoc X79 N78 g4
    refine Go.step (fun _ k => st79 _ (XS.aload X79.here hx rfl (hb hby at_127) rfl rfl (XS.iload X79.here hx rfl (hb hby at_129) rfl (XS.iconst X79.here hx rfl (hb hby at_131) (XS.iadd X79.here hx rfl (hb hby at_132) rfl (XS.iloadN X79.here hx rfl (hb hby at_133) rfl (XS.i2b X79.here hx rfl (hb hby at_134) rfl k))))))) ?_
    show Go p e below s _ _ _ T79 (mkF m 135 #[.val (.int p1), .val (.int p2), .val (.long q3), .second, .val (.ref b1), .val (.int (3 : Int32)), .unset, .unset, .unset, .unset] [(.int (p1.toInt8.toInt32)), (.int (6 : Int32)), (.ref b1)])
    obtain ⟨cl82, Ar82, qq82, Sz82, Ng82, Hs82, Ft82⟩ := id f80
    have in82 : ¬ ((6 : Int32) < 0 ∨ cl82.slots.size ≤ ((6 : Int32)).toNatClampNeg) := (inb_of Sz82 ⟨by decide, by decide⟩)
    obtain ⟨T82, h82, X82, e82, W82, st82⟩ := stB X79 hx hZ e79 Ar82 (j := (6 : Int32)) in82 (g := (mkF m 135 #[.val (.int p1), .val (.int p2), .val (.long q3), .second, .val (.ref b1), .val (.int (3 : Int32)), .unset, .unset, .unset, .unset] [(.int (p1.toInt8.toInt32)), (.int (6 : Int32)), (.ref b1)])) rfl rfl (hb hby at_135)
    have f83 : Arv Z h82 b1 k1 .byte (8 : Int32) [(.int (nar .byte ((q3.toInt32).toInt8.toInt32))), (.int (nar .byte ((((q3.toUInt64 >>> ((8 : Int32) &&& 0x3f).toInt64.toUInt64).toInt64).toInt32).toInt8.toInt32))), (.int (nar .byte ((((q3.toUInt64 >>> ((16 : Int32) &&& 0x3f).toInt64.toUInt64).toInt64).toInt32).toInt8.toInt32))), (.int (nar .byte (((p1.toUInt32 >>> ((24 : Int32) &&& 31).toUInt32).toInt32).toInt8.toInt32))), (.int (nar .byte (((p1.toUInt32 >>> ((16 : Int32) &&& 31).toUInt32).toInt32).toInt8.toInt32))), (.int (nar .byte (((p1.toUInt32 >>> ((8 : Int32) &&& 31).toUInt32).toInt32).toInt8.toInt32))), (.int (nar .byte (p1.toInt8.toInt32))), (.int (nar .byte ((((q3.toUInt64 >>> ((56 : Int32) &&& 0x3f).toInt64.toUInt64).toInt64).toInt32).toInt8.toInt32)))] (.int (0 : Int32)) := Arv.set Ar82 qq82 Sz82 Ng82 Hs82 Ft82 (fits_nar_byte _) W82 6 rfl (Nat.le_of_ble_eq_true rfl)
    have N84 := Fr.snoc X82 N81 g4
    refine Go.step (fun _ k => st82 _ (XS.iloadN X82.here hx rfl (hb hby at_136) rfl (XS.i2l X82.here hx rfl (hb hby at_137) rfl (X82.ldc2Long hx hown (mvT hZ (tw2 hw)) (g := (mkF m 138 #[.val (.int p1), .val (.int p2), .val (.long q3), .second, .val (.ref b1), .val (.int (3 : Int32)), .unset, .unset, .unset, .unset] [(.long (p1.toInt64))])) rfl (hb hby at_138) _ (XS.land X82.here hx rfl (hb hby at_141) rfl (XS.lstore X82.here hx rfl (hb hby at_142) rfl (l' := #[.val (.int p1), .val (.int p2), .val (.long q3), .second, .val (.ref b1), .val (.int (3 : Int32)), .val (.long ((p1.toInt64) &&& (4294967295 : Int64))), .second, .unset, .unset]) rfl (XS.aload X82.here hx rfl (hb hby at_144) rfl rfl (XS.iload X82.here hx rfl (hb hby at_146) rfl k)))))))) ?_
    show Go p e below s _ _ _ T82 (mkF m 148 #[.val (.int p1), .val (.int p2), .val (.long q3), .second, .val (.ref b1), .val (.int (3 : Int32)), .val (.long ((p1.toInt64) &&& (4294967295 : Int64))), .second, .unset, .unset] [(.int (3 : Int32)), (.ref b1)])
    have f85 := (Nat.le_trans (Nat.le_trans (Nat.le_trans (Nat.le_trans (Nat.le_trans (Nat.le_trans (Nat.le_trans (Nat.le_trans (Nat.le_trans (Nat.le_trans (Nat.le_trans (Nat.le_trans (Nat.le_trans Z0 E1.1) (Keep.of_wr W3).1) (Keep.of_wr W7).1) (Keep.of_wr W10).1) (Keep.of_wr W13).1) (Keep.of_wr W16).1) (Keep.of_wr W19).1) (Keep.of_wr W22).1) (Keep.of_wr W25).1) (Keep.of_wr W73).1) (Keep.of_wr W76).1) (Keep.of_wr W79).1) (Keep.of_wr W82).1)
    obtain ⟨_, _, ⟨T86, L86, k86, n86⟩, -, X86, ⟨Lc86, hQ86, l86, y86, z86⟩, st86⟩ := Jvm.LawKit.callS X82 hx (y := xm0) hown (mvT hZ (tw3 hw)) (mvT hZ (tw4 hw)) (mvT hZ (tw5 hw)) (mvT hZ (tw6 hw)) (by decide) (backOf (W := 0) (rm_ui l Z a0 hw [] b1 (3 : Int32) k1 (8 : Int32) ([(.int (nar .byte ((q3.toInt32).toInt8.toInt32))), (.int (nar .byte ((((q3.toUInt64 >>> ((8 : Int32) &&& 0x3f).toInt64.toUInt64).toInt64).toInt32).toInt8.toInt32))), (.int (nar .byte ((((q3.toUInt64 >>> ((16 : Int32) &&& 0x3f).toInt64.toUInt64).toInt64).toInt32).toInt8.toInt32))), (.int (nar .byte (((p1.toUInt32 >>> ((24 : Int32) &&& 31).toUInt32).toInt32).toInt8.toInt32))), (.int (nar .byte (((p1.toUInt32 >>> ((16 : Int32) &&& 31).toUInt32).toInt32).toInt8.toInt32))), (.int (nar .byte (((p1.toUInt32 >>> ((8 : Int32) &&& 31).toUInt32).toInt32).toInt8.toInt32))), (.int (nar .byte (p1.toInt8.toInt32))), (.int (nar .byte ((((q3.toUInt64 >>> ((56 : Int32) &&& 0x3f).toInt64.toUInt64).toInt64).toInt32).toInt8.toInt32)))]) (.int (0 : Int32)) (nar .byte (((p1.toUInt32 >>> ((24 : Int32) &&& 31).toUInt32).toInt32).toInt8.toInt32)) (nar .byte (((p1.toUInt32 >>> ((16 : Int32) &&& 31).toUInt32).toInt32).toInt8.toInt32)) (nar .byte (((p1.toUInt32 >>> ((8 : Int32) &&& 31).toUInt32).toInt32).toInt8.toInt32)) (nar .byte (p1.toInt8.toInt32)) h82 n0 f85 f83 (⟨by decide, by decide⟩) rfl (⟨by decide, by decide⟩) rfl (⟨by decide, by decide⟩) rfl (⟨by decide, by decide⟩) rfl) hZ (tw6 hw) (tw5 hw) (by decide) (by decide)) (g := (mkF m 148 #[.val (.int p1), .val (.int p2), .val (.long q3), .second, .val (.ref b1), .val (.int (3 : Int32)), .val (.long ((p1.toInt64) &&& (4294967295 : Int64))), .second, .unset, .unset] [(.int (3 : Int32)), (.ref b1)])) rfl (by rw [hml]; rfl) (argsL := [(.ref b1), (.int (3 : Int32))]) (rest := []) (lenOf pd_0 rfl) rfl (by show 2 * 0 + _ ≤ _; exact Nat.le_of_eq rfl) (hb hby at_148) (fun _ _ => ⟨rfl, e82, (by decide : 1 + 0 ≤ _), (by decide : 8 + 0 ≤ _)⟩)
    dsimp only [Pt.U, Pt.locs, Pt.cells, Pt.slots] at X86 l86 y86 z86 st86 hQ86
    subst l86 y86 z86
    obtain ⟨rfl, N86q, eq86⟩ := hQ86
    have N87 := Fr.app N84 N86q
    refine Go.step (fun _ k => st86 _ k) ?_
    show Go p e below s _ _ _ T86 (mkF m 151 #[.val (.int p1), .val (.int p2), .val (.long q3), .second, .val (.ref b1), .val (.int (3 : Int32)), .val (.long ((p1.toInt64) &&& (4294967295 : Int64))), .second, .unset, .unset] [(.long (own_ui (nar .byte (((p1.toUInt32 >>> ((24 : Int32) &&& 31).toUInt32).toInt32).toInt8.toInt32)) (nar .byte (((p1.toUInt32 >>> ((16 : Int32) &&& 31).toUInt32).toInt32).toInt8.toInt32)) (nar .byte (((p1.toUInt32 >>> ((8 : Int32) &&& 31).toUInt32).toInt32).toInt8.toInt32)) (nar .byte (p1.toInt8.toInt32))))])
    rw [show (own_ui (nar .byte (((p1.toUInt32 >>> ((24 : Int32) &&& 31).toUInt32).toInt32).toInt8.toInt32)) (nar .byte (((p1.toUInt32 >>> ((16 : Int32) &&& 31).toUInt32).toInt32).toInt8.toInt32)) (nar .byte (((p1.toUInt32 >>> ((8 : Int32) &&& 31).toUInt32).toInt32).toInt8.toInt32)) (nar .byte (p1.toInt8.toInt32))) = (p1.toInt64 &&& (4294967295 : Int64)) from own_u p1]
    refine Go.step (fun _ k => XS.lstore X86.here hx rfl (hb hby at_151) rfl (l' := #[.val (.int p1), .val (.int p2), .val (.long q3), .second, .val (.ref b1), .val (.int (3 : Int32)), .val (.long ((p1.toInt64) &&& (4294967295 : Int64))), .second, .val (.long (p1.toInt64 &&& (4294967295 : Int64))), .second]) rfl (XS.lload X86.here hx rfl (hb hby at_153) rfl (XS.lload X86.here hx rfl (hb hby at_155) rfl (XS.lcmp X86.here hx rfl (hb hby at_157) rfl (XS.ifNo X86.here hx rfl (hb hby at_158) rfl ((if0 _ _).trans (teq ((lw_eq _ _).mpr rfl)).2) (XS.lload X86.here hx rfl (hb hby at_161) rfl (XS.lconst X86.here hx rfl (hb hby at_163) (XS.lcmp X86.here hx rfl (hb hby at_164) rfl (XS.ifNo X86.here hx rfl (hb hby at_165) rfl ((if0 _ _).trans (flt (own_lo p1)).1) (XS.lload X86.here hx rfl (hb hby at_168) rfl k)))))))))) ?_
    show Go p e below s _ _ _ T86 (mkF m 170 #[.val (.int p1), .val (.int p2), .val (.long q3), .second, .val (.ref b1), .val (.int (3 : Int32)), .val (.long ((p1.toInt64) &&& (4294967295 : Int64))), .second, .val (.long (p1.toInt64 &&& (4294967295 : Int64))), .second] [(.long (p1.toInt64 &&& (4294967295 : Int64)))])
    refine Go.step (fun _ k => X86.ldc2Long hx hown (mvT hZ (tw2 hw)) (g := (mkF m 170 #[.val (.int p1), .val (.int p2), .val (.long q3), .second, .val (.ref b1), .val (.int (3 : Int32)), .val (.long ((p1.toInt64) &&& (4294967295 : Int64))), .second, .val (.long (p1.toInt64 &&& (4294967295 : Int64))), .second] [(.long (p1.toInt64 &&& (4294967295 : Int64)))])) rfl (hb hby at_170) _ (XS.lcmp X86.here hx rfl (hb hby at_173) rfl (XS.ifNo X86.here hx rfl (hb hby at_174) rfl ((if0 _ _).trans (flt (own_hi p1)).2.2.1) (XS.iconst X86.here hx rfl (hb hby at_177) (XS.goto X86.here hx rfl (pc0 := 178) (pc' := 182) rfl (hb hby at_178) (by decide) (by decide) k))))) ?_
    show Go p e below s _ _ _ T86 (mkF m 182 #[.val (.int p1), .val (.int p2), .val (.long q3), .second, .val (.ref b1), .val (.int (3 : Int32)), .val (.long ((p1.toInt64) &&& (4294967295 : Int64))), .second, .val (.long (p1.toInt64 &&& (4294967295 : Int64))), .second] [(.int (1 : Int32))])
    exact Go.retN X86 hx hlk (t := .boolean) Bd.returns (by simp) (hb hby at_182) eq86 ⟨rfl, N87⟩ (by decide) (by decide)
  · rw [ho]
    refine Go.step (fun _ k => XS.istore X25.here hx rfl (hb hby at_91) rfl (l' := #[.val (.int p1), .val (.int p2), .val (.long q3), .second, .val (.ref b1), .val (.int (4 : Int32)), .unset, .unset, .unset, .unset]) rfl (XS.aload X25.here hx rfl (hb hby at_93) rfl rfl (XS.iload X25.here hx rfl (hb hby at_95) rfl (XS.iloadN X25.here hx rfl (hb hby at_97) rfl (XS.bipush X25.here hx rfl (hb hby at_98) (XS.iushr X25.here hx rfl (hb hby at_100) rfl (XS.i2b X25.here hx rfl (hb hby at_101) rfl k))))))) ?_
    show Go p e below s _ _ _ T25 (mkF m 102 #[.val (.int p1), .val (.int p2), .val (.long q3), .second, .val (.ref b1), .val (.int (4 : Int32)), .unset, .unset, .unset, .unset] [(.int (((p1.toUInt32 >>> ((24 : Int32) &&& 31).toUInt32).toInt32).toInt8.toInt32)), (.int (4 : Int32)), (.ref b1)])
    obtain ⟨cl88, Ar88, qq88, Sz88, Ng88, Hs88, Ft88⟩ := id f26
    have in88 : ¬ ((4 : Int32) < 0 ∨ cl88.slots.size ≤ ((4 : Int32)).toNatClampNeg) := (inb_of Sz88 ⟨by decide, by decide⟩)
    obtain ⟨T88, h88, X88, e88, W88, st88⟩ := stB X25 hx hZ e25 Ar88 (j := (4 : Int32)) in88 (g := (mkF m 102 #[.val (.int p1), .val (.int p2), .val (.long q3), .second, .val (.ref b1), .val (.int (4 : Int32)), .unset, .unset, .unset, .unset] [(.int (((p1.toUInt32 >>> ((24 : Int32) &&& 31).toUInt32).toInt32).toInt8.toInt32)), (.int (4 : Int32)), (.ref b1)])) rfl rfl (hb hby at_102)
    have f89 : Arv Z h88 b1 k1 .byte (8 : Int32) [(.int (nar .byte ((q3.toInt32).toInt8.toInt32))), (.int (nar .byte ((((q3.toUInt64 >>> ((8 : Int32) &&& 0x3f).toInt64.toUInt64).toInt64).toInt32).toInt8.toInt32))), (.int (nar .byte ((((q3.toUInt64 >>> ((16 : Int32) &&& 0x3f).toInt64.toUInt64).toInt64).toInt32).toInt8.toInt32))), (.int (nar .byte ((((q3.toUInt64 >>> ((24 : Int32) &&& 0x3f).toInt64.toUInt64).toInt64).toInt32).toInt8.toInt32))), (.int (nar .byte (((p1.toUInt32 >>> ((24 : Int32) &&& 31).toUInt32).toInt32).toInt8.toInt32))), (.int (nar .byte ((((q3.toUInt64 >>> ((40 : Int32) &&& 0x3f).toInt64.toUInt64).toInt64).toInt32).toInt8.toInt32))), (.int (nar .byte ((((q3.toUInt64 >>> ((48 : Int32) &&& 0x3f).toInt64.toUInt64).toInt64).toInt32).toInt8.toInt32))), (.int (nar .byte ((((q3.toUInt64 >>> ((56 : Int32) &&& 0x3f).toInt64.toUInt64).toInt64).toInt32).toInt8.toInt32)))] (.int (0 : Int32)) := Arv.set Ar88 qq88 Sz88 Ng88 Hs88 Ft88 (fits_nar_byte _) W88 4 rfl (Nat.le_of_ble_eq_true rfl)
    have N90 := Fr.snoc X88 N27 g4
    refine Go.step (fun _ k => st88 _ (XS.aload X88.here hx rfl (hb hby at_103) rfl rfl (XS.iload X88.here hx rfl (hb hby at_105) rfl (XS.iconst X88.here hx rfl (hb hby at_107) (XS.iadd X88.here hx rfl (hb hby at_108) rfl (XS.iloadN X88.here hx rfl (hb hby at_109) rfl (XS.bipush X88.here hx rfl (hb hby at_110) (XS.iushr X88.here hx rfl (hb hby at_112) rfl (XS.i2b X88.here hx rfl (hb hby at_113) rfl k))))))))) ?_
    show Go p e below s _ _ _ T88 (mkF m 114 #[.val (.int p1), .val (.int p2), .val (.long q3), .second, .val (.ref b1), .val (.int (4 : Int32)), .unset, .unset, .unset, .unset] [(.int (((p1.toUInt32 >>> ((16 : Int32) &&& 31).toUInt32).toInt32).toInt8.toInt32)), (.int (5 : Int32)), (.ref b1)])
    obtain ⟨cl91, Ar91, qq91, Sz91, Ng91, Hs91, Ft91⟩ := id f89
    have in91 : ¬ ((5 : Int32) < 0 ∨ cl91.slots.size ≤ ((5 : Int32)).toNatClampNeg) := (inb_of Sz91 ⟨by decide, by decide⟩)
    obtain ⟨T91, h91, X91, e91, W91, st91⟩ := stB X88 hx hZ e88 Ar91 (j := (5 : Int32)) in91 (g := (mkF m 114 #[.val (.int p1), .val (.int p2), .val (.long q3), .second, .val (.ref b1), .val (.int (4 : Int32)), .unset, .unset, .unset, .unset] [(.int (((p1.toUInt32 >>> ((16 : Int32) &&& 31).toUInt32).toInt32).toInt8.toInt32)), (.int (5 : Int32)), (.ref b1)])) rfl rfl (hb hby at_114)
    have f92 : Arv Z h91 b1 k1 .byte (8 : Int32) [(.int (nar .byte ((q3.toInt32).toInt8.toInt32))), (.int (nar .byte ((((q3.toUInt64 >>> ((8 : Int32) &&& 0x3f).toInt64.toUInt64).toInt64).toInt32).toInt8.toInt32))), (.int (nar .byte ((((q3.toUInt64 >>> ((16 : Int32) &&& 0x3f).toInt64.toUInt64).toInt64).toInt32).toInt8.toInt32))), (.int (nar .byte ((((q3.toUInt64 >>> ((24 : Int32) &&& 0x3f).toInt64.toUInt64).toInt64).toInt32).toInt8.toInt32))), (.int (nar .byte (((p1.toUInt32 >>> ((24 : Int32) &&& 31).toUInt32).toInt32).toInt8.toInt32))), (.int (nar .byte (((p1.toUInt32 >>> ((16 : Int32) &&& 31).toUInt32).toInt32).toInt8.toInt32))), (.int (nar .byte ((((q3.toUInt64 >>> ((48 : Int32) &&& 0x3f).toInt64.toUInt64).toInt64).toInt32).toInt8.toInt32))), (.int (nar .byte ((((q3.toUInt64 >>> ((56 : Int32) &&& 0x3f).toInt64.toUInt64).toInt64).toInt32).toInt8.toInt32)))] (.int (0 : Int32)) := Arv.set Ar91 qq91 Sz91 Ng91 Hs91 Ft91 (fits_nar_byte _) W91 5 rfl (Nat.le_of_ble_eq_true rfl)
    have N93 := Fr.snoc X91 N90 g4
    refine Go.step (fun _ k => st91 _ (XS.aload X91.here hx rfl (hb hby at_115) rfl rfl (XS.iload X91.here hx rfl (hb hby at_117) rfl (XS.iconst X91.here hx rfl (hb hby at_119) (XS.iadd X91.here hx rfl (hb hby at_120) rfl (XS.iloadN X91.here hx rfl (hb hby at_121) rfl (XS.bipush X91.here hx rfl (hb hby at_122) (XS.iushr X91.here hx rfl (hb hby at_124) rfl (XS.i2b X91.here hx rfl (hb hby at_125) rfl k))))))))) ?_
    show Go p e below s _ _ _ T91 (mkF m 126 #[.val (.int p1), .val (.int p2), .val (.long q3), .second, .val (.ref b1), .val (.int (4 : Int32)), .unset, .unset, .unset, .unset] [(.int (((p1.toUInt32 >>> ((8 : Int32) &&& 31).toUInt32).toInt32).toInt8.toInt32)), (.int (6 : Int32)), (.ref b1)])
    obtain ⟨cl94, Ar94, qq94, Sz94, Ng94, Hs94, Ft94⟩ := id f92
    have in94 : ¬ ((6 : Int32) < 0 ∨ cl94.slots.size ≤ ((6 : Int32)).toNatClampNeg) := (inb_of Sz94 ⟨by decide, by decide⟩)
    obtain ⟨T94, h94, X94, e94, W94, st94⟩ := stB X91 hx hZ e91 Ar94 (j := (6 : Int32)) in94 (g := (mkF m 126 #[.val (.int p1), .val (.int p2), .val (.long q3), .second, .val (.ref b1), .val (.int (4 : Int32)), .unset, .unset, .unset, .unset] [(.int (((p1.toUInt32 >>> ((8 : Int32) &&& 31).toUInt32).toInt32).toInt8.toInt32)), (.int (6 : Int32)), (.ref b1)])) rfl rfl (hb hby at_126)
    have f95 : Arv Z h94 b1 k1 .byte (8 : Int32) [(.int (nar .byte ((q3.toInt32).toInt8.toInt32))), (.int (nar .byte ((((q3.toUInt64 >>> ((8 : Int32) &&& 0x3f).toInt64.toUInt64).toInt64).toInt32).toInt8.toInt32))), (.int (nar .byte ((((q3.toUInt64 >>> ((16 : Int32) &&& 0x3f).toInt64.toUInt64).toInt64).toInt32).toInt8.toInt32))), (.int (nar .byte ((((q3.toUInt64 >>> ((24 : Int32) &&& 0x3f).toInt64.toUInt64).toInt64).toInt32).toInt8.toInt32))), (.int (nar .byte (((p1.toUInt32 >>> ((24 : Int32) &&& 31).toUInt32).toInt32).toInt8.toInt32))), (.int (nar .byte (((p1.toUInt32 >>> ((16 : Int32) &&& 31).toUInt32).toInt32).toInt8.toInt32))), (.int (nar .byte (((p1.toUInt32 >>> ((8 : Int32) &&& 31).toUInt32).toInt32).toInt8.toInt32))), (.int (nar .byte ((((q3.toUInt64 >>> ((56 : Int32) &&& 0x3f).toInt64.toUInt64).toInt64).toInt32).toInt8.toInt32)))] (.int (0 : Int32)) := Arv.set Ar94 qq94 Sz94 Ng94 Hs94 Ft94 (fits_nar_byte _) W94 6 rfl (Nat.le_of_ble_eq_true rfl)
    have N96 := Fr.snoc X94 N93 g4
    refine Go.step (fun _ k => st94 _ (XS.aload X94.here hx rfl (hb hby at_127) rfl rfl (XS.iload X94.here hx rfl (hb hby at_129) rfl (XS.iconst X94.here hx rfl (hb hby at_131) (XS.iadd X94.here hx rfl (hb hby at_132) rfl (XS.iloadN X94.here hx rfl (hb hby at_133) rfl (XS.i2b X94.here hx rfl (hb hby at_134) rfl k))))))) ?_
    show Go p e below s _ _ _ T94 (mkF m 135 #[.val (.int p1), .val (.int p2), .val (.long q3), .second, .val (.ref b1), .val (.int (4 : Int32)), .unset, .unset, .unset, .unset] [(.int (p1.toInt8.toInt32)), (.int (7 : Int32)), (.ref b1)])
    obtain ⟨cl97, Ar97, qq97, Sz97, Ng97, Hs97, Ft97⟩ := id f95
    have in97 : ¬ ((7 : Int32) < 0 ∨ cl97.slots.size ≤ ((7 : Int32)).toNatClampNeg) := (inb_of Sz97 ⟨by decide, by decide⟩)
    obtain ⟨T97, h97, X97, e97, W97, st97⟩ := stB X94 hx hZ e94 Ar97 (j := (7 : Int32)) in97 (g := (mkF m 135 #[.val (.int p1), .val (.int p2), .val (.long q3), .second, .val (.ref b1), .val (.int (4 : Int32)), .unset, .unset, .unset, .unset] [(.int (p1.toInt8.toInt32)), (.int (7 : Int32)), (.ref b1)])) rfl rfl (hb hby at_135)
    have f98 : Arv Z h97 b1 k1 .byte (8 : Int32) [(.int (nar .byte ((q3.toInt32).toInt8.toInt32))), (.int (nar .byte ((((q3.toUInt64 >>> ((8 : Int32) &&& 0x3f).toInt64.toUInt64).toInt64).toInt32).toInt8.toInt32))), (.int (nar .byte ((((q3.toUInt64 >>> ((16 : Int32) &&& 0x3f).toInt64.toUInt64).toInt64).toInt32).toInt8.toInt32))), (.int (nar .byte ((((q3.toUInt64 >>> ((24 : Int32) &&& 0x3f).toInt64.toUInt64).toInt64).toInt32).toInt8.toInt32))), (.int (nar .byte (((p1.toUInt32 >>> ((24 : Int32) &&& 31).toUInt32).toInt32).toInt8.toInt32))), (.int (nar .byte (((p1.toUInt32 >>> ((16 : Int32) &&& 31).toUInt32).toInt32).toInt8.toInt32))), (.int (nar .byte (((p1.toUInt32 >>> ((8 : Int32) &&& 31).toUInt32).toInt32).toInt8.toInt32))), (.int (nar .byte (p1.toInt8.toInt32)))] (.int (0 : Int32)) := Arv.set Ar97 qq97 Sz97 Ng97 Hs97 Ft97 (fits_nar_byte _) W97 7 rfl (Nat.le_of_ble_eq_true rfl)
    have N99 := Fr.snoc X97 N96 g4
    refine Go.step (fun _ k => st97 _ (XS.iloadN X97.here hx rfl (hb hby at_136) rfl (XS.i2l X97.here hx rfl (hb hby at_137) rfl (X97.ldc2Long hx hown (mvT hZ (tw2 hw)) (g := (mkF m 138 #[.val (.int p1), .val (.int p2), .val (.long q3), .second, .val (.ref b1), .val (.int (4 : Int32)), .unset, .unset, .unset, .unset] [(.long (p1.toInt64))])) rfl (hb hby at_138) _ (XS.land X97.here hx rfl (hb hby at_141) rfl (XS.lstore X97.here hx rfl (hb hby at_142) rfl (l' := #[.val (.int p1), .val (.int p2), .val (.long q3), .second, .val (.ref b1), .val (.int (4 : Int32)), .val (.long ((p1.toInt64) &&& (4294967295 : Int64))), .second, .unset, .unset]) rfl (XS.aload X97.here hx rfl (hb hby at_144) rfl rfl (XS.iload X97.here hx rfl (hb hby at_146) rfl k)))))))) ?_
    show Go p e below s _ _ _ T97 (mkF m 148 #[.val (.int p1), .val (.int p2), .val (.long q3), .second, .val (.ref b1), .val (.int (4 : Int32)), .val (.long ((p1.toInt64) &&& (4294967295 : Int64))), .second, .unset, .unset] [(.int (4 : Int32)), (.ref b1)])
    have f100 := (Nat.le_trans (Nat.le_trans (Nat.le_trans (Nat.le_trans (Nat.le_trans (Nat.le_trans (Nat.le_trans (Nat.le_trans (Nat.le_trans (Nat.le_trans (Nat.le_trans (Nat.le_trans (Nat.le_trans Z0 E1.1) (Keep.of_wr W3).1) (Keep.of_wr W7).1) (Keep.of_wr W10).1) (Keep.of_wr W13).1) (Keep.of_wr W16).1) (Keep.of_wr W19).1) (Keep.of_wr W22).1) (Keep.of_wr W25).1) (Keep.of_wr W88).1) (Keep.of_wr W91).1) (Keep.of_wr W94).1) (Keep.of_wr W97).1)
    obtain ⟨_, _, ⟨T101, L101, k101, n101⟩, -, X101, ⟨Lc101, hQ101, l101, y101, z101⟩, st101⟩ := Jvm.LawKit.callS X97 hx (y := xm0) hown (mvT hZ (tw3 hw)) (mvT hZ (tw4 hw)) (mvT hZ (tw5 hw)) (mvT hZ (tw6 hw)) (by decide) (backOf (W := 0) (rm_ui l Z a0 hw [] b1 (4 : Int32) k1 (8 : Int32) ([(.int (nar .byte ((q3.toInt32).toInt8.toInt32))), (.int (nar .byte ((((q3.toUInt64 >>> ((8 : Int32) &&& 0x3f).toInt64.toUInt64).toInt64).toInt32).toInt8.toInt32))), (.int (nar .byte ((((q3.toUInt64 >>> ((16 : Int32) &&& 0x3f).toInt64.toUInt64).toInt64).toInt32).toInt8.toInt32))), (.int (nar .byte ((((q3.toUInt64 >>> ((24 : Int32) &&& 0x3f).toInt64.toUInt64).toInt64).toInt32).toInt8.toInt32))), (.int (nar .byte (((p1.toUInt32 >>> ((24 : Int32) &&& 31).toUInt32).toInt32).toInt8.toInt32))), (.int (nar .byte (((p1.toUInt32 >>> ((16 : Int32) &&& 31).toUInt32).toInt32).toInt8.toInt32))), (.int (nar .byte (((p1.toUInt32 >>> ((8 : Int32) &&& 31).toUInt32).toInt32).toInt8.toInt32))), (.int (nar .byte (p1.toInt8.toInt32)))]) (.int (0 : Int32)) (nar .byte (((p1.toUInt32 >>> ((24 : Int32) &&& 31).toUInt32).toInt32).toInt8.toInt32)) (nar .byte (((p1.toUInt32 >>> ((16 : Int32) &&& 31).toUInt32).toInt32).toInt8.toInt32)) (nar .byte (((p1.toUInt32 >>> ((8 : Int32) &&& 31).toUInt32).toInt32).toInt8.toInt32)) (nar .byte (p1.toInt8.toInt32)) h97 n0 f100 f98 (⟨by decide, by decide⟩) rfl (⟨by decide, by decide⟩) rfl (⟨by decide, by decide⟩) rfl (⟨by decide, by decide⟩) rfl) hZ (tw6 hw) (tw5 hw) (by decide) (by decide)) (g := (mkF m 148 #[.val (.int p1), .val (.int p2), .val (.long q3), .second, .val (.ref b1), .val (.int (4 : Int32)), .val (.long ((p1.toInt64) &&& (4294967295 : Int64))), .second, .unset, .unset] [(.int (4 : Int32)), (.ref b1)])) rfl (by rw [hml]; rfl) (argsL := [(.ref b1), (.int (4 : Int32))]) (rest := []) (lenOf pd_0 rfl) rfl (by show 2 * 0 + _ ≤ _; exact Nat.le_of_eq rfl) (hb hby at_148) (fun _ _ => ⟨rfl, e97, (by decide : 1 + 0 ≤ _), (by decide : 8 + 0 ≤ _)⟩)
    dsimp only [Pt.U, Pt.locs, Pt.cells, Pt.slots] at X101 l101 y101 z101 st101 hQ101
    subst l101 y101 z101
    obtain ⟨rfl, N101q, eq101⟩ := hQ101
    have N102 := Fr.app N99 N101q
    refine Go.step (fun _ k => st101 _ k) ?_
    show Go p e below s _ _ _ T101 (mkF m 151 #[.val (.int p1), .val (.int p2), .val (.long q3), .second, .val (.ref b1), .val (.int (4 : Int32)), .val (.long ((p1.toInt64) &&& (4294967295 : Int64))), .second, .unset, .unset] [(.long (own_ui (nar .byte (((p1.toUInt32 >>> ((24 : Int32) &&& 31).toUInt32).toInt32).toInt8.toInt32)) (nar .byte (((p1.toUInt32 >>> ((16 : Int32) &&& 31).toUInt32).toInt32).toInt8.toInt32)) (nar .byte (((p1.toUInt32 >>> ((8 : Int32) &&& 31).toUInt32).toInt32).toInt8.toInt32)) (nar .byte (p1.toInt8.toInt32))))])
    rw [show (own_ui (nar .byte (((p1.toUInt32 >>> ((24 : Int32) &&& 31).toUInt32).toInt32).toInt8.toInt32)) (nar .byte (((p1.toUInt32 >>> ((16 : Int32) &&& 31).toUInt32).toInt32).toInt8.toInt32)) (nar .byte (((p1.toUInt32 >>> ((8 : Int32) &&& 31).toUInt32).toInt32).toInt8.toInt32)) (nar .byte (p1.toInt8.toInt32))) = (p1.toInt64 &&& (4294967295 : Int64)) from own_u p1]
    refine Go.step (fun _ k => XS.lstore X101.here hx rfl (hb hby at_151) rfl (l' := #[.val (.int p1), .val (.int p2), .val (.long q3), .second, .val (.ref b1), .val (.int (4 : Int32)), .val (.long ((p1.toInt64) &&& (4294967295 : Int64))), .second, .val (.long (p1.toInt64 &&& (4294967295 : Int64))), .second]) rfl (XS.lload X101.here hx rfl (hb hby at_153) rfl (XS.lload X101.here hx rfl (hb hby at_155) rfl (XS.lcmp X101.here hx rfl (hb hby at_157) rfl (XS.ifNo X101.here hx rfl (hb hby at_158) rfl ((if0 _ _).trans (teq ((lw_eq _ _).mpr rfl)).2) (XS.lload X101.here hx rfl (hb hby at_161) rfl (XS.lconst X101.here hx rfl (hb hby at_163) (XS.lcmp X101.here hx rfl (hb hby at_164) rfl (XS.ifNo X101.here hx rfl (hb hby at_165) rfl ((if0 _ _).trans (flt (own_lo p1)).1) (XS.lload X101.here hx rfl (hb hby at_168) rfl k)))))))))) ?_
    show Go p e below s _ _ _ T101 (mkF m 170 #[.val (.int p1), .val (.int p2), .val (.long q3), .second, .val (.ref b1), .val (.int (4 : Int32)), .val (.long ((p1.toInt64) &&& (4294967295 : Int64))), .second, .val (.long (p1.toInt64 &&& (4294967295 : Int64))), .second] [(.long (p1.toInt64 &&& (4294967295 : Int64)))])
    refine Go.step (fun _ k => X101.ldc2Long hx hown (mvT hZ (tw2 hw)) (g := (mkF m 170 #[.val (.int p1), .val (.int p2), .val (.long q3), .second, .val (.ref b1), .val (.int (4 : Int32)), .val (.long ((p1.toInt64) &&& (4294967295 : Int64))), .second, .val (.long (p1.toInt64 &&& (4294967295 : Int64))), .second] [(.long (p1.toInt64 &&& (4294967295 : Int64)))])) rfl (hb hby at_170) _ (XS.lcmp X101.here hx rfl (hb hby at_173) rfl (XS.ifNo X101.here hx rfl (hb hby at_174) rfl ((if0 _ _).trans (flt (own_hi p1)).2.2.1) (XS.iconst X101.here hx rfl (hb hby at_177) (XS.goto X101.here hx rfl (pc0 := 178) (pc' := 182) rfl (hb hby at_178) (by decide) (by decide) k))))) ?_
    show Go p e below s _ _ _ T101 (mkF m 182 #[.val (.int p1), .val (.int p2), .val (.long q3), .second, .val (.ref b1), .val (.int (4 : Int32)), .val (.long ((p1.toInt64) &&& (4294967295 : Int64))), .second, .val (.long (p1.toInt64 &&& (4294967295 : Int64))), .second] [(.int (1 : Int32))])
    exact Go.retN X101 hx hlk (t := .boolean) Bd.returns (by simp) (hb hby at_182) eq101 ⟨rfl, N102⟩ (by decide) (by decide)

set_option maxRecDepth 65536 in
set_option maxHeartbeats 40000000 in
theorem comes_1 {Post : Tables → Env → Array Value → State → Outcome → State → Prop} (hpost : ∀ tb e args s v u, (limb_1_1.after args s (.returned v) u = true ∧ limb_1_2.after args s (.returned v) u = true ∧ True) → FrameEnd s (.returned v) u (Jvm.fieldLocs frame_1_writes args s ++ Jvm.arrayLocs frame_1_arrays args s ++ Jvm.staticLocs frame_1_statics s) 16 128 → Post tb e args s (.returned v) u) :
    ArmFor flags0 classFile x code maxLocals ret World_1 tables_1 room_1 Calls_1 rest_1 Pre_1 Post := by
  intro l hfl _ _ p e ha hc hk s m args below hf hA hF happ hP
  obtain ⟨hcalls, hrest, hpre⟩ := hP
  obtain ⟨-, -, -, hnamed, -, -, -, hat⟩ := (Spec.applies_iff hf).mp happ
  obtain ⟨hg, hn⟩ := and_e (Cond.before_iff.mp (show (Jvm.Cond.and given_1 narrow_1).before args s = true from hpre))
  obtain ⟨gv1, gv2⟩ := and_e hg
  obtain ⟨gv3, gv4⟩ := and_e gv2
  obtain ⟨gv5, gv6⟩ := and_e gv4
  obtain ⟨w0, w1, w2, rfl⟩ : ∃ w0 w1 w2 : Value, args = #[w0, w1, w2] := by
    have hs : args.size = 3 := by simpa [Cond.value, given_1] using gv1
    obtain ⟨L⟩ := args
    match L, hs with
    | [w0, w1, w2], _ => exact ⟨w0, w1, w2, rfl⟩
  have hw := fun d (hd : d ∈ tables_1) => atoms_spec (ws := Jvm.Cond.code x code maxLocals ret :: tables_1) hat d (List.mem_cons_of_mem _ hd)
  have hfit : Fit s := fun {y c} hc i hi => by
    obtain ⟨ha, rfl⟩ := Array.getElem?_eq_some_iff.mp hc
    have q := List.all_eq_true.mp ((Array.all_eq_true_iff_forall_mem.mp hF) _ (Array.getElem_mem ha)) i (List.mem_range.mpr hi)
    simpa [Array.getElem?_eq_getElem hi] using q
  obtain ⟨i0, ei0⟩ := is_v gv3
  obtain rfl : w0 = (.int i0) := Option.some.inj ei0
  obtain ⟨i1, ei1⟩ := is_v gv5
  obtain rfl : w1 = (.int i1) := Option.some.inj ei1
  obtain ⟨i2, ei2⟩ := isL_v gv6
  obtain rfl : w2 = (.long i2) := Option.some.inj ei2
  obtain ⟨n, o, h1, h2, h3, _, L, rfl, ⟨rfl, N⟩, hq⟩ := rm_law l s _ hw tables_1 i0 i1 i2 s.heap s.heap.size (Nat.le_refl _)  p e ha hc hk s m _ below hf ((Spec.applies_iff_loose hf).mp happ).1 ⟨rfl, State.Warmed39.refl s, rfl⟩ trivial
  refine ⟨n, _, h1, h2, h3, hpost _ _ _ _ _ _ ⟨Cond.after_iff.mpr rfl, Cond.after_iff.mpr (eq_i res_at (Term.int_eval (1)) rfl), trivial⟩ ⟨hq.1, hq.2.1, (hq.2.2.sift fun y hy => Or.inr (N y hy)).mono (by decide) (by decide)⟩⟩
theorem main_1_1 : Claimed_1_1 := comes_1 fun _ _ _ _ _ _ h hF => ⟨h.1, hF⟩
theorem main_1_2 : Claimed_1_2 := comes_1 fun _ _ _ _ _ _ h hF => ⟨h.2.1, hF⟩
end Jvm.Pilot.@@N@@
namespace Jvm.Pilot.@@N@@
open Jvm Jvm.ClassFile Sem Op Lib Jvm.Free Jvm.Stand Jvm.Pilot.@@N@@.Jvm.D
/-! MADE BY PROGRAM (witnessworld.py) out of the Statement's table words and the real class files: 9 classes; the members and pool entries that the words name. The judged class is class 1, her method 1. -/
namespace start1
open Jvm.ClassFile
def u (s : String) : CpInfo := .utf8 (stringToUtf16 s)
/-- a pool by its gaps: so many unusable entries, then the entry; so many at the end -/
def gap : Nat → List CpInfo → List CpInfo
  | 0, r => r
  | n + 1, r => .unusable :: gap n r
def poolList (es : List (Nat × CpInfo)) (last : Nat) : List CpInfo := es.foldr (fun e r => gap e.1 (e.2 :: r)) (gap last [])
def pool (es : List (Nat × CpInfo)) (last : Nat) : Array CpInfo := ⟨poolList es last⟩
def fileOf (pool : Array CpInfo) (this : Nat) (attrs : Array Attribute := #[]) (ms : Array MethodInfo := #[]) (fl : Nat := 33) (sup : Nat := 0) (ifs : Array Nat := #[]) (fds : Array FieldInfo := #[]) : ClassFile where
  minorVersion := 0
  majorVersion := 65
  constantPool := pool
  accessFlags := fl
  thisClass := this
  superClass := sup
  interfaces := ifs
  fields := fds
  methods := ms
  attributes := attrs
def plain (name : String) (sup : Option ClassId) : Class where
  name := name
  kind := .ordinary
  loader := none
  accessFlags := 33
  super := sup
  interfaces := #[]
  cf := none
  fields := #[]
  methods := #[]
  instanceTypes := #[]
  staticTypes := #[]
  resolved := #[]
  callSites := []
  init := .initialized
  statics := none
  mirror := none

def pool0 : Array CpInfo := pool [(5, u "<init>"), (0, u "()V"), (1, .class_ 10), (1, u "java/lang/Object")] 113

def k0m0 : Method := { name := "<init>", desc := "()V", sig := { parameters := [], returnType := none }, accessFlags := 1, code := none }
/-- java/lang/Object -/
def k0 : Class := { plain "java/lang/Object" none with
  accessFlags := 33
  interfaces := #[]
  cf := some (fileOf pool0 8 #[] #[{ accessFlags := 1, nameIndex := 5, descriptorIndex := 6, attributes := #[] }] 33 0 #[] #[])
  fields := #[]
  methods := #[k0m0]
  instanceTypes := #[]
  staticTypes := #[]
  resolved := Array.replicate 124 none
  statics := none }

def pool1 : Array CpInfo := pool [(2, .class_ 4), (1, u "java/lang/Object"), (0, u "<init>"), (0, u "()V"), (0, .integer 2147483647), (0, .long 4294967295), (1, .methodref 11 12), (0, .class_ 13), (0, .nameAndType 14 15), (0, u "com/example/shellwire/shellwire/wire/NativeFrames"), (0, u "unsignedInt"), (0, u "([BI)J"), (0, .class_ 17), (0, u "com/example/shellwire/shellwire/wire/NativeFramesUnsignedIntPinLaw"), (2, u "law"), (0, u "(IIJ)Z")] 5

def k1m0 : Method := { name := "<init>", desc := "()V", sig := { parameters := [], returnType := none }, accessFlags := 2, code := none }
def k1c1 : Code := { maxStack := 5, maxLocals := 10, code := code, exceptionTable := #[], attributes := #[] }
def k1m1 : Method := { name := "law", desc := "(IIJ)Z", sig := { parameters := [.int, .int, .long], returnType := some .boolean }, accessFlags := 9, code := some k1c1 }
/-- com/example/shellwire/shellwire/wire/NativeFramesUnsignedIntPinLaw -/
def k1 : Class := { plain "com/example/shellwire/shellwire/wire/NativeFramesUnsignedIntPinLaw" (some 0) with
  accessFlags := 49
  interfaces := #[]
  cf := some (fileOf pool1 16 #[] #[{ accessFlags := 2, nameIndex := 5, descriptorIndex := 6, attributes := #[] }, { accessFlags := 9, nameIndex := 20, descriptorIndex := 21, attributes := #[] }] 49 2 #[] #[])
  fields := #[]
  methods := #[k1m0, k1m1]
  instanceTypes := #[]
  staticTypes := #[]
  resolved := Array.replicate 27 none
  statics := none }

def pool2 : Array CpInfo := pool [(2, .class_ 4), (1, u "java/lang/Object"), (0, u "<init>"), (0, u "()V"), (9, .class_ 18), (1, u "com/example/shellwire/shellwire/wire/NativeFrames"), (20, .class_ 40), (0, u "com/example/shellwire/shellwire/wire/NativeFrames$BatchWriter"), (108, .class_ 150), (0, u "com/example/shellwire/shellwire/wire/NativeFrames$Hello"), (3, .class_ 155), (0, u "com/example/shellwire/shellwire/wire/NativeFrames$Ready"), (2, u "unsignedInt"), (0, u "([BI)J"), (22, .class_ 183), (0, u "com/example/shellwire/shellwire/wire/NativeFrames$Batch"), (8, .class_ 193), (0, u "com/example/shellwire/shellwire/wire/NativeFrames$Ack"), (3, .class_ 198), (0, u "com/example/shellwire/shellwire/wire/NativeFrames$Log"), (9, .class_ 209), (0, u "com/example/shellwire/shellwire/wire/NativeFrames$ErrorReport"), (7, .long 255), (21, u "VERSION"), (0, u "I"), (2, u "HEADER_LENGTH"), (1, u "BATCH_FIXED_LENGTH"), (1, u "RECORD_LENGTH_FIELD"), (1, u "EMIT_FIXED_LENGTH"), (0, u "MAX_LOG_LEVEL"), (0, u "U32_MAX"), (0, u "J"), (0, u "NONCE_LENGTH")] 87

def k2m0 : Method := { name := "<init>", desc := "()V", sig := { parameters := [], returnType := none }, accessFlags := 2, code := none }
def k2c1 : Code := { maxStack := 5, maxLocals := 2, code := prog_54_method_29_code, exceptionTable := #[], attributes := #[] }
def k2m1 : Method := { name := "unsignedInt", desc := "([BI)J", sig := { parameters := [(.array .byte), .int], returnType := some .long }, accessFlags := 8, code := some k2c1 }
/-- com/example/shellwire/shellwire/wire/NativeFrames -/
def k2 : Class := { plain "com/example/shellwire/shellwire/wire/NativeFrames" (some 0) with
  accessFlags := 49
  interfaces := #[]
  cf := some (fileOf pool2 16 #[.nestMembers #[182, 39, 208, 197, 192, 154, 149]] #[{ accessFlags := 2, nameIndex := 5, descriptorIndex := 6, attributes := #[] }, { accessFlags := 8, nameIndex := 158, descriptorIndex := 159, attributes := #[] }] 49 2 #[] #[{ accessFlags := 25, nameIndex := 239, descriptorIndex := 240, attributes := #[] }, { accessFlags := 25, nameIndex := 243, descriptorIndex := 240, attributes := #[] }, { accessFlags := 25, nameIndex := 245, descriptorIndex := 240, attributes := #[] }, { accessFlags := 25, nameIndex := 247, descriptorIndex := 240, attributes := #[] }, { accessFlags := 25, nameIndex := 249, descriptorIndex := 240, attributes := #[] }, { accessFlags := 25, nameIndex := 250, descriptorIndex := 240, attributes := #[] }, { accessFlags := 26, nameIndex := 251, descriptorIndex := 252, attributes := #[] }, { accessFlags := 26, nameIndex := 253, descriptorIndex := 240, attributes := #[] }])
  fields := #[{ name := "VERSION", type := .int, accessFlags := 25, slot := 0, constantValue := 0 }, { name := "HEADER_LENGTH", type := .int, accessFlags := 25, slot := 1, constantValue := 0 }, { name := "BATCH_FIXED_LENGTH", type := .int, accessFlags := 25, slot := 2, constantValue := 0 }, { name := "RECORD_LENGTH_FIELD", type := .int, accessFlags := 25, slot := 3, constantValue := 0 }, { name := "EMIT_FIXED_LENGTH", type := .int, accessFlags := 25, slot := 4, constantValue := 0 }, { name := "MAX_LOG_LEVEL", type := .int, accessFlags := 25, slot := 5, constantValue := 0 }, { name := "U32_MAX", type := .long, accessFlags := 26, slot := 6, constantValue := 0 }, { name := "NONCE_LENGTH", type := .int, accessFlags := 26, slot := 7, constantValue := 0 }]
  methods := #[k2m0, k2m1]
  instanceTypes := #[]
  staticTypes := #[.int, .int, .int, .int, .int, .int, .long, .int]
  resolved := Array.replicate 341 none
  statics := none }

def pool3 : Array CpInfo := pool [(1, u "java/lang/Cloneable"), (0, .class_ 1), (0, u "java/lang/Object"), (0, .class_ 3)] 3

/-- java/lang/Cloneable -/
def k3 : Class := { plain "java/lang/Cloneable" (some 0) with
  accessFlags := 1537
  interfaces := #[]
  cf := some (fileOf pool3 2 #[] #[] 1537 4 #[] #[])
  fields := #[]
  methods := #[]
  instanceTypes := #[]
  staticTypes := #[]
  resolved := Array.replicate 8 none
  statics := none }

def pool4 : Array CpInfo := pool [(1, u "java/io/Serializable"), (0, .class_ 1), (0, u "java/lang/Object"), (0, .class_ 3)] 3

/-- java/io/Serializable -/
def k4 : Class := { plain "java/io/Serializable" (some 0) with
  accessFlags := 1537
  interfaces := #[]
  cf := some (fileOf pool4 2 #[] #[] 1537 4 #[] #[])
  fields := #[]
  methods := #[]
  instanceTypes := #[]
  staticTypes := #[]
  resolved := Array.replicate 8 none
  statics := none }

/-- the primitive byte -/
def k5 : Class := { plain "byte" none with kind := .primitive 'B', accessFlags := 0x411 }
/-- [B -/
def k6 : Class := { plain "[B" (some 0) with kind := .array 5 .byte, interfaces := #[3, 4], accessFlags := 1041 }

/-- the primitive int -/
def k7 : Class := { plain "int" none with kind := .primitive 'I', accessFlags := 0x411 }
/-- [I -/
def k8 : Class := { plain "[I" (some 0) with kind := .array 7 .int, interfaces := #[3, 4], accessFlags := 1041 }

def heap : Heap := #[]
def classes : Array Class := #[k0, k1, k2, k3, k4, k5, k6, k7, k8]
def interned : List (Array UInt16 × Addr) := []
def slotsUsed : Nat := 0
def theMethod : MethodId := ⟨1, 1⟩
def args0 : Array Value := #[.int 5, .int 3, .long 77]
def aboutOver (below : List Frame) : State where
  vm := { classes := classes, interned := interned.toArray }
  heap := heap
  slotsUsed := slotsUsed
  threads := #[{ frames := .invoking theMethod args0 :: below }]
def below0 : List Frame := [.native { method := ⟨0, 0⟩, args := #[] }]
def about1 : State := aboutOver below0
def p0 : Program := .bare "" "" ""
def e0 : Env := launch0.env 0 0 0
theorem w_frames : about1.frames = Frame.invoking theMethod args0 :: below0 := rfl
set_option maxRecDepth 65536 in
theorem w_args : argsFit about1.vm theMethod args0 = true := by decide +kernel
set_option maxRecDepth 65536 in
theorem w_heap : heapFits about1 = true := by decide +kernel
set_option maxRecDepth 65536 in
theorem w_runnable : about1.curStatus? = some .runnable := by decide +kernel
set_option maxRecDepth 65536 in
theorem w_alone : about1.alone = true := by decide +kernel
set_option maxRecDepth 65536 in
theorem w_named : about1.methodNamed? x = some theMethod := by decide +kernel
set_option maxRecDepth 65536 in
theorem w_hears : about1.hears theMethod below0 = true := by decide +kernel
set_option maxRecDepth 65536 in
theorem w_ripe : about1.ripe theMethod args0 below0 = true := by decide +kernel
theorem w_running : about1.status = .running := rfl
set_option maxRecDepth 65536 in
theorem w_room : about1.hasRoom e0.platform room_1 = true :=
  launch0.hasRoom_least _ room_1 (by decide +kernel) (by decide +kernel) (by decide +kernel) (by decide +kernel) (by decide +kernel) (by decide +kernel)
theorem allAtoms_all (ts : List Jvm.Cond) (a : Array Jvm.Value) (st : Jvm.State) : (allAtoms ts).before a st = ts.all (fun c => c.before a st) := by
  induction ts with
  | nil => rfl
  | cons c t ih =>
    show (Jvm.Cond.and c (allAtoms t)).before a st = _
    rw [Jvm.Cond.before_and, ih, List.all_cons]
def words1 : List Jvm.Cond := Jvm.Cond.code x code maxLocals ret :: tables_1
/-- a 'code' word, met by the world's own term for the bytes: nothing is compared byte by byte -/
theorem code_word {y : MethodName} {bytes : ByteArray} {mx : Nat} {rt : Option FieldType} {a : Array Value} {s : State} {m : MethodId} {meth : Method} {c : Code} (h1 : s.methodNamed? y = some m) (h2 : s.vm.method? m = some meth) (h3 : meth.code = some c) (h4 : c.code = bytes)
    (h5 : (c.maxLocals == mx && c.exceptionTable.isEmpty && decide (c.maxStack ≤ mostOperands) && decide (meth.sig.returnType = rt) && !meth.locks && decide (parseMethodDescriptor y.desc = some meth.sig)) = true) : (Jvm.Cond.code y bytes mx rt).before a s = true := by
  simp only [Bool.and_eq_true, beq_iff_eq, Bool.not_eq_true', decide_eq_true_eq] at h5
  obtain ⟨⟨⟨⟨⟨g1, g2⟩, g3⟩, g4⟩, g5⟩, g6⟩ := h5
  simp [Cond.before, Cond.holds, Cond.value, h1, h2, h3, h4, g1, g2, g3, g4, g5, g6]
def isCode : Jvm.Cond → Bool
  | .code _ _ _ _ => true
  | _ => false
theorem all_split {L : List Jvm.Cond} {P : Jvm.Cond → Bool} (h1 : L.all (fun c => isCode c || P c) = true) (h2 : ∀ c ∈ L.filter isCode, P c = true) : L.all P = true := by
  refine List.all_eq_true.mpr fun c hc => ?_
  have h := List.all_eq_true.mp h1 c hc
  rcases Bool.eq_false_or_eq_true (isCode c) with hi | hi
  · exact h2 c (List.mem_filter.mpr ⟨hc, hi⟩)
  · simpa [hi] using h
set_option maxRecDepth 65536 in
theorem w_c0 : (Jvm.Cond.code x code maxLocals ret).before args0 about1 = true := code_word (m := ⟨1, 1⟩) (meth := k1m1) (c := k1c1) (by decide +kernel) rfl rfl rfl (by decide +kernel)
set_option maxRecDepth 65536 in
theorem w_c1 : (Jvm.Cond.code ({ cls := "com/example/shellwire/shellwire/wire/NativeFrames", name := "unsignedInt", desc := "([BI)J" } : Jvm.MethodName) prog_54_method_29_code (2 : Nat) (Option.some Jvm.ClassFile.FieldType.long)).before args0 about1 = true := code_word (m := ⟨2, 1⟩) (meth := k2m1) (c := k2c1) (by decide +kernel) rfl rfl rfl (by decide +kernel)
def codes1 : List Jvm.Cond := [Jvm.Cond.code x code maxLocals ret, Jvm.Cond.code ({ cls := "com/example/shellwire/shellwire/wire/NativeFrames", name := "unsignedInt", desc := "([BI)J" } : Jvm.MethodName) prog_54_method_29_code (2 : Nat) (Option.some Jvm.ClassFile.FieldType.long)]
set_option maxRecDepth 65536 in
theorem codes_eq : words1.filter isCode = codes1 := rfl
theorem w_codes : ∀ c ∈ words1.filter isCode, c.before args0 about1 = true := by
  rw [codes_eq]
  intro c hc
  simp only [codes1, List.mem_cons, List.not_mem_nil, or_false] at hc
  rcases hc with rfl | rfl
  · exact w_c0
  · exact w_c1
set_option maxRecDepth 65536 in
theorem w_t1 : words1.all (fun c => isCode c || c.before args0 about1) = true := by decide +kernel
theorem w_tables : (allAtoms (Jvm.Cond.code x code maxLocals ret :: tables_1)).before args0 about1 = true := by
  rw [allAtoms_all]
  show words1.all (fun c => c.before args0 about1) = true
  refine all_split ?_ w_codes
  rw [w_t1]
set_option maxRecDepth 65536 in
theorem w_case : (Jvm.Cond.and given_1 narrow_1).before args0 about1 = true := by decide +kernel
theorem w_applies : (headSpec (Jvm.Cond.code x code maxLocals ret :: tables_1) room_1).applies x e0.platform about1 = true :=
  (Spec.applies_iff w_frames).mpr ⟨w_running, w_runnable, w_alone, w_named, w_hears, w_ripe, w_room, w_tables⟩
theorem atStart : AtStart classFile x code maxLocals ret World_1 tables_1 room_1 Calls_1 rest_1 Pre_1 launch0 p0 e0 about1 theMethod args0 below0 :=
  ⟨lists_1, trivial, launch0.admits_env _ _ _, launch0.least_env, fairChoices_fair.cas, fairChoices_fair.clock, w_frames, w_args, w_heap, w_applies, trivial, trivial, w_case⟩
end start1
theorem witness_1 : WitnessClaimed_1 := ⟨start1.p0, start1.e0, start1.about1, start1.theMethod, start1.args0, start1.below0, start1.atStart⟩
end Jvm.Pilot.@@N@@
