import JvmDerived
import JvmDerived.Pilot.@@N@@Statement
import JvmDerived.Pilot.@@N@@Code
set_option linter.unusedVariables false
set_option linter.unusedSimpArgs false
namespace Jvm.RoadKit
open Sem ClassFile Op Lib Jvm.Stand Jvm.Free Jvm.LawKit
section New
variable {p : Program} {l : Launch} {e : Env} {R : Room} {s : State} {m : MethodId} {args : Array Value} {below : List Frame} {meth : Method} {c : Code} {T T' : State} {locs : List Loc} {cells slots : Nat}
theorem retI (X : Stand p l e R s m args below meth c T locs cells slots) (hx : p.tables.exec = Jvm.exec) {pc : Nat} {Ls : Array Slot} {z : Int32} {rest : List Value} (hret : meth.sig.returnType = some .int) (hd : decode c.code pc = .ok (.ireturn, 1)) {fs : List Frame}
    (hl : ∀ (f : JFrame) (acts : List Action), f.method = m → f.locked = none → f.entered = [] → (doReturn e (T.setTop f) acts (some (.int z))).1 = T.setFrames fs) : Steps p.tables e below (T.setTop (mkF m pc Ls (.int z :: rest))) (T.setFrames fs) := by
  have hm' : T.vm.method? m = some meth := X.method'
  have hn : narrow .int (.int z) = .int z := rfl
  show Steps p.tables e below (T.setTop { method := m, pc := pc, locals := Ls, stack := _ :: rest, locked := none }) _
  jvm_step X.here [X.here.top, hx, hd, hm', hret, hn]
  first | (intro acts; rw [hl _ acts rfl rfl rfl]) | rw [hl _ _ rfl rfl rfl]
  exact Steps.refl _
/-- from here the run comes to its return, and Q holds of what it returns, of the heap and of what it wrote -/
def Go (p : Program) (e : Env) (below : List Frame) (s : State) (Q : Option Value → Heap → List Loc → Prop) (kc ks : Nat) (T : State) (g : JFrame) : Prop :=
  ∃ s₂ o, Steps p.tables e below (T.setTop g) s₂ ∧ s₂.status = .running ∧ Ended s₂ below o ∧ ∃ v L, o = .returned v ∧ Q v s₂.heap L ∧ FrameEnd s o s₂ L kc ks
variable {Q : Option Value → Heap → List Loc → Prop} {kc ks : Nat} {g g' : JFrame}
theorem Go.step (h : ∀ t, Steps p.tables e below (T'.setTop g') t → Steps p.tables e below (T.setTop g) t) (k : Go p e below s Q kc ks T' g') : Go p e below s Q kc ks T g := by
  obtain ⟨s₂, o, h1, r⟩ := k
  exact ⟨s₂, o, h _ h1, r⟩
theorem Go.cast (q : g = g') (k : Go p e below s Q kc ks T g') : Go p e below s Q kc ks T g := q ▸ k
theorem Go.done (X : Stand p l e R s m args below meth c T locs cells slots) (hlocks : meth.locks = false) {v : Option Value} (hv : meth.sig.returnType = none → v = none)
    (hret : ∀ fs, (∀ (f : JFrame) (acts : List Action), f.method = m → f.locked = none → f.entered = [] → (doReturn e (T.setTop f) acts v).1 = T.setFrames fs) → Steps p.tables e below (T.setTop g) (T.setFrames fs))
    {h : Heap} (eT : T.heap = h) (hQ : Q v h locs) (hc : cells ≤ kc) (hs : slots ≤ ks) : Go p e below s Q kc ks T g := by
  obtain ⟨fs, hr, hrun, hended, hW, hsame⟩ := X.leave hv hlocks
  refine ⟨_, _, hret fs hr, hrun, hended, _, _, rfl, ?_, ⟨_, rfl⟩, hW, hsame.mono hc hs⟩
  show Q v T.heap locs
  rw [eT]
  exact hQ
theorem Go.retV (X : Stand p l e R s m args below meth c T locs cells slots) (hx : p.tables.exec = Jvm.exec) (hlocks : meth.locks = false) (hr : meth.sig.returnType = none) {pc : Nat} {Ls : Array Slot} (hd : decode c.code pc = .ok (.return_, 1))
    {h : Heap} (eT : T.heap = h) (hQ : Q none h locs) (hc : cells ≤ kc) (hs : slots ≤ ks) : Go p e below s Q kc ks T (mkF m pc Ls []) :=
  Go.done X hlocks (fun _ => rfl) (fun fs k => X.returnOut hx hr hd k) eT hQ hc hs
theorem Go.retN (X : Stand p l e R s m args below meth c T locs cells slots) (hx : p.tables.exec = Jvm.exec) (hlocks : meth.locks = false) {t : FieldType} (hr : meth.sig.returnType = some t) (ht : t = .boolean ∨ t = .byte ∨ t = .char ∨ t = .short) {pc : Nat} {Ls : Array Slot} {z : Int32} {st : List Value} (hd : decode c.code pc = .ok (.ireturn, 1))
    {h : Heap} (eT : T.heap = h) (hQ : Q (some (.int (nar t z))) h locs) (hc : cells ≤ kc) (hs : slots ≤ ks) : Go p e below s Q kc ks T (mkF m pc Ls (.int z :: st)) :=
  Go.done X hlocks (fun q => by rw [hr] at q; cases q) (fun fs k => Jvm.RoadKit.retN X hx hr ht hd k) eT hQ hc hs
theorem Go.retI (X : Stand p l e R s m args below meth c T locs cells slots) (hx : p.tables.exec = Jvm.exec) (hlocks : meth.locks = false) (hr : meth.sig.returnType = some .int) {pc : Nat} {Ls : Array Slot} {z : Int32} {st : List Value} (hd : decode c.code pc = .ok (.ireturn, 1))
    {h : Heap} (eT : T.heap = h) (hQ : Q (some (.int z)) h locs) (hc : cells ≤ kc) (hs : slots ≤ ks) : Go p e below s Q kc ks T (mkF m pc Ls (.int z :: st)) :=
  Go.done X hlocks (fun q => by rw [hr] at q; cases q) (fun fs k => Jvm.RoadKit.retI X hx hr hd k) eT hQ hc hs
theorem Go.retJ (X : Stand p l e R s m args below meth c T locs cells slots) (hx : p.tables.exec = Jvm.exec) (hlocks : meth.locks = false) (hr : meth.sig.returnType = some .long) {pc : Nat} {Ls : Array Slot} {z : Int64} {st : List Value} (hd : decode c.code pc = .ok (.lreturn, 1))
    {h : Heap} (eT : T.heap = h) (hQ : Q (some (.long z)) h locs) (hc : cells ≤ kc) (hs : slots ≤ ks) : Go p e below s Q kc ks T (mkF m pc Ls (.long z :: st)) :=
  Go.done X hlocks (fun q => by rw [hr] at q; cases q) (fun fs k => retOut X hx hr rfl (Or.inr (Or.inl ⟨rfl, rfl, _, rfl⟩)) hd k) eT hQ hc hs
theorem Go.retD (X : Stand p l e R s m args below meth c T locs cells slots) (hx : p.tables.exec = Jvm.exec) (hlocks : meth.locks = false) (hr : meth.sig.returnType = some .double) {pc : Nat} {Ls : Array Slot} {z : UInt64} {st : List Value} (hd : decode c.code pc = .ok (.dreturn, 1))
    {h : Heap} (eT : T.heap = h) (hQ : Q (some (.double z)) h locs) (hc : cells ≤ kc) (hs : slots ≤ ks) : Go p e below s Q kc ks T (mkF m pc Ls (.double z :: st)) :=
  Go.done X hlocks (fun q => by rw [hr] at q; cases q) (fun fs k => retOut X hx hr rfl (Or.inr (Or.inr (Or.inl ⟨rfl, rfl, _, rfl⟩))) hd k) eT hQ hc hs
theorem Go.retA (X : Stand p l e R s m args below meth c T locs cells slots) (hx : p.tables.exec = Jvm.exec) (hlocks : meth.locks = false) {t : FieldType} (hr : meth.sig.returnType = some t) (ht : t.isReference = true) {w : Value} (hw : w.isRef = true) {pc : Nat} {Ls : Array Slot} {st : List Value} (hd : decode c.code pc = .ok (.areturn, 1))
    {h : Heap} (eT : T.heap = h) (hQ : Q (some w) h locs) (hc : cells ≤ kc) (hs : slots ≤ ks) : Go p e below s Q kc ks T (mkF m pc Ls (w :: st)) :=
  Go.done X hlocks (fun q => by rw [hr] at q; cases q) (fun fs k => retOut X hx hr (by cases t <;> first | (cases ht; done) | (rcases ref_cases hw with rfl | ⟨a, rfl⟩ <;> rfl)) (Or.inr (Or.inr (Or.inr (Or.inr ⟨rfl, ht, hw⟩)))) hd k) eT hQ hc hs
end New
end Jvm.RoadKit
namespace Jvm.Pilot.@@N@@
open Jvm Jvm.ClassFile Sem Op Lib Jvm.Free Jvm.Stand Jvm.LawKit Jvm.RoadKit Bundle Jvm.Pilot.@@N@@.Jvm.D
theorem own_selP {s : State} {args : Array Value} {y : MethodName} {n : Nat} (wi : (Cond.instantiable y.cls n).before args s = true) (hp : s.PrivateAt y) (hinst : (Cond.instanceMethod y).before args s = true) (hy : y.cls ≠ "java/lang/invoke/MethodHandle" ∧ y.cls ≠ "java/lang/invoke/VarHandle") : (Cond.selects y.cls y y).before args s = true := by
  obtain ⟨c, k, h1, h2, -, h4, -⟩ := Cond.instantiable_spec wi
  exact Jvm.Stand.selects_self_of_private h1 h2 (by simp only [Bool.or_eq_false_iff] at h4; exact h4.1) hp hinst hy
theorem own_selQ {s : State} {args : Array Value} {y : MethodName} {C : String} (w : (Cond.selects C y y).before args s = true) (hp : s.PrivateAt y) (hinst : (Cond.instanceMethod y).before args s = true) (hy : y.cls ≠ "java/lang/invoke/MethodHandle" ∧ y.cls ≠ "java/lang/invoke/VarHandle") : (Cond.selects y.cls y y).before args s = true := by
  obtain ⟨mk, methM, hnamed, -, -, -⟩ := Cond.instanceMethod_spec hinst
  obtain ⟨kr, h1, h2⟩ := notFace_of_selects w mk hnamed
  exact Jvm.Stand.selects_self_of_private (findClass_of_methodNamed hnamed) h1 h2 hp hinst hy
section OwnF
open Jvm.FP Jvm.FP.Core
theorem own_iu (c : Nat) (q e : Int) : inUnits c q e = c * 2 ^ (q - e).toNat := rfl
theorem own_zf (s : Bool) (c : Nat) (q : Int) : zmag b64 (.fin s c q) = c * 2 ^ (q + 1074).toNat := by
  show inUnits c q b64.qmin = _
  rw [own_iu, qmin_b64, show q - -1074 = q + 1074 by omega]
theorem own_fV {c j : Nat} (hc : c < 2 ^ 53) (hj : j ≤ 1000) : ∃ V, Core.fits b64 V ∧ V ≠ Datum.nan ∧ zmag b64 V = c * 2 ^ (1074 - j) := by
  have q1 : b64.qmax = 971 := by decide
  obtain ⟨c', q', h1, h2⟩ := round_exact good_b64 false (c := c) (q := -(j : Int)) hc (by rw [qmin_b64]; omega) (by rw [q1]; omega)
  refine ⟨Datum.fin false c' q', h1 ▸ round_fits good_b64 _, nofun, ?_⟩
  show inUnits c' q' b64.qmin = _
  rw [h2, qmin_b64, own_iu, show (-(j : Int) - -1074).toNat = 1074 - j by omega]
theorem own_fge {s : Bool} {A B c j : Nat} (hB : 0 < B) (hc : c < 2 ^ 53) (hj : j ≤ 1000) (h : c * B ≤ A * 2 ^ j) : c * 2 ^ (1074 - j) ≤ zmag b64 (roundRatio b64 s A B 0) := by
  obtain ⟨V, h1, h2, h3⟩ := own_fV hc hj
  rw [← h3]
  refine zmag_roundRatio_ge good_b64 hB h1 (e0 := -1074) (by rw [qmin_b64]; decide) (by decide) ?_
  rw [h3, qmin_b64, own_iu, show ((-1074 : Int) - -1074).toNat = 0 by decide, show ((0 : Int) - -1074).toNat = j + (1074 - j) by omega, Nat.pow_zero, Nat.mul_one, Nat.pow_add, ← Nat.mul_assoc, Nat.mul_right_comm]
  exact Nat.mul_le_mul_right _ h
theorem own_fle {s : Bool} {A B c j : Nat} (hB : 0 < B) (hc : c < 2 ^ 53) (hj : j ≤ 1000) (h : A * 2 ^ j ≤ c * B) : zmag b64 (roundRatio b64 s A B 0) ≤ c * 2 ^ (1074 - j) := by
  obtain ⟨V, h1, h2, h3⟩ := own_fV hc hj
  rw [← h3]
  refine zmag_roundRatio_le good_b64 hB h1 h2 (e0 := -1074) (by rw [qmin_b64]; decide) (by decide) ?_
  rw [h3, qmin_b64, own_iu, show ((-1074 : Int) - -1074).toNat = 0 by decide, show ((0 : Int) - -1074).toNat = j + (1074 - j) by omega, Nat.pow_zero, Nat.mul_one, Nat.pow_add, ← Nat.mul_assoc, Nat.mul_right_comm c]
  exact Nat.mul_le_mul_right _ h
theorem own_feq {s : Bool} {A B c j : Nat} (hB : 0 < B) (hc : c < 2 ^ 53) (hj : j ≤ 1000) (h : A * 2 ^ j = c * B) : zmag b64 (roundRatio b64 s A B 0) = c * 2 ^ (1074 - j) :=
  Nat.le_antisymm (own_fle hB hc hj (Nat.le_of_eq h)) (own_fge hB hc hj (Nat.le_of_eq h.symm))
theorem own_vl (a : Int64) : val64 (Core.l2d a) = roundRatio b64 (decide (a.toInt < 0)) a.toInt.natAbs 1 0 := val64_l2d a
theorem own_zl {a : Int64} (h : a.toInt.natAbs < 2 ^ 53) : zmag b64 (val64 (Core.l2d a)) = a.toInt.natAbs * 2 ^ 1074 := by
  rw [own_vl]
  exact own_feq (j := 0) (by decide) h (by decide) rfl
theorem own_sl (a : Int64) : sgn (val64 (Core.l2d a)) = decide (a.toInt < 0) := by
  rw [own_vl]
  exact sgn_roundRatio _ _ _ _ _
theorem own_nl (a : Int64) : val64 (Core.l2d a) ≠ .nan := by
  rw [own_vl]
  exact roundRatio_ne_nan _ _ _ _ _
theorem own_zvl {a : Int64} (h : a.toInt.natAbs < 2 ^ 53) : zval b64 (val64 (Core.l2d a)) = a.toInt * ((2 ^ 1074 : Nat) : Int) := by
  show signed (sgn (val64 (Core.l2d a))) (zmag b64 (val64 (Core.l2d a))) = _
  rw [own_sl, own_zl h, signed_mul]
  congr 1
  by_cases q : a.toInt < 0
  · rw [decide_eq_true q]
    show -((a.toInt.natAbs : Nat) : Int) = a.toInt
    omega
  · rw [decide_eq_false q]
    show ((a.toInt.natAbs : Nat) : Int) = a.toInt
    omega
theorem own_fin (a : Int64) (h : a.toInt.natAbs < 2 ^ 53) : ∃ s c q, val64 (Core.l2d a) = .fin s c q ∧ s = decide (a.toInt < 0) ∧ -1074 ≤ q ∧ c * 2 ^ (q + 1074).toNat = a.toInt.natAbs * 2 ^ 1074 := by
  obtain ⟨s, c, q, e⟩ := Core.l2d_fin a
  refine ⟨s, c, q, e, ?_, ?_, ?_⟩
  · have := own_sl a
    rw [e] at this
    exact this
  · have := val64_fits (Core.l2d a)
    rw [e] at this
    have := this.2.1
    rw [qmin_b64] at this
    exact this
  · have := own_zl h
    rw [e, own_zf] at this
    exact this
/-- the quotient of two whole numbers, rounded once -/
theorem own_vq {a b : Int64} (ha : a.toInt.natAbs < 2 ^ 53) (hb : b.toInt.natAbs < 2 ^ 53) (h0 : 0 < b.toInt) : val64 (Core.ddiv (Core.l2d a) (Core.l2d b)) = roundRatio b64 (decide (a.toInt < 0)) a.toInt.natAbs b.toInt.natAbs 0 := by
  obtain ⟨s, c, q, e1, e2, e3, e4⟩ := own_fin a ha
  obtain ⟨t, d, r, f1, f2, f3, f4⟩ := own_fin b hb
  have ht : t = false := by rw [f2]; exact decide_eq_false (by omega)
  have hbn : 0 < b.toInt.natAbs := by omega
  have hd : d ≠ 0 := by
    intro z
    rw [z, Nat.zero_mul] at f4
    have := Nat.mul_pos hbn (Nat.two_pow_pos 1074)
    omega
  rw [val64_ddiv, e1, f1]
  show (if d = 0 then (if c = 0 then Datum.nan else .inf (s != t)) else roundRatio b64 (s != t) c d (q - r)) = _
  rw [if_neg hd, ht, ← e2, show (s != false) = s by cases s <;> rfl]
  refine roundRatio_congr (Nat.pos_of_ne_zero hd) hbn ?_
  apply Nat.eq_of_mul_eq_mul_right (Nat.two_pow_pos ((min q r) + 1074).toNat)
  rw [Nat.mul_assoc, Nat.mul_assoc (a.toInt.natAbs * d), ← Nat.pow_add, ← Nat.pow_add, show (q - r - 0).toNat + (min q r + 1074).toNat = (q + 1074).toNat by omega, show (0 - (q - r)).toNat + (min q r + 1074).toNat = (r + 1074).toNat by omega, Nat.mul_right_comm, e4, Nat.mul_assoc a.toInt.natAbs d, f4, ← Nat.mul_assoc]
  exact Nat.mul_right_comm _ _ _
theorem own_nq {a b : Int64} (ha : a.toInt.natAbs < 2 ^ 53) (hb : b.toInt.natAbs < 2 ^ 53) (h0 : 0 < b.toInt) : val64 (Core.ddiv (Core.l2d a) (Core.l2d b)) ≠ .nan := by
  rw [own_vq ha hb h0]
  exact roundRatio_ne_nan _ _ _ _ _
theorem own_zq {a b : Int64} (ha : a.toInt.natAbs < 2 ^ 53) (hb : b.toInt.natAbs < 2 ^ 53) (h0 : 0 < b.toInt) : zval b64 (val64 (Core.ddiv (Core.l2d a) (Core.l2d b))) = signed (decide (a.toInt < 0)) (zmag b64 (roundRatio b64 (decide (a.toInt < 0)) a.toInt.natAbs b.toInt.natAbs 0)) := by
  rw [own_vq ha hb h0]
  show signed (sgn _) _ = _
  rw [sgn_roundRatio]
theorem own_nn {x : UInt64} (h : val64 x ≠ .nan) : Jvm.Free.Fl.NoNaN64 x := Jvm.Free.Fl.noNaN64_no.mpr ((notNaN_iff x).mpr h)
theorem own_cmp {x y : UInt64} (hx : val64 x ≠ .nan) (hy : val64 y ≠ .nan) : FP.dcmp x y = some (compare (zval b64 (val64 x)) (zval b64 (val64 y))) := order_zval good_b64 (val64_fits x) (val64_fits y) hx hy
theorem own_cl {x y : UInt64} (o : CmpOp) (hx : val64 x ≠ .nan) (hy : val64 y ≠ .nan) (h : zval b64 (val64 x) < zval b64 (val64 y)) : cmpValue (FP.dcmp x y) o = (-1 : Int32) := by
  rw [own_cmp hx hy, show compare (zval b64 (val64 x)) (zval b64 (val64 y)) = .lt by simp only [compare, compareOfLessAndEq, h, if_true]]
  rfl
theorem own_ce {x y : UInt64} (o : CmpOp) (hx : val64 x ≠ .nan) (hy : val64 y ≠ .nan) (h : zval b64 (val64 x) = zval b64 (val64 y)) : cmpValue (FP.dcmp x y) o = (0 : Int32) := by
  rw [own_cmp hx hy, h, compare_self_int]
  rfl
theorem own_cg {x y : UInt64} (o : CmpOp) (hx : val64 x ≠ .nan) (hy : val64 y ≠ .nan) (h : zval b64 (val64 y) < zval b64 (val64 x)) : cmpValue (FP.dcmp x y) o = (1 : Int32) := by
  rw [own_cmp hx hy, compare_swap_int, show compare (zval b64 (val64 y)) (zval b64 (val64 x)) = .lt by simp only [compare, compareOfLessAndEq, h, if_true]]
  rfl
end OwnF
section OwnR
open Jvm.FP Jvm.FP.Core
theorem own_log {B : Nat} (h : 0 < B) (h2 : B ≤ 2 ^ 40) : ∃ j, j ≤ 1000 ∧ B ≤ 2 ^ j ∧ 2 ^ j ≤ 2 * B := by
  refine ⟨B.log2 + 1, ?_, ?_, ?_⟩
  · have h1 : B.log2 < 41 := (Nat.log2_lt (by omega)).mpr (Nat.lt_of_le_of_lt h2 (by decide))
    omega
  · exact Nat.le_of_lt ((Nat.log2_lt (by omega)).mp (Nat.lt_succ_self _))
  · rw [Nat.pow_succ, Nat.mul_comm]
    exact Nat.mul_le_mul_left 2 (Nat.log2_self_le (by omega))
theorem own_lo1 {s : Bool} {A B l : Nat} (hB : 0 < B) (hB2 : B ≤ 2 ^ 40) (hA : A < 2 ^ 50) (h : l * B < A) : l * 2 ^ 1074 < zmag b64 (roundRatio b64 s A B 0) := by
  obtain ⟨j, hj, h1, h2⟩ := own_log hB hB2
  have e1 : l * 2 ^ j ≤ l * (2 * B) := Nat.mul_le_mul_left l h2
  rw [Nat.mul_left_comm] at e1
  have e2 : (l * B + 1) * 2 ^ j ≤ A * 2 ^ j := Nat.mul_le_mul_right _ h
  have e3 : (l * 2 ^ j + 1) * B = (l * B) * 2 ^ j + B := by rw [Nat.add_mul, Nat.one_mul, Nat.mul_right_comm]
  have e4 : (l * B + 1) * 2 ^ j = (l * B) * 2 ^ j + 2 ^ j := by rw [Nat.add_mul, Nat.one_mul]
  have k := own_fge (s := s) (A := A) (B := B) (c := l * 2 ^ j + 1) (j := j) hB (by
    have : (2 : Nat) ^ 53 = 8 * 2 ^ 50 := by decide
    omega) hj (by omega)
  refine Nat.lt_of_lt_of_le ?_ k
  rw [show (1074 : Nat) = j + (1074 - j) by omega, Nat.pow_add, ← Nat.mul_assoc, show j + (1074 - j) - j = 1074 - j by omega]
  exact Nat.mul_lt_mul_of_pos_right (Nat.lt_succ_self _) (Nat.two_pow_pos _)
theorem own_hi1 {s : Bool} {A B l : Nat} (hB : 0 < B) (hB2 : B ≤ 2 ^ 40) (hA : A < 2 ^ 50) (h0 : l * B ≤ A) (h : A < (l + 1) * B) : zmag b64 (roundRatio b64 s A B 0) < (l + 1) * 2 ^ 1074 := by
  obtain ⟨j, hj, h1, h2⟩ := own_log hB hB2
  have p1 : 0 < 2 ^ j := Nat.two_pow_pos j
  have e0 : (l + 1) * B = l * B + B := by rw [Nat.add_mul, Nat.one_mul]
  have e1 : (l + 1) * 2 ^ j ≤ (l + 1) * (2 * B) := Nat.mul_le_mul_left _ h2
  rw [Nat.mul_left_comm] at e1
  have e2 : (A + 1) * 2 ^ j ≤ ((l + 1) * B) * 2 ^ j := Nat.mul_le_mul_right _ h
  have e5 : 2 ^ j ≤ (l + 1) * 2 ^ j := Nat.le_mul_of_pos_left _ (Nat.succ_pos l)
  have e3 : ((l + 1) * 2 ^ j - 1) * B = ((l + 1) * B) * 2 ^ j - B := by rw [Nat.sub_mul, Nat.one_mul, Nat.mul_right_comm]
  have e4 : (A + 1) * 2 ^ j = A * 2 ^ j + 2 ^ j := by rw [Nat.add_mul, Nat.one_mul]
  have k := own_fle (s := s) (A := A) (B := B) (c := (l + 1) * 2 ^ j - 1) (j := j) hB (by
    have : (2 : Nat) ^ 53 = 8 * 2 ^ 50 := by decide
    have : (2 : Nat) ^ 50 = 1024 * 2 ^ 40 := by decide
    omega) hj (by omega)
  refine Nat.lt_of_le_of_lt k ?_
  rw [show (1074 : Nat) = j + (1074 - j) by omega, Nat.pow_add, ← Nat.mul_assoc, show j + (1074 - j) - j = 1074 - j by omega]
  exact Nat.mul_lt_mul_of_pos_right (by omega) (Nat.two_pow_pos _)
theorem own_z2 {x : Int64} {m : Nat} (e : x.toInt = (m : Int)) (h : m < 2 ^ 53) : zval b64 (val64 (Core.l2d x)) = ((m * 2 ^ 1074 : Nat) : Int) := by
  rw [own_zvl (by rw [e, Int.natAbs_natCast]; exact h), e, Int.natCast_mul]
theorem own_sf (x : Nat) : signed false x = (x : Int) := rfl
theorem own_and (x m : Int64) (hm : 0 ≤ m.toInt) : 0 ≤ (x &&& m).toInt ∧ (x &&& m).toInt ≤ m.toInt := by
  have h1 : (x &&& m).toBitVec.toNat ≤ m.toBitVec.toNat := by
    rw [Int64.toBitVec_and, BitVec.toNat_and]
    exact Nat.and_le_right
  have h2 : m.toBitVec.toNat < 2 ^ 63 := by
    have h3 : 0 ≤ m.toBitVec.toInt := hm
    have h4 := m.toBitVec.isLt
    rw [BitVec.toInt_eq_toNat_cond] at h3
    split at h3 <;> omega
  have e1 : (x &&& m).toInt = ((x &&& m).toBitVec.toNat : Int) := BitVec.toInt_eq_toNat_of_lt (by omega)
  have e2 : m.toInt = (m.toBitVec.toNat : Int) := BitVec.toInt_eq_toNat_of_lt (by omega)
  rw [e1, e2]
  omega
/-- what the law's numbers are -/
def own_P (a n : Int64) : Prop := 0 ≤ a.toInt ∧ a.toInt ≤ 1048575 ∧ 0 < n.toInt ∧ n.toInt ≤ 1099511627776
theorem own_pn (x y : Int64) : own_P (x &&& (1048575 : Int64)) ((y &&& (1099511627775 : Int64)) + (1 : Int64)) := by
  have h1 := own_and x (1048575 : Int64) (by decide)
  have h2 := own_and y (1099511627775 : Int64) (by decide)
  have e1 : (1048575 : Int64).toInt = 1048575 := by decide
  have e2 : (1099511627775 : Int64).toInt = 1099511627775 := by decide
  have e3 : (1 : Int64).toInt = 1 := by decide
  rw [e1] at h1
  rw [e2] at h2
  have e := add64 (a := y &&& (1099511627775 : Int64)) (b := (1 : Int64)) ⟨by omega, by omega⟩ ⟨by decide, by decide⟩
  refine ⟨h1.1, h1.2, ?_, ?_⟩ <;> rw [e, e3] <;> omega
theorem own_S {a n : Int64} (h : own_P a n) : (a * (1000000000 : Int64)).toInt = a.toInt * 1000000000 := by
  obtain ⟨h1, h2, -, -⟩ := h
  rw [Int64.toInt_mul, show (1000000000 : Int64).toInt = 1000000000 by decide]
  exact Int.bmod_eq_of_le (by omega) (by omega)
theorem own_nz {a n : Int64} (h : own_P a n) : n ≠ 0 := fun q => by
  have := h.2.2.1
  rw [q] at this
  exact absurd this (by decide)
theorem own_lo {a n : Int64} (h : own_P a n) : ((a * (1000000000 : Int64)) / n).toInt = (a.toInt * 1000000000) / n.toInt := by
  have hS := own_S h
  obtain ⟨h1, h2, h3, h4⟩ := h
  rw [Int64.toInt_div, hS, Int.tdiv_eq_ediv_of_nonneg (by omega)]
  have k1 := Int.ediv_nonneg (a := a.toInt * 1000000000) (b := n.toInt) (by omega) (by omega)
  have k2 : a.toInt * 1000000000 / n.toInt ≤ a.toInt * 1000000000 := Int.ediv_le_self _ (by omega)
  exact Int.bmod_eq_of_le (by omega) (by omega)
theorem own_K : (4741671816366391296 : UInt64) = Core.l2d (1000000000 : Int64) := by decide +kernel
theorem own_mul {a n : Int64} (h : own_P a n) : FP.dmul (FP.l2d a) (4741671816366391296 : UInt64) = FP.l2d (a * (1000000000 : Int64)) := by
  obtain ⟨h1, h2, -, -⟩ := h
  rw [own_K]
  refine dmul_k (A := 1048575) (B := 1000000000) (by omega) h2 (by decide) (by decide) (by decide) (by decide) (by decide) (fun q => absurd q.2 (by decide)) (fun q => absurd q.1 (by decide))
theorem own_nn1 {a n : Int64} (h : own_P a n) : Jvm.Free.Fl.NoNaN64 (FP.dmul (FP.l2d a) (4741671816366391296 : UInt64)) := by
  rw [own_mul h]
  exact own_nn (own_nl _)
/-- all that is asked of the two numbers, as natural ones -/
theorem own_nat {a n : Int64} (h : own_P a n) : ∃ A B : Nat, (a * (1000000000 : Int64)).toInt = A ∧ n.toInt = B ∧ A < 2 ^ 50 ∧ 0 < B ∧ B ≤ 2 ^ 40 ∧ ((a * (1000000000 : Int64)) / n).toInt = ((A / B : Nat) : Int) ∧ (a * (1000000000 : Int64)).toInt.natAbs = A ∧ n.toInt.natAbs = B := by
  have hS := own_S h
  have hl := own_lo h
  obtain ⟨h1, h2, h3, h4⟩ := h
  refine ⟨(a.toInt * 1000000000).toNat, n.toInt.toNat, by omega, by omega, by omega, by omega, by omega, ?_, by omega, by omega⟩
  rw [hl, Int.natCast_ediv, Int.toNat_of_nonneg (by omega), Int.toNat_of_nonneg (by omega)]
theorem own_rw {a n : Int64} (h : own_P a n) : FP.ddiv (FP.dmul (FP.l2d a) (4741671816366391296 : UInt64)) (FP.l2d n) = Core.ddiv (Core.l2d (a * (1000000000 : Int64))) (Core.l2d n) := by
  rw [own_mul h]
theorem own_nn2 {a n : Int64} (h : own_P a n) : Jvm.Free.Fl.NoNaN64 (FP.ddiv (FP.dmul (FP.l2d a) (4741671816366391296 : UInt64)) (FP.l2d n)) := by
  rw [own_rw h]
  obtain ⟨A, B, e1, e2, h1, h2, h3, h4, h5, h6⟩ := own_nat h
  exact own_nn (own_nq (by rw [h5]; omega) (by rw [h6]; omega) (by omega))
theorem own_rem {a n : Int64} (h : own_P a n) {A B : Nat} (e1 : (a * (1000000000 : Int64)).toInt = A) (e2 : n.toInt = B) (h4 : ((a * (1000000000 : Int64)) / n).toInt = ((A / B : Nat) : Int)) (hA : A < 2 ^ 50) : ((a * (1000000000 : Int64)) - ((a * (1000000000 : Int64)) / n) * n).toInt = ((A % B : Nat) : Int) := by
  have k1 : A / B * B ≤ A := Nat.div_mul_le_self A B
  have k2 : A % B = A - A / B * B := by rw [Nat.mul_comm]; exact Nat.mod_eq_sub_mul_div
  have e3 : (((a * (1000000000 : Int64)) / n) * n).toInt = ((A / B * B : Nat) : Int) := by
    rw [Int64.toInt_mul, h4, e2, ← Int.natCast_mul]
    exact Int.bmod_eq_of_le (by omega) (by omega)
  rw [Int64.toInt_sub, e1, e3, k2]
  have k3 : ((A - A / B * B : Nat) : Int) = (A : Int) - ((A / B * B : Nat) : Int) := by omega
  rw [k3]
  exact Int.bmod_eq_of_le (by omega) (by omega)
theorem own_r0 {a n : Int64} (h : own_P a n) : ((lcmpW ((a * (1000000000 : Int64)) - ((a * (1000000000 : Int64)) / n) * n) (0 : Int64)) = (0 : Int32)) ↔ ((a * (1000000000 : Int64)) - ((a * (1000000000 : Int64)) / n) * n).toInt = 0 := by
  rw [lw_eq, ← Int64.toInt_inj]
  rfl
theorem own_c0 {a n : Int64} (h : own_P a n) (hr : (lcmpW ((a * (1000000000 : Int64)) - ((a * (1000000000 : Int64)) / n) * n) (0 : Int64)) = (0 : Int32)) : (cmpValue (FP.dcmp (FP.ddiv (FP.dmul (FP.l2d a) (4741671816366391296 : UInt64)) (FP.l2d n)) (FP.l2d ((a * (1000000000 : Int64)) / n))) .l) = (0 : Int32) := by
  rw [own_r0 h] at hr
  rw [own_rw h]
  obtain ⟨A, B, e1, e2, h1, h2, h3, h4, h5, h6⟩ := own_nat h
  rw [own_rem h e1 e2 h4 h1] at hr
  have k := Nat.div_add_mod A B
  have hA0 : 0 ≤ (a * (1000000000 : Int64)).toInt := by omega
  have k1 : A / B ≤ A := Nat.div_le_self A B
  refine own_ce _ (own_nq (by rw [h5]; omega) (by rw [h6]; omega) (by omega)) (own_nl _) ?_
  rw [own_zq (by rw [h5]; omega) (by rw [h6]; omega) (by omega), own_zvl (by rw [h4, Int.natAbs_natCast]; omega), decide_eq_false (by omega), h5, h6, h4, own_feq (c := A / B) (j := 0) h2 (by omega) (by decide) (by rw [Nat.pow_zero, Nat.mul_one, Nat.mul_comm]; omega), ← Int.natCast_mul]
  rfl
theorem own_c1 {a n : Int64} (h : own_P a n) (hr : ¬ (lcmpW ((a * (1000000000 : Int64)) - ((a * (1000000000 : Int64)) / n) * n) (0 : Int64)) = (0 : Int32)) : (cmpValue (FP.dcmp (FP.l2d ((a * (1000000000 : Int64)) / n)) (FP.ddiv (FP.dmul (FP.l2d a) (4741671816366391296 : UInt64)) (FP.l2d n))) .g) < (0 : Int32) := by
  rw [own_r0 h] at hr
  rw [own_rw h]
  obtain ⟨A, B, e1, e2, h1, h2, h3, h4, h5, h6⟩ := own_nat h
  rw [own_rem h e1 e2 h4 h1] at hr
  have k := Nat.div_add_mod A B
  have k1 : A / B ≤ A := Nat.div_le_self A B
  rw [own_cl .g (own_nl _) (own_nq (by rw [h5]; omega) (by rw [h6]; omega) (by omega))]
  · decide
  rw [own_zq (by rw [h5]; omega) (by rw [h6]; omega) (by omega), own_zvl (by rw [h4, Int.natAbs_natCast]; omega), decide_eq_false (by omega), h5, h6, h4, ← Int.natCast_mul]
  exact Int.ofNat_lt.mpr (own_lo1 h2 h3 h1 (by rw [Nat.mul_comm]; omega))
theorem own_c2 {a n : Int64} (h : own_P a n) : (cmpValue (FP.dcmp (FP.ddiv (FP.dmul (FP.l2d a) (4741671816366391296 : UInt64)) (FP.l2d n)) (FP.l2d (((a * (1000000000 : Int64)) / n) + (1 : Int64)))) .g) < (0 : Int32) := by
  rw [own_rw h]
  obtain ⟨A, B, e1, e2, h1, h2, h3, h4, h5, h6⟩ := own_nat h
  have k1 : A / B ≤ A := Nat.div_le_self A B
  have k2 : A / B * B ≤ A := Nat.div_mul_le_self A B
  have k3 : A < (A / B + 1) * B := by rw [Nat.mul_comm]; exact Nat.lt_mul_div_succ A h2
  generalize A / B = l at *
  have e5 : (((a * (1000000000 : Int64)) / n) + (1 : Int64)).toInt = ((l + 1 : Nat) : Int) := by
    rw [add64 (a := (a * (1000000000 : Int64)) / n) (b := (1 : Int64)) ⟨by omega, by omega⟩ ⟨by decide, by decide⟩, h4, show (1 : Int64).toInt = 1 by decide]
    omega
  rw [own_cl .g (own_nq (by rw [h5]; omega) (by rw [h6]; omega) (by omega)) (own_nl _)]
  · decide
  have z1 : zval b64 (val64 (Core.ddiv (Core.l2d (a * (1000000000 : Int64))) (Core.l2d n))) = ((zmag b64 (roundRatio b64 false A B 0) : Nat) : Int) := (own_zq (by rw [h5]; omega) (by rw [h6]; omega) (by omega)).trans (by rw [decide_eq_false (by omega), h5, h6]; rfl)
  have z2 := own_z2 e5 (Nat.lt_of_le_of_lt (Nat.le_trans (Nat.succ_le_succ k1) h1) (by decide))
  have k := own_hi1 (s := false) h2 h3 h1 k2 k3
  exact Int.lt_of_le_of_lt (Int.le_of_eq z1) (Int.lt_of_lt_of_le (Int.ofNat_lt.mpr k) (Int.le_of_eq z2.symm))
end OwnR
theorem d1_0 : decode prog_3_method_1_code 0 = .ok (.aload_n 0, 1) := by decide +kernel
theorem d1_1 : decode prog_3_method_1_code 1 = .ok (.invokespecial 1, 3) := by decide +kernel
theorem d1_4 : decode prog_3_method_1_code 4 = .ok (.aload_n 0, 1) := by decide +kernel
theorem d1_5 : decode prog_3_method_1_code 5 = .ok (.lload_n 1, 1) := by decide +kernel
theorem d1_6 : decode prog_3_method_1_code 6 = .ok (.putfield 7, 3) := by decide +kernel
theorem d1_9 : decode prog_3_method_1_code 9 = .ok (.aload_n 0, 1) := by decide +kernel
theorem d1_10 : decode prog_3_method_1_code 10 = .ok (.lload_n 3, 1) := by decide +kernel
theorem d1_11 : decode prog_3_method_1_code 11 = .ok (.putfield 13, 3) := by decide +kernel
theorem d1_14 : decode prog_3_method_1_code 14 = .ok (.aload_n 0, 1) := by decide +kernel
theorem d1_15 : decode prog_3_method_1_code 15 = .ok (.lload 5, 2) := by decide +kernel
theorem d1_17 : decode prog_3_method_1_code 17 = .ok (.putfield 16, 3) := by decide +kernel
theorem d1_20 : decode prog_3_method_1_code 20 = .ok (.return_, 1) := by decide +kernel
theorem d0_0 : decode prog_3_method_5_code 0 = .ok (.aload_n 0, 1) := by decide +kernel
theorem d0_1 : decode prog_3_method_5_code 1 = .ok (.getfield 13, 3) := by decide +kernel
theorem d0_4 : decode prog_3_method_5_code 4 = .ok (.l2d, 1) := by decide +kernel
theorem d0_5 : decode prog_3_method_5_code 5 = .ok (.ldc2_w 19, 3) := by decide +kernel
theorem d0_8 : decode prog_3_method_5_code 8 = .ok (.dmul, 1) := by decide +kernel
theorem d0_9 : decode prog_3_method_5_code 9 = .ok (.aload_n 0, 1) := by decide +kernel
theorem d0_10 : decode prog_3_method_5_code 10 = .ok (.getfield 7, 3) := by decide +kernel
theorem d0_13 : decode prog_3_method_5_code 13 = .ok (.l2d, 1) := by decide +kernel
theorem d0_14 : decode prog_3_method_5_code 14 = .ok (.ddiv, 1) := by decide +kernel
theorem d0_15 : decode prog_3_method_5_code 15 = .ok (.dreturn, 1) := by decide +kernel
theorem tw0 {Z : State} {a0 : Array Value} (hw : ∀ d ∈ tables_1, d.before a0 Z = true) : (Jvm.Cond.constantLong "com/example/shellwire/shellwire/bench/MeasurementRecordsPerSecondPinLaw" (7 : Nat) (1048575 : Int64)).before a0 Z = true := hw _ (List.mem_of_getElem? (i := 0) rfl)
theorem tw1 {Z : State} {a0 : Array Value} (hw : ∀ d ∈ tables_1, d.before a0 Z = true) : (Jvm.Cond.constantLong "com/example/shellwire/shellwire/bench/MeasurementRecordsPerSecondPinLaw" (9 : Nat) (1099511627775 : Int64)).before a0 Z = true := hw _ (List.mem_of_getElem? (i := 1) rfl)
theorem tw2 {Z : State} {a0 : Array Value} (hw : ∀ d ∈ tables_1, d.before a0 Z = true) : (Jvm.Cond.classLink "com/example/shellwire/shellwire/bench/MeasurementRecordsPerSecondPinLaw" (11 : Nat) "com/example/shellwire/shellwire/bench/Measurement").before a0 Z = true := hw _ (List.mem_of_getElem? (i := 2) rfl)
theorem tw3 {Z : State} {a0 : Array Value} (hw : ∀ d ∈ tables_1, d.before a0 Z = true) : (Jvm.Cond.instantiable "com/example/shellwire/shellwire/bench/Measurement" (3 : Nat)).before a0 Z = true := hw _ (List.mem_of_getElem? (i := 3) rfl)
theorem tw4 {Z : State} {a0 : Array Value} (hw : ∀ d ∈ tables_1, d.before a0 Z = true) : (Jvm.Cond.initialized "com/example/shellwire/shellwire/bench/Measurement").before a0 Z = true := hw _ (List.mem_of_getElem? (i := 4) rfl)
theorem tw5 {Z : State} {a0 : Array Value} (hw : ∀ d ∈ tables_1, d.before a0 Z = true) : (Jvm.Cond.methodLink "com/example/shellwire/shellwire/bench/MeasurementRecordsPerSecondPinLaw" (13 : Nat) ({ cls := "com/example/shellwire/shellwire/bench/Measurement", name := "<init>", desc := "(JJJ)V" } : Jvm.MethodName)).before a0 Z = true := hw _ (List.mem_of_getElem? (i := 5) rfl)
theorem tw6 {Z : State} {a0 : Array Value} (hw : ∀ d ∈ tables_1, d.before a0 Z = true) : (Jvm.Cond.instanceMethod ({ cls := "com/example/shellwire/shellwire/bench/Measurement", name := "<init>", desc := "(JJJ)V" } : Jvm.MethodName)).before a0 Z = true := hw _ (List.mem_of_getElem? (i := 6) rfl)
theorem tw7 {Z : State} {a0 : Array Value} (hw : ∀ d ∈ tables_1, d.before a0 Z = true) : (Jvm.Cond.code ({ cls := "com/example/shellwire/shellwire/bench/Measurement", name := "<init>", desc := "(JJJ)V" } : Jvm.MethodName) prog_3_method_1_code (7 : Nat) (Option.none : Option Jvm.ClassFile.FieldType)).before a0 Z = true := hw _ (List.mem_of_getElem? (i := 7) rfl)
theorem tw8 {Z : State} {a0 : Array Value} (hw : ∀ d ∈ tables_1, d.before a0 Z = true) : (Jvm.Cond.methodLink "com/example/shellwire/shellwire/bench/Measurement" (1 : Nat) ({ cls := "java/lang/Object", name := "<init>", desc := "()V" } : Jvm.MethodName)).before a0 Z = true := hw _ (List.mem_of_getElem? (i := 8) rfl)
theorem tw9 {Z : State} {a0 : Array Value} (hw : ∀ d ∈ tables_1, d.before a0 Z = true) : (Jvm.Cond.instanceMethod ({ cls := "java/lang/Object", name := "<init>", desc := "()V" } : Jvm.MethodName)).before a0 Z = true := hw _ (List.mem_of_getElem? (i := 9) rfl)
theorem tw10 {Z : State} {a0 : Array Value} (hw : ∀ d ∈ tables_1, d.before a0 Z = true) : (Jvm.Cond.code ({ cls := "java/lang/Object", name := "<init>", desc := "()V" } : Jvm.MethodName) object_method_1_code (1 : Nat) (Option.none : Option Jvm.ClassFile.FieldType)).before a0 Z = true := hw _ (List.mem_of_getElem? (i := 10) rfl)
theorem tw11 {Z : State} {a0 : Array Value} (hw : ∀ d ∈ tables_1, d.before a0 Z = true) : (Jvm.Cond.fieldLink "com/example/shellwire/shellwire/bench/Measurement" (7 : Nat) "com/example/shellwire/shellwire/bench/Measurement" "nanoseconds" "J").before a0 Z = true := hw _ (List.mem_of_getElem? (i := 11) rfl)
theorem tw12 {Z : State} {a0 : Array Value} (hw : ∀ d ∈ tables_1, d.before a0 Z = true) : (Jvm.Cond.laysFinal "com/example/shellwire/shellwire/bench/Measurement" "com/example/shellwire/shellwire/bench/Measurement" "nanoseconds" "J").before a0 Z = true := hw _ (List.mem_of_getElem? (i := 12) rfl)
theorem tw13 {Z : State} {a0 : Array Value} (hw : ∀ d ∈ tables_1, d.before a0 Z = true) : (Jvm.Cond.fieldLink "com/example/shellwire/shellwire/bench/Measurement" (13 : Nat) "com/example/shellwire/shellwire/bench/Measurement" "answers" "J").before a0 Z = true := hw _ (List.mem_of_getElem? (i := 13) rfl)
theorem tw14 {Z : State} {a0 : Array Value} (hw : ∀ d ∈ tables_1, d.before a0 Z = true) : (Jvm.Cond.laysFinal "com/example/shellwire/shellwire/bench/Measurement" "com/example/shellwire/shellwire/bench/Measurement" "answers" "J").before a0 Z = true := hw _ (List.mem_of_getElem? (i := 14) rfl)
theorem tw15 {Z : State} {a0 : Array Value} (hw : ∀ d ∈ tables_1, d.before a0 Z = true) : (Jvm.Cond.fieldLink "com/example/shellwire/shellwire/bench/Measurement" (16 : Nat) "com/example/shellwire/shellwire/bench/Measurement" "words" "J").before a0 Z = true := hw _ (List.mem_of_getElem? (i := 15) rfl)
theorem tw16 {Z : State} {a0 : Array Value} (hw : ∀ d ∈ tables_1, d.before a0 Z = true) : (Jvm.Cond.laysFinal "com/example/shellwire/shellwire/bench/Measurement" "com/example/shellwire/shellwire/bench/Measurement" "words" "J").before a0 Z = true := hw _ (List.mem_of_getElem? (i := 16) rfl)
theorem tw17 {Z : State} {a0 : Array Value} (hw : ∀ d ∈ tables_1, d.before a0 Z = true) : (Jvm.Cond.methodLink "com/example/shellwire/shellwire/bench/MeasurementRecordsPerSecondPinLaw" (16 : Nat) ({ cls := "com/example/shellwire/shellwire/bench/Measurement", name := "recordsPerSecond", desc := "()D" } : Jvm.MethodName)).before a0 Z = true := hw _ (List.mem_of_getElem? (i := 17) rfl)
theorem tw18 {Z : State} {a0 : Array Value} (hw : ∀ d ∈ tables_1, d.before a0 Z = true) : (Jvm.Cond.declares ({ cls := "com/example/shellwire/shellwire/bench/Measurement", name := "recordsPerSecond", desc := "()D" } : Jvm.MethodName)).before a0 Z = true := hw _ (List.mem_of_getElem? (i := 18) rfl)
theorem tw19 {Z : State} {a0 : Array Value} (hw : ∀ d ∈ tables_1, d.before a0 Z = true) : (Jvm.Cond.instanceMethod ({ cls := "com/example/shellwire/shellwire/bench/Measurement", name := "recordsPerSecond", desc := "()D" } : Jvm.MethodName)).before a0 Z = true := hw _ (List.mem_of_getElem? (i := 19) rfl)
theorem tw20 {Z : State} {a0 : Array Value} (hw : ∀ d ∈ tables_1, d.before a0 Z = true) : (Jvm.Cond.selects "com/example/shellwire/shellwire/bench/Measurement" ({ cls := "com/example/shellwire/shellwire/bench/Measurement", name := "recordsPerSecond", desc := "()D" } : Jvm.MethodName) ({ cls := "com/example/shellwire/shellwire/bench/Measurement", name := "recordsPerSecond", desc := "()D" } : Jvm.MethodName)).before a0 Z = true := hw _ (List.mem_of_getElem? (i := 20) rfl)
theorem tw21 {Z : State} {a0 : Array Value} (hw : ∀ d ∈ tables_1, d.before a0 Z = true) : (Jvm.Cond.code ({ cls := "com/example/shellwire/shellwire/bench/Measurement", name := "recordsPerSecond", desc := "()D" } : Jvm.MethodName) prog_3_method_5_code (1 : Nat) (Option.some Jvm.ClassFile.FieldType.double)).before a0 Z = true := hw _ (List.mem_of_getElem? (i := 21) rfl)
theorem tw22 {Z : State} {a0 : Array Value} (hw : ∀ d ∈ tables_1, d.before a0 Z = true) : (Jvm.Cond.constantDouble "com/example/shellwire/shellwire/bench/Measurement" (19 : Nat) (4741671816366391296 : UInt64)).before a0 Z = true := hw _ (List.mem_of_getElem? (i := 22) rfl)
theorem tw23 {Z : State} {a0 : Array Value} (hw : ∀ d ∈ tables_1, d.before a0 Z = true) : (Jvm.Cond.constantLong "com/example/shellwire/shellwire/bench/MeasurementRecordsPerSecondPinLaw" (20 : Nat) (1000000000 : Int64)).before a0 Z = true := hw _ (List.mem_of_getElem? (i := 23) rfl)
theorem pd_0 : parseMethodDescriptor "(JJJ)V" = some ⟨[.long, .long, .long], none⟩ := by decide +kernel
theorem pd_1 : parseMethodDescriptor "()D" = some ⟨[], some .double⟩ := by decide +kernel
theorem pn_0 : plainName "com/example/shellwire/shellwire/bench/Measurement" = true := by first | (simp [plainName, overriddenIn]; done) | decide +kernel
theorem pn_1 : plainName "com/example/shellwire/shellwire/bench/MeasurementRecordsPerSecondPinLaw" = true := by first | (simp [plainName, overriddenIn]; done) | decide +kernel
abbrev xs0 : String := "com/example/shellwire/shellwire/bench/Measurement"
abbrev xs1 : String := "recordsPerSecond"
abbrev xm0 : MethodName := (⟨xs0, "<init>", "(JJJ)V"⟩ : MethodName)
abbrev xm1 : MethodName := (⟨xs0, xs1, "()D"⟩ : MethodName)
abbrev xr0 : Room := ({ frames := 1, cells := 0, slots := 0, locals := 12 } : Room)
abbrev xr1 : Room := ({ frames := 0, cells := 0, slots := 0, locals := 0 } : Room)
theorem ef_rps (m : MethodId) (x0 : Addr) : entryFrame m #[(.ref x0)] 1 = mkF m 0 #[.val (.ref x0)] [] := by first | (simp [entryFrame, mkF, argsToLocals, Value.category]; done) | rfl
def Q_rps (Z : State) (bm : Addr) (va : Int64) (vn : Int64) (h0 : Heap) (n0 : Nat) (v : Option Value) (h : Heap) (L : List Loc) : Prop := v = some (.double (FP.ddiv (FP.dmul (FP.l2d va) (4741671816366391296 : UInt64)) (FP.l2d vn))) ∧ Fr n0 L ∧ h = h0
set_option maxRecDepth 65536 in
set_option maxHeartbeats 40000000 in
theorem rm_rps (l : Launch) (Z : State) (a0 : Array Value) (hw : ∀ d ∈ tables_1, d.before a0 Z = true) (ws : List Jvm.Cond) (bm : Addr) (va : Int64) (vn : Int64) (h0 : Heap) (n0 : Nat) (Z0 : n0 ≤ h0.size) (F_answers_bm : Fld Z h0 bm xs0 "answers" "J" (.long va)) (F_nanoseconds_bm : Fld Z h0 bm xs0 "nanoseconds" "J" (.long vn)) (hp : own_P va vn) :
    MetFree l xm1 (head1 (Jvm.Cond.code xm1 prog_3_method_5_code 1 (some .double) :: ws) xr1) (fun a U => a = #[(.ref bm)] ∧ Z.Warmed39 U.vm ∧ U.heap = h0) (fun _ _ _ _ _ => True) (fun _ U o U' => ∃ v L, o = .returned v ∧ Q_rps Z bm va vn h0 n0 v U'.heap L ∧ FrameEnd U o U' L xr1.cells xr1.slots) := by
  refine MetFree.of_bodySF (plainFor_of_name pn_0) hisR ?_
  intro p e s m args below meth c s₁ Bd hml0 hP hK
  obtain ⟨rfl, hZ, hh⟩ := hP
  have hx := Bd.exec
  have hby := Bd.bytes
  have hlk : meth.locks = false := BodyLoose.notSynchronized Bd
  have hml : c.maxLocals = 1 := hml0
  have hown : s.vm.findClass xs0 = some m.cls := findClass_of_methodNamed Bd.named
  have hnm := (name_of_methodNamed Bd.named Bd.method).1
  have X0 : Stand p l e xr1 s m #[(.ref bm)] below meth c s₁ [] 0 0 := Stand.of_body Bd
  have e0 : s₁.heap = h0 := by rw [← hh, Bd.state]; rfl
  have N0 := Fr.nil n0
  show Go p e below s (Q_rps Z bm va vn h0 n0) xr1.cells xr1.slots s₁ (entryFrame m #[(.ref bm)] 1)
  refine Go.cast (ef_rps m bm) ?_
  show Go p e below s _ _ _ s₁ (mkF m 0 #[.val (.ref bm)] [])
  refine Go.step (fun _ k => XS.aloadN X0.here hx rfl (hb hby d0_0) rfl rfl k) ?_
  show Go p e below s _ _ _ s₁ (mkF m 1 #[.val (.ref bm)] [(.ref bm)])
  obtain ⟨T1, X1, e1, st1⟩ := getF X0 hx hZ hown (host := "") (Or.inl (tw13 hw)) Via.refl e0 F_answers_bm (g := (mkF m 1 #[.val (.ref bm)] [(.ref bm)])) rfl rfl (hb hby d0_1)
  refine Go.step (fun _ k => st1 _ (XS.l2dS X1.here hx rfl (hb hby d0_4) rfl rfl (X1.ldc2DoubleC hx hown (mvT hZ (tw22 hw)) (g := (mkF m 5 #[.val (.ref bm)] [(.double (FP.l2d va))])) rfl (hb hby d0_5) _ (XS.dmulS X1.here hx rfl (hb hby d0_8) rfl (own_nn1 hp) rfl (XS.aloadN X1.here hx rfl (hb hby d0_9) rfl rfl k))))) ?_
  show Go p e below s _ _ _ T1 (mkF m 10 #[.val (.ref bm)] [(.ref bm), (.double (FP.dmul (FP.l2d va) (4741671816366391296 : UInt64)))])
  obtain ⟨T2, X2, e2, st2⟩ := getF X1 hx hZ hown (host := "") (Or.inl (tw11 hw)) Via.refl e1 F_nanoseconds_bm (g := (mkF m 10 #[.val (.ref bm)] [(.ref bm), (.double (FP.dmul (FP.l2d va) (4741671816366391296 : UInt64)))])) rfl rfl (hb hby d0_10)
  refine Go.step (fun _ k => st2 _ (XS.l2dS X2.here hx rfl (hb hby d0_13) rfl rfl (XS.ddivS X2.here hx rfl (hb hby d0_14) rfl (own_nn2 hp) rfl k))) ?_
  show Go p e below s _ _ _ T2 (mkF m 15 #[.val (.ref bm)] [(.double (FP.ddiv (FP.dmul (FP.l2d va) (4741671816366391296 : UInt64)) (FP.l2d vn)))])
  exact Go.retD X2 hx hlk Bd.returns (hb hby d0_15) e2 ⟨rfl, N0, rfl⟩ (by decide) (by decide)

theorem ef_Measurement_new_0 (m : MethodId) (x0 : Addr) (x1 : Int64) (x2 : Int64) (x3 : Int64) : entryFrame m #[(.ref x0), (.long x1), (.long x2), (.long x3)] 7 = mkF m 0 #[.val (.ref x0), .val (.long x1), .second, .val (.long x2), .second, .val (.long x3), .second] [] := by first | (simp [entryFrame, mkF, argsToLocals, Value.category]; done) | rfl
def Q_Measurement_new_0 (Z : State) (b3 : Addr) (vn : Int64) (va : Int64) (p3 : Int64) (h0 : Heap) (n0 : Nat) (v : Option Value) (h : Heap) (L : List Loc) : Prop := v = none ∧ Fr n0 L ∧ Keep h0 h [b3] ∧ Fld Z h b3 xs0 "nanoseconds" "J" (.long vn) ∧ Fld Z h b3 xs0 "answers" "J" (.long va) ∧ Fld Z h b3 xs0 "words" "J" (.long p3)
set_option maxRecDepth 65536 in
set_option maxHeartbeats 40000000 in
theorem rm_Measurement_new_0 (l : Launch) (Z : State) (a0 : Array Value) (hw : ∀ d ∈ tables_1, d.before a0 Z = true) (ws : List Jvm.Cond) (b3 : Addr) (vn : Int64) (va : Int64) (p3 : Int64) (h0 : Heap) (n0 : Nat) (Z0 : n0 ≤ h0.size) (E_b3 : Exa Z h0 b3 xs0) (F_nanoseconds_b3 : Fld Z h0 b3 xs0 "nanoseconds" "J" (.long (0 : Int64))) (g_b3 : n0 ≤ b3) (F_answers_b3 : Fld Z h0 b3 xs0 "answers" "J" (.long (0 : Int64))) (F_words_b3 : Fld Z h0 b3 xs0 "words" "J" (.long (0 : Int64))) :
    MetFree l xm0 (head1 (Jvm.Cond.code xm0 prog_3_method_1_code 7 none :: ws) xr0) (fun a U => a = #[(.ref b3), (.long vn), (.long va), (.long p3)] ∧ Z.Warmed39 U.vm ∧ U.heap = h0) (fun _ _ _ _ _ => True) (fun _ U o U' => ∃ v L, o = .returned v ∧ Q_Measurement_new_0 Z b3 vn va p3 h0 n0 v U'.heap L ∧ FrameEnd U o U' L xr0.cells xr0.slots) := by
  refine MetFree.of_bodySF (plainFor_of_name pn_0) hisR ?_
  intro p e s m args below meth c s₁ Bd hml0 hP hK
  obtain ⟨rfl, hZ, hh⟩ := hP
  have hx := Bd.exec
  have hby := Bd.bytes
  have hlk : meth.locks = false := BodyLoose.notSynchronized Bd
  have hml : c.maxLocals = 7 := hml0
  have hown : s.vm.findClass xs0 = some m.cls := findClass_of_methodNamed Bd.named
  have hnm := (name_of_methodNamed Bd.named Bd.method).1
  have X0 : Stand p l e xr0 s m #[(.ref b3), (.long vn), (.long va), (.long p3)] below meth c s₁ [] 0 0 := Stand.of_body Bd
  have e0 : s₁.heap = h0 := by rw [← hh, Bd.state]; rfl
  have N0 := Fr.nil n0
  show Go p e below s (Q_Measurement_new_0 Z b3 vn va p3 h0 n0) xr0.cells xr0.slots s₁ (entryFrame m #[(.ref b3), (.long vn), (.long va), (.long p3)] 7)
  refine Go.cast (ef_Measurement_new_0 m b3 vn va p3) ?_
  show Go p e below s _ _ _ s₁ (mkF m 0 #[.val (.ref b3), .val (.long vn), .second, .val (.long va), .second, .val (.long p3), .second] [])
  refine Go.step (fun _ k => XS.aloadN X0.here hx rfl (hb hby d1_0) rfl rfl k) ?_
  show Go p e below s _ _ _ s₁ (mkF m 1 #[.val (.ref b3), .val (.long vn), .second, .val (.long va), .second, .val (.long p3), .second] [(.ref b3)])
  obtain ⟨T7, X7, e7, st7⟩ := initO X0 hx hZ hown (tw8 hw) (tw9 hw) (tw10 hw) e0 (g := (mkF m 1 #[.val (.ref b3), .val (.long vn), .second, .val (.long va), .second, .val (.long p3), .second] [(.ref b3)])) rfl (by rw [hml]; rfl) rfl (hb hby d1_1) (by decide) (W := 0) (by show 2 * 0 + _ ≤ _; exact Nat.le_of_eq rfl) (by decide)
  refine Go.step (fun _ k => st7 _ (XS.aloadN X7.here hx rfl (hb hby d1_4) rfl rfl (XS.lloadN X7.here hx rfl (hb hby d1_5) rfl k))) ?_
  show Go p e below s _ _ _ T7 (mkF m 6 #[.val (.ref b3), .val (.long vn), .second, .val (.long va), .second, .val (.long p3), .second] [(.long vn), (.ref b3)])
  obtain ⟨T8, h8, X8, e8, W8, st8⟩ := putF X7 hx hZ hown (host := "") (Or.inl (tw11 hw)) Via.refl e7 F_nanoseconds_b3 E_b3 (Or.inr ⟨(tw12 hw), rfl, hnm⟩) (tw3 hw) (ty := .long) (by decide) rfl rfl (g := (mkF m 6 #[.val (.ref b3), .val (.long vn), .second, .val (.long va), .second, .val (.long p3), .second] [(.long vn), (.ref b3)])) rfl rfl (hb hby d1_6)
  have f10 := F_nanoseconds_b3.same W8
  have N11 := Fr.snoc X8 N0 g_b3
  refine Go.step (fun _ k => st8 _ (XS.aloadN X8.here hx rfl (hb hby d1_9) rfl rfl (XS.lloadN X8.here hx rfl (hb hby d1_10) rfl k))) ?_
  show Go p e below s _ _ _ T8 (mkF m 11 #[.val (.ref b3), .val (.long vn), .second, .val (.long va), .second, .val (.long p3), .second] [(.long va), (.ref b3)])
  have f12 := (F_answers_b3.other W8 (Or.inr (slot_ne (Or.inr (tw14 hw)) (Or.inr (tw12 hw)) (by decide) (t := .long) (t' := .long) (by decide) (by decide))))
  have f13 := (E_b3.wr W8)
  obtain ⟨T14, h14, X14, e14, W14, st14⟩ := putF X8 hx hZ hown (host := "") (Or.inl (tw13 hw)) Via.refl e8 f12 f13 (Or.inr ⟨(tw14 hw), rfl, hnm⟩) (tw3 hw) (ty := .long) (by decide) rfl rfl (g := (mkF m 11 #[.val (.ref b3), .val (.long vn), .second, .val (.long va), .second, .val (.long p3), .second] [(.long va), (.ref b3)])) rfl rfl (hb hby d1_11)
  have f15 := f12.same W14
  have N16 := Fr.snoc X14 N11 g_b3
  refine Go.step (fun _ k => st14 _ (XS.aloadN X14.here hx rfl (hb hby d1_14) rfl rfl (XS.lload X14.here hx rfl (hb hby d1_15) rfl k))) ?_
  show Go p e below s _ _ _ T14 (mkF m 17 #[.val (.ref b3), .val (.long vn), .second, .val (.long va), .second, .val (.long p3), .second] [(.long p3), (.ref b3)])
  have f17 := ((F_words_b3.other W8 (Or.inr (slot_ne (Or.inr (tw16 hw)) (Or.inr (tw12 hw)) (by decide) (t := .long) (t' := .long) (by decide) (by decide)))).other W14 (Or.inr (slot_ne (Or.inr (tw16 hw)) (Or.inr (tw14 hw)) (by decide) (t := .long) (t' := .long) (by decide) (by decide))))
  have f18 := (f13.wr W14)
  obtain ⟨T19, h19, X19, e19, W19, st19⟩ := putF X14 hx hZ hown (host := "") (Or.inl (tw15 hw)) Via.refl e14 f17 f18 (Or.inr ⟨(tw16 hw), rfl, hnm⟩) (tw3 hw) (ty := .long) (by decide) rfl rfl (g := (mkF m 17 #[.val (.ref b3), .val (.long vn), .second, .val (.long va), .second, .val (.long p3), .second] [(.long p3), (.ref b3)])) rfl rfl (hb hby d1_17)
  have f20 := f17.same W19
  have N21 := Fr.snoc X19 N16 g_b3
  refine Go.step (fun _ k => st19 _ k) ?_
  show Go p e below s _ _ _ T19 (mkF m 20 #[.val (.ref b3), .val (.long vn), .second, .val (.long va), .second, .val (.long p3), .second] [])
  have f22 := ((((Keep.refl h0 [b3]).wr W8 (Or.inl (List.mem_of_getElem? (i := 0) rfl))).wr W14 (Or.inl (List.mem_of_getElem? (i := 0) rfl))).wr W19 (Or.inl (List.mem_of_getElem? (i := 0) rfl)))
  have f23 := ((f10.other W14 (Or.inr (slot_ne (Or.inr (tw12 hw)) (Or.inr (tw14 hw)) (by decide) (t := .long) (t' := .long) (by decide) (by decide)))).other W19 (Or.inr (slot_ne (Or.inr (tw12 hw)) (Or.inr (tw16 hw)) (by decide) (t := .long) (t' := .long) (by decide) (by decide))))
  have f24 := (f15.other W19 (Or.inr (slot_ne (Or.inr (tw14 hw)) (Or.inr (tw16 hw)) (by decide) (t := .long) (t' := .long) (by decide) (by decide))))
  exact Go.retV X19 hx hlk Bd.returns (hb hby d1_20) e19 ⟨rfl, N21, f22, f23, f24, f20⟩ (by decide) (by decide)

theorem ef_law (m : MethodId) (x0 : Int64) (x1 : Int64) (x2 : Int64) : entryFrame m #[(.long x0), (.long x1), (.long x2)] maxLocals = mkF m 0 #[.val (.long x0), .second, .val (.long x1), .second, .val (.long x2), .second, .unset, .unset, .unset, .unset, .unset, .unset, .unset, .unset, .unset, .unset, .unset, .unset, .unset, .unset, .unset, .unset] [] := by first | (simp [entryFrame, mkF, argsToLocals, Value.category, maxLocals]; done) | rfl
def Q_law (Z : State) (p1 : Int64) (p2 : Int64) (p3 : Int64) (h0 : Heap) (n0 : Nat) (v : Option Value) (h : Heap) (L : List Loc) : Prop := v = some (.int (1 : Int32)) ∧ Fr n0 L
set_option maxRecDepth 65536 in
set_option maxHeartbeats 40000000 in
theorem rm_law (l : Launch) (Z : State) (a0 : Array Value) (hw : ∀ d ∈ tables_1, d.before a0 Z = true) (ws : List Jvm.Cond) (p1 : Int64) (p2 : Int64) (p3 : Int64) (h0 : Heap) (n0 : Nat) (Z0 : n0 ≤ h0.size) :
    MetFree l x (head1 (Jvm.Cond.code x code maxLocals ret :: ws) room_1) (fun a U => a = #[(.long p1), (.long p2), (.long p3)] ∧ Z.Warmed39 U.vm ∧ U.heap = h0) (fun _ _ _ _ _ => True) (fun _ U o U' => ∃ v L, o = .returned v ∧ Q_law Z p1 p2 p3 h0 n0 v U'.heap L ∧ FrameEnd U o U' L room_1.cells room_1.slots) := by
  refine MetFree.of_bodySF (plainFor_of_name pn_1) hisR ?_
  intro p e s m args below meth c s₁ Bd hml0 hP hK
  obtain ⟨rfl, hZ, hh⟩ := hP
  have hx := Bd.exec
  have hby := Bd.bytes
  have hlk : meth.locks = false := BodyLoose.notSynchronized Bd
  have hml : c.maxLocals = 22 := hml0
  have hown : s.vm.findClass "com/example/shellwire/shellwire/bench/MeasurementRecordsPerSecondPinLaw" = some m.cls := findClass_of_methodNamed Bd.named
  have hnm := (name_of_methodNamed Bd.named Bd.method).1
  have X0 : Stand p l e room_1 s m #[(.long p1), (.long p2), (.long p3)] below meth c s₁ [] 0 0 := Stand.of_body Bd
  have e0 : s₁.heap = h0 := by rw [← hh, Bd.state]; rfl
  have N0 := Fr.nil n0
  show Go p e below s (Q_law Z p1 p2 p3 h0 n0) room_1.cells room_1.slots s₁ (entryFrame m #[(.long p1), (.long p2), (.long p3)] maxLocals)
  refine Go.cast (ef_law m p1 p2 p3) ?_
  show Go p e below s _ _ _ s₁ (mkF m 0 #[.val (.long p1), .second, .val (.long p2), .second, .val (.long p3), .second, .unset, .unset, .unset, .unset, .unset, .unset, .unset, .unset, .unset, .unset, .unset, .unset, .unset, .unset, .unset, .unset] [])
  have hp0 := own_pn p1 p2
  refine Go.step (fun _ k => XS.lloadN X0.here hx rfl (hb hby at_0) rfl (X0.ldc2Long hx hown (mvT hZ (tw0 hw)) (g := (mkF m 1 #[.val (.long p1), .second, .val (.long p2), .second, .val (.long p3), .second, .unset, .unset, .unset, .unset, .unset, .unset, .unset, .unset, .unset, .unset, .unset, .unset, .unset, .unset, .unset, .unset] [(.long p1)])) rfl (hb hby at_1) _ (XS.land X0.here hx rfl (hb hby at_4) rfl k))) ?_
  show Go p e below s _ _ _ s₁ (mkF m 5 #[.val (.long p1), .second, .val (.long p2), .second, .val (.long p3), .second, .unset, .unset, .unset, .unset, .unset, .unset, .unset, .unset, .unset, .unset, .unset, .unset, .unset, .unset, .unset, .unset] [(.long (p1 &&& (1048575 : Int64)))])
  obtain ⟨va, eva⟩ : ∃ z, z = (p1 &&& (1048575 : Int64)) := ⟨_, rfl⟩
  rw [← eva] at hp0
  rw [← eva]
  refine Go.step (fun _ k => XS.lstore X0.here hx rfl (hb hby at_5) rfl (l' := #[.val (.long p1), .second, .val (.long p2), .second, .val (.long p3), .second, .val (.long va), .second, .unset, .unset, .unset, .unset, .unset, .unset, .unset, .unset, .unset, .unset, .unset, .unset, .unset, .unset]) rfl (XS.lloadN X0.here hx rfl (hb hby at_7) rfl (X0.ldc2Long hx hown (mvT hZ (tw1 hw)) (g := (mkF m 8 #[.val (.long p1), .second, .val (.long p2), .second, .val (.long p3), .second, .val (.long va), .second, .unset, .unset, .unset, .unset, .unset, .unset, .unset, .unset, .unset, .unset, .unset, .unset, .unset, .unset] [(.long p2)])) rfl (hb hby at_8) _ (XS.land X0.here hx rfl (hb hby at_11) rfl (XS.lconst X0.here hx rfl (hb hby at_12) (XS.ladd X0.here hx rfl (hb hby at_13) rfl k)))))) ?_
  show Go p e below s _ _ _ s₁ (mkF m 14 #[.val (.long p1), .second, .val (.long p2), .second, .val (.long p3), .second, .val (.long va), .second, .unset, .unset, .unset, .unset, .unset, .unset, .unset, .unset, .unset, .unset, .unset, .unset, .unset, .unset] [(.long ((p2 &&& (1099511627775 : Int64)) + (1 : Int64)))])
  obtain ⟨vn, evn⟩ : ∃ z, z = ((p2 &&& (1099511627775 : Int64)) + (1 : Int64)) := ⟨_, rfl⟩
  rw [← evn] at hp0
  rw [← evn]
  show Go p e below s _ _ _ s₁ (mkF m 14 #[.val (.long p1), .second, .val (.long p2), .second, .val (.long p3), .second, .val (.long va), .second, .unset, .unset, .unset, .unset, .unset, .unset, .unset, .unset, .unset, .unset, .unset, .unset, .unset, .unset] [(.long vn)])
  have hp : own_P va vn := hp0
  refine Go.step (fun _ k => XS.lstore X0.here hx rfl (hb hby at_14) rfl (l' := #[.val (.long p1), .second, .val (.long p2), .second, .val (.long p3), .second, .val (.long va), .second, .val (.long vn), .second, .unset, .unset, .unset, .unset, .unset, .unset, .unset, .unset, .unset, .unset, .unset, .unset]) rfl k) ?_
  show Go p e below s _ _ _ s₁ (mkF m 16 #[.val (.long p1), .second, .val (.long p2), .second, .val (.long p3), .second, .val (.long va), .second, .val (.long vn), .second, .unset, .unset, .unset, .unset, .unset, .unset, .unset, .unset, .unset, .unset, .unset, .unset] [])
  obtain ⟨T3, h3, X3, e3, E3, A3, D3, -, st3⟩ := newO X0 hx hZ hown (tw2 hw) (tw3 hw) (tw4 hw) e0 (g := (mkF m 16 #[.val (.long p1), .second, .val (.long p2), .second, .val (.long p3), .second, .val (.long va), .second, .val (.long vn), .second, .unset, .unset, .unset, .unset, .unset, .unset, .unset, .unset, .unset, .unset, .unset, .unset] [])) rfl (hb hby at_16) (by decide) (by decide)
  obtain ⟨b3, g3⟩ : ∃ z, z = h0.size := ⟨_, rfl⟩
  rw [← g3] at A3 D3 st3
  have f4 : Fld Z h3 b3 xs0 "nanoseconds" "J" (.long (0 : Int64)) := D3 (Or.inr (tw12 hw)) (ty := .long) (by decide)
  have f5 : Fld Z h3 b3 xs0 "answers" "J" (.long (0 : Int64)) := D3 (Or.inr (tw14 hw)) (ty := .long) (by decide)
  have f6 : Fld Z h3 b3 xs0 "words" "J" (.long (0 : Int64)) := D3 (Or.inr (tw16 hw)) (ty := .long) (by decide)
  refine Go.step (fun _ k => st3 _ (XS.dup X3.here hx rfl (hb hby at_19) rfl rfl (XS.lload X3.here hx rfl (hb hby at_20) rfl (XS.lload X3.here hx rfl (hb hby at_22) rfl (XS.lload X3.here hx rfl (hb hby at_24) rfl k))))) ?_
  show Go p e below s _ _ _ T3 (mkF m 26 #[.val (.long p1), .second, .val (.long p2), .second, .val (.long p3), .second, .val (.long va), .second, .val (.long vn), .second, .unset, .unset, .unset, .unset, .unset, .unset, .unset, .unset, .unset, .unset, .unset, .unset] [(.long p3), (.long va), (.long vn), (.ref b3), (.ref b3)])
  have g9 := Nat.le_trans Z0 (Nat.le_of_eq g3.symm)
  have f25 := (Nat.le_trans Z0 E3.1)
  obtain ⟨_, _, ⟨T26, L26, k26, n26⟩, -, X26, ⟨Lc26, hQ26, l26, y26, z26⟩, st26⟩ := X3.specialBack hx (y := xm0) rfl hown (mvT hZ (tw5 hw)) (mvT hZ (tw6 hw)) (mvT hZ (tw7 hw)) (by decide) (backOf (W := 1) (rm_Measurement_new_0 l Z a0 hw [] b3 vn va p3 h3 n0 f25 A3 f4 g9 f5 f6) hZ (tw7 hw) (tw4 hw) (by decide) (by decide)) (g := (mkF m 26 #[.val (.long p1), .second, .val (.long p2), .second, .val (.long p3), .second, .val (.long va), .second, .val (.long vn), .second, .unset, .unset, .unset, .unset, .unset, .unset, .unset, .unset, .unset, .unset, .unset, .unset] [(.long p3), (.long va), (.long vn), (.ref b3), (.ref b3)])) rfl (by rw [hml]; rfl) (Steps.refl _) (a := b3) (argsL := [(.long vn), (.long va), (.long p3)]) (rest := [(.ref b3)]) (lenOf pd_0 rfl) rfl (by show 2 * 0 + _ ≤ _; exact Nat.le_of_eq rfl) (hb hby at_26) (fun _ _ => ⟨rfl, e3, (by decide : 1 + 0 ≤ _), (by decide : 3 + 0 ≤ _)⟩)
  dsimp only [Pt.U, Pt.locs, Pt.cells, Pt.slots] at X26 l26 y26 z26 st26 hQ26
  subst l26 y26 z26
  obtain ⟨rfl, N26q, K26, P26_0, P26_1, P26_2⟩ := hQ26
  have N27 := Fr.app N0 N26q
  refine Go.step (fun _ k => st26.trans k) ?_
  show Go p e below s _ _ _ T26 (mkF m 29 #[.val (.long p1), .second, .val (.long p2), .second, .val (.long p3), .second, .val (.long va), .second, .val (.long vn), .second, .unset, .unset, .unset, .unset, .unset, .unset, .unset, .unset, .unset, .unset, .unset, .unset] [(.ref b3)])
  have f28 := (Nat.le_trans f25 K26.1)
  have f30 := (A3.keep K26)
  obtain ⟨cq29, kq29, q29a, q29b, q29c⟩ := isOf hZ rfl f30
  obtain ⟨_, _, ⟨T29, L29, k29, n29⟩, -, X29, ⟨Lc29, hQ29, l29, y29, z29⟩, st29⟩ := X26.virtualBack hx (y := xm1) (z := xm1) hown (mvT hZ (tw17 hw)) (mvT hZ (tw18 hw)) (notFace_of_selects (args := #[]) (mvT hZ (tw20 hw))) (mvT hZ (tw20 hw)) (mvT hZ (tw19 hw)) (by decide) (backOf (W := 0) (rm_rps l Z a0 hw [] b3 va vn T26.heap n0 f28 P26_1 P26_0 hp) hZ (tw21 hw) (tw4 hw) (by decide) (by decide)) q29a q29c (g := (mkF m 29 #[.val (.long p1), .second, .val (.long p2), .second, .val (.long p3), .second, .val (.long va), .second, .val (.long vn), .second, .unset, .unset, .unset, .unset, .unset, .unset, .unset, .unset, .unset, .unset, .unset, .unset] [(.ref b3)])) rfl (by rw [hml]; rfl) (Steps.refl _) (argsL := []) (rest := []) (lenOf pd_1 rfl) rfl (by show 2 * 0 + _ ≤ _; exact Nat.le_of_eq rfl) (hb hby at_29) (fun _ _ => ⟨rfl, rfl, (by decide : 1 + 0 ≤ _), (by decide : 3 + 0 ≤ _)⟩)
  dsimp only [Pt.U, Pt.locs, Pt.cells, Pt.slots] at X29 l29 y29 z29 st29 hQ29
  subst l29 y29 z29
  obtain ⟨rfl, N29q, eq29⟩ := hQ29
  have N31 := Fr.app N27 N29q
  refine Go.step (fun _ k => st29.trans (XS.dstore X29.here hx rfl (hb hby at_32) rfl (l' := #[.val (.long p1), .second, .val (.long p2), .second, .val (.long p3), .second, .val (.long va), .second, .val (.long vn), .second, .val (.double (FP.ddiv (FP.dmul (FP.l2d va) (4741671816366391296 : UInt64)) (FP.l2d vn))), .second, .unset, .unset, .unset, .unset, .unset, .unset, .unset, .unset, .unset, .unset]) rfl (XS.lload X29.here hx rfl (hb hby at_34) rfl (X29.ldc2Long hx hown (mvT hZ (tw23 hw)) (g := (mkF m 36 #[.val (.long p1), .second, .val (.long p2), .second, .val (.long p3), .second, .val (.long va), .second, .val (.long vn), .second, .val (.double (FP.ddiv (FP.dmul (FP.l2d va) (4741671816366391296 : UInt64)) (FP.l2d vn))), .second, .unset, .unset, .unset, .unset, .unset, .unset, .unset, .unset, .unset, .unset] [(.long va)])) rfl (hb hby at_36) _ (XS.lmul X29.here hx rfl (hb hby at_39) rfl (XS.lstore X29.here hx rfl (hb hby at_40) rfl (l' := #[.val (.long p1), .second, .val (.long p2), .second, .val (.long p3), .second, .val (.long va), .second, .val (.long vn), .second, .val (.double (FP.ddiv (FP.dmul (FP.l2d va) (4741671816366391296 : UInt64)) (FP.l2d vn))), .second, .val (.long (va * (1000000000 : Int64))), .second, .unset, .unset, .unset, .unset, .unset, .unset, .unset, .unset]) rfl (XS.lload X29.here hx rfl (hb hby at_42) rfl (XS.lload X29.here hx rfl (hb hby at_44) rfl (XS.ldiv X29.here hx rfl (hb hby at_46) rfl (own_nz hp) (XS.lstore X29.here hx rfl (hb hby at_47) rfl (l' := #[.val (.long p1), .second, .val (.long p2), .second, .val (.long p3), .second, .val (.long va), .second, .val (.long vn), .second, .val (.double (FP.ddiv (FP.dmul (FP.l2d va) (4741671816366391296 : UInt64)) (FP.l2d vn))), .second, .val (.long (va * (1000000000 : Int64))), .second, .val (.long ((va * (1000000000 : Int64)) / vn)), .second, .unset, .unset, .unset, .unset, .unset, .unset]) rfl k)))))))))) ?_
  show Go p e below s _ _ _ T29 (mkF m 49 #[.val (.long p1), .second, .val (.long p2), .second, .val (.long p3), .second, .val (.long va), .second, .val (.long vn), .second, .val (.double (FP.ddiv (FP.dmul (FP.l2d va) (4741671816366391296 : UInt64)) (FP.l2d vn))), .second, .val (.long (va * (1000000000 : Int64))), .second, .val (.long ((va * (1000000000 : Int64)) / vn)), .second, .unset, .unset, .unset, .unset, .unset, .unset] [])
  refine Go.step (fun _ k => XS.lload X29.here hx rfl (hb hby at_49) rfl (XS.lload X29.here hx rfl (hb hby at_51) rfl (XS.lrem X29.here hx rfl (hb hby at_53) rfl (own_nz hp) (XS.lstore X29.here hx rfl (hb hby at_54) rfl (l' := #[.val (.long p1), .second, .val (.long p2), .second, .val (.long p3), .second, .val (.long va), .second, .val (.long vn), .second, .val (.double (FP.ddiv (FP.dmul (FP.l2d va) (4741671816366391296 : UInt64)) (FP.l2d vn))), .second, .val (.long (va * (1000000000 : Int64))), .second, .val (.long ((va * (1000000000 : Int64)) / vn)), .second, .val (.long ((va * (1000000000 : Int64)) - ((va * (1000000000 : Int64)) / vn) * vn)), .second, .unset, .unset, .unset, .unset]) rfl (XS.lload X29.here hx rfl (hb hby at_56) rfl (XS.l2dS X29.here hx rfl (hb hby at_58) rfl rfl (XS.dstore X29.here hx rfl (hb hby at_59) rfl (l' := #[.val (.long p1), .second, .val (.long p2), .second, .val (.long p3), .second, .val (.long va), .second, .val (.long vn), .second, .val (.double (FP.ddiv (FP.dmul (FP.l2d va) (4741671816366391296 : UInt64)) (FP.l2d vn))), .second, .val (.long (va * (1000000000 : Int64))), .second, .val (.long ((va * (1000000000 : Int64)) / vn)), .second, .val (.long ((va * (1000000000 : Int64)) - ((va * (1000000000 : Int64)) / vn) * vn)), .second, .val (.double (FP.l2d ((va * (1000000000 : Int64)) / vn))), .second, .unset, .unset]) rfl (XS.lload X29.here hx rfl (hb hby at_61) rfl (XS.lconst X29.here hx rfl (hb hby at_63) (XS.ladd X29.here hx rfl (hb hby at_64) rfl k)))))))))) ?_
  show Go p e below s _ _ _ T29 (mkF m 65 #[.val (.long p1), .second, .val (.long p2), .second, .val (.long p3), .second, .val (.long va), .second, .val (.long vn), .second, .val (.double (FP.ddiv (FP.dmul (FP.l2d va) (4741671816366391296 : UInt64)) (FP.l2d vn))), .second, .val (.long (va * (1000000000 : Int64))), .second, .val (.long ((va * (1000000000 : Int64)) / vn)), .second, .val (.long ((va * (1000000000 : Int64)) - ((va * (1000000000 : Int64)) / vn) * vn)), .second, .val (.double (FP.l2d ((va * (1000000000 : Int64)) / vn))), .second, .unset, .unset] [(.long (((va * (1000000000 : Int64)) / vn) + (1 : Int64)))])
  refine Go.step (fun _ k => XS.l2dS X29.here hx rfl (hb hby at_65) rfl rfl (XS.dstore X29.here hx rfl (hb hby at_66) rfl (l' := #[.val (.long p1), .second, .val (.long p2), .second, .val (.long p3), .second, .val (.long va), .second, .val (.long vn), .second, .val (.double (FP.ddiv (FP.dmul (FP.l2d va) (4741671816366391296 : UInt64)) (FP.l2d vn))), .second, .val (.long (va * (1000000000 : Int64))), .second, .val (.long ((va * (1000000000 : Int64)) / vn)), .second, .val (.long ((va * (1000000000 : Int64)) - ((va * (1000000000 : Int64)) / vn) * vn)), .second, .val (.double (FP.l2d ((va * (1000000000 : Int64)) / vn))), .second, .val (.double (FP.l2d (((va * (1000000000 : Int64)) / vn) + (1 : Int64)))), .second]) rfl (XS.lload X29.here hx rfl (hb hby at_68) rfl (XS.lconst X29.here hx rfl (hb hby at_70) (XS.lcmp X29.here hx rfl (hb hby at_71) rfl k))))) ?_
  show Go p e below s _ _ _ T29 (mkF m 72 #[.val (.long p1), .second, .val (.long p2), .second, .val (.long p3), .second, .val (.long va), .second, .val (.long vn), .second, .val (.double (FP.ddiv (FP.dmul (FP.l2d va) (4741671816366391296 : UInt64)) (FP.l2d vn))), .second, .val (.long (va * (1000000000 : Int64))), .second, .val (.long ((va * (1000000000 : Int64)) / vn)), .second, .val (.long ((va * (1000000000 : Int64)) - ((va * (1000000000 : Int64)) / vn) * vn)), .second, .val (.double (FP.l2d ((va * (1000000000 : Int64)) / vn))), .second, .val (.double (FP.l2d (((va * (1000000000 : Int64)) / vn) + (1 : Int64)))), .second] [(.int (lcmpW ((va * (1000000000 : Int64)) - ((va * (1000000000 : Int64)) / vn) * vn) (0 : Int64)))])
  by_cases hr : (lcmpW ((va * (1000000000 : Int64)) - ((va * (1000000000 : Int64)) / vn) * vn) (0 : Int64)) = (0 : Int32)
  · refine Go.step (fun _ k => XS.ifNo X29.here hx rfl (hb hby at_72) rfl ((if0 _ _).trans (teq hr).2) (XS.dload X29.here hx rfl (hb hby at_75) rfl (XS.dload X29.here hx rfl (hb hby at_77) rfl (XS.dcmpS X29.here hx rfl (hb hby at_79) rfl rfl (XS.ifNo X29.here hx rfl (hb hby at_80) rfl ((if0 _ _).trans (teq (own_c0 hp hr)).2) (XS.iconst X29.here hx rfl (hb hby at_83) (XS.goto X29.here hx rfl (pc0 := 84) (pc' := 88) rfl (hb hby at_84) (by decide) (by decide) k))))))) ?_
    show Go p e below s _ _ _ T29 (mkF m 88 #[.val (.long p1), .second, .val (.long p2), .second, .val (.long p3), .second, .val (.long va), .second, .val (.long vn), .second, .val (.double (FP.ddiv (FP.dmul (FP.l2d va) (4741671816366391296 : UInt64)) (FP.l2d vn))), .second, .val (.long (va * (1000000000 : Int64))), .second, .val (.long ((va * (1000000000 : Int64)) / vn)), .second, .val (.long ((va * (1000000000 : Int64)) - ((va * (1000000000 : Int64)) / vn) * vn)), .second, .val (.double (FP.l2d ((va * (1000000000 : Int64)) / vn))), .second, .val (.double (FP.l2d (((va * (1000000000 : Int64)) / vn) + (1 : Int64)))), .second] [(.int (1 : Int32))])
    exact Go.retN X29 hx hlk (t := .boolean) Bd.returns (by simp) (hb hby at_88) eq29 ⟨rfl, N31⟩ (by decide) (by decide)
  · refine Go.step (fun _ k => XS.ifYes X29.here hx rfl (pc0 := 72) (pc' := 89) rfl (hb hby at_72) rfl ((if0 _ _).trans (feq hr).2) (by decide) (by decide) (XS.dload X29.here hx rfl (hb hby at_89) rfl (XS.dload X29.here hx rfl (hb hby at_91) rfl (XS.dcmpS X29.here hx rfl (hb hby at_93) rfl rfl (XS.ifNo X29.here hx rfl (hb hby at_94) rfl ((if0 _ _).trans (tlt (own_c1 hp hr)).2.1) (XS.dload X29.here hx rfl (hb hby at_97) rfl (XS.dload X29.here hx rfl (hb hby at_99) rfl (XS.dcmpS X29.here hx rfl (hb hby at_101) rfl rfl (XS.ifNo X29.here hx rfl (hb hby at_102) rfl ((if0 _ _).trans (tlt (own_c2 hp)).2.1) (XS.iconst X29.here hx rfl (hb hby at_105) k)))))))))) ?_
    show Go p e below s _ _ _ T29 (mkF m 106 #[.val (.long p1), .second, .val (.long p2), .second, .val (.long p3), .second, .val (.long va), .second, .val (.long vn), .second, .val (.double (FP.ddiv (FP.dmul (FP.l2d va) (4741671816366391296 : UInt64)) (FP.l2d vn))), .second, .val (.long (va * (1000000000 : Int64))), .second, .val (.long ((va * (1000000000 : Int64)) / vn)), .second, .val (.long ((va * (1000000000 : Int64)) - ((va * (1000000000 : Int64)) / vn) * vn)), .second, .val (.double (FP.l2d ((va * (1000000000 : Int64)) / vn))), .second, .val (.double (FP.l2d (((va * (1000000000 : Int64)) / vn) + (1 : Int64)))), .second] [(.int (1 : Int32))])
    refine Go.step (fun _ k => XS.goto X29.here hx rfl (pc0 := 106) (pc' := 110) rfl (hb hby at_106) (by decide) (by decide) k) ?_
    show Go p e below s _ _ _ T29 (mkF m 110 #[.val (.long p1), .second, .val (.long p2), .second, .val (.long p3), .second, .val (.long va), .second, .val (.long vn), .second, .val (.double (FP.ddiv (FP.dmul (FP.l2d va) (4741671816366391296 : UInt64)) (FP.l2d vn))), .second, .val (.long (va * (1000000000 : Int64))), .second, .val (.long ((va * (1000000000 : Int64)) / vn)), .second, .val (.long ((va * (1000000000 : Int64)) - ((va * (1000000000 : Int64)) / vn) * vn)), .second, .val (.double (FP.l2d ((va * (1000000000 : Int64)) / vn))), .second, .val (.double (FP.l2d (((va * (1000000000 : Int64)) / vn) + (1 : Int64)))), .second] [(.int (1 : Int32))])
    exact Go.retN X29 hx hlk (t := .boolean) Bd.returns (by simp) (hb hby at_110) eq29 ⟨rfl, N31⟩ (by decide) (by decide)

set_option maxRecDepth 65536 in
set_option maxHeartbeats 40000000 in
theorem comes_1 {Post : Tables → Env → Array Value → State → Outcome → State → Prop} (hpost : ∀ tb e args s v u, (limb_1_1.after args s (.returned v) u = true ∧ limb_1_2.after args s (.returned v) u = true ∧ True) → FrameEnd s (.returned v) u (Jvm.fieldLocs frame_1_writes args s ++ Jvm.arrayLocs frame_1_arrays args s ++ Jvm.staticLocs frame_1_statics s) 16 128 → Post tb e args s (.returned v) u) :
    ArmFor flags0 classFile x code maxLocals ret World_1 tables_1 room_1 Calls_1 rest_1 Pre_1 Post := by
  intro l hfl _ _ p e ha hc hk s m args below hf hA hF happ hP
  obtain ⟨hcalls, hrest, hpre⟩ := hP
  obtain ⟨-, -, -, hnamed, -, -, -, hat⟩ := (Spec.applies_iff hf).mp happ
  obtain ⟨hg, hn⟩ := and_e (Cond.before_iff.mp (show (Jvm.Cond.and given_1 narrow_1).before args s = true from hpre))
  obtain ⟨gv1, gv2⟩ := and_e hg
  obtain ⟨gv3, gv4⟩ := and_e gv2
  obtain ⟨gv5, gv6⟩ := and_e gv4
  obtain ⟨w0, w1, w2, rfl⟩ : ∃ w0 w1 w2 : Value, args = #[w0, w1, w2] := by
    have hs : args.size = 3 := by simpa [Cond.value, given_1] using gv1
    obtain ⟨L⟩ := args
    match L, hs with
    | [w0, w1, w2], _ => exact ⟨w0, w1, w2, rfl⟩
  have hw := fun d (hd : d ∈ tables_1) => atoms_spec (ws := Jvm.Cond.code x code maxLocals ret :: tables_1) hat d (List.mem_cons_of_mem _ hd)
  have hfit : Fit s := fun {y c} hc i hi => by
    obtain ⟨ha, rfl⟩ := Array.getElem?_eq_some_iff.mp hc
    have q := List.all_eq_true.mp ((Array.all_eq_true_iff_forall_mem.mp hF) _ (Array.getElem_mem ha)) i (List.mem_range.mpr hi)
    simpa [Array.getElem?_eq_getElem hi] using q
  obtain ⟨i0, ei0⟩ := isL_v gv3
  obtain rfl : w0 = (.long i0) := Option.some.inj ei0
  obtain ⟨i1, ei1⟩ := isL_v gv5
  obtain rfl : w1 = (.long i1) := Option.some.inj ei1
  obtain ⟨i2, ei2⟩ := isL_v gv6
  obtain rfl : w2 = (.long i2) := Option.some.inj ei2
  obtain ⟨n, o, h1, h2, h3, _, L, rfl, ⟨rfl, N⟩, hq⟩ := rm_law l s _ hw tables_1 i0 i1 i2 s.heap s.heap.size (Nat.le_refl _)  p e ha hc hk s m _ below hf ((Spec.applies_iff_loose hf).mp happ).1 ⟨rfl, State.Warmed39.refl s, rfl⟩ trivial
  refine ⟨n, _, h1, h2, h3, hpost _ _ _ _ _ _ ⟨Cond.after_iff.mpr rfl, Cond.after_iff.mpr (eq_i res_at (Term.int_eval (1)) rfl), trivial⟩ ⟨hq.1, hq.2.1, (hq.2.2.sift fun y hy => Or.inr (N y hy)).mono (by decide) (by decide)⟩⟩
theorem main_1_1 : Claimed_1_1 := comes_1 fun _ _ _ _ _ _ h hF => ⟨h.1, hF⟩
theorem main_1_2 : Claimed_1_2 := comes_1 fun _ _ _ _ _ _ h hF => ⟨h.2.1, hF⟩
end Jvm.Pilot.@@N@@
namespace Jvm.Pilot.@@N@@
open Jvm Jvm.ClassFile Sem Op Lib Jvm.Free Jvm.Stand Jvm.Pilot.@@N@@.Jvm.D
/-! MADE BY PROGRAM (witnessworld.py) out of the Statement's table words and the real class files: 9 classes; the members and pool entries that the words name. The judged class is class 1, her method 1. -/
namespace start1
open Jvm.ClassFile
def u (s : String) : CpInfo := .utf8 (stringToUtf16 s)
/-- a pool by its gaps: so many unusable entries, then the entry; so many at the end -/
def gap : Nat → List CpInfo → List CpInfo
  | 0, r => r
  | n + 1, r => .unusable :: gap n r
def poolList (es : List (Nat × CpInfo)) (last : Nat) : List CpInfo := es.foldr (fun e r => gap e.1 (e.2 :: r)) (gap last [])
def pool (es : List (Nat × CpInfo)) (last : Nat) : Array CpInfo := ⟨poolList es last⟩
def fileOf (pool : Array CpInfo) (this : Nat) (attrs : Array Attribute := #[]) (ms : Array MethodInfo := #[]) (fl : Nat := 33) (sup : Nat := 0) (ifs : Array Nat := #[]) (fds : Array FieldInfo := #[]) : ClassFile where
  minorVersion := 0
  majorVersion := 65
  constantPool := pool
  accessFlags := fl
  thisClass := this
  superClass := sup
  interfaces := ifs
  fields := fds
  methods := ms
  attributes := attrs
def plain (name : String) (sup : Option ClassId) : Class where
  name := name
  kind := .ordinary
  loader := none
  accessFlags := 33
  super := sup
  interfaces := #[]
  cf := none
  fields := #[]
  methods := #[]
  instanceTypes := #[]
  staticTypes := #[]
  resolved := #[]
  callSites := []
  init := .initialized
  statics := none
  mirror := none

def pool0 : Array CpInfo := pool [(5, u "<init>"), (0, u "()V"), (1, .class_ 10), (1, u "java/lang/Object")] 113

def k0c0 : Code := { maxStack := 0, maxLocals := 1, code := object_method_1_code, exceptionTable := #[], attributes := #[] }
def k0m0 : Method := { name := "<init>", desc := "()V", sig := { parameters := [], returnType := none }, accessFlags := 1, code := some k0c0 }
/-- java/lang/Object -/
def k0 : Class := { plain "java/lang/Object" none with
  accessFlags := 33
  interfaces := #[]
  cf := some (fileOf pool0 8 #[] #[{ accessFlags := 1, nameIndex := 5, descriptorIndex := 6, attributes := #[] }] 33 0 #[] #[])
  fields := #[]
  methods := #[k0m0]
  instanceTypes := #[]
  staticTypes := #[]
  resolved := Array.replicate 124 none
  statics := none }

def pool1 : Array CpInfo := pool [(2, .class_ 4), (1, u "java/lang/Object"), (0, u "<init>"), (0, u "()V"), (0, .long 1048575), (1, .long 1099511627775), (1, .class_ 12), (0, u "com/example/shellwire/shellwire/bench/Measurement"), (0, .methodref 11 14), (0, .nameAndType 5 15), (0, u "(JJJ)V"), (0, .methodref 11 17), (0, .nameAndType 18 19), (0, u "recordsPerSecond"), (0, u "()D"), (0, .long 1000000000), (1, .class_ 23), (0, u "com/example/shellwire/shellwire/bench/MeasurementRecordsPerSecondPinLaw"), (2, u "law"), (0, u "(JJJ)Z")] 3

def k1m0 : Method := { name := "<init>", desc := "()V", sig := { parameters := [], returnType := none }, accessFlags := 1, code := none }
def k1c1 : Code := { maxStack := 8, maxLocals := 22, code := code, exceptionTable := #[], attributes := #[] }
def k1m1 : Method := { name := "law", desc := "(JJJ)Z", sig := { parameters := [.long, .long, .long], returnType := some .boolean }, accessFlags := 9, code := some k1c1 }
/-- com/example/shellwire/shellwire/bench/MeasurementRecordsPerSecondPinLaw -/
def k1 : Class := { plain "com/example/shellwire/shellwire/bench/MeasurementRecordsPerSecondPinLaw" (some 0) with
  accessFlags := 49
  interfaces := #[]
  cf := some (fileOf pool1 22 #[] #[{ accessFlags := 1, nameIndex := 5, descriptorIndex := 6, attributes := #[] }, { accessFlags := 9, nameIndex := 26, descriptorIndex := 27, attributes := #[] }] 49 2 #[] #[])
  fields := #[]
  methods := #[k1m0, k1m1]
  instanceTypes := #[]
  staticTypes := #[]
  resolved := Array.replicate 31 none
  statics := none }

def pool2 : Array CpInfo := pool [(1, .methodref 2 3), (0, .class_ 4), (0, .nameAndType 5 6), (0, u "java/lang/Object"), (0, u "<init>"), (0, u "()V"), (0, .fieldref 8 9), (0, .class_ 10), (0, .nameAndType 11 12), (0, u "com/example/shellwire/shellwire/bench/Measurement"), (0, u "nanoseconds"), (0, u "J"), (0, .fieldref 8 14), (0, .nameAndType 15 12), (0, u "answers"), (0, .fieldref 8 17), (0, .nameAndType 18 12), (0, u "words"), (0, .double 4741671816366391296), (1, u "(JJJ)V"), (3, u "recordsPerSecond"), (0, u "()D")] 2

def k2c0 : Code := { maxStack := 3, maxLocals := 7, code := prog_3_method_1_code, exceptionTable := #[], attributes := #[] }
def k2m0 : Method := { name := "<init>", desc := "(JJJ)V", sig := { parameters := [.long, .long, .long], returnType := none }, accessFlags := 0, code := some k2c0 }
def k2c1 : Code := { maxStack := 4, maxLocals := 1, code := prog_3_method_5_code, exceptionTable := #[], attributes := #[] }
def k2m1 : Method := { name := "recordsPerSecond", desc := "()D", sig := { parameters := [], returnType := some .double }, accessFlags := 0, code := some k2c1 }
/-- com/example/shellwire/shellwire/bench/Measurement -/
def k2 : Class := { plain "com/example/shellwire/shellwire/bench/Measurement" (some 0) with
  accessFlags := 48
  interfaces := #[]
  cf := some (fileOf pool2 8 #[] #[{ accessFlags := 0, nameIndex := 5, descriptorIndex := 21, attributes := #[] }, { accessFlags := 0, nameIndex := 25, descriptorIndex := 26, attributes := #[] }] 48 2 #[] #[{ accessFlags := 18, nameIndex := 11, descriptorIndex := 12, attributes := #[] }, { accessFlags := 18, nameIndex := 15, descriptorIndex := 12, attributes := #[] }, { accessFlags := 18, nameIndex := 18, descriptorIndex := 12, attributes := #[] }])
  fields := #[{ name := "nanoseconds", type := .long, accessFlags := 18, slot := 0, constantValue := 0 }, { name := "answers", type := .long, accessFlags := 18, slot := 1, constantValue := 0 }, { name := "words", type := .long, accessFlags := 18, slot := 2, constantValue := 0 }]
  methods := #[k2m0, k2m1]
  instanceTypes := #[.long, .long, .long]
  staticTypes := #[]
  resolved := Array.replicate 29 none
  statics := none }

def pool3 : Array CpInfo := pool [(1, u "java/lang/Cloneable"), (0, .class_ 1), (0, u "java/lang/Object"), (0, .class_ 3)] 3

/-- java/lang/Cloneable -/
def k3 : Class := { plain "java/lang/Cloneable" (some 0) with
  accessFlags := 1537
  interfaces := #[]
  cf := some (fileOf pool3 2 #[] #[] 1537 4 #[] #[])
  fields := #[]
  methods := #[]
  instanceTypes := #[]
  staticTypes := #[]
  resolved := Array.replicate 8 none
  statics := none }

def pool4 : Array CpInfo := pool [(1, u "java/io/Serializable"), (0, .class_ 1), (0, u "java/lang/Object"), (0, .class_ 3)] 3

/-- java/io/Serializable -/
def k4 : Class := { plain "java/io/Serializable" (some 0) with
  accessFlags := 1537
  interfaces := #[]
  cf := some (fileOf pool4 2 #[] #[] 1537 4 #[] #[])
  fields := #[]
  methods := #[]
  instanceTypes := #[]
  staticTypes := #[]
  resolved := Array.replicate 8 none
  statics := none }

/-- the primitive byte -/
def k5 : Class := { plain "byte" none with kind := .primitive 'B', accessFlags := 0x411 }
/-- [B -/
def k6 : Class := { plain "[B" (some 0) with kind := .array 5 .byte, interfaces := #[3, 4], accessFlags := 1041 }

/-- the primitive int -/
def k7 : Class := { plain "int" none with kind := .primitive 'I', accessFlags := 0x411 }
/-- [I -/
def k8 : Class := { plain "[I" (some 0) with kind := .array 7 .int, interfaces := #[3, 4], accessFlags := 1041 }

def heap : Heap := #[]
def classes : Array Class := #[k0, k1, k2, k3, k4, k5, k6, k7, k8]
def interned : List (Array UInt16 × Addr) := []
def slotsUsed : Nat := 0
def theMethod : MethodId := ⟨1, 1⟩
def args0 : Array Value := #[.long 5, .long 7, .long 3]
def aboutOver (below : List Frame) : State where
  vm := { classes := classes, interned := interned.toArray }
  heap := heap
  slotsUsed := slotsUsed
  threads := #[{ frames := .invoking theMethod args0 :: below }]
def below0 : List Frame := [.native { method := ⟨0, 0⟩, args := #[] }]
def about1 : State := aboutOver below0
def p0 : Program := .bare "" "" ""
def e0 : Env := launch0.env 0 0 0
theorem w_frames : about1.frames = Frame.invoking theMethod args0 :: below0 := rfl
set_option maxRecDepth 65536 in
theorem w_args : argsFit about1.vm theMethod args0 = true := by decide +kernel
set_option maxRecDepth 65536 in
theorem w_heap : heapFits about1 = true := by decide +kernel
set_option maxRecDepth 65536 in
theorem w_runnable : about1.curStatus? = some .runnable := by decide +kernel
set_option maxRecDepth 65536 in
theorem w_alone : about1.alone = true := by decide +kernel
set_option maxRecDepth 65536 in
theorem w_named : about1.methodNamed? x = some theMethod := by decide +kernel
set_option maxRecDepth 65536 in
theorem w_hears : about1.hears theMethod below0 = true := by decide +kernel
set_option maxRecDepth 65536 in
theorem w_ripe : about1.ripe theMethod args0 below0 = true := by decide +kernel
theorem w_running : about1.status = .running := rfl
set_option maxRecDepth 65536 in
theorem w_room : about1.hasRoom e0.platform room_1 = true :=
  launch0.hasRoom_least _ room_1 (by decide +kernel) (by decide +kernel) (by decide +kernel) (by decide +kernel) (by decide +kernel) (by decide +kernel)
theorem allAtoms_all (ts : List Jvm.Cond) (a : Array Jvm.Value) (st : Jvm.State) : (allAtoms ts).before a st = ts.all (fun c => c.before a st) := by
  induction ts with
  | nil => rfl
  | cons c t ih =>
    show (Jvm.Cond.and c (allAtoms t)).before a st = _
    rw [Jvm.Cond.before_and, ih, List.all_cons]
def words1 : List Jvm.Cond := Jvm.Cond.code x code maxLocals ret :: tables_1
/-- a 'code' word, met by the world's own term for the bytes: nothing is compared byte by byte -/
theorem code_word {y : MethodName} {bytes : ByteArray} {mx : Nat} {rt : Option FieldType} {a : Array Value} {s : State} {m : MethodId} {meth : Method} {c : Code} (h1 : s.methodNamed? y = some m) (h2 : s.vm.method? m = some meth) (h3 : meth.code = some c) (h4 : c.code = bytes)
    (h5 : (c.maxLocals == mx && c.exceptionTable.isEmpty && decide (c.maxStack ≤ mostOperands) && decide (meth.sig.returnType = rt) && !meth.locks && decide (parseMethodDescriptor y.desc = some meth.sig)) = true) : (Jvm.Cond.code y bytes mx rt).before a s = true := by
  simp only [Bool.and_eq_true, beq_iff_eq, Bool.not_eq_true', decide_eq_true_eq] at h5
  obtain ⟨⟨⟨⟨⟨g1, g2⟩, g3⟩, g4⟩, g5⟩, g6⟩ := h5
  simp [Cond.before, Cond.holds, Cond.value, h1, h2, h3, h4, g1, g2, g3, g4, g5, g6]
def isCode : Jvm.Cond → Bool
  | .code _ _ _ _ => true
  | _ => false
theorem all_split {L : List Jvm.Cond} {P : Jvm.Cond → Bool} (h1 : L.all (fun c => isCode c || P c) = true) (h2 : ∀ c ∈ L.filter isCode, P c = true) : L.all P = true := by
  refine List.all_eq_true.mpr fun c hc => ?_
  have h := List.all_eq_true.mp h1 c hc
  rcases Bool.eq_false_or_eq_true (isCode c) with hi | hi
  · exact h2 c (List.mem_filter.mpr ⟨hc, hi⟩)
  · simpa [hi] using h
set_option maxRecDepth 65536 in
theorem w_c0 : (Jvm.Cond.code x code maxLocals ret).before args0 about1 = true := code_word (m := ⟨1, 1⟩) (meth := k1m1) (c := k1c1) (by decide +kernel) rfl rfl rfl (by decide +kernel)
set_option maxRecDepth 65536 in
theorem w_c1 : (Jvm.Cond.code ({ cls := "com/example/shellwire/shellwire/bench/Measurement", name := "<init>", desc := "(JJJ)V" } : Jvm.MethodName) prog_3_method_1_code (7 : Nat) (Option.none : Option Jvm.ClassFile.FieldType)).before args0 about1 = true := code_word (m := ⟨2, 0⟩) (meth := k2m0) (c := k2c0) (by decide +kernel) rfl rfl rfl (by decide +kernel)
set_option maxRecDepth 65536 in
theorem w_c2 : (Jvm.Cond.code ({ cls := "java/lang/Object", name := "<init>", desc := "()V" } : Jvm.MethodName) object_method_1_code (1 : Nat) (Option.none : Option Jvm.ClassFile.FieldType)).before args0 about1 = true := code_word (m := ⟨0, 0⟩) (meth := k0m0) (c := k0c0) (by decide +kernel) rfl rfl rfl (by decide +kernel)
set_option maxRecDepth 65536 in
theorem w_c3 : (Jvm.Cond.code ({ cls := "com/example/shellwire/shellwire/bench/Measurement", name := "recordsPerSecond", desc := "()D" } : Jvm.MethodName) prog_3_method_5_code (1 : Nat) (Option.some Jvm.ClassFile.FieldType.double)).before args0 about1 = true := code_word (m := ⟨2, 1⟩) (meth := k2m1) (c := k2c1) (by decide +kernel) rfl rfl rfl (by decide +kernel)
def codes1 : List Jvm.Cond := [Jvm.Cond.code x code maxLocals ret, Jvm.Cond.code ({ cls := "com/example/shellwire/shellwire/bench/Measurement", name := "<init>", desc := "(JJJ)V" } : Jvm.MethodName) prog_3_method_1_code (7 : Nat) (Option.none : Option Jvm.ClassFile.FieldType), Jvm.Cond.code ({ cls := "java/lang/Object", name := "<init>", desc := "()V" } : Jvm.MethodName) object_method_1_code (1 : Nat) (Option.none : Option Jvm.ClassFile.FieldType), Jvm.Cond.code ({ cls := "com/example/shellwire/shellwire/bench/Measurement", name := "recordsPerSecond", desc := "()D" } : Jvm.MethodName) prog_3_method_5_code (1 : Nat) (Option.some Jvm.ClassFile.FieldType.double)]
set_option maxRecDepth 65536 in
theorem codes_eq : words1.filter isCode = codes1 := rfl
theorem w_codes : ∀ c ∈ words1.filter isCode, c.before args0 about1 = true := by
  rw [codes_eq]
  intro c hc
  simp only [codes1, List.mem_cons, List.not_mem_nil, or_false] at hc
  rcases hc with rfl | rfl | rfl | rfl
  · exact w_c0
  · exact w_c1
  · exact w_c2
  · exact w_c3
set_option maxRecDepth 65536 in
theorem w_t1 : (words1.take 24).all (fun c => isCode c || c.before args0 about1) = true := by decide +kernel
set_option maxRecDepth 65536 in
theorem w_t2 : (words1.drop 24).all (fun c => isCode c || c.before args0 about1) = true := by decide +kernel
theorem w_tables : (allAtoms (Jvm.Cond.code x code maxLocals ret :: tables_1)).before args0 about1 = true := by
  rw [allAtoms_all]
  show words1.all (fun c => c.before args0 about1) = true
  refine all_split ?_ w_codes
  rw [← List.take_append_drop 24 words1, List.all_append, w_t1, w_t2]
  rfl
set_option maxRecDepth 65536 in
theorem w_case : (Jvm.Cond.and given_1 narrow_1).before args0 about1 = true := by decide +kernel
theorem w_applies : (headSpec (Jvm.Cond.code x code maxLocals ret :: tables_1) room_1).applies x e0.platform about1 = true :=
  (Spec.applies_iff w_frames).mpr ⟨w_running, w_runnable, w_alone, w_named, w_hears, w_ripe, w_room, w_tables⟩
theorem atStart : AtStart classFile x code maxLocals ret World_1 tables_1 room_1 Calls_1 rest_1 Pre_1 launch0 p0 e0 about1 theMethod args0 below0 :=
  ⟨lists_1, trivial, launch0.admits_env _ _ _, launch0.least_env, fairChoices_fair.cas, fairChoices_fair.clock, w_frames, w_args, w_heap, w_applies, trivial, trivial, w_case⟩
end start1
theorem witness_1 : WitnessClaimed_1 := ⟨start1.p0, start1.e0, start1.about1, start1.theMethod, start1.args0, start1.below0, start1.atStart⟩
end Jvm.Pilot.@@N@@
