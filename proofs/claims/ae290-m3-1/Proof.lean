import JvmDerived
import JvmDerived.Pilot.@@N@@Statement
import JvmDerived.Pilot.@@N@@Code
set_option linter.unusedVariables false
set_option linter.unusedSimpArgs false
namespace Jvm.RoadKit
open Sem ClassFile Op Lib Jvm.Stand Jvm.Free Jvm.LawKit
section New
variable {p : Program} {l : Launch} {e : Env} {R : Room} {s : State} {m : MethodId} {args : Array Value} {below : List Frame} {meth : Method} {c : Code} {T T' : State} {locs : List Loc} {cells slots : Nat}
theorem retI (X : Stand p l e R s m args below meth c T locs cells slots) (hx : p.tables.exec = Jvm.exec) {pc : Nat} {Ls : Array Slot} {z : Int32} {rest : List Value} (hret : meth.sig.returnType = some .int) (hd : decode c.code pc = .ok (.ireturn, 1)) {fs : List Frame}
    (hl : ∀ (f : JFrame) (acts : List Action), f.method = m → f.locked = none → f.entered = [] → (doReturn e (T.setTop f) acts (some (.int z))).1 = T.setFrames fs) : Steps p.tables e below (T.setTop (mkF m pc Ls (.int z :: rest))) (T.setFrames fs) := by
  have hm' : T.vm.method? m = some meth := X.method'
  have hn : narrow .int (.int z) = .int z := rfl
  show Steps p.tables e below (T.setTop { method := m, pc := pc, locals := Ls, stack := _ :: rest, locked := none }) _
  jvm_step X.here [X.here.top, hx, hd, hm', hret, hn]
  first | (intro acts; rw [hl _ acts rfl rfl rfl]) | rw [hl _ _ rfl rfl rfl]
  exact Steps.refl _
/-- from here the run comes to its return, and Q holds of what it returns, of the heap and of what it wrote -/
def Go (p : Program) (e : Env) (below : List Frame) (s : State) (Q : Option Value → Heap → List Loc → Prop) (kc ks : Nat) (T : State) (g : JFrame) : Prop :=
  ∃ s₂ o, Steps p.tables e below (T.setTop g) s₂ ∧ s₂.status = .running ∧ Ended s₂ below o ∧ ∃ v L, o = .returned v ∧ Q v s₂.heap L ∧ FrameEnd s o s₂ L kc ks
variable {Q : Option Value → Heap → List Loc → Prop} {kc ks : Nat} {g g' : JFrame}
theorem Go.step (h : ∀ t, Steps p.tables e below (T'.setTop g') t → Steps p.tables e below (T.setTop g) t) (k : Go p e below s Q kc ks T' g') : Go p e below s Q kc ks T g := by
  obtain ⟨s₂, o, h1, r⟩ := k
  exact ⟨s₂, o, h _ h1, r⟩
theorem Go.cast (q : g = g') (k : Go p e below s Q kc ks T g') : Go p e below s Q kc ks T g := q ▸ k
theorem Go.done (X : Stand p l e R s m args below meth c T locs cells slots) (hlocks : meth.locks = false) {v : Option Value} (hv : meth.sig.returnType = none → v = none)
    (hret : ∀ fs, (∀ (f : JFrame) (acts : List Action), f.method = m → f.locked = none → f.entered = [] → (doReturn e (T.setTop f) acts v).1 = T.setFrames fs) → Steps p.tables e below (T.setTop g) (T.setFrames fs))
    {h : Heap} (eT : T.heap = h) (hQ : Q v h locs) (hc : cells ≤ kc) (hs : slots ≤ ks) : Go p e below s Q kc ks T g := by
  obtain ⟨fs, hr, hrun, hended, hW, hsame⟩ := X.leave hv hlocks
  refine ⟨_, _, hret fs hr, hrun, hended, _, _, rfl, ?_, ⟨_, rfl⟩, hW, hsame.mono hc hs⟩
  show Q v T.heap locs
  rw [eT]
  exact hQ
theorem Go.retV (X : Stand p l e R s m args below meth c T locs cells slots) (hx : p.tables.exec = Jvm.exec) (hlocks : meth.locks = false) (hr : meth.sig.returnType = none) {pc : Nat} {Ls : Array Slot} (hd : decode c.code pc = .ok (.return_, 1))
    {h : Heap} (eT : T.heap = h) (hQ : Q none h locs) (hc : cells ≤ kc) (hs : slots ≤ ks) : Go p e below s Q kc ks T (mkF m pc Ls []) :=
  Go.done X hlocks (fun _ => rfl) (fun fs k => X.returnOut hx hr hd k) eT hQ hc hs
theorem Go.retN (X : Stand p l e R s m args below meth c T locs cells slots) (hx : p.tables.exec = Jvm.exec) (hlocks : meth.locks = false) {t : FieldType} (hr : meth.sig.returnType = some t) (ht : t = .boolean ∨ t = .byte ∨ t = .char ∨ t = .short) {pc : Nat} {Ls : Array Slot} {z : Int32} {st : List Value} (hd : decode c.code pc = .ok (.ireturn, 1))
    {h : Heap} (eT : T.heap = h) (hQ : Q (some (.int (nar t z))) h locs) (hc : cells ≤ kc) (hs : slots ≤ ks) : Go p e below s Q kc ks T (mkF m pc Ls (.int z :: st)) :=
  Go.done X hlocks (fun q => by rw [hr] at q; cases q) (fun fs k => Jvm.RoadKit.retN X hx hr ht hd k) eT hQ hc hs
theorem Go.retI (X : Stand p l e R s m args below meth c T locs cells slots) (hx : p.tables.exec = Jvm.exec) (hlocks : meth.locks = false) (hr : meth.sig.returnType = some .int) {pc : Nat} {Ls : Array Slot} {z : Int32} {st : List Value} (hd : decode c.code pc = .ok (.ireturn, 1))
    {h : Heap} (eT : T.heap = h) (hQ : Q (some (.int z)) h locs) (hc : cells ≤ kc) (hs : slots ≤ ks) : Go p e below s Q kc ks T (mkF m pc Ls (.int z :: st)) :=
  Go.done X hlocks (fun q => by rw [hr] at q; cases q) (fun fs k => Jvm.RoadKit.retI X hx hr hd k) eT hQ hc hs
theorem Go.retJ (X : Stand p l e R s m args below meth c T locs cells slots) (hx : p.tables.exec = Jvm.exec) (hlocks : meth.locks = false) (hr : meth.sig.returnType = some .long) {pc : Nat} {Ls : Array Slot} {z : Int64} {st : List Value} (hd : decode c.code pc = .ok (.lreturn, 1))
    {h : Heap} (eT : T.heap = h) (hQ : Q (some (.long z)) h locs) (hc : cells ≤ kc) (hs : slots ≤ ks) : Go p e below s Q kc ks T (mkF m pc Ls (.long z :: st)) :=
  Go.done X hlocks (fun q => by rw [hr] at q; cases q) (fun fs k => retOut X hx hr rfl (Or.inr (Or.inl ⟨rfl, rfl, _, rfl⟩)) hd k) eT hQ hc hs
theorem Go.retD (X : Stand p l e R s m args below meth c T locs cells slots) (hx : p.tables.exec = Jvm.exec) (hlocks : meth.locks = false) (hr : meth.sig.returnType = some .double) {pc : Nat} {Ls : Array Slot} {z : UInt64} {st : List Value} (hd : decode c.code pc = .ok (.dreturn, 1))
    {h : Heap} (eT : T.heap = h) (hQ : Q (some (.double z)) h locs) (hc : cells ≤ kc) (hs : slots ≤ ks) : Go p e below s Q kc ks T (mkF m pc Ls (.double z :: st)) :=
  Go.done X hlocks (fun q => by rw [hr] at q; cases q) (fun fs k => retOut X hx hr rfl (Or.inr (Or.inr (Or.inl ⟨rfl, rfl, _, rfl⟩))) hd k) eT hQ hc hs
theorem Go.retA (X : Stand p l e R s m args below meth c T locs cells slots) (hx : p.tables.exec = Jvm.exec) (hlocks : meth.locks = false) {t : FieldType} (hr : meth.sig.returnType = some t) (ht : t.isReference = true) {w : Value} (hw : w.isRef = true) {pc : Nat} {Ls : Array Slot} {st : List Value} (hd : decode c.code pc = .ok (.areturn, 1))
    {h : Heap} (eT : T.heap = h) (hQ : Q (some w) h locs) (hc : cells ≤ kc) (hs : slots ≤ ks) : Go p e below s Q kc ks T (mkF m pc Ls (w :: st)) :=
  Go.done X hlocks (fun q => by rw [hr] at q; cases q) (fun fs k => retOut X hx hr (by cases t <;> first | (cases ht; done) | (rcases ref_cases hw with rfl | ⟨a, rfl⟩ <;> rfl)) (Or.inr (Or.inr (Or.inr (Or.inr ⟨rfl, ht, hw⟩)))) hd k) eT hQ hc hs
end New
end Jvm.RoadKit
namespace Jvm.Pilot.@@N@@
open Jvm Jvm.ClassFile Sem Op Lib Jvm.Free Jvm.Stand Jvm.LawKit Jvm.RoadKit Bundle Jvm.Pilot.@@N@@.Jvm.D
theorem own_selP {s : State} {args : Array Value} {y : MethodName} {n : Nat} (wi : (Cond.instantiable y.cls n).before args s = true) (hp : s.PrivateAt y) (hinst : (Cond.instanceMethod y).before args s = true) (hy : y.cls ≠ "java/lang/invoke/MethodHandle" ∧ y.cls ≠ "java/lang/invoke/VarHandle") : (Cond.selects y.cls y y).before args s = true := by
  obtain ⟨c, k, h1, h2, -, h4, -⟩ := Cond.instantiable_spec wi
  exact Jvm.Stand.selects_self_of_private h1 h2 (by simp only [Bool.or_eq_false_iff] at h4; exact h4.1) hp hinst hy
theorem own_selQ {s : State} {args : Array Value} {y : MethodName} {C : String} (w : (Cond.selects C y y).before args s = true) (hp : s.PrivateAt y) (hinst : (Cond.instanceMethod y).before args s = true) (hy : y.cls ≠ "java/lang/invoke/MethodHandle" ∧ y.cls ≠ "java/lang/invoke/VarHandle") : (Cond.selects y.cls y y).before args s = true := by
  obtain ⟨mk, methM, hnamed, -, -, -⟩ := Cond.instanceMethod_spec hinst
  obtain ⟨kr, h1, h2⟩ := notFace_of_selects w mk hnamed
  exact Jvm.Stand.selects_self_of_private (findClass_of_methodNamed hnamed) h1 h2 hp hinst hy
section OwnF
open Jvm.FP Jvm.FP.Core
theorem own_iu (c : Nat) (q e : Int) : inUnits c q e = c * 2 ^ (q - e).toNat := rfl
theorem own_zf (s : Bool) (c : Nat) (q : Int) : zmag b64 (.fin s c q) = c * 2 ^ (q + 1074).toNat := by
  show inUnits c q b64.qmin = _
  rw [own_iu, qmin_b64, show q - -1074 = q + 1074 by omega]
theorem own_fV {c j : Nat} (hc : c < 2 ^ 53) (hj : j ≤ 1000) : ∃ V, Core.fits b64 V ∧ V ≠ Datum.nan ∧ zmag b64 V = c * 2 ^ (1074 - j) := by
  have q1 : b64.qmax = 971 := by decide
  obtain ⟨c', q', h1, h2⟩ := round_exact good_b64 false (c := c) (q := -(j : Int)) hc (by rw [qmin_b64]; omega) (by rw [q1]; omega)
  refine ⟨Datum.fin false c' q', h1 ▸ round_fits good_b64 _, nofun, ?_⟩
  show inUnits c' q' b64.qmin = _
  rw [h2, qmin_b64, own_iu, show (-(j : Int) - -1074).toNat = 1074 - j by omega]
theorem own_fge {s : Bool} {A B c j : Nat} (hB : 0 < B) (hc : c < 2 ^ 53) (hj : j ≤ 1000) (h : c * B ≤ A * 2 ^ j) : c * 2 ^ (1074 - j) ≤ zmag b64 (roundRatio b64 s A B 0) := by
  obtain ⟨V, h1, h2, h3⟩ := own_fV hc hj
  rw [← h3]
  refine zmag_roundRatio_ge good_b64 hB h1 (e0 := -1074) (by rw [qmin_b64]; decide) (by decide) ?_
  rw [h3, qmin_b64, own_iu, show ((-1074 : Int) - -1074).toNat = 0 by decide, show ((0 : Int) - -1074).toNat = j + (1074 - j) by omega, Nat.pow_zero, Nat.mul_one, Nat.pow_add, ← Nat.mul_assoc, Nat.mul_right_comm]
  exact Nat.mul_le_mul_right _ h
theorem own_fle {s : Bool} {A B c j : Nat} (hB : 0 < B) (hc : c < 2 ^ 53) (hj : j ≤ 1000) (h : A * 2 ^ j ≤ c * B) : zmag b64 (roundRatio b64 s A B 0) ≤ c * 2 ^ (1074 - j) := by
  obtain ⟨V, h1, h2, h3⟩ := own_fV hc hj
  rw [← h3]
  refine zmag_roundRatio_le good_b64 hB h1 h2 (e0 := -1074) (by rw [qmin_b64]; decide) (by decide) ?_
  rw [h3, qmin_b64, own_iu, show ((-1074 : Int) - -1074).toNat = 0 by decide, show ((0 : Int) - -1074).toNat = j + (1074 - j) by omega, Nat.pow_zero, Nat.mul_one, Nat.pow_add, ← Nat.mul_assoc, Nat.mul_right_comm c]
  exact Nat.mul_le_mul_right _ h
theorem own_feq {s : Bool} {A B c j : Nat} (hB : 0 < B) (hc : c < 2 ^ 53) (hj : j ≤ 1000) (h : A * 2 ^ j = c * B) : zmag b64 (roundRatio b64 s A B 0) = c * 2 ^ (1074 - j) :=
  Nat.le_antisymm (own_fle hB hc hj (Nat.le_of_eq h)) (own_fge hB hc hj (Nat.le_of_eq h.symm))
theorem own_vl (a : Int64) : val64 (Core.l2d a) = roundRatio b64 (decide (a.toInt < 0)) a.toInt.natAbs 1 0 := val64_l2d a
theorem own_zl {a : Int64} (h : a.toInt.natAbs < 2 ^ 53) : zmag b64 (val64 (Core.l2d a)) = a.toInt.natAbs * 2 ^ 1074 := by
  rw [own_vl]
  exact own_feq (j := 0) (by decide) h (by decide) rfl
theorem own_sl (a : Int64) : sgn (val64 (Core.l2d a)) = decide (a.toInt < 0) := by
  rw [own_vl]
  exact sgn_roundRatio _ _ _ _ _
theorem own_nl (a : Int64) : val64 (Core.l2d a) ≠ .nan := by
  rw [own_vl]
  exact roundRatio_ne_nan _ _ _ _ _
theorem own_zvl {a : Int64} (h : a.toInt.natAbs < 2 ^ 53) : zval b64 (val64 (Core.l2d a)) = a.toInt * ((2 ^ 1074 : Nat) : Int) := by
  show signed (sgn (val64 (Core.l2d a))) (zmag b64 (val64 (Core.l2d a))) = _
  rw [own_sl, own_zl h, signed_mul]
  congr 1
  by_cases q : a.toInt < 0
  · rw [decide_eq_true q]
    show -((a.toInt.natAbs : Nat) : Int) = a.toInt
    omega
  · rw [decide_eq_false q]
    show ((a.toInt.natAbs : Nat) : Int) = a.toInt
    omega
theorem own_fin (a : Int64) (h : a.toInt.natAbs < 2 ^ 53) : ∃ s c q, val64 (Core.l2d a) = .fin s c q ∧ s = decide (a.toInt < 0) ∧ -1074 ≤ q ∧ c * 2 ^ (q + 1074).toNat = a.toInt.natAbs * 2 ^ 1074 := by
  obtain ⟨s, c, q, e⟩ := Core.l2d_fin a
  refine ⟨s, c, q, e, ?_, ?_, ?_⟩
  · have := own_sl a
    rw [e] at this
    exact this
  · have := val64_fits (Core.l2d a)
    rw [e] at this
    have := this.2.1
    rw [qmin_b64] at this
    exact this
  · have := own_zl h
    rw [e, own_zf] at this
    exact this
/-- the quotient of two whole numbers, rounded once -/
theorem own_vq {a b : Int64} (ha : a.toInt.natAbs < 2 ^ 53) (hb : b.toInt.natAbs < 2 ^ 53) (h0 : 0 < b.toInt) : val64 (Core.ddiv (Core.l2d a) (Core.l2d b)) = roundRatio b64 (decide (a.toInt < 0)) a.toInt.natAbs b.toInt.natAbs 0 := by
  obtain ⟨s, c, q, e1, e2, e3, e4⟩ := own_fin a ha
  obtain ⟨t, d, r, f1, f2, f3, f4⟩ := own_fin b hb
  have ht : t = false := by rw [f2]; exact decide_eq_false (by omega)
  have hbn : 0 < b.toInt.natAbs := by omega
  have hd : d ≠ 0 := by
    intro z
    rw [z, Nat.zero_mul] at f4
    have := Nat.mul_pos hbn (Nat.two_pow_pos 1074)
    omega
  rw [val64_ddiv, e1, f1]
  show (if d = 0 then (if c = 0 then Datum.nan else .inf (s != t)) else roundRatio b64 (s != t) c d (q - r)) = _
  rw [if_neg hd, ht, ← e2, show (s != false) = s by cases s <;> rfl]
  refine roundRatio_congr (Nat.pos_of_ne_zero hd) hbn ?_
  apply Nat.eq_of_mul_eq_mul_right (Nat.two_pow_pos ((min q r) + 1074).toNat)
  rw [Nat.mul_assoc, Nat.mul_assoc (a.toInt.natAbs * d), ← Nat.pow_add, ← Nat.pow_add, show (q - r - 0).toNat + (min q r + 1074).toNat = (q + 1074).toNat by omega, show (0 - (q - r)).toNat + (min q r + 1074).toNat = (r + 1074).toNat by omega, Nat.mul_right_comm, e4, Nat.mul_assoc a.toInt.natAbs d, f4, ← Nat.mul_assoc]
  exact Nat.mul_right_comm _ _ _
theorem own_nq {a b : Int64} (ha : a.toInt.natAbs < 2 ^ 53) (hb : b.toInt.natAbs < 2 ^ 53) (h0 : 0 < b.toInt) : val64 (Core.ddiv (Core.l2d a) (Core.l2d b)) ≠ .nan := by
  rw [own_vq ha hb h0]
  exact roundRatio_ne_nan _ _ _ _ _
theorem own_zq {a b : Int64} (ha : a.toInt.natAbs < 2 ^ 53) (hb : b.toInt.natAbs < 2 ^ 53) (h0 : 0 < b.toInt) : zval b64 (val64 (Core.ddiv (Core.l2d a) (Core.l2d b))) = signed (decide (a.toInt < 0)) (zmag b64 (roundRatio b64 (decide (a.toInt < 0)) a.toInt.natAbs b.toInt.natAbs 0)) := by
  rw [own_vq ha hb h0]
  show signed (sgn _) _ = _
  rw [sgn_roundRatio]
theorem own_nn {x : UInt64} (h : val64 x ≠ .nan) : Jvm.Free.Fl.NoNaN64 x := Jvm.Free.Fl.noNaN64_no.mpr ((notNaN_iff x).mpr h)
theorem own_cmp {x y : UInt64} (hx : val64 x ≠ .nan) (hy : val64 y ≠ .nan) : FP.dcmp x y = some (compare (zval b64 (val64 x)) (zval b64 (val64 y))) := order_zval good_b64 (val64_fits x) (val64_fits y) hx hy
theorem own_cl {x y : UInt64} (o : CmpOp) (hx : val64 x ≠ .nan) (hy : val64 y ≠ .nan) (h : zval b64 (val64 x) < zval b64 (val64 y)) : cmpValue (FP.dcmp x y) o = (-1 : Int32) := by
  rw [own_cmp hx hy, show compare (zval b64 (val64 x)) (zval b64 (val64 y)) = .lt by simp only [compare, compareOfLessAndEq, h, if_true]]
  rfl
theorem own_ce {x y : UInt64} (o : CmpOp) (hx : val64 x ≠ .nan) (hy : val64 y ≠ .nan) (h : zval b64 (val64 x) = zval b64 (val64 y)) : cmpValue (FP.dcmp x y) o = (0 : Int32) := by
  rw [own_cmp hx hy, h, compare_self_int]
  rfl
theorem own_cg {x y : UInt64} (o : CmpOp) (hx : val64 x ≠ .nan) (hy : val64 y ≠ .nan) (h : zval b64 (val64 y) < zval b64 (val64 x)) : cmpValue (FP.dcmp x y) o = (1 : Int32) := by
  rw [own_cmp hx hy, compare_swap_int, show compare (zval b64 (val64 y)) (zval b64 (val64 x)) = .lt by simp only [compare, compareOfLessAndEq, h, if_true]]
  rfl
end OwnF
section OwnQ
open Jvm.FP Jvm.FP.Core
def own_g (n d g : Int64) : Prop := 0 < g.toInt ∧ g.toInt ∣ n.toInt ∧ g.toInt ∣ d.toInt
def own_G (a b x y : Int64) : Prop := Nat.gcd x.toInt.natAbs y.toInt.natAbs = Nat.gcd a.toInt.natAbs b.toInt.natAbs
def own_abs (z : Int64) : Int64 := if z < (0 : Int64) then -z else z
theorem own_hi64 (x : Int64) : -9223372036854775808 ≤ x.toInt ∧ x.toInt < 9223372036854775808 := ⟨x.le_toInt, x.toInt_lt⟩
theorem own_bm {i : Int} (h1 : -9223372036854775808 ≤ i) (h2 : i < 9223372036854775808) : i.bmod (2 ^ 64) = i := Int.bmod_eq_of_le (by omega) (by omega)
theorem own_z64 {x : Int64} : x = 0 ↔ x.toInt = 0 := by
  rw [← Int64.toInt_inj]
  rfl
theorem own_rm64 {x y : Int64} (hy : y ≠ 0) : (x - (x / y) * y).toInt = x.toInt.tmod y.toInt := by
  have hy' : y.toInt ≠ 0 := fun q => hy (own_z64.mpr q)
  have e : x.toInt - x.toInt.tdiv y.toInt * y.toInt = x.toInt.tmod y.toInt := by rw [Int.tmod_def, Int.mul_comm]
  rw [Int64.toInt_sub, Int64.toInt_mul, Int64.toInt_div, Int.bmod_mul_bmod, Int.sub_bmod_bmod, e]
  have k : (x.toInt.tmod y.toInt).natAbs < y.toInt.natAbs := by
    rw [Int.natAbs_tmod]
    exact Nat.mod_lt _ (by omega)
  have := own_hi64 y
  exact own_bm (by omega) (by omega)
theorem own_Gs {a b x y : Int64} (hy : y ≠ 0) (h : own_G a b x y) : own_G a b y (x - (x / y) * y) ∧ (x - (x / y) * y).toInt.natAbs < y.toInt.natAbs := by
  have hy' : y.toInt ≠ 0 := fun q => hy (own_z64.mpr q)
  unfold own_G at *
  rw [own_rm64 hy, Int.natAbs_tmod]
  refine ⟨?_, Nat.mod_lt _ (by omega)⟩
  rw [Nat.gcd_comm, ← Nat.gcd_rec, Nat.gcd_comm]
  exact h
theorem own_absT {x : Int64} (h : x.toInt ≠ -9223372036854775808) : (own_abs x).toInt = (x.toInt.natAbs : Int) := by
  have := own_hi64 x
  unfold own_abs
  split
  · rename_i q
    rw [Int64.lt_iff_toInt_lt] at q
    have q' : x.toInt < 0 := q
    rw [Int64.toInt_neg, own_bm (by omega) (by omega)]
    omega
  · rename_i q
    rw [Int64.lt_iff_toInt_lt] at q
    have q' : ¬ x.toInt < 0 := q
    omega
theorem own_Ge {a b x y : Int64} (hb : 0 < b.toInt) (h : own_G a b x y) (hy : y = 0) : own_g a b (own_abs x) := by
  have h0 : y.toInt.natAbs = 0 := by rw [hy]; rfl
  unfold own_G at h
  rw [h0, Nat.gcd_zero_right] at h
  have k1 : 0 < Nat.gcd a.toInt.natAbs b.toInt.natAbs := Nat.gcd_pos_of_pos_right _ (by omega)
  have k2 : Nat.gcd a.toInt.natAbs b.toInt.natAbs ≤ b.toInt.natAbs := Nat.gcd_le_right _ (by omega)
  have hb2 := own_hi64 b
  have e := own_absT (x := x) (by omega)
  refine ⟨by rw [e]; omega, ?_, ?_⟩
  · rw [e, h, Int.ofNat_dvd_left]
    exact Nat.gcd_dvd_left _ _
  · rw [e, h, Int.ofNat_dvd_left]
    exact Nat.gcd_dvd_right _ _
theorem own_gnz {n d g : Int64} (h : own_g n d g) : g ≠ 0 := fun q => by
  have := h.1
  rw [q] at this
  exact absurd this (by decide)
theorem own_dv {n g : Int64} (h0 : 0 < g.toInt) (hd : g.toInt ∣ n.toInt) : (n / g).toInt * g.toInt = n.toInt := by
  have e := Int.tdiv_mul_cancel hd
  have hn := own_hi64 n
  have k : (n.toInt.tdiv g.toInt).natAbs ≤ n.toInt.natAbs := by
    rw [Int.natAbs_tdiv]
    exact Nat.div_le_self _ _
  have k2 : 0 ≤ n.toInt.tdiv g.toInt → 0 ≤ n.toInt := fun q => by
    rw [← e]
    exact Int.mul_nonneg q (by omega)
  rw [Int64.toInt_div, own_bm (by omega) (by omega)]
  exact e
theorem own_gt0 {d : Int64} (h : 0 < d.toInt) : (0 : Int32) < (lcmpW d (0 : Int64)) := by
  rw [lw_gt, Int64.lt_iff_toInt_lt]
  exact h
/-- one whole number as a double, up to 2^53 -/
theorem own_zl2 {a : Int64} (h : a.toInt.natAbs ≤ 2 ^ 53) : zmag b64 (val64 (Core.l2d a)) = a.toInt.natAbs * 2 ^ 1074 := by
  obtain ⟨s, c, q, e⟩ := Core.l2d_fin a
  have w : Whole a.toInt (val64 (Core.l2d a)) := Core.l2d_int h
  have f := val64_fits (Core.l2d a)
  rw [e] at w f ⊢
  have f2 := f.2.1
  rw [qmin_b64] at f2
  have k := whole_natAbs w
  rw [own_zf]
  apply Nat.eq_of_mul_eq_mul_right (Nat.two_pow_pos (-q).toNat)
  by_cases z : 0 ≤ q
  · rw [show (q + 1074).toNat = q.toNat + 1074 by omega, Nat.pow_add, ← Nat.mul_assoc, k, show (-q).toNat = 0 by omega, Nat.pow_zero, Nat.mul_one, Nat.mul_one, Nat.mul_one]
  · rw [show q.toNat = 0 by omega, Nat.pow_zero, Nat.mul_one] at k
    rw [k, Nat.mul_assoc a.toInt.natAbs, ← Nat.pow_add, show (-q).toNat + (q + 1074).toNat = 1074 by omega]
theorem own_fin2 {x : UInt64} (h : DFin x) : ∃ s c q, val64 x = .fin s c q ∧ s = sgn (val64 x) ∧ -1074 ≤ q ∧ c * 2 ^ (q + 1074).toNat = zmag b64 (val64 x) := by
  obtain ⟨s, c, q, e⟩ := h
  have f := val64_fits x
  rw [e] at f
  have f2 := f.2.1
  rw [qmin_b64] at f2
  refine ⟨s, c, q, e, ?_, f2, ?_⟩
  · rw [e]; rfl
  · rw [e, own_zf]
/-- the quotient of any two numbers, by their magnitudes -/
theorem own_vq2 {x y : UInt64} (hx : DFin x) (hy : DFin y) (h0 : 0 < zmag b64 (val64 y)) : val64 (Core.ddiv x y) = roundRatio b64 (sgn (val64 x) != sgn (val64 y)) (zmag b64 (val64 x)) (zmag b64 (val64 y)) 0 := by
  obtain ⟨s, c, q, e1, e2, e3, e4⟩ := own_fin2 hx
  obtain ⟨t, d, r, f1, f2, f3, f4⟩ := own_fin2 hy
  have hd : d ≠ 0 := by
    intro z
    rw [z, Nat.zero_mul] at f4
    omega
  rw [← e2, ← f2, ← e4, ← f4, val64_ddiv, e1, f1]
  show (if d = 0 then (if c = 0 then Datum.nan else .inf (s != t)) else roundRatio b64 (s != t) c d (q - r)) = _
  rw [if_neg hd]
  refine roundRatio_congr (Nat.pos_of_ne_zero hd) (Nat.mul_pos (Nat.pos_of_ne_zero hd) (Nat.two_pow_pos _)) ?_
  apply Nat.eq_of_mul_eq_mul_right (Nat.two_pow_pos ((min q r) + 1074).toNat)
  have k1 : 2 ^ (q - r - 0).toNat * 2 ^ (min q r + 1074).toNat = 2 ^ (q + 1074).toNat := by rw [← Nat.pow_add]; congr 1; omega
  have k2 : 2 ^ (0 - (q - r)).toNat * 2 ^ (min q r + 1074).toNat = 2 ^ (r + 1074).toNat := by rw [← Nat.pow_add]; congr 1; omega
  rw [Nat.mul_assoc, k1, Nat.mul_assoc (c * 2 ^ (q + 1074).toNat * d), k2, Nat.mul_assoc c, Nat.mul_assoc c, Nat.mul_assoc c]
  congr 1
  rw [Nat.mul_comm, ← Nat.mul_assoc]
theorem own_cle {x y : UInt64} (o : CmpOp) (hx : val64 x ≠ .nan) (hy : val64 y ≠ .nan) (h : zval b64 (val64 x) ≤ zval b64 (val64 y)) : ¬ (0 : Int32) < cmpValue (FP.dcmp x y) o := by
  rcases Int.lt_or_eq_of_le h with q | q
  · rw [own_cl o hx hy q]
    decide
  · rw [own_ce o hx hy q]
    decide
/-- n/g over d/g is n over d -/
theorem own_qvZ {n d g : Int64} (h : own_g n d g) (hd : 0 < d.toInt) (z1 : zmag b64 (val64 (Core.l2d (n / g))) = (n / g).toInt.natAbs * 2 ^ 1074) (z2 : zmag b64 (val64 (Core.l2d (d / g))) = (d / g).toInt.natAbs * 2 ^ 1074) : val64 (Core.ddiv (Core.l2d (n / g)) (Core.l2d (d / g))) = roundRatio b64 (decide (n.toInt < 0)) n.toInt.natAbs d.toInt.natAbs 0 := by
  obtain ⟨h0, h1, h2⟩ := h
  have e1 := own_dv h0 h1
  have e2 := own_dv h0 h2
  have a1 : (n / g).toInt.natAbs * g.toInt.natAbs = n.toInt.natAbs := by rw [← Int.natAbs_mul, e1]
  have a2 : (d / g).toInt.natAbs * g.toInt.natAbs = d.toInt.natAbs := by rw [← Int.natAbs_mul, e2]
  have p2 : 0 < (d / g).toInt := by
    refine Int.lt_of_not_ge fun q => ?_
    have := Int.mul_nonpos_of_nonpos_of_nonneg q (Int.le_of_lt h0)
    omega
  have pz : 0 < zmag b64 (val64 (Core.l2d (d / g))) := by rw [z2]; exact Nat.mul_pos (by omega) (Nat.two_pow_pos _)
  have sg : decide ((n / g).toInt < 0) = decide (n.toInt < 0) := by
    rw [decide_eq_decide, ← e1]
    constructor
    · intro q; exact Int.mul_neg_of_neg_of_pos q h0
    · intro q
      refine Int.lt_of_not_ge fun r => ?_
      have := Int.mul_nonneg r (Int.le_of_lt h0)
      omega
  rw [own_vq2 (Core.l2d_fin _) (Core.l2d_fin _) pz, own_sl, own_sl, z1, z2, sg, decide_eq_false (p := (d / g).toInt < 0) (by omega), show (decide (n.toInt < 0) != false) = decide (n.toInt < 0) by cases decide (n.toInt < 0) <;> rfl]
  refine roundRatio_congr (Nat.mul_pos (by omega) (Nat.two_pow_pos _)) (by omega) ?_
  show _ * 2 ^ 0 = _ * 2 ^ 0
  rw [← a1, ← a2, Nat.pow_zero, Nat.mul_one, Nat.mul_one]
  generalize (n / g).toInt.natAbs = u
  generalize (d / g).toInt.natAbs = v
  generalize g.toInt.natAbs = t
  generalize 2 ^ 1074 = w
  rw [Nat.mul_assoc u w, Nat.mul_left_comm w v t, Nat.mul_assoc u t, Nat.mul_left_comm t v w, Nat.mul_comm t w]
theorem own_dle {n g : Int64} (h0 : 0 < g.toInt) (h1 : g.toInt ∣ n.toInt) : (n / g).toInt.natAbs ≤ n.toInt.natAbs := by
  have a1 : (n / g).toInt.natAbs * g.toInt.natAbs = n.toInt.natAbs := by rw [← Int.natAbs_mul, own_dv h0 h1]
  rw [← a1]
  exact Nat.le_mul_of_pos_right _ (by omega)
theorem own_qv {n d g : Int64} (h : own_g n d g) (hn : n.toInt.natAbs ≤ 2 ^ 53) (hd : 0 < d.toInt) (hd2 : d.toInt ≤ 2 ^ 53) : val64 (Core.ddiv (Core.l2d (n / g)) (Core.l2d (d / g))) = roundRatio b64 (decide (n.toInt < 0)) n.toInt.natAbs d.toInt.natAbs 0 := by
  have b1 := own_dle h.1 h.2.1
  have b2 := own_dle h.1 h.2.2
  exact own_qvZ h hd (own_zl2 (by omega)) (own_zl2 (by omega))
/-- the law's first numbers -/
def own_P (n d : Int64) : Prop := n.toInt.natAbs ≤ 4503599627370496 ∧ 0 < d.toInt ∧ d.toInt ≤ 9007199254740992
theorem own_qn {n d g : Int64} (h : own_g n d g) (p : own_P n d) : val64 (Core.ddiv (Core.l2d (n / g)) (Core.l2d (d / g))) ≠ .nan := by
  obtain ⟨p1, p2, p3⟩ := p
  rw [own_qv h (by omega) p2 (by omega)]
  exact roundRatio_ne_nan _ _ _ _ _
theorem own_qz {n d g : Int64} (h : own_g n d g) (p : own_P n d) : zval b64 (val64 (Core.ddiv (Core.l2d (n / g)) (Core.l2d (d / g)))) = signed (decide (n.toInt < 0)) (zmag b64 (roundRatio b64 (decide (n.toInt < 0)) n.toInt.natAbs d.toInt.natAbs 0)) := by
  obtain ⟨p1, p2, p3⟩ := p
  rw [own_qv h (by omega) p2 (by omega)]
  show signed (sgn _) _ = _
  rw [sgn_roundRatio]
theorem own_di {n d : Int64} (p : own_P n d) : (n / d).toInt = n.toInt.tdiv d.toInt ∧ (n / d).toInt.natAbs = n.toInt.natAbs / d.toInt.natAbs := by
  obtain ⟨p1, p2, p3⟩ := p
  have k : (n.toInt.tdiv d.toInt).natAbs ≤ n.toInt.natAbs := by
    rw [Int.natAbs_tdiv]
    exact Nat.div_le_self _ _
  have e : (n / d).toInt = n.toInt.tdiv d.toInt := by rw [Int64.toInt_div, own_bm (by omega) (by omega)]
  exact ⟨e, by rw [e, Int.natAbs_tdiv]; rfl⟩
theorem own_zvl2 {a : Int64} (h : a.toInt.natAbs ≤ 2 ^ 53) : zval b64 (val64 (Core.l2d a)) = a.toInt * ((2 ^ 1074 : Nat) : Int) := by
  show signed (sgn (val64 (Core.l2d a))) (zmag b64 (val64 (Core.l2d a))) = _
  rw [own_sl, own_zl2 h, signed_mul]
  congr 1
  by_cases q : a.toInt < 0
  · rw [decide_eq_true q]
    show -((a.toInt.natAbs : Nat) : Int) = a.toInt
    omega
  · rw [decide_eq_false q]
    show ((a.toInt.natAbs : Nat) : Int) = a.toInt
    omega
/-- the magnitude of q lies between the whole part and the next -/
theorem own_bd {s : Bool} {A B : Nat} (hA : A ≤ 4503599627370496) (hB : 0 < B) : (A / B) * 2 ^ 1074 ≤ zmag b64 (roundRatio b64 s A B 0) ∧ zmag b64 (roundRatio b64 s A B 0) ≤ (A / B + 1) * 2 ^ 1074 := by
  have k1 : A / B ≤ A := Nat.div_le_self A B
  have k2 : A / B * B ≤ A := Nat.div_mul_le_self A B
  have k3 : A < B * (A / B + 1) := Nat.lt_mul_div_succ A hB
  constructor
  · exact own_fge (j := 0) hB (by omega) (by decide) (by rw [Nat.pow_zero, Nat.mul_one]; exact k2)
  · exact own_fle (j := 0) hB (by omega) (by decide) (by rw [Nat.pow_zero, Nat.mul_one, Nat.mul_comm]; omega)
theorem own_lz {n : Int64} (h : ¬ (lcmpW n (0 : Int64)) < (0 : Int32)) : 0 ≤ n.toInt := by
  rw [lw_lt, Int64.lt_iff_toInt_lt] at h
  have h' : ¬ n.toInt < 0 := h
  omega
theorem own_ln {n : Int64} (h : (lcmpW n (0 : Int64)) < (0 : Int32)) : n.toInt < 0 := by
  rw [lw_lt, Int64.lt_iff_toInt_lt] at h
  exact h
abbrev own_q (n d g : Int64) : UInt64 := FP.ddiv (FP.l2d (n / g)) (FP.l2d (d / g))
theorem own_p1 {n d g : Int64} (h : own_g n d g) (p : own_P n d) (hs : ¬ (lcmpW n (0 : Int64)) < (0 : Int32)) : ¬ (0 : Int32) < (cmpValue (FP.dcmp (FP.l2d (n / d)) (FP.ddiv (FP.l2d (n / g)) (FP.l2d (d / g)))) .g) := by
  have h0 := own_lz hs
  obtain ⟨e1, e2⟩ := own_di p
  have e3 : 0 ≤ (n / d).toInt := by rw [e1]; exact Int.tdiv_nonneg h0 (Int.le_of_lt p.2.1)
  have p1 := p.1
  have k1 : n.toInt.natAbs / d.toInt.natAbs ≤ n.toInt.natAbs := Nat.div_le_self _ _
  refine own_cle _ (own_nl _) (own_qn h p) ?_
  rw [own_qz h p, decide_eq_false (by omega), own_zvl2 (by omega), show (n / d).toInt = (((n / d).toInt.natAbs : Nat) : Int) by omega, e2, ← Int.natCast_mul]
  exact Int.ofNat_le.mpr (own_bd p1 (by have := p.2.1; omega)).1
theorem own_p2 {n d g : Int64} (h : own_g n d g) (p : own_P n d) (hs : ¬ (lcmpW n (0 : Int64)) < (0 : Int32)) : ¬ (0 : Int32) < (cmpValue (FP.dcmp (FP.ddiv (FP.l2d (n / g)) (FP.l2d (d / g))) (FP.l2d ((n / d) + (1 : Int64)))) .g) := by
  have h0 := own_lz hs
  obtain ⟨e1, e2⟩ := own_di p
  have e3 : 0 ≤ (n / d).toInt := by rw [e1]; exact Int.tdiv_nonneg h0 (Int.le_of_lt p.2.1)
  have p1 := p.1
  have k1 : n.toInt.natAbs / d.toInt.natAbs ≤ n.toInt.natAbs := Nat.div_le_self _ _
  have e4 : ((n / d) + (1 : Int64)).toInt = (n / d).toInt + 1 := add64 ⟨by omega, by omega⟩ ⟨by decide, by decide⟩
  refine own_cle _ (own_qn h p) (own_nl _) ?_
  rw [own_qz h p, decide_eq_false (by omega), own_zvl2 (by omega), e4, show (n / d).toInt + 1 = (((n / d).toInt.natAbs + 1 : Nat) : Int) by omega, e2, ← Int.natCast_mul]
  exact Int.ofNat_le.mpr (own_bd p1 (by have := p.2.1; omega)).2
theorem own_p3 {n d g : Int64} (h : own_g n d g) (p : own_P n d) (hs : (lcmpW n (0 : Int64)) < (0 : Int32)) : ¬ (0 : Int32) < (cmpValue (FP.dcmp (FP.l2d ((n / d) - (1 : Int64))) (FP.ddiv (FP.l2d (n / g)) (FP.l2d (d / g)))) .g) := by
  have h0 := own_ln hs
  obtain ⟨e1, e2⟩ := own_di p
  have e3 : (n / d).toInt ≤ 0 := by
    rw [e1]
    have := Int.tdiv_nonneg (a := -n.toInt) (b := d.toInt) (by omega) (Int.le_of_lt p.2.1)
    rw [Int.neg_tdiv] at this
    omega
  have p1 := p.1
  have k1 : n.toInt.natAbs / d.toInt.natAbs ≤ n.toInt.natAbs := Nat.div_le_self _ _
  have e4 : ((n / d) - (1 : Int64)).toInt = (n / d).toInt - 1 := sub64 ⟨by omega, by omega⟩ ⟨by decide, by decide⟩
  refine own_cle _ (own_nl _) (own_qn h p) ?_
  have k2 := (own_bd (s := true) p1 (B := d.toInt.natAbs) (by have := p.2.1; omega)).2
  rw [own_qz h p, decide_eq_true h0, own_zvl2 (by omega), e4, show (n / d).toInt - 1 = -(((n / d).toInt.natAbs + 1 : Nat) : Int) by omega, e2, Int.neg_mul, ← Int.natCast_mul]
  exact Int.neg_le_neg (Int.ofNat_le.mpr k2)
theorem own_p4 {n d g : Int64} (h : own_g n d g) (p : own_P n d) (hs : (lcmpW n (0 : Int64)) < (0 : Int32)) : ¬ (0 : Int32) < (cmpValue (FP.dcmp (FP.ddiv (FP.l2d (n / g)) (FP.l2d (d / g))) (FP.l2d (n / d))) .g) := by
  have h0 := own_ln hs
  obtain ⟨e1, e2⟩ := own_di p
  have e3 : (n / d).toInt ≤ 0 := by
    rw [e1]
    have := Int.tdiv_nonneg (a := -n.toInt) (b := d.toInt) (by omega) (Int.le_of_lt p.2.1)
    rw [Int.neg_tdiv] at this
    omega
  have p1 := p.1
  have k1 : n.toInt.natAbs / d.toInt.natAbs ≤ n.toInt.natAbs := Nat.div_le_self _ _
  refine own_cle _ (own_qn h p) (own_nl _) ?_
  have k2 := (own_bd (s := true) p1 (B := d.toInt.natAbs) (by have := p.2.1; omega)).1
  rw [own_qz h p, decide_eq_true h0, own_zvl2 (by omega), show (n / d).toInt = -(((n / d).toInt.natAbs : Nat) : Int) by omega, e2, Int.neg_mul, ← Int.natCast_mul]
  exact Int.neg_le_neg (Int.ofNat_le.mpr k2)
theorem own_p5 {n d g : Int64} (h : own_g n d g) (p : own_P n d) (hr : (lcmpW (n - (n / d) * d) (0 : Int64)) = (0 : Int32)) : (cmpValue (FP.dcmp (FP.ddiv (FP.l2d (n / g)) (FP.l2d (d / g))) (FP.l2d (n / d))) .l) = (0 : Int32) := by
  obtain ⟨e1, e2⟩ := own_di p
  have p1 := p.1
  have hd0 : 0 < d.toInt := p.2.1
  have hdz : d ≠ 0 := fun q => by rw [q] at hd0; exact absurd hd0 (by decide)
  have k1 : n.toInt.natAbs / d.toInt.natAbs ≤ n.toInt.natAbs := Nat.div_le_self _ _
  rw [lw_eq, own_z64, own_rm64 hdz] at hr
  have e5 : (n / d).toInt * d.toInt = n.toInt := by
    rw [e1]
    exact Int.tdiv_mul_cancel (Int.dvd_of_tmod_eq_zero hr)
  have e6 : (n / d).toInt.natAbs * d.toInt.natAbs = n.toInt.natAbs := by rw [← Int.natAbs_mul, e5]
  refine own_ce _ (own_qn h p) (own_nl _) ?_
  have k2 := own_feq (s := decide (n.toInt < 0)) (A := n.toInt.natAbs) (B := d.toInt.natAbs) (c := (n / d).toInt.natAbs) (j := 0) (by omega) (by omega) (by decide) (by rw [Nat.pow_zero, Nat.mul_one]; exact e6.symm)
  rw [own_qz h p, k2, own_zvl2 (by omega), show 1074 - 0 = 1074 from rfl, signed_mul]
  congr 1
  have sg : decide (n.toInt < 0) = decide ((n / d).toInt < 0) := by
    rw [decide_eq_decide, ← e5]
    constructor
    · intro q
      refine Int.lt_of_not_ge fun r => ?_
      have := Int.mul_nonneg r (Int.le_of_lt hd0)
      omega
    · intro q; exact Int.mul_neg_of_neg_of_pos q hd0
  rw [sg]
  by_cases q : (n / d).toInt < 0
  · rw [decide_eq_true q]
    show -(((n / d).toInt.natAbs : Nat) : Int) = (n / d).toInt
    omega
  · rw [decide_eq_false q]
    show (((n / d).toInt.natAbs : Nat) : Int) = (n / d).toInt
    omega
/-- the same with a power of two as factor -/
theorem own_fV3 {c i j : Nat} (hc : c < 2 ^ 53) (hi : i ≤ 900) (hj : j ≤ 1000) : ∃ V, Core.fits b64 V ∧ V ≠ Datum.nan ∧ zmag b64 V = c * 2 ^ i * 2 ^ (1074 - j) := by
  have q1 : b64.qmax = 971 := by decide
  obtain ⟨c', q', h1, h2⟩ := round_exact good_b64 false (c := c) (q := (i : Int) - (j : Int)) hc (by rw [qmin_b64]; omega) (by rw [q1]; omega)
  refine ⟨Datum.fin false c' q', h1 ▸ round_fits good_b64 _, nofun, ?_⟩
  show inUnits c' q' b64.qmin = _
  rw [h2, qmin_b64, own_iu, show ((i : Int) - (j : Int) - -1074).toNat = i + (1074 - j) by omega, Nat.pow_add, Nat.mul_assoc]
theorem own_fle3 {s : Bool} {A B c i : Nat} (hB : 0 < B) (hc : c < 2 ^ 53) (hi : i ≤ 900) (h : A ≤ c * 2 ^ i * B) : zmag b64 (roundRatio b64 s A B 0) ≤ c * 2 ^ i * 2 ^ 1074 := by
  obtain ⟨V, h1, h2, h3⟩ := own_fV3 (j := 0) hc hi (by decide)
  rw [show 1074 - 0 = 1074 from rfl] at h3
  rw [← h3]
  refine zmag_roundRatio_le good_b64 hB h1 h2 (e0 := -1074) (by rw [qmin_b64]; decide) (by decide) ?_
  rw [h3, qmin_b64, own_iu, show ((-1074 : Int) - -1074).toNat = 0 by decide, show ((0 : Int) - -1074).toNat = 1074 by decide, Nat.pow_zero, Nat.mul_one, Nat.mul_right_comm _ (2 ^ 1074)]
  exact Nat.mul_le_mul_right _ h
theorem own_fge3 {s : Bool} {A B c i : Nat} (hB : 0 < B) (hc : c < 2 ^ 53) (hi : i ≤ 900) (h : c * 2 ^ i * B ≤ A) : c * 2 ^ i * 2 ^ 1074 ≤ zmag b64 (roundRatio b64 s A B 0) := by
  obtain ⟨V, h1, h2, h3⟩ := own_fV3 (j := 0) hc hi (by decide)
  rw [show 1074 - 0 = 1074 from rfl] at h3
  rw [← h3]
  refine zmag_roundRatio_ge good_b64 hB h1 (e0 := -1074) (by rw [qmin_b64]; decide) (by decide) ?_
  rw [h3, qmin_b64, own_iu, show ((-1074 : Int) - -1074).toNat = 0 by decide, show ((0 : Int) - -1074).toNat = 1074 by decide, Nat.pow_zero, Nat.mul_one, Nat.mul_right_comm _ (2 ^ 1074)]
  exact Nat.mul_le_mul_right _ h
theorem own_two (k : Nat) : ∀ d, d ∣ 2 ^ k → ∃ m, m ≤ k ∧ d = 2 ^ m := by
  induction k with
  | zero => intro d h; exact ⟨0, Nat.le_refl _, Nat.dvd_one.mp h⟩
  | succ k ih =>
    intro d h
    by_cases e : d % 2 = 0
    · obtain ⟨u, hu⟩ := Nat.dvd_of_mod_eq_zero e
      rw [hu, Nat.pow_succ, Nat.mul_comm] at h
      obtain ⟨m, h1, h2⟩ := ih u (Nat.dvd_of_mul_dvd_mul_right (by decide) h)
      exact ⟨m + 1, Nat.succ_le_succ h1, by rw [hu, h2, Nat.pow_succ, Nat.mul_comm]⟩
    · have co : Nat.Coprime d 2 := by
        have k1 : Nat.gcd d 2 ∣ 2 := Nat.gcd_dvd_right d 2
        have k2 : Nat.gcd d 2 ∣ d := Nat.gcd_dvd_left d 2
        have k3 : Nat.gcd d 2 ≤ 2 := Nat.le_of_dvd (by decide) k1
        have k4 : 0 < Nat.gcd d 2 := Nat.gcd_pos_of_pos_right _ (by decide)
        have k5 : Nat.gcd d 2 ≠ 2 := fun q => e (Nat.mod_eq_zero_of_dvd (q ▸ k2))
        show Nat.gcd d 2 = 1
        omega
      rw [Nat.pow_succ] at h
      obtain ⟨m, h1, h2⟩ := ih d (co.dvd_of_dvd_mul_right h)
      exact ⟨m, Nat.le_succ_of_le h1, h2⟩
theorem own_zl3 {a : Int64} {m : Nat} (hm : m ≤ 900) (h : a.toInt.natAbs = 2 ^ m) : zmag b64 (val64 (Core.l2d a)) = a.toInt.natAbs * 2 ^ 1074 := by
  rw [own_vl, h]
  apply Nat.le_antisymm
  · have := own_fle3 (s := decide (a.toInt < 0)) (A := 2 ^ m) (B := 1) (c := 1) (i := m) (by decide) (by decide) hm (by rw [Nat.one_mul, Nat.mul_one]; exact Nat.le_refl _)
    rw [Nat.one_mul] at this
    exact this
  · have := own_fge3 (s := decide (a.toInt < 0)) (A := 2 ^ m) (B := 1) (c := 1) (i := m) (by decide) (by decide) hm (by rw [Nat.one_mul, Nat.mul_one]; exact Nat.le_refl _)
    rw [Nat.one_mul] at this
    exact this
def own_W (p : Int64) : Prop := ∃ k : Nat, k ≤ 61 ∧ p.toInt = ((2 ^ k : Nat) : Int)
theorem own_wp {p : Int64} (h : own_W p) : 0 < p.toInt := by
  obtain ⟨k, -, e⟩ := h
  rw [e]
  exact Int.natCast_pos.mpr (Nat.two_pow_pos k)
theorem own_rv {n d p g : Int64} (h : own_g n p g) (P : own_P n d) (w : own_W p) : val64 (Core.ddiv (Core.l2d (n / g)) (Core.l2d (p / g))) = roundRatio b64 (decide (n.toInt < 0)) n.toInt.natAbs p.toInt.natAbs 0 := by
  have hp := own_wp w
  obtain ⟨k, hk, e⟩ := w
  have b1 := own_dle h.1 h.2.1
  have P1 := P.1
  have a2 : (p / g).toInt.natAbs * g.toInt.natAbs = p.toInt.natAbs := by rw [← Int.natAbs_mul, own_dv h.1 h.2.2]
  obtain ⟨m, hm, em⟩ := own_two k (p / g).toInt.natAbs ⟨g.toInt.natAbs, by rw [a2, e, Int.natAbs_natCast]⟩
  exact own_qvZ h hp (own_zl2 (by omega)) (own_zl3 (by omega) em)
/-- n over a power of two, times that power, is n -/
theorem own_back {n d p g : Int64} (h : own_g n p g) (P : own_P n d) (w : own_W p) : val64 (Core.dmul (Core.ddiv (Core.l2d (n / g)) (Core.l2d (p / g))) (Core.l2d p)) = val64 (Core.l2d n) := by
  have hr := own_rv h P w
  have hp := own_wp w
  obtain ⟨k, hk, e⟩ := w
  have P1 := P.1
  have q1 : b64.qmax = 971 := by decide
  obtain ⟨c, q, r1, r2⟩ := round_exact good_b64 (decide (n.toInt < 0)) (c := n.toInt.natAbs) (q := -(k : Int)) (show n.toInt.natAbs < 2 ^ 53 by omega) (by rw [qmin_b64]; omega) (by rw [q1]; omega)
  have r3 : roundRatio b64 (decide (n.toInt < 0)) n.toInt.natAbs p.toInt.natAbs 0 = .fin (decide (n.toInt < 0)) c q := by
    rw [← r1]
    refine roundRatio_congr (by omega) (by decide) ?_
    rw [e, Int.natAbs_natCast, show (0 - -(k : Int)).toNat = k by omega, show (-(k : Int) - 0).toNat = 0 by omega, Nat.mul_one, Nat.pow_zero, Nat.mul_one]
  rw [r3] at hr
  have fr := val64_fits (Core.ddiv (Core.l2d (n / g)) (Core.l2d (p / g)))
  rw [hr] at fr
  have f2 := fr.2.1
  rw [qmin_b64] at f2
  rw [qmin_b64, own_iu, own_iu, show (-(k : Int) - -1074).toNat = 1074 - k by omega, show q - -1074 = q + 1074 by omega] at r2
  obtain ⟨t, dd, r, y1, y2, y3, y4⟩ := own_fin2 (Core.l2d_fin p)
  rw [own_sl, decide_eq_false (by omega)] at y2
  rw [own_zl3 (m := k) (by omega) (by rw [e, Int.natAbs_natCast]), e, Int.natAbs_natCast] at y4
  rw [val64_dmul, hr, y1, y2, own_vl]
  show roundRatio b64 (decide (n.toInt < 0) != false) (c * dd) 1 (q + r) = _
  rw [show (decide (n.toInt < 0) != false) = decide (n.toInt < 0) by cases decide (n.toInt < 0) <;> rfl]
  refine roundRatio_congr (by decide) (by decide) ?_
  apply Nat.eq_of_mul_eq_mul_right (Nat.two_pow_pos (min (q + r) 0 + 2148).toNat)
  have k1 : 2 ^ (q + r - 0).toNat * 2 ^ (min (q + r) 0 + 2148).toNat = 2 ^ (q + 1074).toNat * 2 ^ (r + 1074).toNat := by rw [← Nat.pow_add, ← Nat.pow_add]; congr 1; omega
  have k2 : 2 ^ (0 - (q + r)).toNat * 2 ^ (min (q + r) 0 + 2148).toNat = 2 ^ (1074 - k) * (2 ^ k * 2 ^ 1074) := by rw [← Nat.pow_add, ← Nat.pow_add, ← Nat.pow_add]; congr 1; omega
  rw [Nat.mul_assoc, k1, Nat.mul_assoc _ (2 ^ (0 - (q + r)).toNat), k2, Nat.mul_one, Nat.mul_one, ← Nat.mul_assoc n.toInt.natAbs, ← r2, ← y4]
  generalize 2 ^ (q + 1074).toNat = u
  generalize 2 ^ (r + 1074).toNat = v
  rw [Nat.mul_assoc c dd, Nat.mul_left_comm dd u v, ← Nat.mul_assoc c u]
theorem own_p6 {n d p g : Int64} (h : own_g n p g) (P : own_P n d) (w : own_W p) : (cmpValue (FP.dcmp (FP.dmul (FP.ddiv (FP.l2d (n / g)) (FP.l2d (p / g))) (FP.l2d p)) (FP.l2d n)) .l) = (0 : Int32) := by
  have e := own_back h P w
  exact own_ce _ (by rw [show FP.dmul (FP.ddiv (FP.l2d (n / g)) (FP.l2d (p / g))) (FP.l2d p) = Core.dmul (Core.ddiv (Core.l2d (n / g)) (Core.l2d (p / g))) (Core.l2d p) from rfl, e]; exact own_nl n) (own_nl n) (congrArg (zval b64) e)
theorem own_nn3 {n d p g : Int64} (h : own_g n p g) (P : own_P n d) (w : own_W p) : Jvm.Free.Fl.NoNaN64 (FP.dmul (FP.ddiv (FP.l2d (n / g)) (FP.l2d (p / g))) (FP.l2d p)) := own_nn (by
  have e := own_back h P w
  rw [show FP.dmul (FP.ddiv (FP.l2d (n / g)) (FP.l2d (p / g))) (FP.l2d p) = Core.dmul (Core.ddiv (Core.l2d (n / g)) (Core.l2d (p / g))) (Core.l2d p) from rfl, e]
  exact own_nl n)
theorem own_nn1 {n d g : Int64} (h : own_g n d g) (p : own_P n d) : Jvm.Free.Fl.NoNaN64 (FP.ddiv (FP.l2d (n / g)) (FP.l2d (d / g))) := own_nn (own_qn h p)
theorem own_nn2 {n d p g : Int64} (h : own_g n p g) (P : own_P n d) (w : own_W p) : Jvm.Free.Fl.NoNaN64 (FP.ddiv (FP.l2d (n / g)) (FP.l2d (p / g))) := own_nn (by
  show val64 (Core.ddiv (Core.l2d (n / g)) (Core.l2d (p / g))) ≠ .nan
  rw [own_rv h P w]
  exact roundRatio_ne_nan _ _ _ _ _)
/-- signs, over the whole range -/
theorem own_zlo {a : Int64} (h : a.toInt ≠ 0) : 2 ^ 1074 ≤ zmag b64 (val64 (Core.l2d a)) := by
  rw [own_vl]
  have := own_fge (s := decide (a.toInt < 0)) (A := a.toInt.natAbs) (B := 1) (c := 1) (j := 0) (by decide) (by decide) (by decide) (by rw [Nat.pow_zero]; omega)
  rw [Nat.one_mul] at this
  exact this
theorem own_zhi (a : Int64) : zmag b64 (val64 (Core.l2d a)) ≤ 2 ^ 63 * 2 ^ 1074 := by
  rw [own_vl]
  have k := Core.int64_abs a
  have := own_fle3 (s := decide (a.toInt < 0)) (A := a.toInt.natAbs) (B := 1) (c := 1) (i := 63) (by decide) (by decide) (by decide) (by rw [Nat.one_mul, Nat.mul_one]; exact k)
  rw [Nat.one_mul] at this
  exact this
theorem own_sv {c dd g : Int64} (h : own_g c dd g) (hd : 0 < dd.toInt) : val64 (Core.ddiv (Core.l2d (c / g)) (Core.l2d (dd / g))) = roundRatio b64 (decide ((c / g).toInt < 0)) (zmag b64 (val64 (Core.l2d (c / g)))) (zmag b64 (val64 (Core.l2d (dd / g)))) 0 := by
  have p2 : 0 < (dd / g).toInt := by
    refine Int.lt_of_not_ge fun q => ?_
    have := Int.mul_nonpos_of_nonpos_of_nonneg q (Int.le_of_lt h.1)
    have := own_dv h.1 h.2.2
    omega
  have pz := Nat.lt_of_lt_of_le (Nat.two_pow_pos 1074) (own_zlo (a := dd / g) (by omega))
  rw [own_vq2 (Core.l2d_fin _) (Core.l2d_fin _) pz, own_sl, own_sl, decide_eq_false (p := (dd / g).toInt < 0) (by omega), show (decide ((c / g).toInt < 0) != false) = decide ((c / g).toInt < 0) by cases decide ((c / g).toInt < 0) <;> rfl]
theorem own_sz {c dd g : Int64} (h : own_g c dd g) (hd : 0 < dd.toInt) (hc : c.toInt ≠ 0) : 0 < zmag b64 (val64 (Core.ddiv (Core.l2d (c / g)) (Core.l2d (dd / g)))) := by
  have hn : (c / g).toInt ≠ 0 := fun q => by
    have := own_dv h.1 h.2.1
    rw [q, Int.zero_mul] at this
    exact hc this.symm
  have p2 : (dd / g).toInt ≠ 0 := fun q => by
    have := own_dv h.1 h.2.2
    rw [q, Int.zero_mul] at this
    omega
  rw [own_sv h hd]
  have k1 := own_zlo hn
  have k2 := own_zhi (dd / g)
  have k3 := Nat.lt_of_lt_of_le (Nat.two_pow_pos 1074) (own_zlo p2)
  have k := own_fge (s := decide ((c / g).toInt < 0)) (A := zmag b64 (val64 (Core.l2d (c / g)))) (B := zmag b64 (val64 (Core.l2d (dd / g)))) (c := 1) (j := 63) k3 (by decide) (by decide) (by
    rw [Nat.one_mul]
    refine Nat.le_trans k2 ?_
    rw [Nat.mul_comm]
    exact Nat.mul_le_mul_right _ k1)
  exact Nat.lt_of_lt_of_le (Nat.mul_pos (by decide) (Nat.two_pow_pos _)) k
theorem own_ssg {c dd g : Int64} (h : own_g c dd g) (hd : 0 < dd.toInt) : sgn (val64 (Core.ddiv (Core.l2d (c / g)) (Core.l2d (dd / g)))) = decide ((c / g).toInt < 0) := by
  rw [own_sv h hd]
  exact sgn_roundRatio _ _ _ _ _
theorem own_snn {c dd g : Int64} (h : own_g c dd g) (hd : 0 < dd.toInt) : val64 (Core.ddiv (Core.l2d (c / g)) (Core.l2d (dd / g))) ≠ .nan := by
  rw [own_sv h hd]
  exact roundRatio_ne_nan _ _ _ _ _
theorem own_nn4 {c dd g : Int64} (h : own_g c dd g) (hd : 0 < dd.toInt) : Jvm.Free.Fl.NoNaN64 (FP.ddiv (FP.l2d (c / g)) (FP.l2d (dd / g))) := own_nn (own_snn h hd)
theorem own_n0 : val64 FP.dconst0 ≠ .nan := by
  rw [show val64 FP.dconst0 = .fin false 0 b64.qmin from val64_dconst0]
  exact nofun
theorem own_z0 : zval b64 (val64 FP.dconst0) = 0 := by
  rw [show val64 FP.dconst0 = .fin false 0 b64.qmin from val64_dconst0]
  show signed false (inUnits 0 b64.qmin b64.qmin) = 0
  rw [own_iu, Nat.zero_mul]
  rfl
theorem own_s1 {c dd g : Int64} (o : CmpOp) (h : own_g c dd g) (hd : 0 < dd.toInt) (hc : 0 < c.toInt) : (cmpValue (FP.dcmp (FP.ddiv (FP.l2d (c / g)) (FP.l2d (dd / g))) FP.dconst0) o) = (1 : Int32) := by
  refine own_cg o (own_snn h hd) own_n0 ?_
  have hs : ¬ (c / g).toInt < 0 := fun q => by
    have := Int.mul_neg_of_neg_of_pos q h.1
    rw [own_dv h.1 h.2.1] at this
    omega
  have k := own_sz h hd (by omega)
  rw [own_z0]
  show 0 < signed (sgn (val64 (Core.ddiv (Core.l2d (c / g)) (Core.l2d (dd / g))))) (zmag b64 (val64 (Core.ddiv (Core.l2d (c / g)) (Core.l2d (dd / g)))))
  rw [own_ssg h hd, decide_eq_false hs]
  exact Int.natCast_pos.mpr k
theorem own_s2 {c dd g : Int64} (o : CmpOp) (h : own_g c dd g) (hd : 0 < dd.toInt) (hc : c.toInt < 0) : (cmpValue (FP.dcmp (FP.ddiv (FP.l2d (c / g)) (FP.l2d (dd / g))) FP.dconst0) o) = (-1 : Int32) := by
  refine own_cl o (own_snn h hd) own_n0 ?_
  have hs : (c / g).toInt < 0 := by
    refine Int.lt_of_not_ge fun q => ?_
    have := Int.mul_nonneg q (Int.le_of_lt h.1)
    rw [own_dv h.1 h.2.1] at this
    omega
  have k := own_sz h hd (by omega)
  rw [own_z0]
  show signed (sgn (val64 (Core.ddiv (Core.l2d (c / g)) (Core.l2d (dd / g))))) (zmag b64 (val64 (Core.ddiv (Core.l2d (c / g)) (Core.l2d (dd / g))))) < 0
  rw [own_ssg h hd, decide_eq_true hs]
  show -((zmag b64 (val64 (Core.ddiv (Core.l2d (c / g)) (Core.l2d (dd / g)))) : Nat) : Int) < 0
  omega
theorem own_s0 {c dd g : Int64} (o : CmpOp) (h : own_g c dd g) (hd : 0 < dd.toInt) (hc : c.toInt = 0) : (cmpValue (FP.dcmp (FP.ddiv (FP.l2d (c / g)) (FP.l2d (dd / g))) FP.dconst0) o) = (0 : Int32) := by
  refine own_ce o (own_snn h hd) own_n0 ?_
  have h1 := own_dv h.1 h.2.1
  have hz : (c / g).toInt.natAbs = 0 := by
    rw [hc] at h1
    rcases Int.mul_eq_zero.mp h1 with q | q
    · rw [q]; rfl
    · have := h.1; omega
  have zz : zmag b64 (val64 (Core.l2d (c / g))) = 0 := by
    rw [own_zl2 (by omega), hz, Nat.zero_mul]
  rw [own_z0]
  show signed (sgn (val64 (Core.ddiv (Core.l2d (c / g)) (Core.l2d (dd / g))))) (zmag b64 (val64 (Core.ddiv (Core.l2d (c / g)) (Core.l2d (dd / g))))) = 0
  rw [signed_eq_zero, own_sv h hd, zz]
  show inUnits 0 b64.qmin b64.qmin = 0
  rw [own_iu, Nat.zero_mul]
theorem own_w1 {c g : Int64} (h : own_g c (1 : Int64) g) : FP.ddiv (FP.l2d (c / g)) (FP.l2d ((1 : Int64) / g)) = FP.l2d c := by
  have g1 : g.toInt = 1 := by
    have k := h.2.2
    have k0 := h.1
    rw [show (1 : Int64).toInt = 1 by decide] at k
    have := Int.le_of_dvd (by decide) k
    omega
  have e1 : c / g = c := Int64.toInt_inj.mp (by have := own_dv h.1 h.2.1; rw [g1, Int.mul_one] at this; exact this)
  have e2 : (1 : Int64) / g = 1 := Int64.toInt_inj.mp (by have := own_dv h.1 h.2.2; rw [g1, Int.mul_one] at this; exact this)
  rw [e1, e2, show FP.l2d (1 : Int64) = Core.dconst1 by decide +kernel]
  exact ddiv_one (own_nl c)
theorem own_nn5 {c g : Int64} (h : own_g c (1 : Int64) g) : Jvm.Free.Fl.NoNaN64 (FP.ddiv (FP.l2d (c / g)) (FP.l2d ((1 : Int64) / g))) := by
  rw [own_w1 h]
  exact own_nn (own_nl c)
theorem own_p7 {c g : Int64} (h : own_g c (1 : Int64) g) : (cmpValue (FP.dcmp (FP.ddiv (FP.l2d (c / g)) (FP.l2d ((1 : Int64) / g))) (FP.l2d c)) .l) = (0 : Int32) := by
  rw [own_w1 h]
  exact own_ce _ (own_nl c) (own_nl c) rfl
/-- the numbers that the law makes of its arguments -/
theorem own_pn (x y : Int64) : own_P (x >>> ((11 : Int32) &&& 0x3f).toInt64) (((y.toUInt64 >>> ((11 : Int32) &&& 0x3f).toInt64.toUInt64).toInt64) + (1 : Int64)) := by
  have e1 : (x >>> ((11 : Int32) &&& 0x3f).toInt64).toInt = x.toInt / 2048 := by
    show (x >>> ((11 : Int32) &&& 0x3f).toInt64).toBitVec.toInt = _
    rw [Int64.toBitVec_shiftRight, show (((11 : Int32) &&& 0x3f).toInt64.toBitVec.smod 64) = 11#64 by decide]
    show (x.toBitVec.sshiftRight 11).toInt = _
    rw [BitVec.toInt_sshiftRight, Int.shiftRight_eq_div_pow]
    rfl
  have hx := own_hi64 x
  have e2 : ((y.toUInt64 >>> ((11 : Int32) &&& 0x3f).toInt64.toUInt64).toInt64).toBitVec.toNat = y.toBitVec.toNat / 2048 := by
    show (y.toUInt64 >>> ((11 : Int32) &&& 0x3f).toInt64.toUInt64).toNat = _
    rw [UInt64.toNat_shiftRight, show ((11 : Int32) &&& 0x3f).toInt64.toUInt64.toNat % 64 = 11 by decide, Nat.shiftRight_eq_div_pow]
    rfl
  have hy := y.toBitVec.isLt
  have e3 : ((y.toUInt64 >>> ((11 : Int32) &&& 0x3f).toInt64.toUInt64).toInt64).toInt = ((y.toBitVec.toNat / 2048 : Nat) : Int) := by
    rw [← e2]
    exact BitVec.toInt_eq_toNat_of_lt (by rw [e2]; omega)
  have e4 : (((y.toUInt64 >>> ((11 : Int32) &&& 0x3f).toInt64.toUInt64).toInt64) + (1 : Int64)).toInt = ((y.toBitVec.toNat / 2048 : Nat) : Int) + 1 := by
    rw [Int64.toInt_add, e3, show (1 : Int64).toInt = 1 by decide]
    exact own_bm (by omega) (by omega)
  refine ⟨by rw [e1]; omega, by rw [e4]; omega, by rw [e4]; omega⟩
theorem own_dnz {n d : Int64} (p : own_P n d) : d ≠ 0 := fun q => by
  have := p.2.1
  rw [q] at this
  exact absurd this (by decide)
theorem own_and2 (x : Int32) : 0 ≤ (x &&& 2147483647).toInt := by
  have h : (x &&& 2147483647).toBitVec.toNat < 2 ^ 31 := by
    rw [Int32.toBitVec_and, BitVec.toNat_and]
    exact Nat.lt_of_le_of_lt Nat.and_le_right (by decide)
  show 0 ≤ (x &&& 2147483647).toBitVec.toInt
  rw [BitVec.toInt_eq_toNat_of_lt (by omega)]
  exact Int.natCast_nonneg _
theorem own_kk (x : Int32) : ∃ i : Nat, i < 62 ∧ ((x &&& (2147483647 : Int32)) % (62 : Int32)) = Int32.ofNat i := by
  have hp := own_and2 x
  have e : ((x &&& 2147483647) % (62 : Int32)).toInt = (x &&& 2147483647).toInt % 62 := by
    rw [Int32.toInt_mod, show (62 : Int32).toInt = 62 by decide, Int.tmod_eq_emod_of_nonneg hp]
  refine ⟨((x &&& 2147483647).toInt % 62).toNat, by omega, ?_⟩
  apply Int32.toInt_inj.mp
  rw [e, Int32.toInt_ofNat_of_lt (by omega)]
  omega
theorem own_pw (x : Int32) : own_W ((1 : Int64) <<< (((x &&& (2147483647 : Int32)) % (62 : Int32)) &&& 0x3f).toInt64) := by
  obtain ⟨i, hi, e⟩ := own_kk x
  rw [e]
  have k : ∀ j : Fin 62, ((1 : Int64) <<< ((Int32.ofNat j.val) &&& 0x3f).toInt64).toInt = ((2 ^ j.val : Nat) : Int) := by decide
  exact ⟨i, by omega, k ⟨i, hi⟩⟩
def own_mx (a b : Int64) : Int64 := if (lcmpW a b) < (0 : Int32) then b else a
theorem own_mxp (x : Int64) : 0 < (own_mx (1 : Int64) x).toInt := by
  unfold own_mx
  split
  · rename_i h
    rw [lw_lt, Int64.lt_iff_toInt_lt] at h
    have h' : 1 < x.toInt := h
    omega
  · decide
theorem own_mx0 {a b : Int64} (h : ¬ (lcmpW a b) < (0 : Int32)) : some (Value.long a) = some (.long (own_mx a b)) := by unfold own_mx; rw [if_neg h]
theorem own_mx1 {a b : Int64} (h : (lcmpW a b) < (0 : Int32)) : some (Value.long b) = some (.long (own_mx a b)) := by unfold own_mx; rw [if_pos h]
theorem own_ab0 {z : Int64} (h : ¬ (lcmpW z (0 : Int64)) < (0 : Int32)) : some (Value.long z) = some (.long (own_abs z)) := by
  rw [lw_lt] at h
  unfold own_abs
  rw [if_neg h]
theorem own_ab1 {z : Int64} (h : (lcmpW z (0 : Int64)) < (0 : Int32)) : some (Value.long (-z)) = some (.long (own_abs z)) := by
  rw [lw_lt] at h
  unfold own_abs
  rw [if_pos h]
theorem own_b0 {b : Int64} (h : 0 < b.toInt) : b ≠ 0 := fun q => by
  rw [q] at h
  exact absurd h (by decide)
theorem own_b1 {b : Int64} (h : 0 < b.toInt) : ¬ (lcmpW b (0 : Int64)) = (0 : Int32) := fun q => own_b0 h ((lw_eq _ _).mp q)
theorem own_y0 {y : Int64} (h : ¬ (lcmpW y (0 : Int64)) = (0 : Int32)) : y ≠ 0 := fun q => h ((lw_eq _ _).mpr q)
theorem own_l1 {c : Int64} (h : 0 < c.toInt) : (lcmpW c (0 : Int64)) = (1 : Int32) := by
  show (if c > 0 then (1 : Int32) else if c = 0 then 0 else -1) = 1
  rw [if_pos]
  show (0 : Int64) < c
  rw [Int64.lt_iff_toInt_lt]
  exact h
theorem own_l0 {c : Int64} (h : c.toInt = 0) : (lcmpW c (0 : Int64)) = (0 : Int32) := (lw_eq _ _).mpr (own_z64.mpr h)
theorem own_l2 {c : Int64} (h : c.toInt < 0) : (lcmpW c (0 : Int64)) = (-1 : Int32) := by
  show (if c > 0 then (1 : Int32) else if c = 0 then 0 else -1) = -1
  rw [if_neg, if_neg]
  · intro q
    rw [own_z64] at q
    omega
  · intro q
    have q' : (0 : Int64) < c := q
    rw [Int64.lt_iff_toInt_lt] at q'
    have q'' : 0 < c.toInt := q'
    omega
end OwnQ
theorem d0_0 : decode jdk_29_method_61_code 0 = .ok (.lload_n 0, 1) := by decide +kernel
theorem d0_1 : decode jdk_29_method_61_code 1 = .ok (.lconst 0, 1) := by decide +kernel
theorem d0_2 : decode jdk_29_method_61_code 2 = .ok (.lcmp, 1) := by decide +kernel
theorem d0_3 : decode jdk_29_method_61_code 3 = .ok (.ifCond .ge 8, 3) := by decide +kernel
theorem d0_6 : decode jdk_29_method_61_code 6 = .ok (.lload_n 0, 1) := by decide +kernel
theorem d0_7 : decode jdk_29_method_61_code 7 = .ok (.lneg, 1) := by decide +kernel
theorem d0_8 : decode jdk_29_method_61_code 8 = .ok (.goto 4, 3) := by decide +kernel
theorem d0_11 : decode jdk_29_method_61_code 11 = .ok (.lload_n 0, 1) := by decide +kernel
theorem d0_12 : decode jdk_29_method_61_code 12 = .ok (.lreturn, 1) := by decide +kernel
theorem d1_0 : decode jdk_29_method_66_code 0 = .ok (.lload_n 0, 1) := by decide +kernel
theorem d1_1 : decode jdk_29_method_66_code 1 = .ok (.lload_n 2, 1) := by decide +kernel
theorem d1_2 : decode jdk_29_method_66_code 2 = .ok (.lcmp, 1) := by decide +kernel
theorem d1_3 : decode jdk_29_method_66_code 3 = .ok (.ifCond .lt 7, 3) := by decide +kernel
theorem d1_6 : decode jdk_29_method_66_code 6 = .ok (.lload_n 0, 1) := by decide +kernel
theorem d1_7 : decode jdk_29_method_66_code 7 = .ok (.goto 4, 3) := by decide +kernel
theorem d1_10 : decode jdk_29_method_66_code 10 = .ok (.lload_n 2, 1) := by decide +kernel
theorem d1_11 : decode jdk_29_method_66_code 11 = .ok (.lreturn, 1) := by decide +kernel
theorem d4_0 : decode jdk_30_method_1_code 0 = .ok (.aload_n 0, 1) := by decide +kernel
theorem d4_1 : decode jdk_30_method_1_code 1 = .ok (.invokespecial 1, 3) := by decide +kernel
theorem d4_4 : decode jdk_30_method_1_code 4 = .ok (.return_, 1) := by decide +kernel
theorem d3_0 : decode prog_93_method_1_code 0 = .ok (.aload_n 0, 1) := by decide +kernel
theorem d3_1 : decode prog_93_method_1_code 1 = .ok (.invokespecial 1, 3) := by decide +kernel
theorem d3_4 : decode prog_93_method_1_code 4 = .ok (.lload_n 3, 1) := by decide +kernel
theorem d3_5 : decode prog_93_method_1_code 5 = .ok (.lconst 0, 1) := by decide +kernel
theorem d3_6 : decode prog_93_method_1_code 6 = .ok (.lcmp, 1) := by decide +kernel
theorem d3_7 : decode prog_93_method_1_code 7 = .ok (.ifCond .gt 17, 3) := by decide +kernel
theorem d3_24 : decode prog_93_method_1_code 24 = .ok (.lload_n 1, 1) := by decide +kernel
theorem d3_25 : decode prog_93_method_1_code 25 = .ok (.lload_n 3, 1) := by decide +kernel
theorem d3_26 : decode prog_93_method_1_code 26 = .ok (.invokestatic 16, 3) := by decide +kernel
theorem d3_29 : decode prog_93_method_1_code 29 = .ok (.lstore 5, 2) := by decide +kernel
theorem d3_31 : decode prog_93_method_1_code 31 = .ok (.lload_n 1, 1) := by decide +kernel
theorem d3_32 : decode prog_93_method_1_code 32 = .ok (.lload 5, 2) := by decide +kernel
theorem d3_34 : decode prog_93_method_1_code 34 = .ok (.ldiv, 1) := by decide +kernel
theorem d3_35 : decode prog_93_method_1_code 35 = .ok (.lstore_n 1, 1) := by decide +kernel
theorem d3_36 : decode prog_93_method_1_code 36 = .ok (.lload_n 3, 1) := by decide +kernel
theorem d3_37 : decode prog_93_method_1_code 37 = .ok (.lload 5, 2) := by decide +kernel
theorem d3_39 : decode prog_93_method_1_code 39 = .ok (.ldiv, 1) := by decide +kernel
theorem d3_40 : decode prog_93_method_1_code 40 = .ok (.lstore_n 3, 1) := by decide +kernel
theorem d3_41 : decode prog_93_method_1_code 41 = .ok (.aload_n 0, 1) := by decide +kernel
theorem d3_42 : decode prog_93_method_1_code 42 = .ok (.lload_n 1, 1) := by decide +kernel
theorem d3_43 : decode prog_93_method_1_code 43 = .ok (.putfield 22, 3) := by decide +kernel
theorem d3_46 : decode prog_93_method_1_code 46 = .ok (.aload_n 0, 1) := by decide +kernel
theorem d3_47 : decode prog_93_method_1_code 47 = .ok (.lload_n 3, 1) := by decide +kernel
theorem d3_48 : decode prog_93_method_1_code 48 = .ok (.putfield 26, 3) := by decide +kernel
theorem d3_51 : decode prog_93_method_1_code 51 = .ok (.return_, 1) := by decide +kernel
theorem d5_0 : decode prog_93_method_3_code 0 = .ok (.aload_n 0, 1) := by decide +kernel
theorem d5_1 : decode prog_93_method_3_code 1 = .ok (.getfield 22, 3) := by decide +kernel
theorem d5_4 : decode prog_93_method_3_code 4 = .ok (.l2d, 1) := by decide +kernel
theorem d5_5 : decode prog_93_method_3_code 5 = .ok (.aload_n 0, 1) := by decide +kernel
theorem d5_6 : decode prog_93_method_3_code 6 = .ok (.getfield 26, 3) := by decide +kernel
theorem d5_9 : decode prog_93_method_3_code 9 = .ok (.l2d, 1) := by decide +kernel
theorem d5_10 : decode prog_93_method_3_code 10 = .ok (.ddiv, 1) := by decide +kernel
theorem d5_11 : decode prog_93_method_3_code 11 = .ok (.dreturn, 1) := by decide +kernel
theorem d2_0 : decode prog_93_method_5_code 0 = .ok (.lload_n 0, 1) := by decide +kernel
theorem d2_1 : decode prog_93_method_5_code 1 = .ok (.lstore 4, 2) := by decide +kernel
theorem d2_3 : decode prog_93_method_5_code 3 = .ok (.lload_n 2, 1) := by decide +kernel
theorem d2_4 : decode prog_93_method_5_code 4 = .ok (.lstore 6, 2) := by decide +kernel
theorem d2_6 : decode prog_93_method_5_code 6 = .ok (.lload 6, 2) := by decide +kernel
theorem d2_8 : decode prog_93_method_5_code 8 = .ok (.lconst 0, 1) := by decide +kernel
theorem d2_9 : decode prog_93_method_5_code 9 = .ok (.lcmp, 1) := by decide +kernel
theorem d2_10 : decode prog_93_method_5_code 10 = .ok (.ifCond .eq 21, 3) := by decide +kernel
theorem d2_13 : decode prog_93_method_5_code 13 = .ok (.lload 4, 2) := by decide +kernel
theorem d2_15 : decode prog_93_method_5_code 15 = .ok (.lload 6, 2) := by decide +kernel
theorem d2_17 : decode prog_93_method_5_code 17 = .ok (.lrem, 1) := by decide +kernel
theorem d2_18 : decode prog_93_method_5_code 18 = .ok (.lstore 8, 2) := by decide +kernel
theorem d2_20 : decode prog_93_method_5_code 20 = .ok (.lload 6, 2) := by decide +kernel
theorem d2_22 : decode prog_93_method_5_code 22 = .ok (.lstore 4, 2) := by decide +kernel
theorem d2_24 : decode prog_93_method_5_code 24 = .ok (.lload 8, 2) := by decide +kernel
theorem d2_26 : decode prog_93_method_5_code 26 = .ok (.lstore 6, 2) := by decide +kernel
theorem d2_28 : decode prog_93_method_5_code 28 = .ok (.goto (-22), 3) := by decide +kernel
theorem d2_31 : decode prog_93_method_5_code 31 = .ok (.lload 4, 2) := by decide +kernel
theorem d2_33 : decode prog_93_method_5_code 33 = .ok (.invokestatic 40, 3) := by decide +kernel
theorem d2_36 : decode prog_93_method_5_code 36 = .ok (.lreturn, 1) := by decide +kernel
theorem tw0 {Z : State} {a0 : Array Value} (hw : ∀ d ∈ tables_1, d.before a0 Z = true) : (Jvm.Cond.classLink "com/example/wayfare/wayfare/strategies/FractionDoubleValuePinLaw" (7 : Nat) "com/example/wayfare/wayfare/strategies/Fraction").before a0 Z = true := hw _ (List.mem_of_getElem? (i := 0) rfl)
theorem tw1 {Z : State} {a0 : Array Value} (hw : ∀ d ∈ tables_1, d.before a0 Z = true) : (Jvm.Cond.instantiable "com/example/wayfare/wayfare/strategies/Fraction" (2 : Nat)).before a0 Z = true := hw _ (List.mem_of_getElem? (i := 1) rfl)
theorem tw2 {Z : State} {a0 : Array Value} (hw : ∀ d ∈ tables_1, d.before a0 Z = true) : (Jvm.Cond.initialized "com/example/wayfare/wayfare/strategies/Fraction").before a0 Z = true := hw _ (List.mem_of_getElem? (i := 2) rfl)
theorem tw3 {Z : State} {a0 : Array Value} (hw : ∀ d ∈ tables_1, d.before a0 Z = true) : (Jvm.Cond.methodLink "com/example/wayfare/wayfare/strategies/FractionDoubleValuePinLaw" (9 : Nat) ({ cls := "com/example/wayfare/wayfare/strategies/Fraction", name := "<init>", desc := "(JJ)V" } : Jvm.MethodName)).before a0 Z = true := hw _ (List.mem_of_getElem? (i := 3) rfl)
theorem tw4 {Z : State} {a0 : Array Value} (hw : ∀ d ∈ tables_1, d.before a0 Z = true) : (Jvm.Cond.instanceMethod ({ cls := "com/example/wayfare/wayfare/strategies/Fraction", name := "<init>", desc := "(JJ)V" } : Jvm.MethodName)).before a0 Z = true := hw _ (List.mem_of_getElem? (i := 4) rfl)
theorem tw5 {Z : State} {a0 : Array Value} (hw : ∀ d ∈ tables_1, d.before a0 Z = true) : (Jvm.Cond.code ({ cls := "com/example/wayfare/wayfare/strategies/Fraction", name := "<init>", desc := "(JJ)V" } : Jvm.MethodName) prog_93_method_1_code (7 : Nat) (Option.none : Option Jvm.ClassFile.FieldType)).before a0 Z = true := hw _ (List.mem_of_getElem? (i := 5) rfl)
theorem tw6 {Z : State} {a0 : Array Value} (hw : ∀ d ∈ tables_1, d.before a0 Z = true) : (Jvm.Cond.methodLink "com/example/wayfare/wayfare/strategies/Fraction" (1 : Nat) ({ cls := "java/lang/Record", name := "<init>", desc := "()V" } : Jvm.MethodName)).before a0 Z = true := hw _ (List.mem_of_getElem? (i := 6) rfl)
theorem tw7 {Z : State} {a0 : Array Value} (hw : ∀ d ∈ tables_1, d.before a0 Z = true) : (Jvm.Cond.instanceMethod ({ cls := "java/lang/Record", name := "<init>", desc := "()V" } : Jvm.MethodName)).before a0 Z = true := hw _ (List.mem_of_getElem? (i := 7) rfl)
theorem tw9 {Z : State} {a0 : Array Value} (hw : ∀ d ∈ tables_1, d.before a0 Z = true) : (Jvm.Cond.initialized "java/lang/Record").before a0 Z = true := hw _ (List.mem_of_getElem? (i := 9) rfl)
theorem tw10 {Z : State} {a0 : Array Value} (hw : ∀ d ∈ tables_1, d.before a0 Z = true) : (Jvm.Cond.code ({ cls := "java/lang/Record", name := "<init>", desc := "()V" } : Jvm.MethodName) jdk_30_method_1_code (1 : Nat) (Option.none : Option Jvm.ClassFile.FieldType)).before a0 Z = true := hw _ (List.mem_of_getElem? (i := 10) rfl)
theorem tw11 {Z : State} {a0 : Array Value} (hw : ∀ d ∈ tables_1, d.before a0 Z = true) : (Jvm.Cond.methodLink "java/lang/Record" (1 : Nat) ({ cls := "java/lang/Object", name := "<init>", desc := "()V" } : Jvm.MethodName)).before a0 Z = true := hw _ (List.mem_of_getElem? (i := 11) rfl)
theorem tw12 {Z : State} {a0 : Array Value} (hw : ∀ d ∈ tables_1, d.before a0 Z = true) : (Jvm.Cond.instanceMethod ({ cls := "java/lang/Object", name := "<init>", desc := "()V" } : Jvm.MethodName)).before a0 Z = true := hw _ (List.mem_of_getElem? (i := 12) rfl)
theorem tw13 {Z : State} {a0 : Array Value} (hw : ∀ d ∈ tables_1, d.before a0 Z = true) : (Jvm.Cond.code ({ cls := "java/lang/Object", name := "<init>", desc := "()V" } : Jvm.MethodName) object_method_1_code (1 : Nat) (Option.none : Option Jvm.ClassFile.FieldType)).before a0 Z = true := hw _ (List.mem_of_getElem? (i := 13) rfl)
theorem tw14 {Z : State} {a0 : Array Value} (hw : ∀ d ∈ tables_1, d.before a0 Z = true) : (Jvm.Cond.methodLink "com/example/wayfare/wayfare/strategies/Fraction" (16 : Nat) ({ cls := "com/example/wayfare/wayfare/strategies/Fraction", name := "gcd", desc := "(JJ)J" } : Jvm.MethodName)).before a0 Z = true := hw _ (List.mem_of_getElem? (i := 14) rfl)
theorem tw15 {Z : State} {a0 : Array Value} (hw : ∀ d ∈ tables_1, d.before a0 Z = true) : (Jvm.Cond.static ({ cls := "com/example/wayfare/wayfare/strategies/Fraction", name := "gcd", desc := "(JJ)J" } : Jvm.MethodName)).before a0 Z = true := hw _ (List.mem_of_getElem? (i := 15) rfl)
theorem tw16 {Z : State} {a0 : Array Value} (hw : ∀ d ∈ tables_1, d.before a0 Z = true) : (Jvm.Cond.code ({ cls := "com/example/wayfare/wayfare/strategies/Fraction", name := "gcd", desc := "(JJ)J" } : Jvm.MethodName) prog_93_method_5_code (10 : Nat) (Option.some Jvm.ClassFile.FieldType.long)).before a0 Z = true := hw _ (List.mem_of_getElem? (i := 16) rfl)
theorem tw17 {Z : State} {a0 : Array Value} (hw : ∀ d ∈ tables_1, d.before a0 Z = true) : (Jvm.Cond.methodLink "com/example/wayfare/wayfare/strategies/Fraction" (40 : Nat) ({ cls := "java/lang/Math", name := "abs", desc := "(J)J" } : Jvm.MethodName)).before a0 Z = true := hw _ (List.mem_of_getElem? (i := 17) rfl)
theorem tw18 {Z : State} {a0 : Array Value} (hw : ∀ d ∈ tables_1, d.before a0 Z = true) : (Jvm.Cond.static ({ cls := "java/lang/Math", name := "abs", desc := "(J)J" } : Jvm.MethodName)).before a0 Z = true := hw _ (List.mem_of_getElem? (i := 18) rfl)
theorem tw19 {Z : State} {a0 : Array Value} (hw : ∀ d ∈ tables_1, d.before a0 Z = true) : (Jvm.Cond.initialized "java/lang/Math").before a0 Z = true := hw _ (List.mem_of_getElem? (i := 19) rfl)
theorem tw20 {Z : State} {a0 : Array Value} (hw : ∀ d ∈ tables_1, d.before a0 Z = true) : (Jvm.Cond.code ({ cls := "java/lang/Math", name := "abs", desc := "(J)J" } : Jvm.MethodName) jdk_29_method_61_code (2 : Nat) (Option.some Jvm.ClassFile.FieldType.long)).before a0 Z = true := hw _ (List.mem_of_getElem? (i := 20) rfl)
theorem tw21 {Z : State} {a0 : Array Value} (hw : ∀ d ∈ tables_1, d.before a0 Z = true) : (Jvm.Cond.fieldLink "com/example/wayfare/wayfare/strategies/Fraction" (22 : Nat) "com/example/wayfare/wayfare/strategies/Fraction" "numerator" "J").before a0 Z = true := hw _ (List.mem_of_getElem? (i := 21) rfl)
theorem tw22 {Z : State} {a0 : Array Value} (hw : ∀ d ∈ tables_1, d.before a0 Z = true) : (Jvm.Cond.laysFinal "com/example/wayfare/wayfare/strategies/Fraction" "com/example/wayfare/wayfare/strategies/Fraction" "numerator" "J").before a0 Z = true := hw _ (List.mem_of_getElem? (i := 22) rfl)
theorem tw23 {Z : State} {a0 : Array Value} (hw : ∀ d ∈ tables_1, d.before a0 Z = true) : (Jvm.Cond.fieldLink "com/example/wayfare/wayfare/strategies/Fraction" (26 : Nat) "com/example/wayfare/wayfare/strategies/Fraction" "denominator" "J").before a0 Z = true := hw _ (List.mem_of_getElem? (i := 23) rfl)
theorem tw24 {Z : State} {a0 : Array Value} (hw : ∀ d ∈ tables_1, d.before a0 Z = true) : (Jvm.Cond.laysFinal "com/example/wayfare/wayfare/strategies/Fraction" "com/example/wayfare/wayfare/strategies/Fraction" "denominator" "J").before a0 Z = true := hw _ (List.mem_of_getElem? (i := 24) rfl)
theorem tw25 {Z : State} {a0 : Array Value} (hw : ∀ d ∈ tables_1, d.before a0 Z = true) : (Jvm.Cond.methodLink "com/example/wayfare/wayfare/strategies/FractionDoubleValuePinLaw" (12 : Nat) ({ cls := "com/example/wayfare/wayfare/strategies/Fraction", name := "doubleValue", desc := "()D" } : Jvm.MethodName)).before a0 Z = true := hw _ (List.mem_of_getElem? (i := 25) rfl)
theorem tw26 {Z : State} {a0 : Array Value} (hw : ∀ d ∈ tables_1, d.before a0 Z = true) : (Jvm.Cond.declares ({ cls := "com/example/wayfare/wayfare/strategies/Fraction", name := "doubleValue", desc := "()D" } : Jvm.MethodName)).before a0 Z = true := hw _ (List.mem_of_getElem? (i := 26) rfl)
theorem tw27 {Z : State} {a0 : Array Value} (hw : ∀ d ∈ tables_1, d.before a0 Z = true) : (Jvm.Cond.instanceMethod ({ cls := "com/example/wayfare/wayfare/strategies/Fraction", name := "doubleValue", desc := "()D" } : Jvm.MethodName)).before a0 Z = true := hw _ (List.mem_of_getElem? (i := 27) rfl)
theorem tw28 {Z : State} {a0 : Array Value} (hw : ∀ d ∈ tables_1, d.before a0 Z = true) : (Jvm.Cond.selects "com/example/wayfare/wayfare/strategies/Fraction" ({ cls := "com/example/wayfare/wayfare/strategies/Fraction", name := "doubleValue", desc := "()D" } : Jvm.MethodName) ({ cls := "com/example/wayfare/wayfare/strategies/Fraction", name := "doubleValue", desc := "()D" } : Jvm.MethodName)).before a0 Z = true := hw _ (List.mem_of_getElem? (i := 28) rfl)
theorem tw29 {Z : State} {a0 : Array Value} (hw : ∀ d ∈ tables_1, d.before a0 Z = true) : (Jvm.Cond.code ({ cls := "com/example/wayfare/wayfare/strategies/Fraction", name := "doubleValue", desc := "()D" } : Jvm.MethodName) prog_93_method_3_code (1 : Nat) (Option.some Jvm.ClassFile.FieldType.double)).before a0 Z = true := hw _ (List.mem_of_getElem? (i := 29) rfl)
theorem tw30 {Z : State} {a0 : Array Value} (hw : ∀ d ∈ tables_1, d.before a0 Z = true) : (Jvm.Cond.constant "com/example/wayfare/wayfare/strategies/FractionDoubleValuePinLaw" (16 : Nat) (2147483647 : Int32)).before a0 Z = true := hw _ (List.mem_of_getElem? (i := 30) rfl)
theorem tw31 {Z : State} {a0 : Array Value} (hw : ∀ d ∈ tables_1, d.before a0 Z = true) : (Jvm.Cond.constantLong "com/example/wayfare/wayfare/strategies/FractionDoubleValuePinLaw" (19 : Nat) (9223372036854775807 : Int64)).before a0 Z = true := hw _ (List.mem_of_getElem? (i := 31) rfl)
theorem tw32 {Z : State} {a0 : Array Value} (hw : ∀ d ∈ tables_1, d.before a0 Z = true) : (Jvm.Cond.methodLink "com/example/wayfare/wayfare/strategies/FractionDoubleValuePinLaw" (21 : Nat) ({ cls := "java/lang/Math", name := "max", desc := "(JJ)J" } : Jvm.MethodName)).before a0 Z = true := hw _ (List.mem_of_getElem? (i := 32) rfl)
theorem tw33 {Z : State} {a0 : Array Value} (hw : ∀ d ∈ tables_1, d.before a0 Z = true) : (Jvm.Cond.static ({ cls := "java/lang/Math", name := "max", desc := "(JJ)J" } : Jvm.MethodName)).before a0 Z = true := hw _ (List.mem_of_getElem? (i := 33) rfl)
theorem tw34 {Z : State} {a0 : Array Value} (hw : ∀ d ∈ tables_1, d.before a0 Z = true) : (Jvm.Cond.code ({ cls := "java/lang/Math", name := "max", desc := "(JJ)J" } : Jvm.MethodName) jdk_29_method_66_code (4 : Nat) (Option.some Jvm.ClassFile.FieldType.long)).before a0 Z = true := hw _ (List.mem_of_getElem? (i := 34) rfl)
theorem pd_0 : parseMethodDescriptor "(J)J" = some ⟨[.long], some .long⟩ := by decide +kernel
theorem pd_1 : parseMethodDescriptor "()V" = some ⟨[], none⟩ := by decide +kernel
theorem pd_2 : parseMethodDescriptor "(JJ)J" = some ⟨[.long, .long], some .long⟩ := by decide +kernel
theorem pd_3 : parseMethodDescriptor "(JJ)V" = some ⟨[.long, .long], none⟩ := by decide +kernel
theorem pd_4 : parseMethodDescriptor "()D" = some ⟨[], some .double⟩ := by decide +kernel
theorem pn_0 : plainName "com/example/wayfare/wayfare/strategies/Fraction" = true := by first | (simp [plainName, overriddenIn]; done) | decide +kernel
theorem pn_1 : plainName "java/lang/Record" = true := by first | (simp [plainName, overriddenIn]; done) | decide +kernel
theorem pn_2 : plainName "com/example/wayfare/wayfare/strategies/FractionDoubleValuePinLaw" = true := by first | (simp [plainName, overriddenIn]; done) | decide +kernel
abbrev xs0 : String := "com/example/wayfare/wayfare/strategies/Fraction"
abbrev xs1 : String := "java/lang/Record"
abbrev xs2 : String := "java/lang/Math"
abbrev xm0 : MethodName := (⟨xs0, "doubleValue", "()D"⟩ : MethodName)
abbrev xm1 : MethodName := (⟨xs0, "<init>", "(JJ)V"⟩ : MethodName)
abbrev xm2 : MethodName := (⟨xs1, "<init>", "()V"⟩ : MethodName)
abbrev xm3 : MethodName := (⟨xs2, "max", "(JJ)J"⟩ : MethodName)
abbrev xm4 : MethodName := (⟨xs0, "gcd", "(JJ)J"⟩ : MethodName)
abbrev xm5 : MethodName := (⟨xs2, "abs", "(J)J"⟩ : MethodName)
abbrev xr0 : Room := ({ frames := 1, cells := 0, slots := 0, locals := 13 } : Room)
abbrev xr1 : Room := ({ frames := 1, cells := 0, slots := 0, locals := 12 } : Room)
abbrev xr2 : Room := ({ frames := 2, cells := 0, slots := 0, locals := 34 } : Room)
abbrev xr3 : Room := ({ frames := 0, cells := 0, slots := 0, locals := 0 } : Room)
theorem ef_abs (m : MethodId) (x0 : Int64) : entryFrame m #[(.long x0)] 2 = mkF m 0 #[.val (.long x0), .second] [] := by first | (simp [entryFrame, mkF, argsToLocals, Value.category]; done) | rfl
def Q_abs (Z : State) (z : Int64) (h0 : Heap) (n0 : Nat) (v : Option Value) (h : Heap) (L : List Loc) : Prop := v = some (.long (own_abs z)) ∧ Fr n0 L ∧ h = h0
set_option maxRecDepth 65536 in
set_option maxHeartbeats 40000000 in
theorem rm_abs (l : Launch) (Z : State) (a0 : Array Value) (hw : ∀ d ∈ tables_1, d.before a0 Z = true) (ws : List Jvm.Cond) (z : Int64) (h0 : Heap) (n0 : Nat) (Z0 : n0 ≤ h0.size) :
    MetFree l xm5 (head1 (Jvm.Cond.code xm5 jdk_29_method_61_code 2 (some .long) :: ws) xr3) (fun a U => a = #[(.long z)] ∧ Z.Warmed39 U.vm ∧ U.heap = h0) (fun _ _ _ _ _ => True) (fun _ U o U' => ∃ v L, o = .returned v ∧ Q_abs Z z h0 n0 v U'.heap L ∧ FrameEnd U o U' L xr3.cells xr3.slots) := by
  refine MetFree.of_bodySF (Jvm.Free.JP.mathPlain rfl (by decide +kernel)) hisR ?_
  intro p e s m args below meth c s₁ Bd hml0 hP hK
  obtain ⟨rfl, hZ, hh⟩ := hP
  have hx := Bd.exec
  have hby := Bd.bytes
  have hlk : meth.locks = false := BodyLoose.notSynchronized Bd
  have hml : c.maxLocals = 2 := hml0
  have hown : s.vm.findClass xs2 = some m.cls := findClass_of_methodNamed Bd.named
  have hnm := (name_of_methodNamed Bd.named Bd.method).1
  have X0 : Stand p l e xr3 s m #[(.long z)] below meth c s₁ [] 0 0 := Stand.of_body Bd
  have e0 : s₁.heap = h0 := by rw [← hh, Bd.state]; rfl
  have N0 := Fr.nil n0
  show Go p e below s (Q_abs Z z h0 n0) xr3.cells xr3.slots s₁ (entryFrame m #[(.long z)] 2)
  refine Go.cast (ef_abs m z) ?_
  show Go p e below s _ _ _ s₁ (mkF m 0 #[.val (.long z), .second] [])
  refine Go.step (fun _ k => XS.lloadN X0.here hx rfl (hb hby d0_0) rfl (XS.lconst X0.here hx rfl (hb hby d0_1) (XS.lcmp X0.here hx rfl (hb hby d0_2) rfl k))) ?_
  show Go p e below s _ _ _ s₁ (mkF m 3 #[.val (.long z), .second] [(.int (lcmpW z (0 : Int64)))])
  by_cases hf : (lcmpW z (0 : Int64)) < (0 : Int32)
  · refine Go.step (fun _ k => XS.ifNo X0.here hx rfl (hb hby d0_3) rfl ((if0 _ _).trans (tlt hf).2.1) (XS.lloadN X0.here hx rfl (hb hby d0_6) rfl (XS.lneg X0.here hx rfl (hb hby d0_7) rfl (XS.goto X0.here hx rfl (pc0 := 8) (pc' := 12) rfl (hb hby d0_8) (by decide) (by decide) k)))) ?_
    show Go p e below s _ _ _ s₁ (mkF m 12 #[.val (.long z), .second] [(.long (-z))])
    exact Go.retJ X0 hx hlk Bd.returns (hb hby d0_12) e0 ⟨own_ab1 hf, N0, rfl⟩ (by decide) (by decide)
  · refine Go.step (fun _ k => XS.ifYes X0.here hx rfl (pc0 := 3) (pc' := 11) rfl (hb hby d0_3) rfl ((if0 _ _).trans (flt hf).2.1) (by decide) (by decide) (XS.lloadN X0.here hx rfl (hb hby d0_11) rfl k)) ?_
    show Go p e below s _ _ _ s₁ (mkF m 12 #[.val (.long z), .second] [(.long z)])
    exact Go.retJ X0 hx hlk Bd.returns (hb hby d0_12) e0 ⟨own_ab0 hf, N0, rfl⟩ (by decide) (by decide)

theorem ef_max (m : MethodId) (x0 : Int64) (x1 : Int64) : entryFrame m #[(.long x0), (.long x1)] 4 = mkF m 0 #[.val (.long x0), .second, .val (.long x1), .second] [] := by first | (simp [entryFrame, mkF, argsToLocals, Value.category]; done) | rfl
def Q_max (Z : State) (va : Int64) (vb : Int64) (h0 : Heap) (n0 : Nat) (v : Option Value) (h : Heap) (L : List Loc) : Prop := v = some (.long (own_mx va vb)) ∧ Fr n0 L ∧ h = h0
set_option maxRecDepth 65536 in
set_option maxHeartbeats 40000000 in
theorem rm_max (l : Launch) (Z : State) (a0 : Array Value) (hw : ∀ d ∈ tables_1, d.before a0 Z = true) (ws : List Jvm.Cond) (va : Int64) (vb : Int64) (h0 : Heap) (n0 : Nat) (Z0 : n0 ≤ h0.size) :
    MetFree l xm3 (head1 (Jvm.Cond.code xm3 jdk_29_method_66_code 4 (some .long) :: ws) xr3) (fun a U => a = #[(.long va), (.long vb)] ∧ Z.Warmed39 U.vm ∧ U.heap = h0) (fun _ _ _ _ _ => True) (fun _ U o U' => ∃ v L, o = .returned v ∧ Q_max Z va vb h0 n0 v U'.heap L ∧ FrameEnd U o U' L xr3.cells xr3.slots) := by
  refine MetFree.of_bodySF (Jvm.Free.JP.mathPlain rfl (by decide +kernel)) hisR ?_
  intro p e s m args below meth c s₁ Bd hml0 hP hK
  obtain ⟨rfl, hZ, hh⟩ := hP
  have hx := Bd.exec
  have hby := Bd.bytes
  have hlk : meth.locks = false := BodyLoose.notSynchronized Bd
  have hml : c.maxLocals = 4 := hml0
  have hown : s.vm.findClass xs2 = some m.cls := findClass_of_methodNamed Bd.named
  have hnm := (name_of_methodNamed Bd.named Bd.method).1
  have X0 : Stand p l e xr3 s m #[(.long va), (.long vb)] below meth c s₁ [] 0 0 := Stand.of_body Bd
  have e0 : s₁.heap = h0 := by rw [← hh, Bd.state]; rfl
  have N0 := Fr.nil n0
  show Go p e below s (Q_max Z va vb h0 n0) xr3.cells xr3.slots s₁ (entryFrame m #[(.long va), (.long vb)] 4)
  refine Go.cast (ef_max m va vb) ?_
  show Go p e below s _ _ _ s₁ (mkF m 0 #[.val (.long va), .second, .val (.long vb), .second] [])
  refine Go.step (fun _ k => XS.lloadN X0.here hx rfl (hb hby d1_0) rfl (XS.lloadN X0.here hx rfl (hb hby d1_1) rfl (XS.lcmp X0.here hx rfl (hb hby d1_2) rfl k))) ?_
  show Go p e below s _ _ _ s₁ (mkF m 3 #[.val (.long va), .second, .val (.long vb), .second] [(.int (lcmpW va vb))])
  by_cases hf : (lcmpW va vb) < (0 : Int32)
  · refine Go.step (fun _ k => XS.ifYes X0.here hx rfl (pc0 := 3) (pc' := 10) rfl (hb hby d1_3) rfl ((if0 _ _).trans (tlt hf).1) (by decide) (by decide) (XS.lloadN X0.here hx rfl (hb hby d1_10) rfl k)) ?_
    show Go p e below s _ _ _ s₁ (mkF m 11 #[.val (.long va), .second, .val (.long vb), .second] [(.long vb)])
    exact Go.retJ X0 hx hlk Bd.returns (hb hby d1_11) e0 ⟨own_mx1 hf, N0, rfl⟩ (by decide) (by decide)
  · refine Go.step (fun _ k => XS.ifNo X0.here hx rfl (hb hby d1_3) rfl ((if0 _ _).trans (flt hf).1) (XS.lloadN X0.here hx rfl (hb hby d1_6) rfl (XS.goto X0.here hx rfl (pc0 := 7) (pc' := 11) rfl (hb hby d1_7) (by decide) (by decide) k))) ?_
    show Go p e below s _ _ _ s₁ (mkF m 11 #[.val (.long va), .second, .val (.long vb), .second] [(.long va)])
    exact Go.retJ X0 hx hlk Bd.returns (hb hby d1_11) e0 ⟨own_mx0 hf, N0, rfl⟩ (by decide) (by decide)

theorem ef_gcd (m : MethodId) (x0 : Int64) (x1 : Int64) : entryFrame m #[(.long x0), (.long x1)] 10 = mkF m 0 #[.val (.long x0), .second, .val (.long x1), .second, .unset, .unset, .unset, .unset, .unset, .unset] [] := by first | (simp [entryFrame, mkF, argsToLocals, Value.category]; done) | rfl
def Q_gcd (Z : State) (va : Int64) (vb : Int64) (h0 : Heap) (n0 : Nat) (v : Option Value) (h : Heap) (L : List Loc) : Prop := ∃ (gg : Int64), v = some (.long gg) ∧ Fr n0 L ∧ h = h0 ∧ own_g va vb gg
set_option maxRecDepth 65536 in
set_option maxHeartbeats 40000000 in
theorem rm_gcd (l : Launch) (Z : State) (a0 : Array Value) (hw : ∀ d ∈ tables_1, d.before a0 Z = true) (ws : List Jvm.Cond) (va : Int64) (vb : Int64) (h0 : Heap) (n0 : Nat) (Z0 : n0 ≤ h0.size) (hbp : 0 < vb.toInt) :
    MetFree l xm4 (head1 (Jvm.Cond.code xm4 prog_93_method_5_code 10 (some .long) :: ws) xr0) (fun a U => a = #[(.long va), (.long vb)] ∧ Z.Warmed39 U.vm ∧ U.heap = h0) (fun _ _ _ _ _ => True) (fun _ U o U' => ∃ v L, o = .returned v ∧ Q_gcd Z va vb h0 n0 v U'.heap L ∧ FrameEnd U o U' L xr0.cells xr0.slots) := by
  refine MetFree.of_bodySF (plainFor_of_name pn_0) hisR ?_
  intro p e s m args below meth c s₁ Bd hml0 hP hK
  obtain ⟨rfl, hZ, hh⟩ := hP
  have hx := Bd.exec
  have hby := Bd.bytes
  have hlk : meth.locks = false := BodyLoose.notSynchronized Bd
  have hml : c.maxLocals = 10 := hml0
  have hown : s.vm.findClass xs0 = some m.cls := findClass_of_methodNamed Bd.named
  have hnm := (name_of_methodNamed Bd.named Bd.method).1
  have X0 : Stand p l e xr0 s m #[(.long va), (.long vb)] below meth c s₁ [] 0 0 := Stand.of_body Bd
  have e0 : s₁.heap = h0 := by rw [← hh, Bd.state]; rfl
  have N0 := Fr.nil n0
  show Go p e below s (Q_gcd Z va vb h0 n0) xr0.cells xr0.slots s₁ (entryFrame m #[(.long va), (.long vb)] 10)
  refine Go.cast (ef_gcd m va vb) ?_
  show Go p e below s _ _ _ s₁ (mkF m 0 #[.val (.long va), .second, .val (.long vb), .second, .unset, .unset, .unset, .unset, .unset, .unset] [])
  refine Go.step (fun _ k => XS.lloadN X0.here hx rfl (hb hby d2_0) rfl (XS.lstore X0.here hx rfl (hb hby d2_1) rfl (l' := #[.val (.long va), .second, .val (.long vb), .second, .val (.long va), .second, .unset, .unset, .unset, .unset]) rfl (XS.lloadN X0.here hx rfl (hb hby d2_3) rfl (XS.lstore X0.here hx rfl (hb hby d2_4) rfl (l' := #[.val (.long va), .second, .val (.long vb), .second, .val (.long va), .second, .val (.long vb), .second, .unset, .unset]) rfl (XS.lload X0.here hx rfl (hb hby d2_6) rfl (XS.lconst X0.here hx rfl (hb hby d2_8) (XS.lcmp X0.here hx rfl (hb hby d2_9) rfl (XS.ifNo X0.here hx rfl (hb hby d2_10) rfl ((if0 _ _).trans (feq (own_b1 hbp)).1) (XS.lload X0.here hx rfl (hb hby d2_13) rfl (XS.lload X0.here hx rfl (hb hby d2_15) rfl k)))))))))) ?_
  show Go p e below s _ _ _ s₁ (mkF m 17 #[.val (.long va), .second, .val (.long vb), .second, .val (.long va), .second, .val (.long vb), .second, .unset, .unset] [(.long vb), (.long va)])
  refine Go.step (fun _ k => XS.lrem X0.here hx rfl (hb hby d2_17) rfl (own_b0 hbp) (XS.lstore X0.here hx rfl (hb hby d2_18) rfl (l' := #[.val (.long va), .second, .val (.long vb), .second, .val (.long va), .second, .val (.long vb), .second, .val (.long (va - (va / vb) * vb)), .second]) rfl (XS.lload X0.here hx rfl (hb hby d2_20) rfl (XS.lstore X0.here hx rfl (hb hby d2_22) rfl (l' := #[.val (.long va), .second, .val (.long vb), .second, .val (.long vb), .second, .val (.long vb), .second, .val (.long (va - (va / vb) * vb)), .second]) rfl (XS.lload X0.here hx rfl (hb hby d2_24) rfl (XS.lstore X0.here hx rfl (hb hby d2_26) rfl (l' := #[.val (.long va), .second, .val (.long vb), .second, .val (.long vb), .second, .val (.long (va - (va / vb) * vb)), .second, .val (.long (va - (va / vb) * vb)), .second]) rfl (XS.goto X0.here hx rfl (pc0 := 28) (pc' := 6) rfl (hb hby d2_28) (by decide) (by decide) k))))))) ?_
  show Go p e below s _ _ _ s₁ (mkF m 6 #[.val (.long va), .second, .val (.long vb), .second, .val (.long vb), .second, .val (.long (va - (va / vb) * vb)), .second, .val (.long (va - (va / vb) * vb)), .second] [])
  have J1 : ∀ (kn : Nat) (Tj1 : State) (Lj1 : List Loc) (Xj1 : Stand p l e xr0 s m #[(.long va), (.long vb)] below meth c Tj1 Lj1 0 0) (ej1 : Tj1.heap = h0) (Nj1 : Fr n0 Lj1) (xx : Int64) (yy : Int64) (zz : Int64) (hk : yy.toInt.natAbs < kn) (hi : own_G va vb xx yy), Go p e below s (Q_gcd Z va vb h0 n0) xr0.cells xr0.slots Tj1 (mkF m 6 #[.val (.long va), .second, .val (.long vb), .second, .val (.long xx), .second, .val (.long yy), .second, .val (.long zz), .second] []) := by
    intro kn
    induction kn with
    | zero => intro Tj1 Lj1 Xj1 ej1 Nj1 xx yy zz hk hi; exact absurd hk (Nat.not_lt_zero _)
    | succ kn ih =>
      intro Tj1 Lj1 Xj1 ej1 Nj1 xx yy zz hk hi
      refine Go.step (fun _ k => XS.lload Xj1.here hx rfl (hb hby d2_6) rfl (XS.lconst Xj1.here hx rfl (hb hby d2_8) (XS.lcmp Xj1.here hx rfl (hb hby d2_9) rfl k))) ?_
      show Go p e below s _ _ _ Tj1 (mkF m 10 #[.val (.long va), .second, .val (.long vb), .second, .val (.long xx), .second, .val (.long yy), .second, .val (.long zz), .second] [(.int (lcmpW yy (0 : Int64)))])
      by_cases hy : (lcmpW yy (0 : Int64)) = (0 : Int32)
      · refine Go.step (fun _ k => XS.ifYes Xj1.here hx rfl (pc0 := 10) (pc' := 31) rfl (hb hby d2_10) rfl ((if0 _ _).trans (teq hy).1) (by decide) (by decide) (XS.lload Xj1.here hx rfl (hb hby d2_31) rfl k)) ?_
        show Go p e below s _ _ _ Tj1 (mkF m 33 #[.val (.long va), .second, .val (.long vb), .second, .val (.long xx), .second, .val (.long yy), .second, .val (.long zz), .second] [(.long xx)])
        obtain ⟨_, _, ⟨T2, L2, k2, n2⟩, -, X2, ⟨Lc2, hQ2, l2, y2, z2⟩, st2⟩ := Jvm.LawKit.callS Xj1 hx (y := xm5) hown (mvT hZ (tw17 hw)) (mvT hZ (tw18 hw)) (mvT hZ (tw19 hw)) (mvT hZ (tw20 hw)) (by decide) (backOf (W := 0) (rm_abs l Z a0 hw [] xx h0 n0 Z0) hZ (tw20 hw) (tw19 hw) (by decide) (by decide)) (g := (mkF m 33 #[.val (.long va), .second, .val (.long vb), .second, .val (.long xx), .second, .val (.long yy), .second, .val (.long zz), .second] [(.long xx)])) rfl (by rw [hml]; rfl) (argsL := [(.long xx)]) (rest := []) (lenOf pd_0 rfl) rfl (by show 2 * 0 + _ ≤ _; exact Nat.le_of_eq rfl) (hb hby d2_33) (fun _ _ => ⟨rfl, ej1, (by decide : 0 + 0 ≤ _), (by decide : 0 + 0 ≤ _)⟩)
        dsimp only [Pt.U, Pt.locs, Pt.cells, Pt.slots] at X2 l2 y2 z2 st2 hQ2
        subst l2 y2 z2
        obtain ⟨rfl, N2q, eq2⟩ := hQ2
        have N3 := Fr.app Nj1 N2q
        refine Go.step (fun _ k => st2 _ k) ?_
        show Go p e below s _ _ _ T2 (mkF m 36 #[.val (.long va), .second, .val (.long vb), .second, .val (.long xx), .second, .val (.long yy), .second, .val (.long zz), .second] [(.long (own_abs xx))])
        exact Go.retJ X2 hx hlk Bd.returns (hb hby d2_36) eq2 ⟨(own_abs xx), rfl, N3, rfl, (own_Ge hbp hi ((lw_eq _ _).mp hy))⟩ (by decide) (by decide)
      · refine Go.step (fun _ k => XS.ifNo Xj1.here hx rfl (hb hby d2_10) rfl ((if0 _ _).trans (feq hy).1) (XS.lload Xj1.here hx rfl (hb hby d2_13) rfl (XS.lload Xj1.here hx rfl (hb hby d2_15) rfl (XS.lrem Xj1.here hx rfl (hb hby d2_17) rfl (own_y0 hy) (XS.lstore Xj1.here hx rfl (hb hby d2_18) rfl (l' := #[.val (.long va), .second, .val (.long vb), .second, .val (.long xx), .second, .val (.long yy), .second, .val (.long (xx - (xx / yy) * yy)), .second]) rfl (XS.lload Xj1.here hx rfl (hb hby d2_20) rfl (XS.lstore Xj1.here hx rfl (hb hby d2_22) rfl (l' := #[.val (.long va), .second, .val (.long vb), .second, .val (.long yy), .second, .val (.long yy), .second, .val (.long (xx - (xx / yy) * yy)), .second]) rfl (XS.lload Xj1.here hx rfl (hb hby d2_24) rfl (XS.lstore Xj1.here hx rfl (hb hby d2_26) rfl (l' := #[.val (.long va), .second, .val (.long vb), .second, .val (.long yy), .second, .val (.long (xx - (xx / yy) * yy)), .second, .val (.long (xx - (xx / yy) * yy)), .second]) rfl (XS.goto Xj1.here hx rfl (pc0 := 28) (pc' := 6) rfl (hb hby d2_28) (by decide) (by decide) k)))))))))) ?_
        show Go p e below s _ _ _ Tj1 (mkF m 6 #[.val (.long va), .second, .val (.long vb), .second, .val (.long yy), .second, .val (.long (xx - (xx / yy) * yy)), .second, .val (.long (xx - (xx / yy) * yy)), .second] [])
        exact ih _ _ Xj1 ej1 Nj1 yy _ _ (Nat.lt_of_lt_of_le (own_Gs (own_y0 hy) hi).2 (Nat.le_of_lt_succ hk)) (own_Gs (own_y0 hy) hi).1
  exact J1 _ _ _ X0 e0 N0 vb _ _ (Nat.lt_succ_self _) (own_Gs (own_b0 hbp) (rfl : own_G va vb va vb)).1

theorem ef_Record_new_0 (m : MethodId) (x0 : Addr) : entryFrame m #[(.ref x0)] 1 = mkF m 0 #[.val (.ref x0)] [] := by first | (simp [entryFrame, mkF, argsToLocals, Value.category]; done) | rfl
def Q_Record_new_0 (Z : State) (bf : Addr) (h0 : Heap) (n0 : Nat) (v : Option Value) (h : Heap) (L : List Loc) : Prop := v = none ∧ Fr n0 L ∧ h = h0
set_option maxRecDepth 65536 in
set_option maxHeartbeats 40000000 in
theorem rm_Record_new_0 (l : Launch) (Z : State) (a0 : Array Value) (hw : ∀ d ∈ tables_1, d.before a0 Z = true) (ws : List Jvm.Cond) (bf : Addr) (h0 : Heap) (n0 : Nat) (Z0 : n0 ≤ h0.size) :
    MetFree l xm2 (head1 (Jvm.Cond.code xm2 jdk_30_method_1_code 1 none :: ws) xr1) (fun a U => a = #[(.ref bf)] ∧ Z.Warmed39 U.vm ∧ U.heap = h0) (fun _ _ _ _ _ => True) (fun _ U o U' => ∃ v L, o = .returned v ∧ Q_Record_new_0 Z bf h0 n0 v U'.heap L ∧ FrameEnd U o U' L xr1.cells xr1.slots) := by
  refine MetFree.of_bodySF (plainFor_of_name pn_1) hisR ?_
  intro p e s m args below meth c s₁ Bd hml0 hP hK
  obtain ⟨rfl, hZ, hh⟩ := hP
  have hx := Bd.exec
  have hby := Bd.bytes
  have hlk : meth.locks = false := BodyLoose.notSynchronized Bd
  have hml : c.maxLocals = 1 := hml0
  have hown : s.vm.findClass xs1 = some m.cls := findClass_of_methodNamed Bd.named
  have hnm := (name_of_methodNamed Bd.named Bd.method).1
  have X0 : Stand p l e xr1 s m #[(.ref bf)] below meth c s₁ [] 0 0 := Stand.of_body Bd
  have e0 : s₁.heap = h0 := by rw [← hh, Bd.state]; rfl
  have N0 := Fr.nil n0
  show Go p e below s (Q_Record_new_0 Z bf h0 n0) xr1.cells xr1.slots s₁ (entryFrame m #[(.ref bf)] 1)
  refine Go.cast (ef_Record_new_0 m bf) ?_
  show Go p e below s _ _ _ s₁ (mkF m 0 #[.val (.ref bf)] [])
  refine Go.step (fun _ k => XS.aloadN X0.here hx rfl (hb hby d4_0) rfl rfl k) ?_
  show Go p e below s _ _ _ s₁ (mkF m 1 #[.val (.ref bf)] [(.ref bf)])
  obtain ⟨T4, X4, e4, st4⟩ := initO X0 hx hZ hown (tw11 hw) (tw12 hw) (tw13 hw) e0 (g := (mkF m 1 #[.val (.ref bf)] [(.ref bf)])) rfl (by rw [hml]; rfl) rfl (hb hby d4_1) (by decide) (W := 0) (by show 2 * 0 + _ ≤ _; exact Nat.le_of_eq rfl) (by decide)
  refine Go.step (fun _ k => st4 _ k) ?_
  show Go p e below s _ _ _ T4 (mkF m 4 #[.val (.ref bf)] [])
  exact Go.retV X4 hx hlk Bd.returns (hb hby d4_4) e4 ⟨rfl, N0, rfl⟩ (by decide) (by decide)

theorem ef_frac (m : MethodId) (x0 : Addr) (x1 : Int64) (x2 : Int64) : entryFrame m #[(.ref x0), (.long x1), (.long x2)] 7 = mkF m 0 #[.val (.ref x0), .val (.long x1), .second, .val (.long x2), .second, .unset, .unset] [] := by first | (simp [entryFrame, mkF, argsToLocals, Value.category]; done) | rfl
def Q_frac (Z : State) (bf : Addr) (n : Int64) (d : Int64) (h0 : Heap) (n0 : Nat) (v : Option Value) (h : Heap) (L : List Loc) : Prop := ∃ (gg : Int64), v = none ∧ Fr n0 L ∧ Keep h0 h [bf] ∧ own_g n d gg ∧ Fld Z h bf xs0 "numerator" "J" (.long (n / gg)) ∧ Fld Z h bf xs0 "denominator" "J" (.long (d / gg))
set_option maxRecDepth 65536 in
set_option maxHeartbeats 40000000 in
theorem rm_frac (l : Launch) (Z : State) (a0 : Array Value) (hw : ∀ d ∈ tables_1, d.before a0 Z = true) (ws : List Jvm.Cond) (bf : Addr) (n : Int64) (d : Int64) (h0 : Heap) (n0 : Nat) (Z0 : n0 ≤ h0.size) (E_bf : Exa Z h0 bf xs0) (F_numerator_bf : Fld Z h0 bf xs0 "numerator" "J" (.long (0 : Int64))) (F_denominator_bf : Fld Z h0 bf xs0 "denominator" "J" (.long (0 : Int64))) (g_bf : n0 ≤ bf) (hd : 0 < d.toInt) :
    MetFree l xm1 (head1 (Jvm.Cond.code xm1 prog_93_method_1_code 7 none :: ws) xr2) (fun a U => a = #[(.ref bf), (.long n), (.long d)] ∧ Z.Warmed39 U.vm ∧ U.heap = h0) (fun _ _ _ _ _ => True) (fun _ U o U' => ∃ v L, o = .returned v ∧ Q_frac Z bf n d h0 n0 v U'.heap L ∧ FrameEnd U o U' L xr2.cells xr2.slots) := by
  refine MetFree.of_bodySF (plainFor_of_name pn_0) hisR ?_
  intro p e s m args below meth c s₁ Bd hml0 hP hK
  obtain ⟨rfl, hZ, hh⟩ := hP
  have hx := Bd.exec
  have hby := Bd.bytes
  have hlk : meth.locks = false := BodyLoose.notSynchronized Bd
  have hml : c.maxLocals = 7 := hml0
  have hown : s.vm.findClass xs0 = some m.cls := findClass_of_methodNamed Bd.named
  have hnm := (name_of_methodNamed Bd.named Bd.method).1
  have X0 : Stand p l e xr2 s m #[(.ref bf), (.long n), (.long d)] below meth c s₁ [] 0 0 := Stand.of_body Bd
  have e0 : s₁.heap = h0 := by rw [← hh, Bd.state]; rfl
  have N0 := Fr.nil n0
  show Go p e below s (Q_frac Z bf n d h0 n0) xr2.cells xr2.slots s₁ (entryFrame m #[(.ref bf), (.long n), (.long d)] 7)
  refine Go.cast (ef_frac m bf n d) ?_
  show Go p e below s _ _ _ s₁ (mkF m 0 #[.val (.ref bf), .val (.long n), .second, .val (.long d), .second, .unset, .unset] [])
  refine Go.step (fun _ k => XS.aloadN X0.here hx rfl (hb hby d3_0) rfl rfl k) ?_
  show Go p e below s _ _ _ s₁ (mkF m 1 #[.val (.ref bf), .val (.long n), .second, .val (.long d), .second, .unset, .unset] [(.ref bf)])
  obtain ⟨_, _, ⟨T5, L5, k5, n5⟩, -, X5, ⟨Lc5, hQ5, l5, y5, z5⟩, st5⟩ := X0.specialBack hx (y := xm2) rfl hown (mvT hZ (tw6 hw)) (mvT hZ (tw7 hw)) (mvT hZ (tw10 hw)) (by decide) (backOf (W := 0) (rm_Record_new_0 l Z a0 hw [] bf h0 n0 Z0) hZ (tw10 hw) (tw9 hw) (by decide) (by decide)) (g := (mkF m 1 #[.val (.ref bf), .val (.long n), .second, .val (.long d), .second, .unset, .unset] [(.ref bf)])) rfl (by rw [hml]; rfl) (Steps.refl _) (a := bf) (argsL := []) (rest := []) (lenOf pd_1 rfl) rfl (by show 2 * 0 + _ ≤ _; exact Nat.le_of_eq rfl) (hb hby d3_1) (fun _ _ => ⟨rfl, e0, (by decide : 0 + 0 ≤ _), (by decide : 0 + 0 ≤ _)⟩)
  dsimp only [Pt.U, Pt.locs, Pt.cells, Pt.slots] at X5 l5 y5 z5 st5 hQ5
  subst l5 y5 z5
  obtain ⟨rfl, N5q, eq5⟩ := hQ5
  have N6 := Fr.app N0 N5q
  refine Go.step (fun _ k => st5.trans (XS.lloadN X5.here hx rfl (hb hby d3_4) rfl (XS.lconst X5.here hx rfl (hb hby d3_5) (XS.lcmp X5.here hx rfl (hb hby d3_6) rfl (XS.ifYes X5.here hx rfl (pc0 := 7) (pc' := 24) rfl (hb hby d3_7) rfl ((if0 _ _).trans (tlt (own_gt0 hd)).2.2.1) (by decide) (by decide) (XS.lloadN X5.here hx rfl (hb hby d3_24) rfl (XS.lloadN X5.here hx rfl (hb hby d3_25) rfl k))))))) ?_
  show Go p e below s _ _ _ T5 (mkF m 26 #[.val (.ref bf), .val (.long n), .second, .val (.long d), .second, .unset, .unset] [(.long d), (.long n)])
  obtain ⟨_, _, ⟨T7, L7, k7, n7⟩, -, X7, ⟨Lc7, hQ7, l7, y7, z7⟩, st7⟩ := Jvm.LawKit.callS X5 hx (y := xm4) hown (mvT hZ (tw14 hw)) (mvT hZ (tw15 hw)) (mvT hZ (tw2 hw)) (mvT hZ (tw16 hw)) (by decide) (backOf (W := 0) (rm_gcd l Z a0 hw [] n d h0 n0 Z0 hd) hZ (tw16 hw) (tw2 hw) (by decide) (by decide)) (g := (mkF m 26 #[.val (.ref bf), .val (.long n), .second, .val (.long d), .second, .unset, .unset] [(.long d), (.long n)])) rfl (by rw [hml]; rfl) (argsL := [(.long n), (.long d)]) (rest := []) (lenOf pd_2 rfl) rfl (by show 2 * 0 + _ ≤ _; exact Nat.le_of_eq rfl) (hb hby d3_26) (fun _ _ => ⟨rfl, eq5, (by decide : 0 + 0 ≤ _), (by decide : 0 + 0 ≤ _)⟩)
  dsimp only [Pt.U, Pt.locs, Pt.cells, Pt.slots] at X7 l7 y7 z7 st7 hQ7
  subst l7 y7 z7
  obtain ⟨gg_7, rfl, N7q, eq7, P7_0⟩ := hQ7
  have N8 := Fr.app N6 N7q
  refine Go.step (fun _ k => st7 _ (XS.lstore X7.here hx rfl (hb hby d3_29) rfl (l' := #[.val (.ref bf), .val (.long n), .second, .val (.long d), .second, .val (.long gg_7), .second]) rfl (XS.lloadN X7.here hx rfl (hb hby d3_31) rfl (XS.lload X7.here hx rfl (hb hby d3_32) rfl (XS.ldiv X7.here hx rfl (hb hby d3_34) rfl (own_gnz P7_0) (XS.lstoreN X7.here hx rfl (hb hby d3_35) rfl (l' := #[.val (.ref bf), .val (.long (n / gg_7)), .second, .val (.long d), .second, .val (.long gg_7), .second]) rfl (XS.lloadN X7.here hx rfl (hb hby d3_36) rfl (XS.lload X7.here hx rfl (hb hby d3_37) rfl (XS.ldiv X7.here hx rfl (hb hby d3_39) rfl (own_gnz P7_0) (XS.lstoreN X7.here hx rfl (hb hby d3_40) rfl (l' := #[.val (.ref bf), .val (.long (n / gg_7)), .second, .val (.long (d / gg_7)), .second, .val (.long gg_7), .second]) rfl k)))))))))) ?_
  show Go p e below s _ _ _ T7 (mkF m 41 #[.val (.ref bf), .val (.long (n / gg_7)), .second, .val (.long (d / gg_7)), .second, .val (.long gg_7), .second] [])
  refine Go.step (fun _ k => XS.aloadN X7.here hx rfl (hb hby d3_41) rfl rfl (XS.lloadN X7.here hx rfl (hb hby d3_42) rfl k)) ?_
  show Go p e below s _ _ _ T7 (mkF m 43 #[.val (.ref bf), .val (.long (n / gg_7)), .second, .val (.long (d / gg_7)), .second, .val (.long gg_7), .second] [(.long (n / gg_7)), (.ref bf)])
  obtain ⟨T9, h9, X9, e9, W9, st9⟩ := putF X7 hx hZ hown (host := "") (Or.inl (tw21 hw)) Via.refl eq7 F_numerator_bf E_bf (Or.inr ⟨(tw22 hw), rfl, hnm⟩) (tw1 hw) (ty := .long) (by decide) rfl rfl (g := (mkF m 43 #[.val (.ref bf), .val (.long (n / gg_7)), .second, .val (.long (d / gg_7)), .second, .val (.long gg_7), .second] [(.long (n / gg_7)), (.ref bf)])) rfl rfl (hb hby d3_43)
  have f10 := F_numerator_bf.same W9
  have N11 := Fr.snoc X9 N8 g_bf
  refine Go.step (fun _ k => st9 _ (XS.aloadN X9.here hx rfl (hb hby d3_46) rfl rfl (XS.lloadN X9.here hx rfl (hb hby d3_47) rfl k))) ?_
  show Go p e below s _ _ _ T9 (mkF m 48 #[.val (.ref bf), .val (.long (n / gg_7)), .second, .val (.long (d / gg_7)), .second, .val (.long gg_7), .second] [(.long (d / gg_7)), (.ref bf)])
  have f12 := (F_denominator_bf.other W9 (Or.inr (slot_ne (Or.inr (tw24 hw)) (Or.inr (tw22 hw)) (by decide) (t := .long) (t' := .long) (by decide) (by decide))))
  have f13 := (E_bf.wr W9)
  obtain ⟨T14, h14, X14, e14, W14, st14⟩ := putF X9 hx hZ hown (host := "") (Or.inl (tw23 hw)) Via.refl e9 f12 f13 (Or.inr ⟨(tw24 hw), rfl, hnm⟩) (tw1 hw) (ty := .long) (by decide) rfl rfl (g := (mkF m 48 #[.val (.ref bf), .val (.long (n / gg_7)), .second, .val (.long (d / gg_7)), .second, .val (.long gg_7), .second] [(.long (d / gg_7)), (.ref bf)])) rfl rfl (hb hby d3_48)
  have f15 := f12.same W14
  have N16 := Fr.snoc X14 N11 g_bf
  refine Go.step (fun _ k => st14 _ k) ?_
  show Go p e below s _ _ _ T14 (mkF m 51 #[.val (.ref bf), .val (.long (n / gg_7)), .second, .val (.long (d / gg_7)), .second, .val (.long gg_7), .second] [])
  have f17 := (((Keep.refl h0 [bf]).wr W9 (Or.inl (List.mem_of_getElem? (i := 0) rfl))).wr W14 (Or.inl (List.mem_of_getElem? (i := 0) rfl)))
  have f18 := (f10.other W14 (Or.inr (slot_ne (Or.inr (tw22 hw)) (Or.inr (tw24 hw)) (by decide) (t := .long) (t' := .long) (by decide) (by decide))))
  exact Go.retV X14 hx hlk Bd.returns (hb hby d3_51) e14 ⟨gg_7, rfl, N16, f17, P7_0, f18, f15⟩ (by decide) (by decide)

theorem ef_dv (m : MethodId) (x0 : Addr) : entryFrame m #[(.ref x0)] 1 = mkF m 0 #[.val (.ref x0)] [] := by first | (simp [entryFrame, mkF, argsToLocals, Value.category]; done) | rfl
def Q_dv (Z : State) (bf : Addr) (nu : Int64) (de : Int64) (h0 : Heap) (n0 : Nat) (v : Option Value) (h : Heap) (L : List Loc) : Prop := v = some (.double (FP.ddiv (FP.l2d nu) (FP.l2d de))) ∧ Fr n0 L ∧ h = h0
set_option maxRecDepth 65536 in
set_option maxHeartbeats 40000000 in
theorem rm_dv (l : Launch) (Z : State) (a0 : Array Value) (hw : ∀ d ∈ tables_1, d.before a0 Z = true) (ws : List Jvm.Cond) (bf : Addr) (nu : Int64) (de : Int64) (h0 : Heap) (n0 : Nat) (Z0 : n0 ≤ h0.size) (F_numerator_bf : Fld Z h0 bf xs0 "numerator" "J" (.long nu)) (F_denominator_bf : Fld Z h0 bf xs0 "denominator" "J" (.long de)) (hnn : Jvm.Free.Fl.NoNaN64 (FP.ddiv (FP.l2d nu) (FP.l2d de))) :
    MetFree l xm0 (head1 (Jvm.Cond.code xm0 prog_93_method_3_code 1 (some .double) :: ws) xr3) (fun a U => a = #[(.ref bf)] ∧ Z.Warmed39 U.vm ∧ U.heap = h0) (fun _ _ _ _ _ => True) (fun _ U o U' => ∃ v L, o = .returned v ∧ Q_dv Z bf nu de h0 n0 v U'.heap L ∧ FrameEnd U o U' L xr3.cells xr3.slots) := by
  refine MetFree.of_bodySF (plainFor_of_name pn_0) hisR ?_
  intro p e s m args below meth c s₁ Bd hml0 hP hK
  obtain ⟨rfl, hZ, hh⟩ := hP
  have hx := Bd.exec
  have hby := Bd.bytes
  have hlk : meth.locks = false := BodyLoose.notSynchronized Bd
  have hml : c.maxLocals = 1 := hml0
  have hown : s.vm.findClass xs0 = some m.cls := findClass_of_methodNamed Bd.named
  have hnm := (name_of_methodNamed Bd.named Bd.method).1
  have X0 : Stand p l e xr3 s m #[(.ref bf)] below meth c s₁ [] 0 0 := Stand.of_body Bd
  have e0 : s₁.heap = h0 := by rw [← hh, Bd.state]; rfl
  have N0 := Fr.nil n0
  show Go p e below s (Q_dv Z bf nu de h0 n0) xr3.cells xr3.slots s₁ (entryFrame m #[(.ref bf)] 1)
  refine Go.cast (ef_dv m bf) ?_
  show Go p e below s _ _ _ s₁ (mkF m 0 #[.val (.ref bf)] [])
  refine Go.step (fun _ k => XS.aloadN X0.here hx rfl (hb hby d5_0) rfl rfl k) ?_
  show Go p e below s _ _ _ s₁ (mkF m 1 #[.val (.ref bf)] [(.ref bf)])
  obtain ⟨T19, X19, e19, st19⟩ := getF X0 hx hZ hown (host := "") (Or.inl (tw21 hw)) Via.refl e0 F_numerator_bf (g := (mkF m 1 #[.val (.ref bf)] [(.ref bf)])) rfl rfl (hb hby d5_1)
  refine Go.step (fun _ k => st19 _ (XS.l2dS X19.here hx rfl (hb hby d5_4) rfl rfl (XS.aloadN X19.here hx rfl (hb hby d5_5) rfl rfl k))) ?_
  show Go p e below s _ _ _ T19 (mkF m 6 #[.val (.ref bf)] [(.ref bf), (.double (FP.l2d nu))])
  obtain ⟨T20, X20, e20, st20⟩ := getF X19 hx hZ hown (host := "") (Or.inl (tw23 hw)) Via.refl e19 F_denominator_bf (g := (mkF m 6 #[.val (.ref bf)] [(.ref bf), (.double (FP.l2d nu))])) rfl rfl (hb hby d5_6)
  refine Go.step (fun _ k => st20 _ (XS.l2dS X20.here hx rfl (hb hby d5_9) rfl rfl (XS.ddivS X20.here hx rfl (hb hby d5_10) rfl hnn rfl k))) ?_
  show Go p e below s _ _ _ T20 (mkF m 11 #[.val (.ref bf)] [(.double (FP.ddiv (FP.l2d nu) (FP.l2d de)))])
  exact Go.retD X20 hx hlk Bd.returns (hb hby d5_11) e20 ⟨rfl, N0, rfl⟩ (by decide) (by decide)

theorem ef_law (m : MethodId) (x0 : Int64) (x1 : Int64) (x2 : Int64) (x3 : Int64) (x4 : Int32) : entryFrame m #[(.long x0), (.long x1), (.long x2), (.long x3), (.int x4)] maxLocals = mkF m 0 #[.val (.long x0), .second, .val (.long x1), .second, .val (.long x2), .second, .val (.long x3), .second, .val (.int x4), .unset, .unset, .unset, .unset, .unset, .unset, .unset, .unset, .unset, .unset, .unset, .unset, .unset, .unset, .unset, .unset, .unset, .unset, .unset, .unset] [] := by first | (simp [entryFrame, mkF, argsToLocals, Value.category, maxLocals]; done) | rfl
def Q_law (Z : State) (p1 : Int64) (p2 : Int64) (p3 : Int64) (p4 : Int64) (p5 : Int32) (h0 : Heap) (n0 : Nat) (v : Option Value) (h : Heap) (L : List Loc) : Prop := v = some (.int (1 : Int32)) ∧ Fr n0 L
set_option maxRecDepth 65536 in
set_option maxHeartbeats 40000000 in
theorem rm_law (l : Launch) (Z : State) (a0 : Array Value) (hw : ∀ d ∈ tables_1, d.before a0 Z = true) (ws : List Jvm.Cond) (p1 : Int64) (p2 : Int64) (p3 : Int64) (p4 : Int64) (p5 : Int32) (h0 : Heap) (n0 : Nat) (Z0 : n0 ≤ h0.size) :
    MetFree l x (head1 (Jvm.Cond.code x code maxLocals ret :: ws) room_1) (fun a U => a = #[(.long p1), (.long p2), (.long p3), (.long p4), (.int p5)] ∧ Z.Warmed39 U.vm ∧ U.heap = h0) (fun _ _ _ _ _ => True) (fun _ U o U' => ∃ v L, o = .returned v ∧ Q_law Z p1 p2 p3 p4 p5 h0 n0 v U'.heap L ∧ FrameEnd U o U' L room_1.cells room_1.slots) := by
  refine MetFree.of_bodySF (plainFor_of_name pn_2) hisR ?_
  intro p e s m args below meth c s₁ Bd hml0 hP hK
  obtain ⟨rfl, hZ, hh⟩ := hP
  have hx := Bd.exec
  have hby := Bd.bytes
  have hlk : meth.locks = false := BodyLoose.notSynchronized Bd
  have hml : c.maxLocals = 29 := hml0
  have hown : s.vm.findClass "com/example/wayfare/wayfare/strategies/FractionDoubleValuePinLaw" = some m.cls := findClass_of_methodNamed Bd.named
  have hnm := (name_of_methodNamed Bd.named Bd.method).1
  have X0 : Stand p l e room_1 s m #[(.long p1), (.long p2), (.long p3), (.long p4), (.int p5)] below meth c s₁ [] 0 0 := Stand.of_body Bd
  have e0 : s₁.heap = h0 := by rw [← hh, Bd.state]; rfl
  have N0 := Fr.nil n0
  show Go p e below s (Q_law Z p1 p2 p3 p4 p5 h0 n0) room_1.cells room_1.slots s₁ (entryFrame m #[(.long p1), (.long p2), (.long p3), (.long p4), (.int p5)] maxLocals)
  refine Go.cast (ef_law m p1 p2 p3 p4 p5) ?_
  show Go p e below s _ _ _ s₁ (mkF m 0 #[.val (.long p1), .second, .val (.long p2), .second, .val (.long p3), .second, .val (.long p4), .second, .val (.int p5), .unset, .unset, .unset, .unset, .unset, .unset, .unset, .unset, .unset, .unset, .unset, .unset, .unset, .unset, .unset, .unset, .unset, .unset, .unset, .unset] [])
  have hP := own_pn p1 p2
  refine Go.step (fun _ k => XS.lloadN X0.here hx rfl (hb hby at_0) rfl (XS.bipush X0.here hx rfl (hb hby at_1) (XS.lshr X0.here hx rfl (hb hby at_3) rfl k))) ?_
  show Go p e below s _ _ _ s₁ (mkF m 4 #[.val (.long p1), .second, .val (.long p2), .second, .val (.long p3), .second, .val (.long p4), .second, .val (.int p5), .unset, .unset, .unset, .unset, .unset, .unset, .unset, .unset, .unset, .unset, .unset, .unset, .unset, .unset, .unset, .unset, .unset, .unset, .unset, .unset] [(.long (p1 >>> ((11 : Int32) &&& 0x3f).toInt64))])
  obtain ⟨n, en⟩ : ∃ z, z = (p1 >>> ((11 : Int32) &&& 0x3f).toInt64) := ⟨_, rfl⟩
  rw [← en] at hP
  rw [← en]
  refine Go.step (fun _ k => XS.lstore X0.here hx rfl (hb hby at_4) rfl (l' := #[.val (.long p1), .second, .val (.long p2), .second, .val (.long p3), .second, .val (.long p4), .second, .val (.int p5), .val (.long n), .second, .unset, .unset, .unset, .unset, .unset, .unset, .unset, .unset, .unset, .unset, .unset, .unset, .unset, .unset, .unset, .unset, .unset, .unset]) rfl (XS.lloadN X0.here hx rfl (hb hby at_6) rfl (XS.bipush X0.here hx rfl (hb hby at_7) (XS.lushr X0.here hx rfl (hb hby at_9) rfl (XS.lconst X0.here hx rfl (hb hby at_10) (XS.ladd X0.here hx rfl (hb hby at_11) rfl k)))))) ?_
  show Go p e below s _ _ _ s₁ (mkF m 12 #[.val (.long p1), .second, .val (.long p2), .second, .val (.long p3), .second, .val (.long p4), .second, .val (.int p5), .val (.long n), .second, .unset, .unset, .unset, .unset, .unset, .unset, .unset, .unset, .unset, .unset, .unset, .unset, .unset, .unset, .unset, .unset, .unset, .unset] [(.long (((p2.toUInt64 >>> ((11 : Int32) &&& 0x3f).toInt64.toUInt64).toInt64) + (1 : Int64)))])
  obtain ⟨d, ed⟩ : ∃ z, z = (((p2.toUInt64 >>> ((11 : Int32) &&& 0x3f).toInt64.toUInt64).toInt64) + (1 : Int64)) := ⟨_, rfl⟩
  rw [← ed] at hP
  rw [← ed]
  refine Go.step (fun _ k => XS.lstore X0.here hx rfl (hb hby at_12) rfl (l' := #[.val (.long p1), .second, .val (.long p2), .second, .val (.long p3), .second, .val (.long p4), .second, .val (.int p5), .val (.long n), .second, .val (.long d), .second, .unset, .unset, .unset, .unset, .unset, .unset, .unset, .unset, .unset, .unset, .unset, .unset, .unset, .unset, .unset, .unset]) rfl k) ?_
  show Go p e below s _ _ _ s₁ (mkF m 14 #[.val (.long p1), .second, .val (.long p2), .second, .val (.long p3), .second, .val (.long p4), .second, .val (.int p5), .val (.long n), .second, .val (.long d), .second, .unset, .unset, .unset, .unset, .unset, .unset, .unset, .unset, .unset, .unset, .unset, .unset, .unset, .unset, .unset, .unset] [])
  obtain ⟨T21, h21, X21, e21, E21, A21, D21, -, st21⟩ := newO X0 hx hZ hown (tw0 hw) (tw1 hw) (tw2 hw) e0 (g := (mkF m 14 #[.val (.long p1), .second, .val (.long p2), .second, .val (.long p3), .second, .val (.long p4), .second, .val (.int p5), .val (.long n), .second, .val (.long d), .second, .unset, .unset, .unset, .unset, .unset, .unset, .unset, .unset, .unset, .unset, .unset, .unset, .unset, .unset, .unset, .unset] [])) rfl (hb hby at_14) (by decide) (by decide)
  obtain ⟨b21, g21⟩ : ∃ z, z = h0.size := ⟨_, rfl⟩
  rw [← g21] at A21 D21 st21
  have f22 : Fld Z h21 b21 xs0 "numerator" "J" (.long (0 : Int64)) := D21 (Or.inr (tw22 hw)) (ty := .long) (by decide)
  have f23 : Fld Z h21 b21 xs0 "denominator" "J" (.long (0 : Int64)) := D21 (Or.inr (tw24 hw)) (ty := .long) (by decide)
  refine Go.step (fun _ k => st21 _ (XS.dup X21.here hx rfl (hb hby at_17) rfl rfl (XS.lload X21.here hx rfl (hb hby at_18) rfl (XS.lload X21.here hx rfl (hb hby at_20) rfl k)))) ?_
  show Go p e below s _ _ _ T21 (mkF m 22 #[.val (.long p1), .second, .val (.long p2), .second, .val (.long p3), .second, .val (.long p4), .second, .val (.int p5), .val (.long n), .second, .val (.long d), .second, .unset, .unset, .unset, .unset, .unset, .unset, .unset, .unset, .unset, .unset, .unset, .unset, .unset, .unset, .unset, .unset] [(.long d), (.long n), (.ref b21), (.ref b21)])
  have f24 := (Nat.le_trans Z0 E21.1)
  have g25 := Nat.le_trans Z0 (Nat.le_of_eq g21.symm)
  obtain ⟨_, _, ⟨T26, L26, k26, n26⟩, -, X26, ⟨Lc26, hQ26, l26, y26, z26⟩, st26⟩ := X21.specialBack hx (y := xm1) rfl hown (mvT hZ (tw3 hw)) (mvT hZ (tw4 hw)) (mvT hZ (tw5 hw)) (by decide) (backOf (W := 1) (rm_frac l Z a0 hw [] b21 n d h21 n0 f24 A21 f22 f23 g25 hP.2.1) hZ (tw5 hw) (tw2 hw) (by decide) (by decide)) (g := (mkF m 22 #[.val (.long p1), .second, .val (.long p2), .second, .val (.long p3), .second, .val (.long p4), .second, .val (.int p5), .val (.long n), .second, .val (.long d), .second, .unset, .unset, .unset, .unset, .unset, .unset, .unset, .unset, .unset, .unset, .unset, .unset, .unset, .unset, .unset, .unset] [(.long d), (.long n), (.ref b21), (.ref b21)])) rfl (by rw [hml]; rfl) (Steps.refl _) (a := b21) (argsL := [(.long n), (.long d)]) (rest := [(.ref b21)]) (lenOf pd_3 rfl) rfl (by show 2 * 0 + _ ≤ _; exact Nat.le_of_eq rfl) (hb hby at_22) (fun _ _ => ⟨rfl, e21, (by decide : 1 + 0 ≤ _), (by decide : 2 + 0 ≤ _)⟩)
  dsimp only [Pt.U, Pt.locs, Pt.cells, Pt.slots] at X26 l26 y26 z26 st26 hQ26
  subst l26 y26 z26
  obtain ⟨gg_26, rfl, N26q, K26, P26_0, P26_1, P26_2⟩ := hQ26
  have N27 := Fr.app N0 N26q
  refine Go.step (fun _ k => st26.trans k) ?_
  show Go p e below s _ _ _ T26 (mkF m 25 #[.val (.long p1), .second, .val (.long p2), .second, .val (.long p3), .second, .val (.long p4), .second, .val (.int p5), .val (.long n), .second, .val (.long d), .second, .unset, .unset, .unset, .unset, .unset, .unset, .unset, .unset, .unset, .unset, .unset, .unset, .unset, .unset, .unset, .unset] [(.ref b21)])
  have f28 := (Nat.le_trans f24 K26.1)
  have f30 := (A21.keep K26)
  obtain ⟨cq29, kq29, q29a, q29b, q29c⟩ := isOf hZ rfl f30
  obtain ⟨_, _, ⟨T29, L29, k29, n29⟩, -, X29, ⟨Lc29, hQ29, l29, y29, z29⟩, st29⟩ := X26.virtualBack hx (y := xm0) (z := xm0) hown (mvT hZ (tw25 hw)) (mvT hZ (tw26 hw)) (notFace_of_selects (args := #[]) (mvT hZ (tw28 hw))) (mvT hZ (tw28 hw)) (mvT hZ (tw27 hw)) (by decide) (backOf (W := 0) (rm_dv l Z a0 hw [] b21 (n / gg_26) (d / gg_26) T26.heap n0 f28 P26_1 P26_2 (own_nn1 P26_0 hP)) hZ (tw29 hw) (tw2 hw) (by decide) (by decide)) q29a q29c (g := (mkF m 25 #[.val (.long p1), .second, .val (.long p2), .second, .val (.long p3), .second, .val (.long p4), .second, .val (.int p5), .val (.long n), .second, .val (.long d), .second, .unset, .unset, .unset, .unset, .unset, .unset, .unset, .unset, .unset, .unset, .unset, .unset, .unset, .unset, .unset, .unset] [(.ref b21)])) rfl (by rw [hml]; rfl) (Steps.refl _) (argsL := []) (rest := []) (lenOf pd_4 rfl) rfl (by show 2 * 0 + _ ≤ _; exact Nat.le_of_eq rfl) (hb hby at_25) (fun _ _ => ⟨rfl, rfl, (by decide : 1 + 0 ≤ _), (by decide : 2 + 0 ≤ _)⟩)
  dsimp only [Pt.U, Pt.locs, Pt.cells, Pt.slots] at X29 l29 y29 z29 st29 hQ29
  subst l29 y29 z29
  obtain ⟨rfl, N29q, eq29⟩ := hQ29
  have N31 := Fr.app N27 N29q
  refine Go.step (fun _ k => st29.trans (XS.dstore X29.here hx rfl (hb hby at_28) rfl (l' := #[.val (.long p1), .second, .val (.long p2), .second, .val (.long p3), .second, .val (.long p4), .second, .val (.int p5), .val (.long n), .second, .val (.long d), .second, .val (.double (FP.ddiv (FP.l2d (n / gg_26)) (FP.l2d (d / gg_26)))), .second, .unset, .unset, .unset, .unset, .unset, .unset, .unset, .unset, .unset, .unset, .unset, .unset, .unset, .unset]) rfl (XS.lload X29.here hx rfl (hb hby at_30) rfl (XS.lload X29.here hx rfl (hb hby at_32) rfl (XS.ldiv X29.here hx rfl (hb hby at_34) rfl (own_dnz hP) (XS.lstore X29.here hx rfl (hb hby at_35) rfl (l' := #[.val (.long p1), .second, .val (.long p2), .second, .val (.long p3), .second, .val (.long p4), .second, .val (.int p5), .val (.long n), .second, .val (.long d), .second, .val (.double (FP.ddiv (FP.l2d (n / gg_26)) (FP.l2d (d / gg_26)))), .second, .val (.long (n / d)), .second, .unset, .unset, .unset, .unset, .unset, .unset, .unset, .unset, .unset, .unset, .unset, .unset]) rfl (XS.lload X29.here hx rfl (hb hby at_37) rfl (XS.lconst X29.here hx rfl (hb hby at_39) (XS.lcmp X29.here hx rfl (hb hby at_40) rfl k))))))))) ?_
  show Go p e below s _ _ _ T29 (mkF m 41 #[.val (.long p1), .second, .val (.long p2), .second, .val (.long p3), .second, .val (.long p4), .second, .val (.int p5), .val (.long n), .second, .val (.long d), .second, .val (.double (FP.ddiv (FP.l2d (n / gg_26)) (FP.l2d (d / gg_26)))), .second, .val (.long (n / d)), .second, .unset, .unset, .unset, .unset, .unset, .unset, .unset, .unset, .unset, .unset, .unset, .unset] [(.int (lcmpW n (0 : Int64)))])
  have J1 : Go p e below s (Q_law Z p1 p2 p3 p4 p5 h0 n0) room_1.cells room_1.slots T29 (mkF m 101 #[.val (.long p1), .second, .val (.long p2), .second, .val (.long p3), .second, .val (.long p4), .second, .val (.int p5), .val (.long n), .second, .val (.long d), .second, .val (.double (FP.ddiv (FP.l2d (n / gg_26)) (FP.l2d (d / gg_26)))), .second, .val (.long (n / d)), .second, .val (.int (1 : Int32)), .unset, .unset, .unset, .unset, .unset, .unset, .unset, .unset, .unset, .unset, .unset] []) := by
    skip
    refine Go.step (fun _ k => XS.lload X29.here hx rfl (hb hby at_101) rfl (XS.lload X29.here hx rfl (hb hby at_103) rfl (XS.lrem X29.here hx rfl (hb hby at_105) rfl (own_dnz hP) (XS.lconst X29.here hx rfl (hb hby at_106) (XS.lcmp X29.here hx rfl (hb hby at_107) rfl k))))) ?_
    show Go p e below s _ _ _ T29 (mkF m 108 #[.val (.long p1), .second, .val (.long p2), .second, .val (.long p3), .second, .val (.long p4), .second, .val (.int p5), .val (.long n), .second, .val (.long d), .second, .val (.double (FP.ddiv (FP.l2d (n / gg_26)) (FP.l2d (d / gg_26)))), .second, .val (.long (n / d)), .second, .val (.int (1 : Int32)), .unset, .unset, .unset, .unset, .unset, .unset, .unset, .unset, .unset, .unset, .unset] [(.int (lcmpW (n - (n / d) * d) (0 : Int64)))])
    have J2 : Go p e below s (Q_law Z p1 p2 p3 p4 p5 h0 n0) room_1.cells room_1.slots T29 (mkF m 132 #[.val (.long p1), .second, .val (.long p2), .second, .val (.long p3), .second, .val (.long p4), .second, .val (.int p5), .val (.long n), .second, .val (.long d), .second, .val (.double (FP.ddiv (FP.l2d (n / gg_26)) (FP.l2d (d / gg_26)))), .second, .val (.long (n / d)), .second, .val (.int (1 : Int32)), .unset, .unset, .unset, .unset, .unset, .unset, .unset, .unset, .unset, .unset, .unset] []) := by
      skip
      have hW := own_pw p5
      refine Go.step (fun _ k => XS.iload X29.here hx rfl (hb hby at_132) rfl (X29.ldcInt hx hown (mvT hZ (tw30 hw)) (g := (mkF m 134 #[.val (.long p1), .second, .val (.long p2), .second, .val (.long p3), .second, .val (.long p4), .second, .val (.int p5), .val (.long n), .second, .val (.long d), .second, .val (.double (FP.ddiv (FP.l2d (n / gg_26)) (FP.l2d (d / gg_26)))), .second, .val (.long (n / d)), .second, .val (.int (1 : Int32)), .unset, .unset, .unset, .unset, .unset, .unset, .unset, .unset, .unset, .unset, .unset] [(.int p5)])) rfl (hb hby at_134) _ (XS.iand X29.here hx rfl (hb hby at_136) rfl (XS.bipush X29.here hx rfl (hb hby at_137) (iremM X29 hx rfl (hb hby at_139) rfl (by decide) (XS.istore X29.here hx rfl (hb hby at_140) rfl (l' := #[.val (.long p1), .second, .val (.long p2), .second, .val (.long p3), .second, .val (.long p4), .second, .val (.int p5), .val (.long n), .second, .val (.long d), .second, .val (.double (FP.ddiv (FP.l2d (n / gg_26)) (FP.l2d (d / gg_26)))), .second, .val (.long (n / d)), .second, .val (.int (1 : Int32)), .val (.int ((p5 &&& (2147483647 : Int32)) % (62 : Int32))), .unset, .unset, .unset, .unset, .unset, .unset, .unset, .unset, .unset, .unset]) rfl (XS.lconst X29.here hx rfl (hb hby at_142) (XS.iload X29.here hx rfl (hb hby at_143) rfl (XS.lshl X29.here hx rfl (hb hby at_145) rfl k))))))))) ?_
      show Go p e below s _ _ _ T29 (mkF m 146 #[.val (.long p1), .second, .val (.long p2), .second, .val (.long p3), .second, .val (.long p4), .second, .val (.int p5), .val (.long n), .second, .val (.long d), .second, .val (.double (FP.ddiv (FP.l2d (n / gg_26)) (FP.l2d (d / gg_26)))), .second, .val (.long (n / d)), .second, .val (.int (1 : Int32)), .val (.int ((p5 &&& (2147483647 : Int32)) % (62 : Int32))), .unset, .unset, .unset, .unset, .unset, .unset, .unset, .unset, .unset, .unset] [(.long ((1 : Int64) <<< (((p5 &&& (2147483647 : Int32)) % (62 : Int32)) &&& 0x3f).toInt64))])
      obtain ⟨pw, epw⟩ : ∃ z, z = ((1 : Int64) <<< (((p5 &&& (2147483647 : Int32)) % (62 : Int32)) &&& 0x3f).toInt64) := ⟨_, rfl⟩
      rw [← epw] at hW
      rw [← epw]
      refine Go.step (fun _ k => XS.lstore X29.here hx rfl (hb hby at_146) rfl (l' := #[.val (.long p1), .second, .val (.long p2), .second, .val (.long p3), .second, .val (.long p4), .second, .val (.int p5), .val (.long n), .second, .val (.long d), .second, .val (.double (FP.ddiv (FP.l2d (n / gg_26)) (FP.l2d (d / gg_26)))), .second, .val (.long (n / d)), .second, .val (.int (1 : Int32)), .val (.int ((p5 &&& (2147483647 : Int32)) % (62 : Int32))), .val (.long pw), .second, .unset, .unset, .unset, .unset, .unset, .unset, .unset, .unset]) rfl k) ?_
      show Go p e below s _ _ _ T29 (mkF m 148 #[.val (.long p1), .second, .val (.long p2), .second, .val (.long p3), .second, .val (.long p4), .second, .val (.int p5), .val (.long n), .second, .val (.long d), .second, .val (.double (FP.ddiv (FP.l2d (n / gg_26)) (FP.l2d (d / gg_26)))), .second, .val (.long (n / d)), .second, .val (.int (1 : Int32)), .val (.int ((p5 &&& (2147483647 : Int32)) % (62 : Int32))), .val (.long pw), .second, .unset, .unset, .unset, .unset, .unset, .unset, .unset, .unset] [])
      obtain ⟨T32, h32, X32, e32, E32, A32, D32, -, st32⟩ := newO X29 hx hZ hown (tw0 hw) (tw1 hw) (tw2 hw) eq29 (g := (mkF m 148 #[.val (.long p1), .second, .val (.long p2), .second, .val (.long p3), .second, .val (.long p4), .second, .val (.int p5), .val (.long n), .second, .val (.long d), .second, .val (.double (FP.ddiv (FP.l2d (n / gg_26)) (FP.l2d (d / gg_26)))), .second, .val (.long (n / d)), .second, .val (.int (1 : Int32)), .val (.int ((p5 &&& (2147483647 : Int32)) % (62 : Int32))), .val (.long pw), .second, .unset, .unset, .unset, .unset, .unset, .unset, .unset, .unset] [])) rfl (hb hby at_148) (by decide) (by decide)
      obtain ⟨b32, g32⟩ : ∃ z, z = T26.heap.size := ⟨_, rfl⟩
      rw [← g32] at A32 D32 st32
      have f33 : Fld Z h32 b32 xs0 "numerator" "J" (.long (0 : Int64)) := D32 (Or.inr (tw22 hw)) (ty := .long) (by decide)
      have f34 : Fld Z h32 b32 xs0 "denominator" "J" (.long (0 : Int64)) := D32 (Or.inr (tw24 hw)) (ty := .long) (by decide)
      refine Go.step (fun _ k => st32 _ (XS.dup X32.here hx rfl (hb hby at_151) rfl rfl (XS.lload X32.here hx rfl (hb hby at_152) rfl (XS.lload X32.here hx rfl (hb hby at_154) rfl k)))) ?_
      show Go p e below s _ _ _ T32 (mkF m 156 #[.val (.long p1), .second, .val (.long p2), .second, .val (.long p3), .second, .val (.long p4), .second, .val (.int p5), .val (.long n), .second, .val (.long d), .second, .val (.double (FP.ddiv (FP.l2d (n / gg_26)) (FP.l2d (d / gg_26)))), .second, .val (.long (n / d)), .second, .val (.int (1 : Int32)), .val (.int ((p5 &&& (2147483647 : Int32)) % (62 : Int32))), .val (.long pw), .second, .unset, .unset, .unset, .unset, .unset, .unset, .unset, .unset] [(.long pw), (.long n), (.ref b32), (.ref b32)])
      have f35 := (Nat.le_trans f28 E32.1)
      have g36 := Nat.le_trans f28 (Nat.le_of_eq g32.symm)
      obtain ⟨_, _, ⟨T37, L37, k37, n37⟩, -, X37, ⟨Lc37, hQ37, l37, y37, z37⟩, st37⟩ := X32.specialBack hx (y := xm1) rfl hown (mvT hZ (tw3 hw)) (mvT hZ (tw4 hw)) (mvT hZ (tw5 hw)) (by decide) (backOf (W := 1) (rm_frac l Z a0 hw [] b32 n pw h32 n0 f35 A32 f33 f34 g36 (own_wp hW)) hZ (tw5 hw) (tw2 hw) (by decide) (by decide)) (g := (mkF m 156 #[.val (.long p1), .second, .val (.long p2), .second, .val (.long p3), .second, .val (.long p4), .second, .val (.int p5), .val (.long n), .second, .val (.long d), .second, .val (.double (FP.ddiv (FP.l2d (n / gg_26)) (FP.l2d (d / gg_26)))), .second, .val (.long (n / d)), .second, .val (.int (1 : Int32)), .val (.int ((p5 &&& (2147483647 : Int32)) % (62 : Int32))), .val (.long pw), .second, .unset, .unset, .unset, .unset, .unset, .unset, .unset, .unset] [(.long pw), (.long n), (.ref b32), (.ref b32)])) rfl (by rw [hml]; rfl) (Steps.refl _) (a := b32) (argsL := [(.long n), (.long pw)]) (rest := [(.ref b32)]) (lenOf pd_3 rfl) rfl (by show 2 * 0 + _ ≤ _; exact Nat.le_of_eq rfl) (hb hby at_156) (fun _ _ => ⟨rfl, e32, (by decide : 2 + 0 ≤ _), (by decide : 4 + 0 ≤ _)⟩)
      dsimp only [Pt.U, Pt.locs, Pt.cells, Pt.slots] at X37 l37 y37 z37 st37 hQ37
      subst l37 y37 z37
      obtain ⟨gg_37, rfl, N37q, K37, P37_0, P37_1, P37_2⟩ := hQ37
      have N38 := Fr.app N31 N37q
      refine Go.step (fun _ k => st37.trans k) ?_
      show Go p e below s _ _ _ T37 (mkF m 159 #[.val (.long p1), .second, .val (.long p2), .second, .val (.long p3), .second, .val (.long p4), .second, .val (.int p5), .val (.long n), .second, .val (.long d), .second, .val (.double (FP.ddiv (FP.l2d (n / gg_26)) (FP.l2d (d / gg_26)))), .second, .val (.long (n / d)), .second, .val (.int (1 : Int32)), .val (.int ((p5 &&& (2147483647 : Int32)) % (62 : Int32))), .val (.long pw), .second, .unset, .unset, .unset, .unset, .unset, .unset, .unset, .unset] [(.ref b32)])
      have f39 := (Nat.le_trans f35 K37.1)
      have f41 := (A32.keep K37)
      obtain ⟨cq40, kq40, q40a, q40b, q40c⟩ := isOf hZ rfl f41
      obtain ⟨_, _, ⟨T40, L40, k40, n40⟩, -, X40, ⟨Lc40, hQ40, l40, y40, z40⟩, st40⟩ := X37.virtualBack hx (y := xm0) (z := xm0) hown (mvT hZ (tw25 hw)) (mvT hZ (tw26 hw)) (notFace_of_selects (args := #[]) (mvT hZ (tw28 hw))) (mvT hZ (tw28 hw)) (mvT hZ (tw27 hw)) (by decide) (backOf (W := 0) (rm_dv l Z a0 hw [] b32 (n / gg_37) (pw / gg_37) T37.heap n0 f39 P37_1 P37_2 (own_nn2 P37_0 hP hW)) hZ (tw29 hw) (tw2 hw) (by decide) (by decide)) q40a q40c (g := (mkF m 159 #[.val (.long p1), .second, .val (.long p2), .second, .val (.long p3), .second, .val (.long p4), .second, .val (.int p5), .val (.long n), .second, .val (.long d), .second, .val (.double (FP.ddiv (FP.l2d (n / gg_26)) (FP.l2d (d / gg_26)))), .second, .val (.long (n / d)), .second, .val (.int (1 : Int32)), .val (.int ((p5 &&& (2147483647 : Int32)) % (62 : Int32))), .val (.long pw), .second, .unset, .unset, .unset, .unset, .unset, .unset, .unset, .unset] [(.ref b32)])) rfl (by rw [hml]; rfl) (Steps.refl _) (argsL := []) (rest := []) (lenOf pd_4 rfl) rfl (by show 2 * 0 + _ ≤ _; exact Nat.le_of_eq rfl) (hb hby at_159) (fun _ _ => ⟨rfl, rfl, (by decide : 2 + 0 ≤ _), (by decide : 4 + 0 ≤ _)⟩)
      dsimp only [Pt.U, Pt.locs, Pt.cells, Pt.slots] at X40 l40 y40 z40 st40 hQ40
      subst l40 y40 z40
      obtain ⟨rfl, N40q, eq40⟩ := hQ40
      have N42 := Fr.app N38 N40q
      refine Go.step (fun _ k => st40.trans (XS.dstore X40.here hx rfl (hb hby at_162) rfl (l' := #[.val (.long p1), .second, .val (.long p2), .second, .val (.long p3), .second, .val (.long p4), .second, .val (.int p5), .val (.long n), .second, .val (.long d), .second, .val (.double (FP.ddiv (FP.l2d (n / gg_26)) (FP.l2d (d / gg_26)))), .second, .val (.long (n / d)), .second, .val (.int (1 : Int32)), .val (.int ((p5 &&& (2147483647 : Int32)) % (62 : Int32))), .val (.long pw), .second, .val (.double (FP.ddiv (FP.l2d (n / gg_37)) (FP.l2d (pw / gg_37)))), .second, .unset, .unset, .unset, .unset, .unset, .unset]) rfl (XS.iload X40.here hx rfl (hb hby at_164) rfl (XS.ifNo X40.here hx rfl (hb hby at_166) rfl ((if0 _ _).trans (feq (by decide)).1) (XS.dload X40.here hx rfl (hb hby at_169) rfl (XS.lload X40.here hx rfl (hb hby at_171) rfl (XS.l2dS X40.here hx rfl (hb hby at_173) rfl rfl (XS.dmulS X40.here hx rfl (hb hby at_174) rfl (own_nn3 P37_0 hP hW) rfl (XS.lload X40.here hx rfl (hb hby at_175) rfl (XS.l2dS X40.here hx rfl (hb hby at_177) rfl rfl k)))))))))) ?_
      show Go p e below s _ _ _ T40 (mkF m 178 #[.val (.long p1), .second, .val (.long p2), .second, .val (.long p3), .second, .val (.long p4), .second, .val (.int p5), .val (.long n), .second, .val (.long d), .second, .val (.double (FP.ddiv (FP.l2d (n / gg_26)) (FP.l2d (d / gg_26)))), .second, .val (.long (n / d)), .second, .val (.int (1 : Int32)), .val (.int ((p5 &&& (2147483647 : Int32)) % (62 : Int32))), .val (.long pw), .second, .val (.double (FP.ddiv (FP.l2d (n / gg_37)) (FP.l2d (pw / gg_37)))), .second, .unset, .unset, .unset, .unset, .unset, .unset] [(.double (FP.l2d n)), (.double (FP.dmul (FP.ddiv (FP.l2d (n / gg_37)) (FP.l2d (pw / gg_37))) (FP.l2d pw)))])
      refine Go.step (fun _ k => XS.dcmpS X40.here hx rfl (hb hby at_178) rfl rfl (XS.ifNo X40.here hx rfl (hb hby at_179) rfl ((if0 _ _).trans (teq (own_p6 P37_0 hP hW)).2) (XS.iconst X40.here hx rfl (hb hby at_182) (XS.goto X40.here hx rfl (pc0 := 183) (pc' := 187) rfl (hb hby at_183) (by decide) (by decide) (XS.istore X40.here hx rfl (hb hby at_187) rfl (l' := #[.val (.long p1), .second, .val (.long p2), .second, .val (.long p3), .second, .val (.long p4), .second, .val (.int p5), .val (.long n), .second, .val (.long d), .second, .val (.double (FP.ddiv (FP.l2d (n / gg_26)) (FP.l2d (d / gg_26)))), .second, .val (.long (n / d)), .second, .val (.int (1 : Int32)), .val (.int ((p5 &&& (2147483647 : Int32)) % (62 : Int32))), .val (.long pw), .second, .val (.double (FP.ddiv (FP.l2d (n / gg_37)) (FP.l2d (pw / gg_37)))), .second, .unset, .unset, .unset, .unset, .unset, .unset]) rfl (XS.lconst X40.here hx rfl (hb hby at_189) (XS.lload X40.here hx rfl (hb hby at_190) rfl (X40.ldc2Long hx hown (mvT hZ (tw31 hw)) (g := (mkF m 192 #[.val (.long p1), .second, .val (.long p2), .second, .val (.long p3), .second, .val (.long p4), .second, .val (.int p5), .val (.long n), .second, .val (.long d), .second, .val (.double (FP.ddiv (FP.l2d (n / gg_26)) (FP.l2d (d / gg_26)))), .second, .val (.long (n / d)), .second, .val (.int (1 : Int32)), .val (.int ((p5 &&& (2147483647 : Int32)) % (62 : Int32))), .val (.long pw), .second, .val (.double (FP.ddiv (FP.l2d (n / gg_37)) (FP.l2d (pw / gg_37)))), .second, .unset, .unset, .unset, .unset, .unset, .unset] [(.long p4), (.long (1 : Int64))])) rfl (hb hby at_192) _ (XS.land X40.here hx rfl (hb hby at_195) rfl k))))))))) ?_
      show Go p e below s _ _ _ T40 (mkF m 196 #[.val (.long p1), .second, .val (.long p2), .second, .val (.long p3), .second, .val (.long p4), .second, .val (.int p5), .val (.long n), .second, .val (.long d), .second, .val (.double (FP.ddiv (FP.l2d (n / gg_26)) (FP.l2d (d / gg_26)))), .second, .val (.long (n / d)), .second, .val (.int (1 : Int32)), .val (.int ((p5 &&& (2147483647 : Int32)) % (62 : Int32))), .val (.long pw), .second, .val (.double (FP.ddiv (FP.l2d (n / gg_37)) (FP.l2d (pw / gg_37)))), .second, .unset, .unset, .unset, .unset, .unset, .unset] [(.long (p4 &&& (9223372036854775807 : Int64))), (.long (1 : Int64))])
      obtain ⟨_, _, ⟨T43, L43, k43, n43⟩, -, X43, ⟨Lc43, hQ43, l43, y43, z43⟩, st43⟩ := Jvm.LawKit.callS X40 hx (y := xm3) hown (mvT hZ (tw32 hw)) (mvT hZ (tw33 hw)) (mvT hZ (tw19 hw)) (mvT hZ (tw34 hw)) (by decide) (backOf (W := 0) (rm_max l Z a0 hw [] (1 : Int64) (p4 &&& (9223372036854775807 : Int64)) T37.heap n0 f39) hZ (tw34 hw) (tw19 hw) (by decide) (by decide)) (g := (mkF m 196 #[.val (.long p1), .second, .val (.long p2), .second, .val (.long p3), .second, .val (.long p4), .second, .val (.int p5), .val (.long n), .second, .val (.long d), .second, .val (.double (FP.ddiv (FP.l2d (n / gg_26)) (FP.l2d (d / gg_26)))), .second, .val (.long (n / d)), .second, .val (.int (1 : Int32)), .val (.int ((p5 &&& (2147483647 : Int32)) % (62 : Int32))), .val (.long pw), .second, .val (.double (FP.ddiv (FP.l2d (n / gg_37)) (FP.l2d (pw / gg_37)))), .second, .unset, .unset, .unset, .unset, .unset, .unset] [(.long (p4 &&& (9223372036854775807 : Int64))), (.long (1 : Int64))])) rfl (by rw [hml]; rfl) (argsL := [(.long (1 : Int64)), (.long (p4 &&& (9223372036854775807 : Int64)))]) (rest := []) (lenOf pd_2 rfl) rfl (by show 2 * 0 + _ ≤ _; exact Nat.le_of_eq rfl) (hb hby at_196) (fun _ _ => ⟨rfl, eq40, (by decide : 2 + 0 ≤ _), (by decide : 4 + 0 ≤ _)⟩)
      dsimp only [Pt.U, Pt.locs, Pt.cells, Pt.slots] at X43 l43 y43 z43 st43 hQ43
      subst l43 y43 z43
      obtain ⟨rfl, N43q, eq43⟩ := hQ43
      have N44 := Fr.app N42 N43q
      refine Go.step (fun _ k => st43 _ k) ?_
      show Go p e below s _ _ _ T43 (mkF m 199 #[.val (.long p1), .second, .val (.long p2), .second, .val (.long p3), .second, .val (.long p4), .second, .val (.int p5), .val (.long n), .second, .val (.long d), .second, .val (.double (FP.ddiv (FP.l2d (n / gg_26)) (FP.l2d (d / gg_26)))), .second, .val (.long (n / d)), .second, .val (.int (1 : Int32)), .val (.int ((p5 &&& (2147483647 : Int32)) % (62 : Int32))), .val (.long pw), .second, .val (.double (FP.ddiv (FP.l2d (n / gg_37)) (FP.l2d (pw / gg_37)))), .second, .unset, .unset, .unset, .unset, .unset, .unset] [(.long (own_mx (1 : Int64) (p4 &&& (9223372036854775807 : Int64))))])
      have hM := own_mxp (p4 &&& (9223372036854775807 : Int64))
      obtain ⟨dd, edd⟩ : ∃ z, z = (own_mx (1 : Int64) (p4 &&& (9223372036854775807 : Int64))) := ⟨_, rfl⟩
      rw [← edd] at hM
      rw [← edd]
      refine Go.step (fun _ k => XS.lstore X43.here hx rfl (hb hby at_199) rfl (l' := #[.val (.long p1), .second, .val (.long p2), .second, .val (.long p3), .second, .val (.long p4), .second, .val (.int p5), .val (.long n), .second, .val (.long d), .second, .val (.double (FP.ddiv (FP.l2d (n / gg_26)) (FP.l2d (d / gg_26)))), .second, .val (.long (n / d)), .second, .val (.int (1 : Int32)), .val (.int ((p5 &&& (2147483647 : Int32)) % (62 : Int32))), .val (.long pw), .second, .val (.double (FP.ddiv (FP.l2d (n / gg_37)) (FP.l2d (pw / gg_37)))), .second, .val (.long dd), .second, .unset, .unset, .unset, .unset]) rfl k) ?_
      show Go p e below s _ _ _ T43 (mkF m 201 #[.val (.long p1), .second, .val (.long p2), .second, .val (.long p3), .second, .val (.long p4), .second, .val (.int p5), .val (.long n), .second, .val (.long d), .second, .val (.double (FP.ddiv (FP.l2d (n / gg_26)) (FP.l2d (d / gg_26)))), .second, .val (.long (n / d)), .second, .val (.int (1 : Int32)), .val (.int ((p5 &&& (2147483647 : Int32)) % (62 : Int32))), .val (.long pw), .second, .val (.double (FP.ddiv (FP.l2d (n / gg_37)) (FP.l2d (pw / gg_37)))), .second, .val (.long dd), .second, .unset, .unset, .unset, .unset] [])
      obtain ⟨T45, h45, X45, e45, E45, A45, D45, -, st45⟩ := newO X43 hx hZ hown (tw0 hw) (tw1 hw) (tw2 hw) eq43 (g := (mkF m 201 #[.val (.long p1), .second, .val (.long p2), .second, .val (.long p3), .second, .val (.long p4), .second, .val (.int p5), .val (.long n), .second, .val (.long d), .second, .val (.double (FP.ddiv (FP.l2d (n / gg_26)) (FP.l2d (d / gg_26)))), .second, .val (.long (n / d)), .second, .val (.int (1 : Int32)), .val (.int ((p5 &&& (2147483647 : Int32)) % (62 : Int32))), .val (.long pw), .second, .val (.double (FP.ddiv (FP.l2d (n / gg_37)) (FP.l2d (pw / gg_37)))), .second, .val (.long dd), .second, .unset, .unset, .unset, .unset] [])) rfl (hb hby at_201) (by decide) (by decide)
      obtain ⟨b45, g45⟩ : ∃ z, z = T37.heap.size := ⟨_, rfl⟩
      rw [← g45] at A45 D45 st45
      have f46 : Fld Z h45 b45 xs0 "numerator" "J" (.long (0 : Int64)) := D45 (Or.inr (tw22 hw)) (ty := .long) (by decide)
      have f47 : Fld Z h45 b45 xs0 "denominator" "J" (.long (0 : Int64)) := D45 (Or.inr (tw24 hw)) (ty := .long) (by decide)
      refine Go.step (fun _ k => st45 _ (XS.dup X45.here hx rfl (hb hby at_204) rfl rfl (XS.lload X45.here hx rfl (hb hby at_205) rfl (XS.lload X45.here hx rfl (hb hby at_207) rfl k)))) ?_
      show Go p e below s _ _ _ T45 (mkF m 209 #[.val (.long p1), .second, .val (.long p2), .second, .val (.long p3), .second, .val (.long p4), .second, .val (.int p5), .val (.long n), .second, .val (.long d), .second, .val (.double (FP.ddiv (FP.l2d (n / gg_26)) (FP.l2d (d / gg_26)))), .second, .val (.long (n / d)), .second, .val (.int (1 : Int32)), .val (.int ((p5 &&& (2147483647 : Int32)) % (62 : Int32))), .val (.long pw), .second, .val (.double (FP.ddiv (FP.l2d (n / gg_37)) (FP.l2d (pw / gg_37)))), .second, .val (.long dd), .second, .unset, .unset, .unset, .unset] [(.long dd), (.long p3), (.ref b45), (.ref b45)])
      have f48 := (Nat.le_trans f39 E45.1)
      have g49 := Nat.le_trans f39 (Nat.le_of_eq g45.symm)
      obtain ⟨_, _, ⟨T50, L50, k50, n50⟩, -, X50, ⟨Lc50, hQ50, l50, y50, z50⟩, st50⟩ := X45.specialBack hx (y := xm1) rfl hown (mvT hZ (tw3 hw)) (mvT hZ (tw4 hw)) (mvT hZ (tw5 hw)) (by decide) (backOf (W := 1) (rm_frac l Z a0 hw [] b45 p3 dd h45 n0 f48 A45 f46 f47 g49 hM) hZ (tw5 hw) (tw2 hw) (by decide) (by decide)) (g := (mkF m 209 #[.val (.long p1), .second, .val (.long p2), .second, .val (.long p3), .second, .val (.long p4), .second, .val (.int p5), .val (.long n), .second, .val (.long d), .second, .val (.double (FP.ddiv (FP.l2d (n / gg_26)) (FP.l2d (d / gg_26)))), .second, .val (.long (n / d)), .second, .val (.int (1 : Int32)), .val (.int ((p5 &&& (2147483647 : Int32)) % (62 : Int32))), .val (.long pw), .second, .val (.double (FP.ddiv (FP.l2d (n / gg_37)) (FP.l2d (pw / gg_37)))), .second, .val (.long dd), .second, .unset, .unset, .unset, .unset] [(.long dd), (.long p3), (.ref b45), (.ref b45)])) rfl (by rw [hml]; rfl) (Steps.refl _) (a := b45) (argsL := [(.long p3), (.long dd)]) (rest := [(.ref b45)]) (lenOf pd_3 rfl) rfl (by show 2 * 0 + _ ≤ _; exact Nat.le_of_eq rfl) (hb hby at_209) (fun _ _ => ⟨rfl, e45, (by decide : 3 + 0 ≤ _), (by decide : 6 + 0 ≤ _)⟩)
      dsimp only [Pt.U, Pt.locs, Pt.cells, Pt.slots] at X50 l50 y50 z50 st50 hQ50
      subst l50 y50 z50
      obtain ⟨gg_50, rfl, N50q, K50, P50_0, P50_1, P50_2⟩ := hQ50
      have N51 := Fr.app N44 N50q
      refine Go.step (fun _ k => st50.trans k) ?_
      show Go p e below s _ _ _ T50 (mkF m 212 #[.val (.long p1), .second, .val (.long p2), .second, .val (.long p3), .second, .val (.long p4), .second, .val (.int p5), .val (.long n), .second, .val (.long d), .second, .val (.double (FP.ddiv (FP.l2d (n / gg_26)) (FP.l2d (d / gg_26)))), .second, .val (.long (n / d)), .second, .val (.int (1 : Int32)), .val (.int ((p5 &&& (2147483647 : Int32)) % (62 : Int32))), .val (.long pw), .second, .val (.double (FP.ddiv (FP.l2d (n / gg_37)) (FP.l2d (pw / gg_37)))), .second, .val (.long dd), .second, .unset, .unset, .unset, .unset] [(.ref b45)])
      have f52 := (Nat.le_trans f48 K50.1)
      have f54 := (A45.keep K50)
      obtain ⟨cq53, kq53, q53a, q53b, q53c⟩ := isOf hZ rfl f54
      obtain ⟨_, _, ⟨T53, L53, k53, n53⟩, -, X53, ⟨Lc53, hQ53, l53, y53, z53⟩, st53⟩ := X50.virtualBack hx (y := xm0) (z := xm0) hown (mvT hZ (tw25 hw)) (mvT hZ (tw26 hw)) (notFace_of_selects (args := #[]) (mvT hZ (tw28 hw))) (mvT hZ (tw28 hw)) (mvT hZ (tw27 hw)) (by decide) (backOf (W := 0) (rm_dv l Z a0 hw [] b45 (p3 / gg_50) (dd / gg_50) T50.heap n0 f52 P50_1 P50_2 (own_nn4 P50_0 hM)) hZ (tw29 hw) (tw2 hw) (by decide) (by decide)) q53a q53c (g := (mkF m 212 #[.val (.long p1), .second, .val (.long p2), .second, .val (.long p3), .second, .val (.long p4), .second, .val (.int p5), .val (.long n), .second, .val (.long d), .second, .val (.double (FP.ddiv (FP.l2d (n / gg_26)) (FP.l2d (d / gg_26)))), .second, .val (.long (n / d)), .second, .val (.int (1 : Int32)), .val (.int ((p5 &&& (2147483647 : Int32)) % (62 : Int32))), .val (.long pw), .second, .val (.double (FP.ddiv (FP.l2d (n / gg_37)) (FP.l2d (pw / gg_37)))), .second, .val (.long dd), .second, .unset, .unset, .unset, .unset] [(.ref b45)])) rfl (by rw [hml]; rfl) (Steps.refl _) (argsL := []) (rest := []) (lenOf pd_4 rfl) rfl (by show 2 * 0 + _ ≤ _; exact Nat.le_of_eq rfl) (hb hby at_212) (fun _ _ => ⟨rfl, rfl, (by decide : 3 + 0 ≤ _), (by decide : 6 + 0 ≤ _)⟩)
      dsimp only [Pt.U, Pt.locs, Pt.cells, Pt.slots] at X53 l53 y53 z53 st53 hQ53
      subst l53 y53 z53
      obtain ⟨rfl, N53q, eq53⟩ := hQ53
      have N55 := Fr.app N51 N53q
      refine Go.step (fun _ k => st53.trans (XS.dstore X53.here hx rfl (hb hby at_215) rfl (l' := #[.val (.long p1), .second, .val (.long p2), .second, .val (.long p3), .second, .val (.long p4), .second, .val (.int p5), .val (.long n), .second, .val (.long d), .second, .val (.double (FP.ddiv (FP.l2d (n / gg_26)) (FP.l2d (d / gg_26)))), .second, .val (.long (n / d)), .second, .val (.int (1 : Int32)), .val (.int ((p5 &&& (2147483647 : Int32)) % (62 : Int32))), .val (.long pw), .second, .val (.double (FP.ddiv (FP.l2d (n / gg_37)) (FP.l2d (pw / gg_37)))), .second, .val (.long dd), .second, .val (.double (FP.ddiv (FP.l2d (p3 / gg_50)) (FP.l2d (dd / gg_50)))), .second, .unset, .unset]) rfl (XS.iload X53.here hx rfl (hb hby at_217) rfl (XS.ifNo X53.here hx rfl (hb hby at_219) rfl ((if0 _ _).trans (feq (by decide)).1) k)))) ?_
      show Go p e below s _ _ _ T53 (mkF m 222 #[.val (.long p1), .second, .val (.long p2), .second, .val (.long p3), .second, .val (.long p4), .second, .val (.int p5), .val (.long n), .second, .val (.long d), .second, .val (.double (FP.ddiv (FP.l2d (n / gg_26)) (FP.l2d (d / gg_26)))), .second, .val (.long (n / d)), .second, .val (.int (1 : Int32)), .val (.int ((p5 &&& (2147483647 : Int32)) % (62 : Int32))), .val (.long pw), .second, .val (.double (FP.ddiv (FP.l2d (n / gg_37)) (FP.l2d (pw / gg_37)))), .second, .val (.long dd), .second, .val (.double (FP.ddiv (FP.l2d (p3 / gg_50)) (FP.l2d (dd / gg_50)))), .second, .unset, .unset] [])
      rcases Int.lt_trichotomy p3.toInt 0 with hc | hc | hc
      · refine Go.step (fun _ k => XS.lload X53.here hx rfl (hb hby at_222) rfl (XS.lconst X53.here hx rfl (hb hby at_224) (XS.lcmp X53.here hx rfl (hb hby at_225) rfl k))) ?_
        show Go p e below s _ _ _ T53 (mkF m 226 #[.val (.long p1), .second, .val (.long p2), .second, .val (.long p3), .second, .val (.long p4), .second, .val (.int p5), .val (.long n), .second, .val (.long d), .second, .val (.double (FP.ddiv (FP.l2d (n / gg_26)) (FP.l2d (d / gg_26)))), .second, .val (.long (n / d)), .second, .val (.int (1 : Int32)), .val (.int ((p5 &&& (2147483647 : Int32)) % (62 : Int32))), .val (.long pw), .second, .val (.double (FP.ddiv (FP.l2d (n / gg_37)) (FP.l2d (pw / gg_37)))), .second, .val (.long dd), .second, .val (.double (FP.ddiv (FP.l2d (p3 / gg_50)) (FP.l2d (dd / gg_50)))), .second, .unset, .unset] [(.int (lcmpW p3 (0 : Int64)))])
        rw [own_l2 hc]
        refine Go.step (fun _ k => XS.ifYes X53.here hx rfl (pc0 := 226) (pc' := 233) rfl (hb hby at_226) rfl ((if0 _ _).trans (flt (by decide)).2.2.2) (by decide) (by decide) (XS.iconst X53.here hx rfl (hb hby at_233) (XS.dload X53.here hx rfl (hb hby at_234) rfl (XS.dconst0 X53.here hx rfl (hb hby at_236) rfl (XS.dcmpS X53.here hx rfl (hb hby at_237) rfl rfl k))))) ?_
        show Go p e below s _ _ _ T53 (mkF m 238 #[.val (.long p1), .second, .val (.long p2), .second, .val (.long p3), .second, .val (.long p4), .second, .val (.int p5), .val (.long n), .second, .val (.long d), .second, .val (.double (FP.ddiv (FP.l2d (n / gg_26)) (FP.l2d (d / gg_26)))), .second, .val (.long (n / d)), .second, .val (.int (1 : Int32)), .val (.int ((p5 &&& (2147483647 : Int32)) % (62 : Int32))), .val (.long pw), .second, .val (.double (FP.ddiv (FP.l2d (n / gg_37)) (FP.l2d (pw / gg_37)))), .second, .val (.long dd), .second, .val (.double (FP.ddiv (FP.l2d (p3 / gg_50)) (FP.l2d (dd / gg_50)))), .second, .unset, .unset] [(.int (cmpValue (FP.dcmp (FP.ddiv (FP.l2d (p3 / gg_50)) (FP.l2d (dd / gg_50))) FP.dconst0) .l)), (.int (0 : Int32))])
        rw [own_s2 .l P50_0 hM hc]
        refine Go.step (fun _ k => XS.ifYes X53.here hx rfl (pc0 := 238) (pc' := 245) rfl (hb hby at_238) rfl ((if0 _ _).trans (flt (by decide)).2.2.2) (by decide) (by decide) (XS.iconst X53.here hx rfl (hb hby at_245) (XS.icmpNo X53.here hx rfl (hb hby at_246) rfl (teq (by decide)).2 (XS.lload X53.here hx rfl (hb hby at_249) rfl (XS.lconst X53.here hx rfl (hb hby at_251) (XS.lcmp X53.here hx rfl (hb hby at_252) rfl k)))))) ?_
        show Go p e below s _ _ _ T53 (mkF m 253 #[.val (.long p1), .second, .val (.long p2), .second, .val (.long p3), .second, .val (.long p4), .second, .val (.int p5), .val (.long n), .second, .val (.long d), .second, .val (.double (FP.ddiv (FP.l2d (n / gg_26)) (FP.l2d (d / gg_26)))), .second, .val (.long (n / d)), .second, .val (.int (1 : Int32)), .val (.int ((p5 &&& (2147483647 : Int32)) % (62 : Int32))), .val (.long pw), .second, .val (.double (FP.ddiv (FP.l2d (n / gg_37)) (FP.l2d (pw / gg_37)))), .second, .val (.long dd), .second, .val (.double (FP.ddiv (FP.l2d (p3 / gg_50)) (FP.l2d (dd / gg_50)))), .second, .unset, .unset] [(.int (lcmpW p3 (0 : Int64)))])
        rw [own_l2 hc]
        refine Go.step (fun _ k => XS.ifYes X53.here hx rfl (pc0 := 253) (pc' := 260) rfl (hb hby at_253) rfl ((if0 _ _).trans (feq (by decide)).2) (by decide) (by decide) (XS.iconst X53.here hx rfl (hb hby at_260) (XS.dload X53.here hx rfl (hb hby at_261) rfl (XS.dconst0 X53.here hx rfl (hb hby at_263) rfl (XS.dcmpS X53.here hx rfl (hb hby at_264) rfl rfl k))))) ?_
        show Go p e below s _ _ _ T53 (mkF m 265 #[.val (.long p1), .second, .val (.long p2), .second, .val (.long p3), .second, .val (.long p4), .second, .val (.int p5), .val (.long n), .second, .val (.long d), .second, .val (.double (FP.ddiv (FP.l2d (n / gg_26)) (FP.l2d (d / gg_26)))), .second, .val (.long (n / d)), .second, .val (.int (1 : Int32)), .val (.int ((p5 &&& (2147483647 : Int32)) % (62 : Int32))), .val (.long pw), .second, .val (.double (FP.ddiv (FP.l2d (n / gg_37)) (FP.l2d (pw / gg_37)))), .second, .val (.long dd), .second, .val (.double (FP.ddiv (FP.l2d (p3 / gg_50)) (FP.l2d (dd / gg_50)))), .second, .unset, .unset] [(.int (cmpValue (FP.dcmp (FP.ddiv (FP.l2d (p3 / gg_50)) (FP.l2d (dd / gg_50))) FP.dconst0) .l)), (.int (0 : Int32))])
        rw [own_s2 .l P50_0 hM hc]
        refine Go.step (fun _ k => XS.ifYes X53.here hx rfl (pc0 := 265) (pc' := 272) rfl (hb hby at_265) rfl ((if0 _ _).trans (feq (by decide)).2) (by decide) (by decide) (XS.iconst X53.here hx rfl (hb hby at_272) (XS.icmpNo X53.here hx rfl (hb hby at_273) rfl (teq (by decide)).2 (XS.lload X53.here hx rfl (hb hby at_276) rfl (XS.lconst X53.here hx rfl (hb hby at_278) (XS.lcmp X53.here hx rfl (hb hby at_279) rfl k)))))) ?_
        show Go p e below s _ _ _ T53 (mkF m 280 #[.val (.long p1), .second, .val (.long p2), .second, .val (.long p3), .second, .val (.long p4), .second, .val (.int p5), .val (.long n), .second, .val (.long d), .second, .val (.double (FP.ddiv (FP.l2d (n / gg_26)) (FP.l2d (d / gg_26)))), .second, .val (.long (n / d)), .second, .val (.int (1 : Int32)), .val (.int ((p5 &&& (2147483647 : Int32)) % (62 : Int32))), .val (.long pw), .second, .val (.double (FP.ddiv (FP.l2d (n / gg_37)) (FP.l2d (pw / gg_37)))), .second, .val (.long dd), .second, .val (.double (FP.ddiv (FP.l2d (p3 / gg_50)) (FP.l2d (dd / gg_50)))), .second, .unset, .unset] [(.int (lcmpW p3 (0 : Int64)))])
        rw [own_l2 hc]
        refine Go.step (fun _ k => XS.ifNo X53.here hx rfl (hb hby at_280) rfl ((if0 _ _).trans (tlt (by decide)).2.1) (XS.iconst X53.here hx rfl (hb hby at_283) (XS.goto X53.here hx rfl (pc0 := 284) (pc' := 288) rfl (hb hby at_284) (by decide) (by decide) (XS.dload X53.here hx rfl (hb hby at_288) rfl (XS.dconst0 X53.here hx rfl (hb hby at_290) rfl (XS.dcmpS X53.here hx rfl (hb hby at_291) rfl rfl k)))))) ?_
        show Go p e below s _ _ _ T53 (mkF m 292 #[.val (.long p1), .second, .val (.long p2), .second, .val (.long p3), .second, .val (.long p4), .second, .val (.int p5), .val (.long n), .second, .val (.long d), .second, .val (.double (FP.ddiv (FP.l2d (n / gg_26)) (FP.l2d (d / gg_26)))), .second, .val (.long (n / d)), .second, .val (.int (1 : Int32)), .val (.int ((p5 &&& (2147483647 : Int32)) % (62 : Int32))), .val (.long pw), .second, .val (.double (FP.ddiv (FP.l2d (n / gg_37)) (FP.l2d (pw / gg_37)))), .second, .val (.long dd), .second, .val (.double (FP.ddiv (FP.l2d (p3 / gg_50)) (FP.l2d (dd / gg_50)))), .second, .unset, .unset] [(.int (cmpValue (FP.dcmp (FP.ddiv (FP.l2d (p3 / gg_50)) (FP.l2d (dd / gg_50))) FP.dconst0) .g)), (.int (1 : Int32))])
        rw [own_s2 .g P50_0 hM hc]
        refine Go.step (fun _ k => XS.ifNo X53.here hx rfl (hb hby at_292) rfl ((if0 _ _).trans (tlt (by decide)).2.1) (XS.iconst X53.here hx rfl (hb hby at_295) (XS.goto X53.here hx rfl (pc0 := 296) (pc' := 300) rfl (hb hby at_296) (by decide) (by decide) (XS.icmpNo X53.here hx rfl (hb hby at_300) rfl (teq (by decide)).2 (XS.iconst X53.here hx rfl (hb hby at_303) (XS.goto X53.here hx rfl (pc0 := 304) (pc' := 308) rfl (hb hby at_304) (by decide) (by decide) (XS.istore X53.here hx rfl (hb hby at_308) rfl (l' := #[.val (.long p1), .second, .val (.long p2), .second, .val (.long p3), .second, .val (.long p4), .second, .val (.int p5), .val (.long n), .second, .val (.long d), .second, .val (.double (FP.ddiv (FP.l2d (n / gg_26)) (FP.l2d (d / gg_26)))), .second, .val (.long (n / d)), .second, .val (.int (1 : Int32)), .val (.int ((p5 &&& (2147483647 : Int32)) % (62 : Int32))), .val (.long pw), .second, .val (.double (FP.ddiv (FP.l2d (n / gg_37)) (FP.l2d (pw / gg_37)))), .second, .val (.long dd), .second, .val (.double (FP.ddiv (FP.l2d (p3 / gg_50)) (FP.l2d (dd / gg_50)))), .second, .unset, .unset]) rfl k))))))) ?_
        show Go p e below s _ _ _ T53 (mkF m 310 #[.val (.long p1), .second, .val (.long p2), .second, .val (.long p3), .second, .val (.long p4), .second, .val (.int p5), .val (.long n), .second, .val (.long d), .second, .val (.double (FP.ddiv (FP.l2d (n / gg_26)) (FP.l2d (d / gg_26)))), .second, .val (.long (n / d)), .second, .val (.int (1 : Int32)), .val (.int ((p5 &&& (2147483647 : Int32)) % (62 : Int32))), .val (.long pw), .second, .val (.double (FP.ddiv (FP.l2d (n / gg_37)) (FP.l2d (pw / gg_37)))), .second, .val (.long dd), .second, .val (.double (FP.ddiv (FP.l2d (p3 / gg_50)) (FP.l2d (dd / gg_50)))), .second, .unset, .unset] [])
        obtain ⟨T56, h56, X56, e56, E56, A56, D56, -, st56⟩ := newO X53 hx hZ hown (tw0 hw) (tw1 hw) (tw2 hw) eq53 (g := (mkF m 310 #[.val (.long p1), .second, .val (.long p2), .second, .val (.long p3), .second, .val (.long p4), .second, .val (.int p5), .val (.long n), .second, .val (.long d), .second, .val (.double (FP.ddiv (FP.l2d (n / gg_26)) (FP.l2d (d / gg_26)))), .second, .val (.long (n / d)), .second, .val (.int (1 : Int32)), .val (.int ((p5 &&& (2147483647 : Int32)) % (62 : Int32))), .val (.long pw), .second, .val (.double (FP.ddiv (FP.l2d (n / gg_37)) (FP.l2d (pw / gg_37)))), .second, .val (.long dd), .second, .val (.double (FP.ddiv (FP.l2d (p3 / gg_50)) (FP.l2d (dd / gg_50)))), .second, .unset, .unset] [])) rfl (hb hby at_310) (by decide) (by decide)
        obtain ⟨b56, g56⟩ : ∃ z, z = T50.heap.size := ⟨_, rfl⟩
        rw [← g56] at A56 D56 st56
        have f57 : Fld Z h56 b56 xs0 "numerator" "J" (.long (0 : Int64)) := D56 (Or.inr (tw22 hw)) (ty := .long) (by decide)
        have f58 : Fld Z h56 b56 xs0 "denominator" "J" (.long (0 : Int64)) := D56 (Or.inr (tw24 hw)) (ty := .long) (by decide)
        refine Go.step (fun _ k => st56 _ (XS.dup X56.here hx rfl (hb hby at_313) rfl rfl (XS.lload X56.here hx rfl (hb hby at_314) rfl (XS.lconst X56.here hx rfl (hb hby at_316) k)))) ?_
        show Go p e below s _ _ _ T56 (mkF m 317 #[.val (.long p1), .second, .val (.long p2), .second, .val (.long p3), .second, .val (.long p4), .second, .val (.int p5), .val (.long n), .second, .val (.long d), .second, .val (.double (FP.ddiv (FP.l2d (n / gg_26)) (FP.l2d (d / gg_26)))), .second, .val (.long (n / d)), .second, .val (.int (1 : Int32)), .val (.int ((p5 &&& (2147483647 : Int32)) % (62 : Int32))), .val (.long pw), .second, .val (.double (FP.ddiv (FP.l2d (n / gg_37)) (FP.l2d (pw / gg_37)))), .second, .val (.long dd), .second, .val (.double (FP.ddiv (FP.l2d (p3 / gg_50)) (FP.l2d (dd / gg_50)))), .second, .unset, .unset] [(.long (1 : Int64)), (.long p3), (.ref b56), (.ref b56)])
        have f59 := (Nat.le_trans f52 E56.1)
        have g60 := Nat.le_trans f52 (Nat.le_of_eq g56.symm)
        obtain ⟨_, _, ⟨T61, L61, k61, n61⟩, -, X61, ⟨Lc61, hQ61, l61, y61, z61⟩, st61⟩ := X56.specialBack hx (y := xm1) rfl hown (mvT hZ (tw3 hw)) (mvT hZ (tw4 hw)) (mvT hZ (tw5 hw)) (by decide) (backOf (W := 1) (rm_frac l Z a0 hw [] b56 p3 (1 : Int64) h56 n0 f59 A56 f57 f58 g60 (by decide : 0 < (1 : Int64).toInt)) hZ (tw5 hw) (tw2 hw) (by decide) (by decide)) (g := (mkF m 317 #[.val (.long p1), .second, .val (.long p2), .second, .val (.long p3), .second, .val (.long p4), .second, .val (.int p5), .val (.long n), .second, .val (.long d), .second, .val (.double (FP.ddiv (FP.l2d (n / gg_26)) (FP.l2d (d / gg_26)))), .second, .val (.long (n / d)), .second, .val (.int (1 : Int32)), .val (.int ((p5 &&& (2147483647 : Int32)) % (62 : Int32))), .val (.long pw), .second, .val (.double (FP.ddiv (FP.l2d (n / gg_37)) (FP.l2d (pw / gg_37)))), .second, .val (.long dd), .second, .val (.double (FP.ddiv (FP.l2d (p3 / gg_50)) (FP.l2d (dd / gg_50)))), .second, .unset, .unset] [(.long (1 : Int64)), (.long p3), (.ref b56), (.ref b56)])) rfl (by rw [hml]; rfl) (Steps.refl _) (a := b56) (argsL := [(.long p3), (.long (1 : Int64))]) (rest := [(.ref b56)]) (lenOf pd_3 rfl) rfl (by show 2 * 0 + _ ≤ _; exact Nat.le_of_eq rfl) (hb hby at_317) (fun _ _ => ⟨rfl, e56, (by decide : 4 + 0 ≤ _), (by decide : 8 + 0 ≤ _)⟩)
        dsimp only [Pt.U, Pt.locs, Pt.cells, Pt.slots] at X61 l61 y61 z61 st61 hQ61
        subst l61 y61 z61
        obtain ⟨gg_61, rfl, N61q, K61, P61_0, P61_1, P61_2⟩ := hQ61
        have N62 := Fr.app N55 N61q
        refine Go.step (fun _ k => st61.trans k) ?_
        show Go p e below s _ _ _ T61 (mkF m 320 #[.val (.long p1), .second, .val (.long p2), .second, .val (.long p3), .second, .val (.long p4), .second, .val (.int p5), .val (.long n), .second, .val (.long d), .second, .val (.double (FP.ddiv (FP.l2d (n / gg_26)) (FP.l2d (d / gg_26)))), .second, .val (.long (n / d)), .second, .val (.int (1 : Int32)), .val (.int ((p5 &&& (2147483647 : Int32)) % (62 : Int32))), .val (.long pw), .second, .val (.double (FP.ddiv (FP.l2d (n / gg_37)) (FP.l2d (pw / gg_37)))), .second, .val (.long dd), .second, .val (.double (FP.ddiv (FP.l2d (p3 / gg_50)) (FP.l2d (dd / gg_50)))), .second, .unset, .unset] [(.ref b56)])
        have f63 := (Nat.le_trans f59 K61.1)
        have f65 := (A56.keep K61)
        obtain ⟨cq64, kq64, q64a, q64b, q64c⟩ := isOf hZ rfl f65
        obtain ⟨_, _, ⟨T64, L64, k64, n64⟩, -, X64, ⟨Lc64, hQ64, l64, y64, z64⟩, st64⟩ := X61.virtualBack hx (y := xm0) (z := xm0) hown (mvT hZ (tw25 hw)) (mvT hZ (tw26 hw)) (notFace_of_selects (args := #[]) (mvT hZ (tw28 hw))) (mvT hZ (tw28 hw)) (mvT hZ (tw27 hw)) (by decide) (backOf (W := 0) (rm_dv l Z a0 hw [] b56 (p3 / gg_61) ((1 : Int64) / gg_61) T61.heap n0 f63 P61_1 P61_2 (own_nn5 P61_0)) hZ (tw29 hw) (tw2 hw) (by decide) (by decide)) q64a q64c (g := (mkF m 320 #[.val (.long p1), .second, .val (.long p2), .second, .val (.long p3), .second, .val (.long p4), .second, .val (.int p5), .val (.long n), .second, .val (.long d), .second, .val (.double (FP.ddiv (FP.l2d (n / gg_26)) (FP.l2d (d / gg_26)))), .second, .val (.long (n / d)), .second, .val (.int (1 : Int32)), .val (.int ((p5 &&& (2147483647 : Int32)) % (62 : Int32))), .val (.long pw), .second, .val (.double (FP.ddiv (FP.l2d (n / gg_37)) (FP.l2d (pw / gg_37)))), .second, .val (.long dd), .second, .val (.double (FP.ddiv (FP.l2d (p3 / gg_50)) (FP.l2d (dd / gg_50)))), .second, .unset, .unset] [(.ref b56)])) rfl (by rw [hml]; rfl) (Steps.refl _) (argsL := []) (rest := []) (lenOf pd_4 rfl) rfl (by show 2 * 0 + _ ≤ _; exact Nat.le_of_eq rfl) (hb hby at_320) (fun _ _ => ⟨rfl, rfl, (by decide : 4 + 0 ≤ _), (by decide : 8 + 0 ≤ _)⟩)
        dsimp only [Pt.U, Pt.locs, Pt.cells, Pt.slots] at X64 l64 y64 z64 st64 hQ64
        subst l64 y64 z64
        obtain ⟨rfl, N64q, eq64⟩ := hQ64
        have N66 := Fr.app N62 N64q
        refine Go.step (fun _ k => st64.trans (XS.dstore X64.here hx rfl (hb hby at_323) rfl (l' := #[.val (.long p1), .second, .val (.long p2), .second, .val (.long p3), .second, .val (.long p4), .second, .val (.int p5), .val (.long n), .second, .val (.long d), .second, .val (.double (FP.ddiv (FP.l2d (n / gg_26)) (FP.l2d (d / gg_26)))), .second, .val (.long (n / d)), .second, .val (.int (1 : Int32)), .val (.int ((p5 &&& (2147483647 : Int32)) % (62 : Int32))), .val (.long pw), .second, .val (.double (FP.ddiv (FP.l2d (n / gg_37)) (FP.l2d (pw / gg_37)))), .second, .val (.long dd), .second, .val (.double (FP.ddiv (FP.l2d (p3 / gg_50)) (FP.l2d (dd / gg_50)))), .second, .val (.double (FP.ddiv (FP.l2d (p3 / gg_61)) (FP.l2d ((1 : Int64) / gg_61)))), .second]) rfl (XS.iload X64.here hx rfl (hb hby at_325) rfl (XS.ifNo X64.here hx rfl (hb hby at_327) rfl ((if0 _ _).trans (feq (by decide)).1) (XS.dload X64.here hx rfl (hb hby at_330) rfl (XS.lload X64.here hx rfl (hb hby at_332) rfl (XS.l2dS X64.here hx rfl (hb hby at_334) rfl rfl (XS.dcmpS X64.here hx rfl (hb hby at_335) rfl rfl (XS.ifNo X64.here hx rfl (hb hby at_336) rfl ((if0 _ _).trans (teq (own_p7 P61_0)).2) (XS.iconst X64.here hx rfl (hb hby at_339) k)))))))))) ?_
        show Go p e below s _ _ _ T64 (mkF m 340 #[.val (.long p1), .second, .val (.long p2), .second, .val (.long p3), .second, .val (.long p4), .second, .val (.int p5), .val (.long n), .second, .val (.long d), .second, .val (.double (FP.ddiv (FP.l2d (n / gg_26)) (FP.l2d (d / gg_26)))), .second, .val (.long (n / d)), .second, .val (.int (1 : Int32)), .val (.int ((p5 &&& (2147483647 : Int32)) % (62 : Int32))), .val (.long pw), .second, .val (.double (FP.ddiv (FP.l2d (n / gg_37)) (FP.l2d (pw / gg_37)))), .second, .val (.long dd), .second, .val (.double (FP.ddiv (FP.l2d (p3 / gg_50)) (FP.l2d (dd / gg_50)))), .second, .val (.double (FP.ddiv (FP.l2d (p3 / gg_61)) (FP.l2d ((1 : Int64) / gg_61)))), .second] [(.int (1 : Int32))])
        refine Go.step (fun _ k => XS.goto X64.here hx rfl (pc0 := 340) (pc' := 344) rfl (hb hby at_340) (by decide) (by decide) (XS.istore X64.here hx rfl (hb hby at_344) rfl (l' := #[.val (.long p1), .second, .val (.long p2), .second, .val (.long p3), .second, .val (.long p4), .second, .val (.int p5), .val (.long n), .second, .val (.long d), .second, .val (.double (FP.ddiv (FP.l2d (n / gg_26)) (FP.l2d (d / gg_26)))), .second, .val (.long (n / d)), .second, .val (.int (1 : Int32)), .val (.int ((p5 &&& (2147483647 : Int32)) % (62 : Int32))), .val (.long pw), .second, .val (.double (FP.ddiv (FP.l2d (n / gg_37)) (FP.l2d (pw / gg_37)))), .second, .val (.long dd), .second, .val (.double (FP.ddiv (FP.l2d (p3 / gg_50)) (FP.l2d (dd / gg_50)))), .second, .val (.double (FP.ddiv (FP.l2d (p3 / gg_61)) (FP.l2d ((1 : Int64) / gg_61)))), .second]) rfl (XS.iload X64.here hx rfl (hb hby at_346) rfl k))) ?_
        show Go p e below s _ _ _ T64 (mkF m 348 #[.val (.long p1), .second, .val (.long p2), .second, .val (.long p3), .second, .val (.long p4), .second, .val (.int p5), .val (.long n), .second, .val (.long d), .second, .val (.double (FP.ddiv (FP.l2d (n / gg_26)) (FP.l2d (d / gg_26)))), .second, .val (.long (n / d)), .second, .val (.int (1 : Int32)), .val (.int ((p5 &&& (2147483647 : Int32)) % (62 : Int32))), .val (.long pw), .second, .val (.double (FP.ddiv (FP.l2d (n / gg_37)) (FP.l2d (pw / gg_37)))), .second, .val (.long dd), .second, .val (.double (FP.ddiv (FP.l2d (p3 / gg_50)) (FP.l2d (dd / gg_50)))), .second, .val (.double (FP.ddiv (FP.l2d (p3 / gg_61)) (FP.l2d ((1 : Int64) / gg_61)))), .second] [(.int (1 : Int32))])
        exact Go.retN X64 hx hlk (t := .boolean) Bd.returns (by simp) (hb hby at_348) eq64 ⟨rfl, N66⟩ (by decide) (by decide)
      · refine Go.step (fun _ k => XS.lload X53.here hx rfl (hb hby at_222) rfl (XS.lconst X53.here hx rfl (hb hby at_224) (XS.lcmp X53.here hx rfl (hb hby at_225) rfl k))) ?_
        show Go p e below s _ _ _ T53 (mkF m 226 #[.val (.long p1), .second, .val (.long p2), .second, .val (.long p3), .second, .val (.long p4), .second, .val (.int p5), .val (.long n), .second, .val (.long d), .second, .val (.double (FP.ddiv (FP.l2d (n / gg_26)) (FP.l2d (d / gg_26)))), .second, .val (.long (n / d)), .second, .val (.int (1 : Int32)), .val (.int ((p5 &&& (2147483647 : Int32)) % (62 : Int32))), .val (.long pw), .second, .val (.double (FP.ddiv (FP.l2d (n / gg_37)) (FP.l2d (pw / gg_37)))), .second, .val (.long dd), .second, .val (.double (FP.ddiv (FP.l2d (p3 / gg_50)) (FP.l2d (dd / gg_50)))), .second, .unset, .unset] [(.int (lcmpW p3 (0 : Int64)))])
        rw [own_l0 hc]
        refine Go.step (fun _ k => XS.ifYes X53.here hx rfl (pc0 := 226) (pc' := 233) rfl (hb hby at_226) rfl ((if0 _ _).trans (flt (by decide)).2.2.2) (by decide) (by decide) (XS.iconst X53.here hx rfl (hb hby at_233) (XS.dload X53.here hx rfl (hb hby at_234) rfl (XS.dconst0 X53.here hx rfl (hb hby at_236) rfl (XS.dcmpS X53.here hx rfl (hb hby at_237) rfl rfl k))))) ?_
        show Go p e below s _ _ _ T53 (mkF m 238 #[.val (.long p1), .second, .val (.long p2), .second, .val (.long p3), .second, .val (.long p4), .second, .val (.int p5), .val (.long n), .second, .val (.long d), .second, .val (.double (FP.ddiv (FP.l2d (n / gg_26)) (FP.l2d (d / gg_26)))), .second, .val (.long (n / d)), .second, .val (.int (1 : Int32)), .val (.int ((p5 &&& (2147483647 : Int32)) % (62 : Int32))), .val (.long pw), .second, .val (.double (FP.ddiv (FP.l2d (n / gg_37)) (FP.l2d (pw / gg_37)))), .second, .val (.long dd), .second, .val (.double (FP.ddiv (FP.l2d (p3 / gg_50)) (FP.l2d (dd / gg_50)))), .second, .unset, .unset] [(.int (cmpValue (FP.dcmp (FP.ddiv (FP.l2d (p3 / gg_50)) (FP.l2d (dd / gg_50))) FP.dconst0) .l)), (.int (0 : Int32))])
        rw [own_s0 .l P50_0 hM hc]
        refine Go.step (fun _ k => XS.ifYes X53.here hx rfl (pc0 := 238) (pc' := 245) rfl (hb hby at_238) rfl ((if0 _ _).trans (flt (by decide)).2.2.2) (by decide) (by decide) (XS.iconst X53.here hx rfl (hb hby at_245) (XS.icmpNo X53.here hx rfl (hb hby at_246) rfl (teq (by decide)).2 (XS.lload X53.here hx rfl (hb hby at_249) rfl (XS.lconst X53.here hx rfl (hb hby at_251) (XS.lcmp X53.here hx rfl (hb hby at_252) rfl k)))))) ?_
        show Go p e below s _ _ _ T53 (mkF m 253 #[.val (.long p1), .second, .val (.long p2), .second, .val (.long p3), .second, .val (.long p4), .second, .val (.int p5), .val (.long n), .second, .val (.long d), .second, .val (.double (FP.ddiv (FP.l2d (n / gg_26)) (FP.l2d (d / gg_26)))), .second, .val (.long (n / d)), .second, .val (.int (1 : Int32)), .val (.int ((p5 &&& (2147483647 : Int32)) % (62 : Int32))), .val (.long pw), .second, .val (.double (FP.ddiv (FP.l2d (n / gg_37)) (FP.l2d (pw / gg_37)))), .second, .val (.long dd), .second, .val (.double (FP.ddiv (FP.l2d (p3 / gg_50)) (FP.l2d (dd / gg_50)))), .second, .unset, .unset] [(.int (lcmpW p3 (0 : Int64)))])
        rw [own_l0 hc]
        refine Go.step (fun _ k => XS.ifNo X53.here hx rfl (hb hby at_253) rfl ((if0 _ _).trans (teq (by decide)).2) (XS.iconst X53.here hx rfl (hb hby at_256) (XS.goto X53.here hx rfl (pc0 := 257) (pc' := 261) rfl (hb hby at_257) (by decide) (by decide) (XS.dload X53.here hx rfl (hb hby at_261) rfl (XS.dconst0 X53.here hx rfl (hb hby at_263) rfl (XS.dcmpS X53.here hx rfl (hb hby at_264) rfl rfl k)))))) ?_
        show Go p e below s _ _ _ T53 (mkF m 265 #[.val (.long p1), .second, .val (.long p2), .second, .val (.long p3), .second, .val (.long p4), .second, .val (.int p5), .val (.long n), .second, .val (.long d), .second, .val (.double (FP.ddiv (FP.l2d (n / gg_26)) (FP.l2d (d / gg_26)))), .second, .val (.long (n / d)), .second, .val (.int (1 : Int32)), .val (.int ((p5 &&& (2147483647 : Int32)) % (62 : Int32))), .val (.long pw), .second, .val (.double (FP.ddiv (FP.l2d (n / gg_37)) (FP.l2d (pw / gg_37)))), .second, .val (.long dd), .second, .val (.double (FP.ddiv (FP.l2d (p3 / gg_50)) (FP.l2d (dd / gg_50)))), .second, .unset, .unset] [(.int (cmpValue (FP.dcmp (FP.ddiv (FP.l2d (p3 / gg_50)) (FP.l2d (dd / gg_50))) FP.dconst0) .l)), (.int (1 : Int32))])
        rw [own_s0 .l P50_0 hM hc]
        refine Go.step (fun _ k => XS.ifNo X53.here hx rfl (hb hby at_265) rfl ((if0 _ _).trans (teq (by decide)).2) (XS.iconst X53.here hx rfl (hb hby at_268) (XS.goto X53.here hx rfl (pc0 := 269) (pc' := 273) rfl (hb hby at_269) (by decide) (by decide) (XS.icmpNo X53.here hx rfl (hb hby at_273) rfl (teq (by decide)).2 (XS.lload X53.here hx rfl (hb hby at_276) rfl (XS.lconst X53.here hx rfl (hb hby at_278) (XS.lcmp X53.here hx rfl (hb hby at_279) rfl k))))))) ?_
        show Go p e below s _ _ _ T53 (mkF m 280 #[.val (.long p1), .second, .val (.long p2), .second, .val (.long p3), .second, .val (.long p4), .second, .val (.int p5), .val (.long n), .second, .val (.long d), .second, .val (.double (FP.ddiv (FP.l2d (n / gg_26)) (FP.l2d (d / gg_26)))), .second, .val (.long (n / d)), .second, .val (.int (1 : Int32)), .val (.int ((p5 &&& (2147483647 : Int32)) % (62 : Int32))), .val (.long pw), .second, .val (.double (FP.ddiv (FP.l2d (n / gg_37)) (FP.l2d (pw / gg_37)))), .second, .val (.long dd), .second, .val (.double (FP.ddiv (FP.l2d (p3 / gg_50)) (FP.l2d (dd / gg_50)))), .second, .unset, .unset] [(.int (lcmpW p3 (0 : Int64)))])
        rw [own_l0 hc]
        refine Go.step (fun _ k => XS.ifYes X53.here hx rfl (pc0 := 280) (pc' := 287) rfl (hb hby at_280) rfl ((if0 _ _).trans (flt (by decide)).2.1) (by decide) (by decide) (XS.iconst X53.here hx rfl (hb hby at_287) (XS.dload X53.here hx rfl (hb hby at_288) rfl (XS.dconst0 X53.here hx rfl (hb hby at_290) rfl (XS.dcmpS X53.here hx rfl (hb hby at_291) rfl rfl k))))) ?_
        show Go p e below s _ _ _ T53 (mkF m 292 #[.val (.long p1), .second, .val (.long p2), .second, .val (.long p3), .second, .val (.long p4), .second, .val (.int p5), .val (.long n), .second, .val (.long d), .second, .val (.double (FP.ddiv (FP.l2d (n / gg_26)) (FP.l2d (d / gg_26)))), .second, .val (.long (n / d)), .second, .val (.int (1 : Int32)), .val (.int ((p5 &&& (2147483647 : Int32)) % (62 : Int32))), .val (.long pw), .second, .val (.double (FP.ddiv (FP.l2d (n / gg_37)) (FP.l2d (pw / gg_37)))), .second, .val (.long dd), .second, .val (.double (FP.ddiv (FP.l2d (p3 / gg_50)) (FP.l2d (dd / gg_50)))), .second, .unset, .unset] [(.int (cmpValue (FP.dcmp (FP.ddiv (FP.l2d (p3 / gg_50)) (FP.l2d (dd / gg_50))) FP.dconst0) .g)), (.int (0 : Int32))])
        rw [own_s0 .g P50_0 hM hc]
        refine Go.step (fun _ k => XS.ifYes X53.here hx rfl (pc0 := 292) (pc' := 299) rfl (hb hby at_292) rfl ((if0 _ _).trans (flt (by decide)).2.1) (by decide) (by decide) (XS.iconst X53.here hx rfl (hb hby at_299) (XS.icmpNo X53.here hx rfl (hb hby at_300) rfl (teq (by decide)).2 (XS.iconst X53.here hx rfl (hb hby at_303) (XS.goto X53.here hx rfl (pc0 := 304) (pc' := 308) rfl (hb hby at_304) (by decide) (by decide) (XS.istore X53.here hx rfl (hb hby at_308) rfl (l' := #[.val (.long p1), .second, .val (.long p2), .second, .val (.long p3), .second, .val (.long p4), .second, .val (.int p5), .val (.long n), .second, .val (.long d), .second, .val (.double (FP.ddiv (FP.l2d (n / gg_26)) (FP.l2d (d / gg_26)))), .second, .val (.long (n / d)), .second, .val (.int (1 : Int32)), .val (.int ((p5 &&& (2147483647 : Int32)) % (62 : Int32))), .val (.long pw), .second, .val (.double (FP.ddiv (FP.l2d (n / gg_37)) (FP.l2d (pw / gg_37)))), .second, .val (.long dd), .second, .val (.double (FP.ddiv (FP.l2d (p3 / gg_50)) (FP.l2d (dd / gg_50)))), .second, .unset, .unset]) rfl k)))))) ?_
        show Go p e below s _ _ _ T53 (mkF m 310 #[.val (.long p1), .second, .val (.long p2), .second, .val (.long p3), .second, .val (.long p4), .second, .val (.int p5), .val (.long n), .second, .val (.long d), .second, .val (.double (FP.ddiv (FP.l2d (n / gg_26)) (FP.l2d (d / gg_26)))), .second, .val (.long (n / d)), .second, .val (.int (1 : Int32)), .val (.int ((p5 &&& (2147483647 : Int32)) % (62 : Int32))), .val (.long pw), .second, .val (.double (FP.ddiv (FP.l2d (n / gg_37)) (FP.l2d (pw / gg_37)))), .second, .val (.long dd), .second, .val (.double (FP.ddiv (FP.l2d (p3 / gg_50)) (FP.l2d (dd / gg_50)))), .second, .unset, .unset] [])
        obtain ⟨T67, h67, X67, e67, E67, A67, D67, -, st67⟩ := newO X53 hx hZ hown (tw0 hw) (tw1 hw) (tw2 hw) eq53 (g := (mkF m 310 #[.val (.long p1), .second, .val (.long p2), .second, .val (.long p3), .second, .val (.long p4), .second, .val (.int p5), .val (.long n), .second, .val (.long d), .second, .val (.double (FP.ddiv (FP.l2d (n / gg_26)) (FP.l2d (d / gg_26)))), .second, .val (.long (n / d)), .second, .val (.int (1 : Int32)), .val (.int ((p5 &&& (2147483647 : Int32)) % (62 : Int32))), .val (.long pw), .second, .val (.double (FP.ddiv (FP.l2d (n / gg_37)) (FP.l2d (pw / gg_37)))), .second, .val (.long dd), .second, .val (.double (FP.ddiv (FP.l2d (p3 / gg_50)) (FP.l2d (dd / gg_50)))), .second, .unset, .unset] [])) rfl (hb hby at_310) (by decide) (by decide)
        obtain ⟨b67, g67⟩ : ∃ z, z = T50.heap.size := ⟨_, rfl⟩
        rw [← g67] at A67 D67 st67
        have f68 : Fld Z h67 b67 xs0 "numerator" "J" (.long (0 : Int64)) := D67 (Or.inr (tw22 hw)) (ty := .long) (by decide)
        have f69 : Fld Z h67 b67 xs0 "denominator" "J" (.long (0 : Int64)) := D67 (Or.inr (tw24 hw)) (ty := .long) (by decide)
        refine Go.step (fun _ k => st67 _ (XS.dup X67.here hx rfl (hb hby at_313) rfl rfl (XS.lload X67.here hx rfl (hb hby at_314) rfl (XS.lconst X67.here hx rfl (hb hby at_316) k)))) ?_
        show Go p e below s _ _ _ T67 (mkF m 317 #[.val (.long p1), .second, .val (.long p2), .second, .val (.long p3), .second, .val (.long p4), .second, .val (.int p5), .val (.long n), .second, .val (.long d), .second, .val (.double (FP.ddiv (FP.l2d (n / gg_26)) (FP.l2d (d / gg_26)))), .second, .val (.long (n / d)), .second, .val (.int (1 : Int32)), .val (.int ((p5 &&& (2147483647 : Int32)) % (62 : Int32))), .val (.long pw), .second, .val (.double (FP.ddiv (FP.l2d (n / gg_37)) (FP.l2d (pw / gg_37)))), .second, .val (.long dd), .second, .val (.double (FP.ddiv (FP.l2d (p3 / gg_50)) (FP.l2d (dd / gg_50)))), .second, .unset, .unset] [(.long (1 : Int64)), (.long p3), (.ref b67), (.ref b67)])
        have f70 := (Nat.le_trans f52 E67.1)
        have g71 := Nat.le_trans f52 (Nat.le_of_eq g67.symm)
        obtain ⟨_, _, ⟨T72, L72, k72, n72⟩, -, X72, ⟨Lc72, hQ72, l72, y72, z72⟩, st72⟩ := X67.specialBack hx (y := xm1) rfl hown (mvT hZ (tw3 hw)) (mvT hZ (tw4 hw)) (mvT hZ (tw5 hw)) (by decide) (backOf (W := 1) (rm_frac l Z a0 hw [] b67 p3 (1 : Int64) h67 n0 f70 A67 f68 f69 g71 (by decide : 0 < (1 : Int64).toInt)) hZ (tw5 hw) (tw2 hw) (by decide) (by decide)) (g := (mkF m 317 #[.val (.long p1), .second, .val (.long p2), .second, .val (.long p3), .second, .val (.long p4), .second, .val (.int p5), .val (.long n), .second, .val (.long d), .second, .val (.double (FP.ddiv (FP.l2d (n / gg_26)) (FP.l2d (d / gg_26)))), .second, .val (.long (n / d)), .second, .val (.int (1 : Int32)), .val (.int ((p5 &&& (2147483647 : Int32)) % (62 : Int32))), .val (.long pw), .second, .val (.double (FP.ddiv (FP.l2d (n / gg_37)) (FP.l2d (pw / gg_37)))), .second, .val (.long dd), .second, .val (.double (FP.ddiv (FP.l2d (p3 / gg_50)) (FP.l2d (dd / gg_50)))), .second, .unset, .unset] [(.long (1 : Int64)), (.long p3), (.ref b67), (.ref b67)])) rfl (by rw [hml]; rfl) (Steps.refl _) (a := b67) (argsL := [(.long p3), (.long (1 : Int64))]) (rest := [(.ref b67)]) (lenOf pd_3 rfl) rfl (by show 2 * 0 + _ ≤ _; exact Nat.le_of_eq rfl) (hb hby at_317) (fun _ _ => ⟨rfl, e67, (by decide : 4 + 0 ≤ _), (by decide : 8 + 0 ≤ _)⟩)
        dsimp only [Pt.U, Pt.locs, Pt.cells, Pt.slots] at X72 l72 y72 z72 st72 hQ72
        subst l72 y72 z72
        obtain ⟨gg_72, rfl, N72q, K72, P72_0, P72_1, P72_2⟩ := hQ72
        have N73 := Fr.app N55 N72q
        refine Go.step (fun _ k => st72.trans k) ?_
        show Go p e below s _ _ _ T72 (mkF m 320 #[.val (.long p1), .second, .val (.long p2), .second, .val (.long p3), .second, .val (.long p4), .second, .val (.int p5), .val (.long n), .second, .val (.long d), .second, .val (.double (FP.ddiv (FP.l2d (n / gg_26)) (FP.l2d (d / gg_26)))), .second, .val (.long (n / d)), .second, .val (.int (1 : Int32)), .val (.int ((p5 &&& (2147483647 : Int32)) % (62 : Int32))), .val (.long pw), .second, .val (.double (FP.ddiv (FP.l2d (n / gg_37)) (FP.l2d (pw / gg_37)))), .second, .val (.long dd), .second, .val (.double (FP.ddiv (FP.l2d (p3 / gg_50)) (FP.l2d (dd / gg_50)))), .second, .unset, .unset] [(.ref b67)])
        have f74 := (Nat.le_trans f70 K72.1)
        have f76 := (A67.keep K72)
        obtain ⟨cq75, kq75, q75a, q75b, q75c⟩ := isOf hZ rfl f76
        obtain ⟨_, _, ⟨T75, L75, k75, n75⟩, -, X75, ⟨Lc75, hQ75, l75, y75, z75⟩, st75⟩ := X72.virtualBack hx (y := xm0) (z := xm0) hown (mvT hZ (tw25 hw)) (mvT hZ (tw26 hw)) (notFace_of_selects (args := #[]) (mvT hZ (tw28 hw))) (mvT hZ (tw28 hw)) (mvT hZ (tw27 hw)) (by decide) (backOf (W := 0) (rm_dv l Z a0 hw [] b67 (p3 / gg_72) ((1 : Int64) / gg_72) T72.heap n0 f74 P72_1 P72_2 (own_nn5 P72_0)) hZ (tw29 hw) (tw2 hw) (by decide) (by decide)) q75a q75c (g := (mkF m 320 #[.val (.long p1), .second, .val (.long p2), .second, .val (.long p3), .second, .val (.long p4), .second, .val (.int p5), .val (.long n), .second, .val (.long d), .second, .val (.double (FP.ddiv (FP.l2d (n / gg_26)) (FP.l2d (d / gg_26)))), .second, .val (.long (n / d)), .second, .val (.int (1 : Int32)), .val (.int ((p5 &&& (2147483647 : Int32)) % (62 : Int32))), .val (.long pw), .second, .val (.double (FP.ddiv (FP.l2d (n / gg_37)) (FP.l2d (pw / gg_37)))), .second, .val (.long dd), .second, .val (.double (FP.ddiv (FP.l2d (p3 / gg_50)) (FP.l2d (dd / gg_50)))), .second, .unset, .unset] [(.ref b67)])) rfl (by rw [hml]; rfl) (Steps.refl _) (argsL := []) (rest := []) (lenOf pd_4 rfl) rfl (by show 2 * 0 + _ ≤ _; exact Nat.le_of_eq rfl) (hb hby at_320) (fun _ _ => ⟨rfl, rfl, (by decide : 4 + 0 ≤ _), (by decide : 8 + 0 ≤ _)⟩)
        dsimp only [Pt.U, Pt.locs, Pt.cells, Pt.slots] at X75 l75 y75 z75 st75 hQ75
        subst l75 y75 z75
        obtain ⟨rfl, N75q, eq75⟩ := hQ75
        have N77 := Fr.app N73 N75q
        refine Go.step (fun _ k => st75.trans (XS.dstore X75.here hx rfl (hb hby at_323) rfl (l' := #[.val (.long p1), .second, .val (.long p2), .second, .val (.long p3), .second, .val (.long p4), .second, .val (.int p5), .val (.long n), .second, .val (.long d), .second, .val (.double (FP.ddiv (FP.l2d (n / gg_26)) (FP.l2d (d / gg_26)))), .second, .val (.long (n / d)), .second, .val (.int (1 : Int32)), .val (.int ((p5 &&& (2147483647 : Int32)) % (62 : Int32))), .val (.long pw), .second, .val (.double (FP.ddiv (FP.l2d (n / gg_37)) (FP.l2d (pw / gg_37)))), .second, .val (.long dd), .second, .val (.double (FP.ddiv (FP.l2d (p3 / gg_50)) (FP.l2d (dd / gg_50)))), .second, .val (.double (FP.ddiv (FP.l2d (p3 / gg_72)) (FP.l2d ((1 : Int64) / gg_72)))), .second]) rfl (XS.iload X75.here hx rfl (hb hby at_325) rfl (XS.ifNo X75.here hx rfl (hb hby at_327) rfl ((if0 _ _).trans (feq (by decide)).1) (XS.dload X75.here hx rfl (hb hby at_330) rfl (XS.lload X75.here hx rfl (hb hby at_332) rfl (XS.l2dS X75.here hx rfl (hb hby at_334) rfl rfl (XS.dcmpS X75.here hx rfl (hb hby at_335) rfl rfl (XS.ifNo X75.here hx rfl (hb hby at_336) rfl ((if0 _ _).trans (teq (own_p7 P72_0)).2) (XS.iconst X75.here hx rfl (hb hby at_339) k)))))))))) ?_
        show Go p e below s _ _ _ T75 (mkF m 340 #[.val (.long p1), .second, .val (.long p2), .second, .val (.long p3), .second, .val (.long p4), .second, .val (.int p5), .val (.long n), .second, .val (.long d), .second, .val (.double (FP.ddiv (FP.l2d (n / gg_26)) (FP.l2d (d / gg_26)))), .second, .val (.long (n / d)), .second, .val (.int (1 : Int32)), .val (.int ((p5 &&& (2147483647 : Int32)) % (62 : Int32))), .val (.long pw), .second, .val (.double (FP.ddiv (FP.l2d (n / gg_37)) (FP.l2d (pw / gg_37)))), .second, .val (.long dd), .second, .val (.double (FP.ddiv (FP.l2d (p3 / gg_50)) (FP.l2d (dd / gg_50)))), .second, .val (.double (FP.ddiv (FP.l2d (p3 / gg_72)) (FP.l2d ((1 : Int64) / gg_72)))), .second] [(.int (1 : Int32))])
        refine Go.step (fun _ k => XS.goto X75.here hx rfl (pc0 := 340) (pc' := 344) rfl (hb hby at_340) (by decide) (by decide) (XS.istore X75.here hx rfl (hb hby at_344) rfl (l' := #[.val (.long p1), .second, .val (.long p2), .second, .val (.long p3), .second, .val (.long p4), .second, .val (.int p5), .val (.long n), .second, .val (.long d), .second, .val (.double (FP.ddiv (FP.l2d (n / gg_26)) (FP.l2d (d / gg_26)))), .second, .val (.long (n / d)), .second, .val (.int (1 : Int32)), .val (.int ((p5 &&& (2147483647 : Int32)) % (62 : Int32))), .val (.long pw), .second, .val (.double (FP.ddiv (FP.l2d (n / gg_37)) (FP.l2d (pw / gg_37)))), .second, .val (.long dd), .second, .val (.double (FP.ddiv (FP.l2d (p3 / gg_50)) (FP.l2d (dd / gg_50)))), .second, .val (.double (FP.ddiv (FP.l2d (p3 / gg_72)) (FP.l2d ((1 : Int64) / gg_72)))), .second]) rfl (XS.iload X75.here hx rfl (hb hby at_346) rfl k))) ?_
        show Go p e below s _ _ _ T75 (mkF m 348 #[.val (.long p1), .second, .val (.long p2), .second, .val (.long p3), .second, .val (.long p4), .second, .val (.int p5), .val (.long n), .second, .val (.long d), .second, .val (.double (FP.ddiv (FP.l2d (n / gg_26)) (FP.l2d (d / gg_26)))), .second, .val (.long (n / d)), .second, .val (.int (1 : Int32)), .val (.int ((p5 &&& (2147483647 : Int32)) % (62 : Int32))), .val (.long pw), .second, .val (.double (FP.ddiv (FP.l2d (n / gg_37)) (FP.l2d (pw / gg_37)))), .second, .val (.long dd), .second, .val (.double (FP.ddiv (FP.l2d (p3 / gg_50)) (FP.l2d (dd / gg_50)))), .second, .val (.double (FP.ddiv (FP.l2d (p3 / gg_72)) (FP.l2d ((1 : Int64) / gg_72)))), .second] [(.int (1 : Int32))])
        exact Go.retN X75 hx hlk (t := .boolean) Bd.returns (by simp) (hb hby at_348) eq75 ⟨rfl, N77⟩ (by decide) (by decide)
      · refine Go.step (fun _ k => XS.lload X53.here hx rfl (hb hby at_222) rfl (XS.lconst X53.here hx rfl (hb hby at_224) (XS.lcmp X53.here hx rfl (hb hby at_225) rfl k))) ?_
        show Go p e below s _ _ _ T53 (mkF m 226 #[.val (.long p1), .second, .val (.long p2), .second, .val (.long p3), .second, .val (.long p4), .second, .val (.int p5), .val (.long n), .second, .val (.long d), .second, .val (.double (FP.ddiv (FP.l2d (n / gg_26)) (FP.l2d (d / gg_26)))), .second, .val (.long (n / d)), .second, .val (.int (1 : Int32)), .val (.int ((p5 &&& (2147483647 : Int32)) % (62 : Int32))), .val (.long pw), .second, .val (.double (FP.ddiv (FP.l2d (n / gg_37)) (FP.l2d (pw / gg_37)))), .second, .val (.long dd), .second, .val (.double (FP.ddiv (FP.l2d (p3 / gg_50)) (FP.l2d (dd / gg_50)))), .second, .unset, .unset] [(.int (lcmpW p3 (0 : Int64)))])
        rw [own_l1 hc]
        refine Go.step (fun _ k => XS.ifNo X53.here hx rfl (hb hby at_226) rfl ((if0 _ _).trans (tlt (by decide)).2.2.2) (XS.iconst X53.here hx rfl (hb hby at_229) (XS.goto X53.here hx rfl (pc0 := 230) (pc' := 234) rfl (hb hby at_230) (by decide) (by decide) (XS.dload X53.here hx rfl (hb hby at_234) rfl (XS.dconst0 X53.here hx rfl (hb hby at_236) rfl (XS.dcmpS X53.here hx rfl (hb hby at_237) rfl rfl k)))))) ?_
        show Go p e below s _ _ _ T53 (mkF m 238 #[.val (.long p1), .second, .val (.long p2), .second, .val (.long p3), .second, .val (.long p4), .second, .val (.int p5), .val (.long n), .second, .val (.long d), .second, .val (.double (FP.ddiv (FP.l2d (n / gg_26)) (FP.l2d (d / gg_26)))), .second, .val (.long (n / d)), .second, .val (.int (1 : Int32)), .val (.int ((p5 &&& (2147483647 : Int32)) % (62 : Int32))), .val (.long pw), .second, .val (.double (FP.ddiv (FP.l2d (n / gg_37)) (FP.l2d (pw / gg_37)))), .second, .val (.long dd), .second, .val (.double (FP.ddiv (FP.l2d (p3 / gg_50)) (FP.l2d (dd / gg_50)))), .second, .unset, .unset] [(.int (cmpValue (FP.dcmp (FP.ddiv (FP.l2d (p3 / gg_50)) (FP.l2d (dd / gg_50))) FP.dconst0) .l)), (.int (1 : Int32))])
        rw [own_s1 .l P50_0 hM hc]
        refine Go.step (fun _ k => XS.ifNo X53.here hx rfl (hb hby at_238) rfl ((if0 _ _).trans (tlt (by decide)).2.2.2) (XS.iconst X53.here hx rfl (hb hby at_241) (XS.goto X53.here hx rfl (pc0 := 242) (pc' := 246) rfl (hb hby at_242) (by decide) (by decide) (XS.icmpNo X53.here hx rfl (hb hby at_246) rfl (teq (by decide)).2 (XS.lload X53.here hx rfl (hb hby at_249) rfl (XS.lconst X53.here hx rfl (hb hby at_251) (XS.lcmp X53.here hx rfl (hb hby at_252) rfl k))))))) ?_
        show Go p e below s _ _ _ T53 (mkF m 253 #[.val (.long p1), .second, .val (.long p2), .second, .val (.long p3), .second, .val (.long p4), .second, .val (.int p5), .val (.long n), .second, .val (.long d), .second, .val (.double (FP.ddiv (FP.l2d (n / gg_26)) (FP.l2d (d / gg_26)))), .second, .val (.long (n / d)), .second, .val (.int (1 : Int32)), .val (.int ((p5 &&& (2147483647 : Int32)) % (62 : Int32))), .val (.long pw), .second, .val (.double (FP.ddiv (FP.l2d (n / gg_37)) (FP.l2d (pw / gg_37)))), .second, .val (.long dd), .second, .val (.double (FP.ddiv (FP.l2d (p3 / gg_50)) (FP.l2d (dd / gg_50)))), .second, .unset, .unset] [(.int (lcmpW p3 (0 : Int64)))])
        rw [own_l1 hc]
        refine Go.step (fun _ k => XS.ifYes X53.here hx rfl (pc0 := 253) (pc' := 260) rfl (hb hby at_253) rfl ((if0 _ _).trans (feq (by decide)).2) (by decide) (by decide) (XS.iconst X53.here hx rfl (hb hby at_260) (XS.dload X53.here hx rfl (hb hby at_261) rfl (XS.dconst0 X53.here hx rfl (hb hby at_263) rfl (XS.dcmpS X53.here hx rfl (hb hby at_264) rfl rfl k))))) ?_
        show Go p e below s _ _ _ T53 (mkF m 265 #[.val (.long p1), .second, .val (.long p2), .second, .val (.long p3), .second, .val (.long p4), .second, .val (.int p5), .val (.long n), .second, .val (.long d), .second, .val (.double (FP.ddiv (FP.l2d (n / gg_26)) (FP.l2d (d / gg_26)))), .second, .val (.long (n / d)), .second, .val (.int (1 : Int32)), .val (.int ((p5 &&& (2147483647 : Int32)) % (62 : Int32))), .val (.long pw), .second, .val (.double (FP.ddiv (FP.l2d (n / gg_37)) (FP.l2d (pw / gg_37)))), .second, .val (.long dd), .second, .val (.double (FP.ddiv (FP.l2d (p3 / gg_50)) (FP.l2d (dd / gg_50)))), .second, .unset, .unset] [(.int (cmpValue (FP.dcmp (FP.ddiv (FP.l2d (p3 / gg_50)) (FP.l2d (dd / gg_50))) FP.dconst0) .l)), (.int (0 : Int32))])
        rw [own_s1 .l P50_0 hM hc]
        refine Go.step (fun _ k => XS.ifYes X53.here hx rfl (pc0 := 265) (pc' := 272) rfl (hb hby at_265) rfl ((if0 _ _).trans (feq (by decide)).2) (by decide) (by decide) (XS.iconst X53.here hx rfl (hb hby at_272) (XS.icmpNo X53.here hx rfl (hb hby at_273) rfl (teq (by decide)).2 (XS.lload X53.here hx rfl (hb hby at_276) rfl (XS.lconst X53.here hx rfl (hb hby at_278) (XS.lcmp X53.here hx rfl (hb hby at_279) rfl k)))))) ?_
        show Go p e below s _ _ _ T53 (mkF m 280 #[.val (.long p1), .second, .val (.long p2), .second, .val (.long p3), .second, .val (.long p4), .second, .val (.int p5), .val (.long n), .second, .val (.long d), .second, .val (.double (FP.ddiv (FP.l2d (n / gg_26)) (FP.l2d (d / gg_26)))), .second, .val (.long (n / d)), .second, .val (.int (1 : Int32)), .val (.int ((p5 &&& (2147483647 : Int32)) % (62 : Int32))), .val (.long pw), .second, .val (.double (FP.ddiv (FP.l2d (n / gg_37)) (FP.l2d (pw / gg_37)))), .second, .val (.long dd), .second, .val (.double (FP.ddiv (FP.l2d (p3 / gg_50)) (FP.l2d (dd / gg_50)))), .second, .unset, .unset] [(.int (lcmpW p3 (0 : Int64)))])
        rw [own_l1 hc]
        refine Go.step (fun _ k => XS.ifYes X53.here hx rfl (pc0 := 280) (pc' := 287) rfl (hb hby at_280) rfl ((if0 _ _).trans (flt (by decide)).2.1) (by decide) (by decide) (XS.iconst X53.here hx rfl (hb hby at_287) (XS.dload X53.here hx rfl (hb hby at_288) rfl (XS.dconst0 X53.here hx rfl (hb hby at_290) rfl (XS.dcmpS X53.here hx rfl (hb hby at_291) rfl rfl k))))) ?_
        show Go p e below s _ _ _ T53 (mkF m 292 #[.val (.long p1), .second, .val (.long p2), .second, .val (.long p3), .second, .val (.long p4), .second, .val (.int p5), .val (.long n), .second, .val (.long d), .second, .val (.double (FP.ddiv (FP.l2d (n / gg_26)) (FP.l2d (d / gg_26)))), .second, .val (.long (n / d)), .second, .val (.int (1 : Int32)), .val (.int ((p5 &&& (2147483647 : Int32)) % (62 : Int32))), .val (.long pw), .second, .val (.double (FP.ddiv (FP.l2d (n / gg_37)) (FP.l2d (pw / gg_37)))), .second, .val (.long dd), .second, .val (.double (FP.ddiv (FP.l2d (p3 / gg_50)) (FP.l2d (dd / gg_50)))), .second, .unset, .unset] [(.int (cmpValue (FP.dcmp (FP.ddiv (FP.l2d (p3 / gg_50)) (FP.l2d (dd / gg_50))) FP.dconst0) .g)), (.int (0 : Int32))])
        rw [own_s1 .g P50_0 hM hc]
        refine Go.step (fun _ k => XS.ifYes X53.here hx rfl (pc0 := 292) (pc' := 299) rfl (hb hby at_292) rfl ((if0 _ _).trans (flt (by decide)).2.1) (by decide) (by decide) (XS.iconst X53.here hx rfl (hb hby at_299) (XS.icmpNo X53.here hx rfl (hb hby at_300) rfl (teq (by decide)).2 (XS.iconst X53.here hx rfl (hb hby at_303) (XS.goto X53.here hx rfl (pc0 := 304) (pc' := 308) rfl (hb hby at_304) (by decide) (by decide) (XS.istore X53.here hx rfl (hb hby at_308) rfl (l' := #[.val (.long p1), .second, .val (.long p2), .second, .val (.long p3), .second, .val (.long p4), .second, .val (.int p5), .val (.long n), .second, .val (.long d), .second, .val (.double (FP.ddiv (FP.l2d (n / gg_26)) (FP.l2d (d / gg_26)))), .second, .val (.long (n / d)), .second, .val (.int (1 : Int32)), .val (.int ((p5 &&& (2147483647 : Int32)) % (62 : Int32))), .val (.long pw), .second, .val (.double (FP.ddiv (FP.l2d (n / gg_37)) (FP.l2d (pw / gg_37)))), .second, .val (.long dd), .second, .val (.double (FP.ddiv (FP.l2d (p3 / gg_50)) (FP.l2d (dd / gg_50)))), .second, .unset, .unset]) rfl k)))))) ?_
        show Go p e below s _ _ _ T53 (mkF m 310 #[.val (.long p1), .second, .val (.long p2), .second, .val (.long p3), .second, .val (.long p4), .second, .val (.int p5), .val (.long n), .second, .val (.long d), .second, .val (.double (FP.ddiv (FP.l2d (n / gg_26)) (FP.l2d (d / gg_26)))), .second, .val (.long (n / d)), .second, .val (.int (1 : Int32)), .val (.int ((p5 &&& (2147483647 : Int32)) % (62 : Int32))), .val (.long pw), .second, .val (.double (FP.ddiv (FP.l2d (n / gg_37)) (FP.l2d (pw / gg_37)))), .second, .val (.long dd), .second, .val (.double (FP.ddiv (FP.l2d (p3 / gg_50)) (FP.l2d (dd / gg_50)))), .second, .unset, .unset] [])
        obtain ⟨T78, h78, X78, e78, E78, A78, D78, -, st78⟩ := newO X53 hx hZ hown (tw0 hw) (tw1 hw) (tw2 hw) eq53 (g := (mkF m 310 #[.val (.long p1), .second, .val (.long p2), .second, .val (.long p3), .second, .val (.long p4), .second, .val (.int p5), .val (.long n), .second, .val (.long d), .second, .val (.double (FP.ddiv (FP.l2d (n / gg_26)) (FP.l2d (d / gg_26)))), .second, .val (.long (n / d)), .second, .val (.int (1 : Int32)), .val (.int ((p5 &&& (2147483647 : Int32)) % (62 : Int32))), .val (.long pw), .second, .val (.double (FP.ddiv (FP.l2d (n / gg_37)) (FP.l2d (pw / gg_37)))), .second, .val (.long dd), .second, .val (.double (FP.ddiv (FP.l2d (p3 / gg_50)) (FP.l2d (dd / gg_50)))), .second, .unset, .unset] [])) rfl (hb hby at_310) (by decide) (by decide)
        obtain ⟨b78, g78⟩ : ∃ z, z = T50.heap.size := ⟨_, rfl⟩
        rw [← g78] at A78 D78 st78
        have f79 : Fld Z h78 b78 xs0 "numerator" "J" (.long (0 : Int64)) := D78 (Or.inr (tw22 hw)) (ty := .long) (by decide)
        have f80 : Fld Z h78 b78 xs0 "denominator" "J" (.long (0 : Int64)) := D78 (Or.inr (tw24 hw)) (ty := .long) (by decide)
        refine Go.step (fun _ k => st78 _ (XS.dup X78.here hx rfl (hb hby at_313) rfl rfl (XS.lload X78.here hx rfl (hb hby at_314) rfl (XS.lconst X78.here hx rfl (hb hby at_316) k)))) ?_
        show Go p e below s _ _ _ T78 (mkF m 317 #[.val (.long p1), .second, .val (.long p2), .second, .val (.long p3), .second, .val (.long p4), .second, .val (.int p5), .val (.long n), .second, .val (.long d), .second, .val (.double (FP.ddiv (FP.l2d (n / gg_26)) (FP.l2d (d / gg_26)))), .second, .val (.long (n / d)), .second, .val (.int (1 : Int32)), .val (.int ((p5 &&& (2147483647 : Int32)) % (62 : Int32))), .val (.long pw), .second, .val (.double (FP.ddiv (FP.l2d (n / gg_37)) (FP.l2d (pw / gg_37)))), .second, .val (.long dd), .second, .val (.double (FP.ddiv (FP.l2d (p3 / gg_50)) (FP.l2d (dd / gg_50)))), .second, .unset, .unset] [(.long (1 : Int64)), (.long p3), (.ref b78), (.ref b78)])
        have f81 := (Nat.le_trans f52 E78.1)
        have g82 := Nat.le_trans f52 (Nat.le_of_eq g78.symm)
        obtain ⟨_, _, ⟨T83, L83, k83, n83⟩, -, X83, ⟨Lc83, hQ83, l83, y83, z83⟩, st83⟩ := X78.specialBack hx (y := xm1) rfl hown (mvT hZ (tw3 hw)) (mvT hZ (tw4 hw)) (mvT hZ (tw5 hw)) (by decide) (backOf (W := 1) (rm_frac l Z a0 hw [] b78 p3 (1 : Int64) h78 n0 f81 A78 f79 f80 g82 (by decide : 0 < (1 : Int64).toInt)) hZ (tw5 hw) (tw2 hw) (by decide) (by decide)) (g := (mkF m 317 #[.val (.long p1), .second, .val (.long p2), .second, .val (.long p3), .second, .val (.long p4), .second, .val (.int p5), .val (.long n), .second, .val (.long d), .second, .val (.double (FP.ddiv (FP.l2d (n / gg_26)) (FP.l2d (d / gg_26)))), .second, .val (.long (n / d)), .second, .val (.int (1 : Int32)), .val (.int ((p5 &&& (2147483647 : Int32)) % (62 : Int32))), .val (.long pw), .second, .val (.double (FP.ddiv (FP.l2d (n / gg_37)) (FP.l2d (pw / gg_37)))), .second, .val (.long dd), .second, .val (.double (FP.ddiv (FP.l2d (p3 / gg_50)) (FP.l2d (dd / gg_50)))), .second, .unset, .unset] [(.long (1 : Int64)), (.long p3), (.ref b78), (.ref b78)])) rfl (by rw [hml]; rfl) (Steps.refl _) (a := b78) (argsL := [(.long p3), (.long (1 : Int64))]) (rest := [(.ref b78)]) (lenOf pd_3 rfl) rfl (by show 2 * 0 + _ ≤ _; exact Nat.le_of_eq rfl) (hb hby at_317) (fun _ _ => ⟨rfl, e78, (by decide : 4 + 0 ≤ _), (by decide : 8 + 0 ≤ _)⟩)
        dsimp only [Pt.U, Pt.locs, Pt.cells, Pt.slots] at X83 l83 y83 z83 st83 hQ83
        subst l83 y83 z83
        obtain ⟨gg_83, rfl, N83q, K83, P83_0, P83_1, P83_2⟩ := hQ83
        have N84 := Fr.app N55 N83q
        refine Go.step (fun _ k => st83.trans k) ?_
        show Go p e below s _ _ _ T83 (mkF m 320 #[.val (.long p1), .second, .val (.long p2), .second, .val (.long p3), .second, .val (.long p4), .second, .val (.int p5), .val (.long n), .second, .val (.long d), .second, .val (.double (FP.ddiv (FP.l2d (n / gg_26)) (FP.l2d (d / gg_26)))), .second, .val (.long (n / d)), .second, .val (.int (1 : Int32)), .val (.int ((p5 &&& (2147483647 : Int32)) % (62 : Int32))), .val (.long pw), .second, .val (.double (FP.ddiv (FP.l2d (n / gg_37)) (FP.l2d (pw / gg_37)))), .second, .val (.long dd), .second, .val (.double (FP.ddiv (FP.l2d (p3 / gg_50)) (FP.l2d (dd / gg_50)))), .second, .unset, .unset] [(.ref b78)])
        have f85 := (Nat.le_trans f81 K83.1)
        have f87 := (A78.keep K83)
        obtain ⟨cq86, kq86, q86a, q86b, q86c⟩ := isOf hZ rfl f87
        obtain ⟨_, _, ⟨T86, L86, k86, n86⟩, -, X86, ⟨Lc86, hQ86, l86, y86, z86⟩, st86⟩ := X83.virtualBack hx (y := xm0) (z := xm0) hown (mvT hZ (tw25 hw)) (mvT hZ (tw26 hw)) (notFace_of_selects (args := #[]) (mvT hZ (tw28 hw))) (mvT hZ (tw28 hw)) (mvT hZ (tw27 hw)) (by decide) (backOf (W := 0) (rm_dv l Z a0 hw [] b78 (p3 / gg_83) ((1 : Int64) / gg_83) T83.heap n0 f85 P83_1 P83_2 (own_nn5 P83_0)) hZ (tw29 hw) (tw2 hw) (by decide) (by decide)) q86a q86c (g := (mkF m 320 #[.val (.long p1), .second, .val (.long p2), .second, .val (.long p3), .second, .val (.long p4), .second, .val (.int p5), .val (.long n), .second, .val (.long d), .second, .val (.double (FP.ddiv (FP.l2d (n / gg_26)) (FP.l2d (d / gg_26)))), .second, .val (.long (n / d)), .second, .val (.int (1 : Int32)), .val (.int ((p5 &&& (2147483647 : Int32)) % (62 : Int32))), .val (.long pw), .second, .val (.double (FP.ddiv (FP.l2d (n / gg_37)) (FP.l2d (pw / gg_37)))), .second, .val (.long dd), .second, .val (.double (FP.ddiv (FP.l2d (p3 / gg_50)) (FP.l2d (dd / gg_50)))), .second, .unset, .unset] [(.ref b78)])) rfl (by rw [hml]; rfl) (Steps.refl _) (argsL := []) (rest := []) (lenOf pd_4 rfl) rfl (by show 2 * 0 + _ ≤ _; exact Nat.le_of_eq rfl) (hb hby at_320) (fun _ _ => ⟨rfl, rfl, (by decide : 4 + 0 ≤ _), (by decide : 8 + 0 ≤ _)⟩)
        dsimp only [Pt.U, Pt.locs, Pt.cells, Pt.slots] at X86 l86 y86 z86 st86 hQ86
        subst l86 y86 z86
        obtain ⟨rfl, N86q, eq86⟩ := hQ86
        have N88 := Fr.app N84 N86q
        refine Go.step (fun _ k => st86.trans (XS.dstore X86.here hx rfl (hb hby at_323) rfl (l' := #[.val (.long p1), .second, .val (.long p2), .second, .val (.long p3), .second, .val (.long p4), .second, .val (.int p5), .val (.long n), .second, .val (.long d), .second, .val (.double (FP.ddiv (FP.l2d (n / gg_26)) (FP.l2d (d / gg_26)))), .second, .val (.long (n / d)), .second, .val (.int (1 : Int32)), .val (.int ((p5 &&& (2147483647 : Int32)) % (62 : Int32))), .val (.long pw), .second, .val (.double (FP.ddiv (FP.l2d (n / gg_37)) (FP.l2d (pw / gg_37)))), .second, .val (.long dd), .second, .val (.double (FP.ddiv (FP.l2d (p3 / gg_50)) (FP.l2d (dd / gg_50)))), .second, .val (.double (FP.ddiv (FP.l2d (p3 / gg_83)) (FP.l2d ((1 : Int64) / gg_83)))), .second]) rfl (XS.iload X86.here hx rfl (hb hby at_325) rfl (XS.ifNo X86.here hx rfl (hb hby at_327) rfl ((if0 _ _).trans (feq (by decide)).1) (XS.dload X86.here hx rfl (hb hby at_330) rfl (XS.lload X86.here hx rfl (hb hby at_332) rfl (XS.l2dS X86.here hx rfl (hb hby at_334) rfl rfl (XS.dcmpS X86.here hx rfl (hb hby at_335) rfl rfl (XS.ifNo X86.here hx rfl (hb hby at_336) rfl ((if0 _ _).trans (teq (own_p7 P83_0)).2) (XS.iconst X86.here hx rfl (hb hby at_339) k)))))))))) ?_
        show Go p e below s _ _ _ T86 (mkF m 340 #[.val (.long p1), .second, .val (.long p2), .second, .val (.long p3), .second, .val (.long p4), .second, .val (.int p5), .val (.long n), .second, .val (.long d), .second, .val (.double (FP.ddiv (FP.l2d (n / gg_26)) (FP.l2d (d / gg_26)))), .second, .val (.long (n / d)), .second, .val (.int (1 : Int32)), .val (.int ((p5 &&& (2147483647 : Int32)) % (62 : Int32))), .val (.long pw), .second, .val (.double (FP.ddiv (FP.l2d (n / gg_37)) (FP.l2d (pw / gg_37)))), .second, .val (.long dd), .second, .val (.double (FP.ddiv (FP.l2d (p3 / gg_50)) (FP.l2d (dd / gg_50)))), .second, .val (.double (FP.ddiv (FP.l2d (p3 / gg_83)) (FP.l2d ((1 : Int64) / gg_83)))), .second] [(.int (1 : Int32))])
        refine Go.step (fun _ k => XS.goto X86.here hx rfl (pc0 := 340) (pc' := 344) rfl (hb hby at_340) (by decide) (by decide) (XS.istore X86.here hx rfl (hb hby at_344) rfl (l' := #[.val (.long p1), .second, .val (.long p2), .second, .val (.long p3), .second, .val (.long p4), .second, .val (.int p5), .val (.long n), .second, .val (.long d), .second, .val (.double (FP.ddiv (FP.l2d (n / gg_26)) (FP.l2d (d / gg_26)))), .second, .val (.long (n / d)), .second, .val (.int (1 : Int32)), .val (.int ((p5 &&& (2147483647 : Int32)) % (62 : Int32))), .val (.long pw), .second, .val (.double (FP.ddiv (FP.l2d (n / gg_37)) (FP.l2d (pw / gg_37)))), .second, .val (.long dd), .second, .val (.double (FP.ddiv (FP.l2d (p3 / gg_50)) (FP.l2d (dd / gg_50)))), .second, .val (.double (FP.ddiv (FP.l2d (p3 / gg_83)) (FP.l2d ((1 : Int64) / gg_83)))), .second]) rfl (XS.iload X86.here hx rfl (hb hby at_346) rfl k))) ?_
        show Go p e below s _ _ _ T86 (mkF m 348 #[.val (.long p1), .second, .val (.long p2), .second, .val (.long p3), .second, .val (.long p4), .second, .val (.int p5), .val (.long n), .second, .val (.long d), .second, .val (.double (FP.ddiv (FP.l2d (n / gg_26)) (FP.l2d (d / gg_26)))), .second, .val (.long (n / d)), .second, .val (.int (1 : Int32)), .val (.int ((p5 &&& (2147483647 : Int32)) % (62 : Int32))), .val (.long pw), .second, .val (.double (FP.ddiv (FP.l2d (n / gg_37)) (FP.l2d (pw / gg_37)))), .second, .val (.long dd), .second, .val (.double (FP.ddiv (FP.l2d (p3 / gg_50)) (FP.l2d (dd / gg_50)))), .second, .val (.double (FP.ddiv (FP.l2d (p3 / gg_83)) (FP.l2d ((1 : Int64) / gg_83)))), .second] [(.int (1 : Int32))])
        exact Go.retN X86 hx hlk (t := .boolean) Bd.returns (by simp) (hb hby at_348) eq86 ⟨rfl, N88⟩ (by decide) (by decide)
    by_cases hr : (lcmpW (n - (n / d) * d) (0 : Int64)) = (0 : Int32)
    · refine Go.step (fun _ k => XS.ifNo X29.here hx rfl (hb hby at_108) rfl ((if0 _ _).trans (teq hr).2) (XS.iload X29.here hx rfl (hb hby at_111) rfl (XS.ifNo X29.here hx rfl (hb hby at_113) rfl ((if0 _ _).trans (feq (by decide)).1) (XS.dload X29.here hx rfl (hb hby at_116) rfl (XS.lload X29.here hx rfl (hb hby at_118) rfl (XS.l2dS X29.here hx rfl (hb hby at_120) rfl rfl (XS.dcmpS X29.here hx rfl (hb hby at_121) rfl rfl (XS.ifNo X29.here hx rfl (hb hby at_122) rfl ((if0 _ _).trans (teq (own_p5 P26_0 hP hr)).2) (XS.iconst X29.here hx rfl (hb hby at_125) (XS.goto X29.here hx rfl (pc0 := 126) (pc' := 130) rfl (hb hby at_126) (by decide) (by decide) k)))))))))) ?_
      show Go p e below s _ _ _ T29 (mkF m 130 #[.val (.long p1), .second, .val (.long p2), .second, .val (.long p3), .second, .val (.long p4), .second, .val (.int p5), .val (.long n), .second, .val (.long d), .second, .val (.double (FP.ddiv (FP.l2d (n / gg_26)) (FP.l2d (d / gg_26)))), .second, .val (.long (n / d)), .second, .val (.int (1 : Int32)), .unset, .unset, .unset, .unset, .unset, .unset, .unset, .unset, .unset, .unset, .unset] [(.int (1 : Int32))])
      refine Go.step (fun _ k => XS.istore X29.here hx rfl (hb hby at_130) rfl (l' := #[.val (.long p1), .second, .val (.long p2), .second, .val (.long p3), .second, .val (.long p4), .second, .val (.int p5), .val (.long n), .second, .val (.long d), .second, .val (.double (FP.ddiv (FP.l2d (n / gg_26)) (FP.l2d (d / gg_26)))), .second, .val (.long (n / d)), .second, .val (.int (1 : Int32)), .unset, .unset, .unset, .unset, .unset, .unset, .unset, .unset, .unset, .unset, .unset]) rfl k) ?_
      show Go p e below s _ _ _ T29 (mkF m 132 #[.val (.long p1), .second, .val (.long p2), .second, .val (.long p3), .second, .val (.long p4), .second, .val (.int p5), .val (.long n), .second, .val (.long d), .second, .val (.double (FP.ddiv (FP.l2d (n / gg_26)) (FP.l2d (d / gg_26)))), .second, .val (.long (n / d)), .second, .val (.int (1 : Int32)), .unset, .unset, .unset, .unset, .unset, .unset, .unset, .unset, .unset, .unset, .unset] [])
      exact J2 
    · refine Go.step (fun _ k => XS.ifYes X29.here hx rfl (pc0 := 108) (pc' := 132) rfl (hb hby at_108) rfl ((if0 _ _).trans (feq hr).2) (by decide) (by decide) k) ?_
      show Go p e below s _ _ _ T29 (mkF m 132 #[.val (.long p1), .second, .val (.long p2), .second, .val (.long p3), .second, .val (.long p4), .second, .val (.int p5), .val (.long n), .second, .val (.long d), .second, .val (.double (FP.ddiv (FP.l2d (n / gg_26)) (FP.l2d (d / gg_26)))), .second, .val (.long (n / d)), .second, .val (.int (1 : Int32)), .unset, .unset, .unset, .unset, .unset, .unset, .unset, .unset, .unset, .unset, .unset] [])
      exact J2 
  by_cases hs : (lcmpW n (0 : Int64)) < (0 : Int32)
  · refine Go.step (fun _ k => XS.ifYes X29.here hx rfl (pc0 := 41) (pc' := 74) rfl (hb hby at_41) rfl ((if0 _ _).trans (tlt hs).1) (by decide) (by decide) (XS.lload X29.here hx rfl (hb hby at_74) rfl (XS.lconst X29.here hx rfl (hb hby at_76) (XS.lsub X29.here hx rfl (hb hby at_77) rfl (XS.l2dS X29.here hx rfl (hb hby at_78) rfl rfl (XS.dload X29.here hx rfl (hb hby at_79) rfl (XS.dcmpS X29.here hx rfl (hb hby at_81) rfl rfl (XS.ifNo X29.here hx rfl (hb hby at_82) rfl ((if0 _ _).trans (flt (own_p3 P26_0 hP hs)).2.2.1) (XS.dload X29.here hx rfl (hb hby at_85) rfl (XS.lload X29.here hx rfl (hb hby at_87) rfl k)))))))))) ?_
    show Go p e below s _ _ _ T29 (mkF m 89 #[.val (.long p1), .second, .val (.long p2), .second, .val (.long p3), .second, .val (.long p4), .second, .val (.int p5), .val (.long n), .second, .val (.long d), .second, .val (.double (FP.ddiv (FP.l2d (n / gg_26)) (FP.l2d (d / gg_26)))), .second, .val (.long (n / d)), .second, .unset, .unset, .unset, .unset, .unset, .unset, .unset, .unset, .unset, .unset, .unset, .unset] [(.long (n / d)), (.double (FP.ddiv (FP.l2d (n / gg_26)) (FP.l2d (d / gg_26))))])
    refine Go.step (fun _ k => XS.l2dS X29.here hx rfl (hb hby at_89) rfl rfl (XS.dcmpS X29.here hx rfl (hb hby at_90) rfl rfl (XS.ifNo X29.here hx rfl (hb hby at_91) rfl ((if0 _ _).trans (flt (own_p4 P26_0 hP hs)).2.2.1) (XS.iconst X29.here hx rfl (hb hby at_94) (XS.goto X29.here hx rfl (pc0 := 95) (pc' := 99) rfl (hb hby at_95) (by decide) (by decide) (XS.istore X29.here hx rfl (hb hby at_99) rfl (l' := #[.val (.long p1), .second, .val (.long p2), .second, .val (.long p3), .second, .val (.long p4), .second, .val (.int p5), .val (.long n), .second, .val (.long d), .second, .val (.double (FP.ddiv (FP.l2d (n / gg_26)) (FP.l2d (d / gg_26)))), .second, .val (.long (n / d)), .second, .val (.int (1 : Int32)), .unset, .unset, .unset, .unset, .unset, .unset, .unset, .unset, .unset, .unset, .unset]) rfl k)))))) ?_
    show Go p e below s _ _ _ T29 (mkF m 101 #[.val (.long p1), .second, .val (.long p2), .second, .val (.long p3), .second, .val (.long p4), .second, .val (.int p5), .val (.long n), .second, .val (.long d), .second, .val (.double (FP.ddiv (FP.l2d (n / gg_26)) (FP.l2d (d / gg_26)))), .second, .val (.long (n / d)), .second, .val (.int (1 : Int32)), .unset, .unset, .unset, .unset, .unset, .unset, .unset, .unset, .unset, .unset, .unset] [])
    exact J1 
  · refine Go.step (fun _ k => XS.ifNo X29.here hx rfl (hb hby at_41) rfl ((if0 _ _).trans (flt hs).1) (XS.lload X29.here hx rfl (hb hby at_44) rfl (XS.l2dS X29.here hx rfl (hb hby at_46) rfl rfl (XS.dload X29.here hx rfl (hb hby at_47) rfl (XS.dcmpS X29.here hx rfl (hb hby at_49) rfl rfl (XS.ifNo X29.here hx rfl (hb hby at_50) rfl ((if0 _ _).trans (flt (own_p1 P26_0 hP hs)).2.2.1) (XS.dload X29.here hx rfl (hb hby at_53) rfl (XS.lload X29.here hx rfl (hb hby at_55) rfl (XS.lconst X29.here hx rfl (hb hby at_57) (XS.ladd X29.here hx rfl (hb hby at_58) rfl k)))))))))) ?_
    show Go p e below s _ _ _ T29 (mkF m 59 #[.val (.long p1), .second, .val (.long p2), .second, .val (.long p3), .second, .val (.long p4), .second, .val (.int p5), .val (.long n), .second, .val (.long d), .second, .val (.double (FP.ddiv (FP.l2d (n / gg_26)) (FP.l2d (d / gg_26)))), .second, .val (.long (n / d)), .second, .unset, .unset, .unset, .unset, .unset, .unset, .unset, .unset, .unset, .unset, .unset, .unset] [(.long ((n / d) + (1 : Int64))), (.double (FP.ddiv (FP.l2d (n / gg_26)) (FP.l2d (d / gg_26))))])
    refine Go.step (fun _ k => XS.l2dS X29.here hx rfl (hb hby at_59) rfl rfl (XS.dcmpS X29.here hx rfl (hb hby at_60) rfl rfl (XS.ifNo X29.here hx rfl (hb hby at_61) rfl ((if0 _ _).trans (flt (own_p2 P26_0 hP hs)).2.2.1) (XS.iconst X29.here hx rfl (hb hby at_64) (XS.goto X29.here hx rfl (pc0 := 65) (pc' := 69) rfl (hb hby at_65) (by decide) (by decide) (XS.istore X29.here hx rfl (hb hby at_69) rfl (l' := #[.val (.long p1), .second, .val (.long p2), .second, .val (.long p3), .second, .val (.long p4), .second, .val (.int p5), .val (.long n), .second, .val (.long d), .second, .val (.double (FP.ddiv (FP.l2d (n / gg_26)) (FP.l2d (d / gg_26)))), .second, .val (.long (n / d)), .second, .val (.int (1 : Int32)), .unset, .unset, .unset, .unset, .unset, .unset, .unset, .unset, .unset, .unset, .unset]) rfl (XS.goto X29.here hx rfl (pc0 := 71) (pc' := 101) rfl (hb hby at_71) (by decide) (by decide) k))))))) ?_
    show Go p e below s _ _ _ T29 (mkF m 101 #[.val (.long p1), .second, .val (.long p2), .second, .val (.long p3), .second, .val (.long p4), .second, .val (.int p5), .val (.long n), .second, .val (.long d), .second, .val (.double (FP.ddiv (FP.l2d (n / gg_26)) (FP.l2d (d / gg_26)))), .second, .val (.long (n / d)), .second, .val (.int (1 : Int32)), .unset, .unset, .unset, .unset, .unset, .unset, .unset, .unset, .unset, .unset, .unset] [])
    exact J1 

set_option maxRecDepth 65536 in
set_option maxHeartbeats 40000000 in
theorem comes_1 {Post : Tables → Env → Array Value → State → Outcome → State → Prop} (hpost : ∀ tb e args s v u, (limb_1_1.after args s (.returned v) u = true ∧ limb_1_2.after args s (.returned v) u = true ∧ True) → FrameEnd s (.returned v) u (Jvm.fieldLocs frame_1_writes args s ++ Jvm.arrayLocs frame_1_arrays args s ++ Jvm.staticLocs frame_1_statics s) 16 128 → Post tb e args s (.returned v) u) :
    ArmFor flags0 classFile x code maxLocals ret World_1 tables_1 room_1 Calls_1 rest_1 Pre_1 Post := by
  intro l hfl _ _ p e ha hc hk s m args below hf hA hF happ hP
  obtain ⟨hcalls, hrest, hpre⟩ := hP
  obtain ⟨-, -, -, hnamed, -, -, -, hat⟩ := (Spec.applies_iff hf).mp happ
  obtain ⟨hg, hn⟩ := and_e (Cond.before_iff.mp (show (Jvm.Cond.and given_1 narrow_1).before args s = true from hpre))
  obtain ⟨gv1, gv2⟩ := and_e hg
  obtain ⟨gv3, gv4⟩ := and_e gv2
  obtain ⟨gv5, gv6⟩ := and_e gv4
  obtain ⟨gv7, gv8⟩ := and_e gv6
  obtain ⟨gv9, gv10⟩ := and_e gv8
  obtain ⟨w0, w1, w2, w3, w4, rfl⟩ : ∃ w0 w1 w2 w3 w4 : Value, args = #[w0, w1, w2, w3, w4] := by
    have hs : args.size = 5 := by simpa [Cond.value, given_1] using gv1
    obtain ⟨L⟩ := args
    match L, hs with
    | [w0, w1, w2, w3, w4], _ => exact ⟨w0, w1, w2, w3, w4, rfl⟩
  have hw := fun d (hd : d ∈ tables_1) => atoms_spec (ws := Jvm.Cond.code x code maxLocals ret :: tables_1) hat d (List.mem_cons_of_mem _ hd)
  have hfit : Fit s := fun {y c} hc i hi => by
    obtain ⟨ha, rfl⟩ := Array.getElem?_eq_some_iff.mp hc
    have q := List.all_eq_true.mp ((Array.all_eq_true_iff_forall_mem.mp hF) _ (Array.getElem_mem ha)) i (List.mem_range.mpr hi)
    simpa [Array.getElem?_eq_getElem hi] using q
  obtain ⟨i0, ei0⟩ := isL_v gv3
  obtain rfl : w0 = (.long i0) := Option.some.inj ei0
  obtain ⟨i1, ei1⟩ := isL_v gv5
  obtain rfl : w1 = (.long i1) := Option.some.inj ei1
  obtain ⟨i2, ei2⟩ := isL_v gv7
  obtain rfl : w2 = (.long i2) := Option.some.inj ei2
  obtain ⟨i3, ei3⟩ := isL_v gv9
  obtain rfl : w3 = (.long i3) := Option.some.inj ei3
  obtain ⟨i4, ei4⟩ := is_v gv10
  obtain rfl : w4 = (.int i4) := Option.some.inj ei4
  obtain ⟨n, o, h1, h2, h3, _, L, rfl, ⟨rfl, N⟩, hq⟩ := rm_law l s _ hw tables_1 i0 i1 i2 i3 i4 s.heap s.heap.size (Nat.le_refl _)  p e ha hc hk s m _ below hf ((Spec.applies_iff_loose hf).mp happ).1 ⟨rfl, State.Warmed39.refl s, rfl⟩ trivial
  refine ⟨n, _, h1, h2, h3, hpost _ _ _ _ _ _ ⟨Cond.after_iff.mpr rfl, Cond.after_iff.mpr (eq_i res_at (Term.int_eval (1)) rfl), trivial⟩ ⟨hq.1, hq.2.1, (hq.2.2.sift fun y hy => Or.inr (N y hy)).mono (by decide) (by decide)⟩⟩
theorem main_1_1 : Claimed_1_1 := comes_1 fun _ _ _ _ _ _ h hF => ⟨h.1, hF⟩
theorem main_1_2 : Claimed_1_2 := comes_1 fun _ _ _ _ _ _ h hF => ⟨h.2.1, hF⟩
end Jvm.Pilot.@@N@@
namespace Jvm.Pilot.@@N@@
open Jvm Jvm.ClassFile Sem Op Lib Jvm.Free Jvm.Stand Jvm.Pilot.@@N@@.Jvm.D
/-! MADE BY PROGRAM (witnessworld.py) out of the Statement's table words and the real class files: 11 classes; the members and pool entries that the words name. The judged class is class 1, her method 1. -/
namespace start1
open Jvm.ClassFile
def u (s : String) : CpInfo := .utf8 (stringToUtf16 s)
/-- a pool by its gaps: so many unusable entries, then the entry; so many at the end -/
def gap : Nat → List CpInfo → List CpInfo
  | 0, r => r
  | n + 1, r => .unusable :: gap n r
def poolList (es : List (Nat × CpInfo)) (last : Nat) : List CpInfo := es.foldr (fun e r => gap e.1 (e.2 :: r)) (gap last [])
def pool (es : List (Nat × CpInfo)) (last : Nat) : Array CpInfo := ⟨poolList es last⟩
def fileOf (pool : Array CpInfo) (this : Nat) (attrs : Array Attribute := #[]) (ms : Array MethodInfo := #[]) (fl : Nat := 33) (sup : Nat := 0) (ifs : Array Nat := #[]) (fds : Array FieldInfo := #[]) : ClassFile where
  minorVersion := 0
  majorVersion := 65
  constantPool := pool
  accessFlags := fl
  thisClass := this
  superClass := sup
  interfaces := ifs
  fields := fds
  methods := ms
  attributes := attrs
def plain (name : String) (sup : Option ClassId) : Class where
  name := name
  kind := .ordinary
  loader := none
  accessFlags := 33
  super := sup
  interfaces := #[]
  cf := none
  fields := #[]
  methods := #[]
  instanceTypes := #[]
  staticTypes := #[]
  resolved := #[]
  callSites := []
  init := .initialized
  statics := none
  mirror := none

def pool0 : Array CpInfo := pool [(5, u "<init>"), (0, u "()V"), (1, .class_ 10), (1, u "java/lang/Object")] 113

def k0c0 : Code := { maxStack := 0, maxLocals := 1, code := object_method_1_code, exceptionTable := #[], attributes := #[] }
def k0m0 : Method := { name := "<init>", desc := "()V", sig := { parameters := [], returnType := none }, accessFlags := 1, code := some k0c0 }
/-- java/lang/Object -/
def k0 : Class := { plain "java/lang/Object" none with
  accessFlags := 33
  interfaces := #[]
  cf := some (fileOf pool0 8 #[] #[{ accessFlags := 1, nameIndex := 5, descriptorIndex := 6, attributes := #[] }] 33 0 #[] #[])
  fields := #[]
  methods := #[k0m0]
  instanceTypes := #[]
  staticTypes := #[]
  resolved := Array.replicate 124 none
  statics := none }

def pool1 : Array CpInfo := pool [(2, .class_ 4), (1, u "java/lang/Object"), (0, u "<init>"), (0, u "()V"), (0, .class_ 8), (0, u "com/example/wayfare/wayfare/strategies/Fraction"), (0, .methodref 7 10), (0, .nameAndType 5 11), (0, u "(JJ)V"), (0, .methodref 7 13), (0, .nameAndType 14 15), (0, u "doubleValue"), (0, u "()D"), (0, .integer 2147483647), (2, .long 9223372036854775807), (1, .methodref 22 23), (0, .class_ 24), (0, .nameAndType 25 26), (0, u "java/lang/Math"), (0, u "max"), (0, u "(JJ)J"), (0, .class_ 28), (0, u "com/example/wayfare/wayfare/strategies/FractionDoubleValuePinLaw"), (2, u "law"), (0, u "(JJJJI)Z")] 3

def k1m0 : Method := { name := "<init>", desc := "()V", sig := { parameters := [], returnType := none }, accessFlags := 1, code := none }
def k1c1 : Code := { maxStack := 6, maxLocals := 29, code := code, exceptionTable := #[], attributes := #[] }
def k1m1 : Method := { name := "law", desc := "(JJJJI)Z", sig := { parameters := [.long, .long, .long, .long, .int], returnType := some .boolean }, accessFlags := 9, code := some k1c1 }
/-- com/example/wayfare/wayfare/strategies/FractionDoubleValuePinLaw -/
def k1 : Class := { plain "com/example/wayfare/wayfare/strategies/FractionDoubleValuePinLaw" (some 0) with
  accessFlags := 49
  interfaces := #[]
  cf := some (fileOf pool1 27 #[] #[{ accessFlags := 1, nameIndex := 5, descriptorIndex := 6, attributes := #[] }, { accessFlags := 9, nameIndex := 31, descriptorIndex := 32, attributes := #[] }] 49 2 #[] #[])
  fields := #[]
  methods := #[k1m0, k1m1]
  instanceTypes := #[]
  staticTypes := #[]
  resolved := Array.replicate 36 none
  statics := none }

def pool2 : Array CpInfo := pool [(1, .methodref 2 3), (0, .class_ 4), (0, .nameAndType 5 6), (0, u "java/lang/Object"), (0, u "<init>"), (0, u "()V"), (0, .class_ 8), (0, u "java/lang/Record")] 13

def k2c0 : Code := { maxStack := 1, maxLocals := 1, code := jdk_30_method_1_code, exceptionTable := #[], attributes := #[] }
def k2m0 : Method := { name := "<init>", desc := "()V", sig := { parameters := [], returnType := none }, accessFlags := 4, code := some k2c0 }
/-- java/lang/Record -/
def k2 : Class := { plain "java/lang/Record" (some 0) with
  accessFlags := 1057
  interfaces := #[]
  cf := some (fileOf pool2 7 #[] #[{ accessFlags := 4, nameIndex := 5, descriptorIndex := 6, attributes := #[] }] 1057 2 #[] #[])
  fields := #[]
  methods := #[k2m0]
  instanceTypes := #[]
  staticTypes := #[]
  resolved := Array.replicate 22 none
  statics := none }

def pool3 : Array CpInfo := pool [(1, .methodref 2 3), (0, .class_ 4), (0, .nameAndType 5 6), (0, u "java/lang/Record"), (0, u "<init>"), (0, u "()V"), (9, .methodref 17 18), (0, .class_ 19), (0, .nameAndType 20 21), (0, u "com/example/wayfare/wayfare/strategies/Fraction"), (0, u "gcd"), (0, u "(JJ)J"), (0, .fieldref 17 23), (0, .nameAndType 24 25), (0, u "numerator"), (0, u "J"), (0, .fieldref 17 27), (0, .nameAndType 28 25), (0, u "denominator"), (2, u "(JJ)V"), (8, .methodref 41 42), (0, .class_ 43), (0, .nameAndType 44 45), (0, u "java/lang/Math"), (0, u "abs"), (0, u "(J)J"), (14, u "doubleValue"), (0, u "()D")] 37

def k3c0 : Code := { maxStack := 4, maxLocals := 7, code := prog_93_method_1_code, exceptionTable := #[], attributes := #[] }
def k3m0 : Method := { name := "<init>", desc := "(JJ)V", sig := { parameters := [.long, .long], returnType := none }, accessFlags := 1, code := some k3c0 }
def k3c1 : Code := { maxStack := 4, maxLocals := 1, code := prog_93_method_3_code, exceptionTable := #[], attributes := #[] }
def k3m1 : Method := { name := "doubleValue", desc := "()D", sig := { parameters := [], returnType := some .double }, accessFlags := 1, code := some k3c1 }
def k3c2 : Code := { maxStack := 4, maxLocals := 10, code := prog_93_method_5_code, exceptionTable := #[], attributes := #[] }
def k3m2 : Method := { name := "gcd", desc := "(JJ)J", sig := { parameters := [.long, .long], returnType := some .long }, accessFlags := 10, code := some k3c2 }
/-- com/example/wayfare/wayfare/strategies/Fraction -/
def k3 : Class := { plain "com/example/wayfare/wayfare/strategies/Fraction" (some 2) with
  accessFlags := 49
  interfaces := #[]
  cf := some (fileOf pool3 17 #[] #[{ accessFlags := 1, nameIndex := 5, descriptorIndex := 31, attributes := #[] }, { accessFlags := 1, nameIndex := 60, descriptorIndex := 61, attributes := #[] }, { accessFlags := 10, nameIndex := 20, descriptorIndex := 21, attributes := #[] }] 49 2 #[] #[{ accessFlags := 18, nameIndex := 24, descriptorIndex := 25, attributes := #[] }, { accessFlags := 18, nameIndex := 28, descriptorIndex := 25, attributes := #[] }])
  fields := #[{ name := "numerator", type := .long, accessFlags := 18, slot := 0, constantValue := 0 }, { name := "denominator", type := .long, accessFlags := 18, slot := 1, constantValue := 0 }]
  methods := #[k3m0, k3m1, k3m2]
  instanceTypes := #[.long, .long]
  staticTypes := #[]
  resolved := Array.replicate 99 none
  statics := none }

def pool4 : Array CpInfo := pool [(1, .class_ 2), (0, u "java/lang/Math"), (1, .class_ 6), (1, u "java/lang/Object"), (0, u "<init>"), (0, u "()V"), (89, .class_ 100), (1, u "java/lang/Math$RandomNumberGeneratorHolder"), (20, u "(JJ)J"), (2, u "abs"), (0, u "(J)J"), (46, u "negativeZeroFloatBits"), (0, u "J"), (2, u "negativeZeroDoubleBits"), (21, u "max"), (46, u "$assertionsDisabled"), (0, u "Z"), (91, u "twoToTheDoubleScaleDown"), (0, u "D"), (4, u "twoToTheDoubleScaleUp"), (9, u "E"), (3, u "PI"), (2, u "TAU"), (2, u "DEGREES_TO_RADIANS"), (0, u "RADIANS_TO_DEGREES")] 94

def k4m0 : Method := { name := "<init>", desc := "()V", sig := { parameters := [], returnType := none }, accessFlags := 2, code := none }
def k4c1 : Code := { maxStack := 4, maxLocals := 2, code := jdk_29_method_61_code, exceptionTable := #[], attributes := #[] }
def k4m1 : Method := { name := "abs", desc := "(J)J", sig := { parameters := [.long], returnType := some .long }, accessFlags := 9, code := some k4c1 }
def k4c2 : Code := { maxStack := 4, maxLocals := 4, code := jdk_29_method_66_code, exceptionTable := #[], attributes := #[] }
def k4m2 : Method := { name := "max", desc := "(JJ)J", sig := { parameters := [.long, .long], returnType := some .long }, accessFlags := 9, code := some k4c2 }
/-- java/lang/Math -/
def k4 : Class := { plain "java/lang/Math" (some 0) with
  accessFlags := 49
  interfaces := #[]
  cf := some (fileOf pool4 1 #[.nestMembers #[98]] #[{ accessFlags := 2, nameIndex := 7, descriptorIndex := 8, attributes := #[] }, { accessFlags := 9, nameIndex := 124, descriptorIndex := 125, attributes := #[] }, { accessFlags := 9, nameIndex := 198, descriptorIndex := 121, attributes := #[] }] 49 4 #[] #[{ accessFlags := 25, nameIndex := 354, descriptorIndex := 339, attributes := #[] }, { accessFlags := 25, nameIndex := 358, descriptorIndex := 339, attributes := #[] }, { accessFlags := 25, nameIndex := 361, descriptorIndex := 339, attributes := #[] }, { accessFlags := 26, nameIndex := 364, descriptorIndex := 339, attributes := #[] }, { accessFlags := 26, nameIndex := 365, descriptorIndex := 339, attributes := #[] }, { accessFlags := 26, nameIndex := 172, descriptorIndex := 173, attributes := #[] }, { accessFlags := 26, nameIndex := 176, descriptorIndex := 173, attributes := #[] }, { accessFlags := 8, nameIndex := 344, descriptorIndex := 339, attributes := #[] }, { accessFlags := 8, nameIndex := 338, descriptorIndex := 339, attributes := #[] }, { accessFlags := 4120, nameIndex := 245, descriptorIndex := 246, attributes := #[] }])
  fields := #[{ name := "E", type := .double, accessFlags := 25, slot := 0, constantValue := 0 }, { name := "PI", type := .double, accessFlags := 25, slot := 1, constantValue := 0 }, { name := "TAU", type := .double, accessFlags := 25, slot := 2, constantValue := 0 }, { name := "DEGREES_TO_RADIANS", type := .double, accessFlags := 26, slot := 3, constantValue := 0 }, { name := "RADIANS_TO_DEGREES", type := .double, accessFlags := 26, slot := 4, constantValue := 0 }, { name := "negativeZeroFloatBits", type := .long, accessFlags := 26, slot := 5, constantValue := 0 }, { name := "negativeZeroDoubleBits", type := .long, accessFlags := 26, slot := 6, constantValue := 0 }, { name := "twoToTheDoubleScaleUp", type := .double, accessFlags := 8, slot := 7, constantValue := 0 }, { name := "twoToTheDoubleScaleDown", type := .double, accessFlags := 8, slot := 8, constantValue := 0 }, { name := "$assertionsDisabled", type := .boolean, accessFlags := 4120, slot := 9, constantValue := 0 }]
  methods := #[k4m0, k4m1, k4m2]
  instanceTypes := #[]
  staticTypes := #[.double, .double, .double, .double, .double, .long, .long, .double, .double, .boolean]
  resolved := Array.replicate 460 none
  statics := none }

def pool5 : Array CpInfo := pool [(1, u "java/lang/Cloneable"), (0, .class_ 1), (0, u "java/lang/Object"), (0, .class_ 3)] 3

/-- java/lang/Cloneable -/
def k5 : Class := { plain "java/lang/Cloneable" (some 0) with
  accessFlags := 1537
  interfaces := #[]
  cf := some (fileOf pool5 2 #[] #[] 1537 4 #[] #[])
  fields := #[]
  methods := #[]
  instanceTypes := #[]
  staticTypes := #[]
  resolved := Array.replicate 8 none
  statics := none }

def pool6 : Array CpInfo := pool [(1, u "java/io/Serializable"), (0, .class_ 1), (0, u "java/lang/Object"), (0, .class_ 3)] 3

/-- java/io/Serializable -/
def k6 : Class := { plain "java/io/Serializable" (some 0) with
  accessFlags := 1537
  interfaces := #[]
  cf := some (fileOf pool6 2 #[] #[] 1537 4 #[] #[])
  fields := #[]
  methods := #[]
  instanceTypes := #[]
  staticTypes := #[]
  resolved := Array.replicate 8 none
  statics := none }

/-- the primitive byte -/
def k7 : Class := { plain "byte" none with kind := .primitive 'B', accessFlags := 0x411 }
/-- [B -/
def k8 : Class := { plain "[B" (some 0) with kind := .array 7 .byte, interfaces := #[5, 6], accessFlags := 1041 }

/-- the primitive int -/
def k9 : Class := { plain "int" none with kind := .primitive 'I', accessFlags := 0x411 }
/-- [I -/
def k10 : Class := { plain "[I" (some 0) with kind := .array 9 .int, interfaces := #[5, 6], accessFlags := 1041 }

def heap : Heap := #[]
def classes : Array Class := #[k0, k1, k2, k3, k4, k5, k6, k7, k8, k9, k10]
def interned : List (Array UInt16 × Addr) := []
def slotsUsed : Nat := 0
def theMethod : MethodId := ⟨1, 1⟩
def args0 : Array Value := #[.long 5, .long 7, .long 3, .long 2, .int 4]
def aboutOver (below : List Frame) : State where
  vm := { classes := classes, interned := interned.toArray }
  heap := heap
  slotsUsed := slotsUsed
  threads := #[{ frames := .invoking theMethod args0 :: below }]
def below0 : List Frame := [.native { method := ⟨0, 0⟩, args := #[] }]
def about1 : State := aboutOver below0
def p0 : Program := .bare "" "" ""
def e0 : Env := launch0.env 0 0 0
theorem w_frames : about1.frames = Frame.invoking theMethod args0 :: below0 := rfl
set_option maxRecDepth 65536 in
theorem w_args : argsFit about1.vm theMethod args0 = true := by decide +kernel
set_option maxRecDepth 65536 in
theorem w_heap : heapFits about1 = true := by decide +kernel
set_option maxRecDepth 65536 in
theorem w_runnable : about1.curStatus? = some .runnable := by decide +kernel
set_option maxRecDepth 65536 in
theorem w_alone : about1.alone = true := by decide +kernel
set_option maxRecDepth 65536 in
theorem w_named : about1.methodNamed? x = some theMethod := by decide +kernel
set_option maxRecDepth 65536 in
theorem w_hears : about1.hears theMethod below0 = true := by decide +kernel
set_option maxRecDepth 65536 in
theorem w_ripe : about1.ripe theMethod args0 below0 = true := by decide +kernel
theorem w_running : about1.status = .running := rfl
set_option maxRecDepth 65536 in
theorem w_room : about1.hasRoom e0.platform room_1 = true :=
  launch0.hasRoom_least _ room_1 (by decide +kernel) (by decide +kernel) (by decide +kernel) (by decide +kernel) (by decide +kernel) (by decide +kernel)
theorem allAtoms_all (ts : List Jvm.Cond) (a : Array Jvm.Value) (st : Jvm.State) : (allAtoms ts).before a st = ts.all (fun c => c.before a st) := by
  induction ts with
  | nil => rfl
  | cons c t ih =>
    show (Jvm.Cond.and c (allAtoms t)).before a st = _
    rw [Jvm.Cond.before_and, ih, List.all_cons]
def words1 : List Jvm.Cond := Jvm.Cond.code x code maxLocals ret :: tables_1
/-- a 'code' word, met by the world's own term for the bytes: nothing is compared byte by byte -/
theorem code_word {y : MethodName} {bytes : ByteArray} {mx : Nat} {rt : Option FieldType} {a : Array Value} {s : State} {m : MethodId} {meth : Method} {c : Code} (h1 : s.methodNamed? y = some m) (h2 : s.vm.method? m = some meth) (h3 : meth.code = some c) (h4 : c.code = bytes)
    (h5 : (c.maxLocals == mx && c.exceptionTable.isEmpty && decide (c.maxStack ≤ mostOperands) && decide (meth.sig.returnType = rt) && !meth.locks && decide (parseMethodDescriptor y.desc = some meth.sig)) = true) : (Jvm.Cond.code y bytes mx rt).before a s = true := by
  simp only [Bool.and_eq_true, beq_iff_eq, Bool.not_eq_true', decide_eq_true_eq] at h5
  obtain ⟨⟨⟨⟨⟨g1, g2⟩, g3⟩, g4⟩, g5⟩, g6⟩ := h5
  simp [Cond.before, Cond.holds, Cond.value, h1, h2, h3, h4, g1, g2, g3, g4, g5, g6]
def isCode : Jvm.Cond → Bool
  | .code _ _ _ _ => true
  | _ => false
theorem all_split {L : List Jvm.Cond} {P : Jvm.Cond → Bool} (h1 : L.all (fun c => isCode c || P c) = true) (h2 : ∀ c ∈ L.filter isCode, P c = true) : L.all P = true := by
  refine List.all_eq_true.mpr fun c hc => ?_
  have h := List.all_eq_true.mp h1 c hc
  rcases Bool.eq_false_or_eq_true (isCode c) with hi | hi
  · exact h2 c (List.mem_filter.mpr ⟨hc, hi⟩)
  · simpa [hi] using h
set_option maxRecDepth 65536 in
theorem w_c0 : (Jvm.Cond.code x code maxLocals ret).before args0 about1 = true := code_word (m := ⟨1, 1⟩) (meth := k1m1) (c := k1c1) (by decide +kernel) rfl rfl rfl (by decide +kernel)
set_option maxRecDepth 65536 in
theorem w_c1 : (Jvm.Cond.code ({ cls := "com/example/wayfare/wayfare/strategies/Fraction", name := "<init>", desc := "(JJ)V" } : Jvm.MethodName) prog_93_method_1_code (7 : Nat) (Option.none : Option Jvm.ClassFile.FieldType)).before args0 about1 = true := code_word (m := ⟨3, 0⟩) (meth := k3m0) (c := k3c0) (by decide +kernel) rfl rfl rfl (by decide +kernel)
set_option maxRecDepth 65536 in
theorem w_c2 : (Jvm.Cond.code ({ cls := "java/lang/Record", name := "<init>", desc := "()V" } : Jvm.MethodName) jdk_30_method_1_code (1 : Nat) (Option.none : Option Jvm.ClassFile.FieldType)).before args0 about1 = true := code_word (m := ⟨2, 0⟩) (meth := k2m0) (c := k2c0) (by decide +kernel) rfl rfl rfl (by decide +kernel)
set_option maxRecDepth 65536 in
theorem w_c3 : (Jvm.Cond.code ({ cls := "java/lang/Object", name := "<init>", desc := "()V" } : Jvm.MethodName) object_method_1_code (1 : Nat) (Option.none : Option Jvm.ClassFile.FieldType)).before args0 about1 = true := code_word (m := ⟨0, 0⟩) (meth := k0m0) (c := k0c0) (by decide +kernel) rfl rfl rfl (by decide +kernel)
set_option maxRecDepth 65536 in
theorem w_c4 : (Jvm.Cond.code ({ cls := "com/example/wayfare/wayfare/strategies/Fraction", name := "gcd", desc := "(JJ)J" } : Jvm.MethodName) prog_93_method_5_code (10 : Nat) (Option.some Jvm.ClassFile.FieldType.long)).before args0 about1 = true := code_word (m := ⟨3, 2⟩) (meth := k3m2) (c := k3c2) (by decide +kernel) rfl rfl rfl (by decide +kernel)
set_option maxRecDepth 65536 in
theorem w_c5 : (Jvm.Cond.code ({ cls := "java/lang/Math", name := "abs", desc := "(J)J" } : Jvm.MethodName) jdk_29_method_61_code (2 : Nat) (Option.some Jvm.ClassFile.FieldType.long)).before args0 about1 = true := code_word (m := ⟨4, 1⟩) (meth := k4m1) (c := k4c1) (by decide +kernel) rfl rfl rfl (by decide +kernel)
set_option maxRecDepth 65536 in
theorem w_c6 : (Jvm.Cond.code ({ cls := "com/example/wayfare/wayfare/strategies/Fraction", name := "doubleValue", desc := "()D" } : Jvm.MethodName) prog_93_method_3_code (1 : Nat) (Option.some Jvm.ClassFile.FieldType.double)).before args0 about1 = true := code_word (m := ⟨3, 1⟩) (meth := k3m1) (c := k3c1) (by decide +kernel) rfl rfl rfl (by decide +kernel)
set_option maxRecDepth 65536 in
theorem w_c7 : (Jvm.Cond.code ({ cls := "java/lang/Math", name := "max", desc := "(JJ)J" } : Jvm.MethodName) jdk_29_method_66_code (4 : Nat) (Option.some Jvm.ClassFile.FieldType.long)).before args0 about1 = true := code_word (m := ⟨4, 2⟩) (meth := k4m2) (c := k4c2) (by decide +kernel) rfl rfl rfl (by decide +kernel)
def codes1 : List Jvm.Cond := [Jvm.Cond.code x code maxLocals ret, Jvm.Cond.code ({ cls := "com/example/wayfare/wayfare/strategies/Fraction", name := "<init>", desc := "(JJ)V" } : Jvm.MethodName) prog_93_method_1_code (7 : Nat) (Option.none : Option Jvm.ClassFile.FieldType), Jvm.Cond.code ({ cls := "java/lang/Record", name := "<init>", desc := "()V" } : Jvm.MethodName) jdk_30_method_1_code (1 : Nat) (Option.none : Option Jvm.ClassFile.FieldType), Jvm.Cond.code ({ cls := "java/lang/Object", name := "<init>", desc := "()V" } : Jvm.MethodName) object_method_1_code (1 : Nat) (Option.none : Option Jvm.ClassFile.FieldType), Jvm.Cond.code ({ cls := "com/example/wayfare/wayfare/strategies/Fraction", name := "gcd", desc := "(JJ)J" } : Jvm.MethodName) prog_93_method_5_code (10 : Nat) (Option.some Jvm.ClassFile.FieldType.long), Jvm.Cond.code ({ cls := "java/lang/Math", name := "abs", desc := "(J)J" } : Jvm.MethodName) jdk_29_method_61_code (2 : Nat) (Option.some Jvm.ClassFile.FieldType.long), Jvm.Cond.code ({ cls := "com/example/wayfare/wayfare/strategies/Fraction", name := "doubleValue", desc := "()D" } : Jvm.MethodName) prog_93_method_3_code (1 : Nat) (Option.some Jvm.ClassFile.FieldType.double), Jvm.Cond.code ({ cls := "java/lang/Math", name := "max", desc := "(JJ)J" } : Jvm.MethodName) jdk_29_method_66_code (4 : Nat) (Option.some Jvm.ClassFile.FieldType.long)]
set_option maxRecDepth 65536 in
theorem codes_eq : words1.filter isCode = codes1 := rfl
theorem w_codes : ∀ c ∈ words1.filter isCode, c.before args0 about1 = true := by
  rw [codes_eq]
  intro c hc
  simp only [codes1, List.mem_cons, List.not_mem_nil, or_false] at hc
  rcases hc with rfl | rfl | rfl | rfl | rfl | rfl | rfl | rfl
  · exact w_c0
  · exact w_c1
  · exact w_c2
  · exact w_c3
  · exact w_c4
  · exact w_c5
  · exact w_c6
  · exact w_c7
set_option maxRecDepth 65536 in
theorem w_t1 : (words1.take 24).all (fun c => isCode c || c.before args0 about1) = true := by decide +kernel
set_option maxRecDepth 65536 in
theorem w_t2 : (words1.drop 24).all (fun c => isCode c || c.before args0 about1) = true := by decide +kernel
theorem w_tables : (allAtoms (Jvm.Cond.code x code maxLocals ret :: tables_1)).before args0 about1 = true := by
  rw [allAtoms_all]
  show words1.all (fun c => c.before args0 about1) = true
  refine all_split ?_ w_codes
  rw [← List.take_append_drop 24 words1, List.all_append, w_t1, w_t2]
  rfl
set_option maxRecDepth 65536 in
theorem w_case : (Jvm.Cond.and given_1 narrow_1).before args0 about1 = true := by decide +kernel
theorem w_applies : (headSpec (Jvm.Cond.code x code maxLocals ret :: tables_1) room_1).applies x e0.platform about1 = true :=
  (Spec.applies_iff w_frames).mpr ⟨w_running, w_runnable, w_alone, w_named, w_hears, w_ripe, w_room, w_tables⟩
theorem atStart : AtStart classFile x code maxLocals ret World_1 tables_1 room_1 Calls_1 rest_1 Pre_1 launch0 p0 e0 about1 theMethod args0 below0 :=
  ⟨lists_1, trivial, launch0.admits_env _ _ _, launch0.least_env, fairChoices_fair.cas, fairChoices_fair.clock, w_frames, w_args, w_heap, w_applies, trivial, trivial, w_case⟩
end start1
theorem witness_1 : WitnessClaimed_1 := ⟨start1.p0, start1.e0, start1.about1, start1.theMethod, start1.args0, start1.below0, start1.atStart⟩
end Jvm.Pilot.@@N@@
