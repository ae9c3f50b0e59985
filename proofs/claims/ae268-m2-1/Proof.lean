import JvmDerived
import JvmDerived.Pilot.@@N@@Statement
import JvmDerived.Pilot.@@N@@Code
set_option linter.unusedVariables false
set_option linter.unusedSimpArgs false
namespace Jvm.RoadKit
open Sem ClassFile Op Lib Jvm.Stand Jvm.Free Jvm.LawKit
section New
variable {p : Program} {l : Launch} {e : Env} {R : Room} {s : State} {m : MethodId} {args : Array Value} {below : List Frame} {meth : Method} {c : Code} {T T' : State} {locs : List Loc} {cells slots : Nat}
theorem retI (X : Stand p l e R s m args below meth c T locs cells slots) (hx : p.tables.exec = Jvm.exec) {pc : Nat} {Ls : Array Slot} {z : Int32} {rest : List Value} (hret : meth.sig.returnType = some .int) (hd : decode c.code pc = .ok (.ireturn, 1)) {fs : List Frame}
    (hl : ∀ (f : JFrame) (acts : List Action), f.method = m → f.locked = none → f.entered = [] → (doReturn e (T.setTop f) acts (some (.int z))).1 = T.setFrames fs) : Steps p.tables e below (T.setTop (mkF m pc Ls (.int z :: rest))) (T.setFrames fs) := by
  have hm' : T.vm.method? m = some meth := X.method'
  have hn : narrow .int (.int z) = .int z := rfl
  show Steps p.tables e below (T.setTop { method := m, pc := pc, locals := Ls, stack := _ :: rest, locked := none }) _
  jvm_step X.here [X.here.top, hx, hd, hm', hret, hn]
  first | (intro acts; rw [hl _ acts rfl rfl rfl]) | rw [hl _ _ rfl rfl rfl]
  exact Steps.refl _
/-- from here the run comes to its return, and Q holds of what it returns, of the heap and of what it wrote -/
def Go (p : Program) (e : Env) (below : List Frame) (s : State) (Q : Option Value → Heap → List Loc → Prop) (kc ks : Nat) (T : State) (g : JFrame) : Prop :=
  ∃ s₂ o, Steps p.tables e below (T.setTop g) s₂ ∧ s₂.status = .running ∧ Ended s₂ below o ∧ ∃ v L, o = .returned v ∧ Q v s₂.heap L ∧ FrameEnd s o s₂ L kc ks
variable {Q : Option Value → Heap → List Loc → Prop} {kc ks : Nat} {g g' : JFrame}
theorem Go.step (h : ∀ t, Steps p.tables e below (T'.setTop g') t → Steps p.tables e below (T.setTop g) t) (k : Go p e below s Q kc ks T' g') : Go p e below s Q kc ks T g := by
  obtain ⟨s₂, o, h1, r⟩ := k
  exact ⟨s₂, o, h _ h1, r⟩
theorem Go.cast (q : g = g') (k : Go p e below s Q kc ks T g') : Go p e below s Q kc ks T g := q ▸ k
theorem Go.done (X : Stand p l e R s m args below meth c T locs cells slots) (hlocks : meth.locks = false) {v : Option Value} (hv : meth.sig.returnType = none → v = none)
    (hret : ∀ fs, (∀ (f : JFrame) (acts : List Action), f.method = m → f.locked = none → f.entered = [] → (doReturn e (T.setTop f) acts v).1 = T.setFrames fs) → Steps p.tables e below (T.setTop g) (T.setFrames fs))
    {h : Heap} (eT : T.heap = h) (hQ : Q v h locs) (hc : cells ≤ kc) (hs : slots ≤ ks) : Go p e below s Q kc ks T g := by
  obtain ⟨fs, hr, hrun, hended, hW, hsame⟩ := X.leave hv hlocks
  refine ⟨_, _, hret fs hr, hrun, hended, _, _, rfl, ?_, ⟨_, rfl⟩, hW, hsame.mono hc hs⟩
  show Q v T.heap locs
  rw [eT]
  exact hQ
theorem Go.retV (X : Stand p l e R s m args below meth c T locs cells slots) (hx : p.tables.exec = Jvm.exec) (hlocks : meth.locks = false) (hr : meth.sig.returnType = none) {pc : Nat} {Ls : Array Slot} (hd : decode c.code pc = .ok (.return_, 1))
    {h : Heap} (eT : T.heap = h) (hQ : Q none h locs) (hc : cells ≤ kc) (hs : slots ≤ ks) : Go p e below s Q kc ks T (mkF m pc Ls []) :=
  Go.done X hlocks (fun _ => rfl) (fun fs k => X.returnOut hx hr hd k) eT hQ hc hs
theorem Go.retN (X : Stand p l e R s m args below meth c T locs cells slots) (hx : p.tables.exec = Jvm.exec) (hlocks : meth.locks = false) {t : FieldType} (hr : meth.sig.returnType = some t) (ht : t = .boolean ∨ t = .byte ∨ t = .char ∨ t = .short) {pc : Nat} {Ls : Array Slot} {z : Int32} {st : List Value} (hd : decode c.code pc = .ok (.ireturn, 1))
    {h : Heap} (eT : T.heap = h) (hQ : Q (some (.int (nar t z))) h locs) (hc : cells ≤ kc) (hs : slots ≤ ks) : Go p e below s Q kc ks T (mkF m pc Ls (.int z :: st)) :=
  Go.done X hlocks (fun q => by rw [hr] at q; cases q) (fun fs k => Jvm.RoadKit.retN X hx hr ht hd k) eT hQ hc hs
theorem Go.retI (X : Stand p l e R s m args below meth c T locs cells slots) (hx : p.tables.exec = Jvm.exec) (hlocks : meth.locks = false) (hr : meth.sig.returnType = some .int) {pc : Nat} {Ls : Array Slot} {z : Int32} {st : List Value} (hd : decode c.code pc = .ok (.ireturn, 1))
    {h : Heap} (eT : T.heap = h) (hQ : Q (some (.int z)) h locs) (hc : cells ≤ kc) (hs : slots ≤ ks) : Go p e below s Q kc ks T (mkF m pc Ls (.int z :: st)) :=
  Go.done X hlocks (fun q => by rw [hr] at q; cases q) (fun fs k => Jvm.RoadKit.retI X hx hr hd k) eT hQ hc hs
theorem Go.retJ (X : Stand p l e R s m args below meth c T locs cells slots) (hx : p.tables.exec = Jvm.exec) (hlocks : meth.locks = false) (hr : meth.sig.returnType = some .long) {pc : Nat} {Ls : Array Slot} {z : Int64} {st : List Value} (hd : decode c.code pc = .ok (.lreturn, 1))
    {h : Heap} (eT : T.heap = h) (hQ : Q (some (.long z)) h locs) (hc : cells ≤ kc) (hs : slots ≤ ks) : Go p e below s Q kc ks T (mkF m pc Ls (.long z :: st)) :=
  Go.done X hlocks (fun q => by rw [hr] at q; cases q) (fun fs k => retOut X hx hr rfl (Or.inr (Or.inl ⟨rfl, rfl, _, rfl⟩)) hd k) eT hQ hc hs
theorem Go.retA (X : Stand p l e R s m args below meth c T locs cells slots) (hx : p.tables.exec = Jvm.exec) (hlocks : meth.locks = false) {t : FieldType} (hr : meth.sig.returnType = some t) (ht : t.isReference = true) {w : Value} (hw : w.isRef = true) {pc : Nat} {Ls : Array Slot} {st : List Value} (hd : decode c.code pc = .ok (.areturn, 1))
    {h : Heap} (eT : T.heap = h) (hQ : Q (some w) h locs) (hc : cells ≤ kc) (hs : slots ≤ ks) : Go p e below s Q kc ks T (mkF m pc Ls (w :: st)) :=
  Go.done X hlocks (fun q => by rw [hr] at q; cases q) (fun fs k => retOut X hx hr (by cases t <;> first | (cases ht; done) | (rcases ref_cases hw with rfl | ⟨a, rfl⟩ <;> rfl)) (Or.inr (Or.inr (Or.inr (Or.inr ⟨rfl, ht, hw⟩)))) hd k) eT hQ hc hs
end New
end Jvm.RoadKit
namespace Jvm.Pilot.@@N@@
open Jvm Jvm.ClassFile Sem Op Lib Jvm.Free Jvm.Stand Jvm.LawKit Jvm.RoadKit Bundle Jvm.Pilot.@@N@@.Jvm.D
theorem own_cat {v : Value} (h : v.isRef = true) : v.category = 1 := by rcases ref_cases h with rfl | ⟨a, rfl⟩ <;> rfl
def own_r (bHELLO bREADY bBATCH bACK bEMIT bLOG bERROR bEND bBYE bPING bPONG : Addr) (c : Int64) : Value := if c = (1 : Int64) then .ref bHELLO else if c = (2 : Int64) then .ref bREADY else if c = (3 : Int64) then .ref bBATCH else if c = (4 : Int64) then .ref bACK else if c = (5 : Int64) then .ref bEMIT else if c = (6 : Int64) then .ref bLOG else if c = (7 : Int64) then .ref bERROR else if c = (8 : Int64) then .ref bEND else if c = (9 : Int64) then .ref bBYE else if c = (10 : Int64) then .ref bPING else if c = (11 : Int64) then .ref bPONG else .null
theorem own_rr (bHELLO bREADY bBATCH bACK bEMIT bLOG bERROR bEND bBYE bPING bPONG : Addr) (c : Int64) : (own_r bHELLO bREADY bBATCH bACK bEMIT bLOG bERROR bEND bBYE bPING bPONG c).isRef = true := by
  unfold own_r
  repeat' split
  all_goals rfl
theorem own_out (bHELLO bREADY bBATCH bACK bEMIT bLOG bERROR bEND bBYE bPING bPONG : Addr) (c : Int64) (h : c.toInt < 0 ∨ 12 ≤ c.toInt) : own_r bHELLO bREADY bBATCH bACK bEMIT bLOG bERROR bEND bBYE bPING bPONG c = .null := by
  have k : ∀ n : Int64, 0 ≤ n.toInt → n.toInt < 12 → ¬ c = n := fun n h1 h2 q => by subst q; omega
  unfold own_r
  rw [if_neg (k 1 (by decide) (by decide)), if_neg (k 2 (by decide) (by decide)), if_neg (k 3 (by decide) (by decide)), if_neg (k 4 (by decide) (by decide)), if_neg (k 5 (by decide) (by decide)), if_neg (k 6 (by decide) (by decide)), if_neg (k 7 (by decide) (by decide)), if_neg (k 8 (by decide) (by decide)), if_neg (k 9 (by decide) (by decide)), if_neg (k 10 (by decide) (by decide)), if_neg (k 11 (by decide) (by decide))]
theorem own_lt0 (c : Int64) (h : (lcmpW c (0 : Int64)) < (0 : Int32)) : c.toInt < 0 := by
  rw [lw_lt, Int64.lt_iff_toInt_lt] at h
  exact h
theorem own_ge12 (c : Int64) (h : ¬ (lcmpW c ((12 : Int32).toInt64)) < (0 : Int32)) : 12 ≤ c.toInt := by
  rw [lw_lt, Int64.lt_iff_toInt_lt] at h
  exact Int.not_lt.mp h
theorem own_range (c : Int64) (h1 : ¬ (lcmpW c (0 : Int64)) < (0 : Int32)) (h2 : (lcmpW c ((12 : Int32).toInt64)) < (0 : Int32)) : c = (0 : Int64) ∨ c = (1 : Int64) ∨ c = (2 : Int64) ∨ c = (3 : Int64) ∨ c = (4 : Int64) ∨ c = (5 : Int64) ∨ c = (6 : Int64) ∨ c = (7 : Int64) ∨ c = (8 : Int64) ∨ c = (9 : Int64) ∨ c = (10 : Int64) ∨ c = (11 : Int64) := by
  rw [lw_lt, Int64.lt_iff_toInt_lt] at h1 h2
  have h1' : ¬ c.toInt < 0 := h1
  have h2' : c.toInt < 12 := h2
  simp only [← Int64.toInt_inj]
  show c.toInt = 0 ∨ c.toInt = 1 ∨ c.toInt = 2 ∨ c.toInt = 3 ∨ c.toInt = 4 ∨ c.toInt = 5 ∨ c.toInt = 6 ∨ c.toInt = 7 ∨ c.toInt = 8 ∨ c.toInt = 9 ∨ c.toInt = 10 ∨ c.toInt = 11
  omega
theorem own_arrAt {s : State} {a : Addr} {cell : Cell} (h : s.arrayAt? a = some cell) : s.heap[a]? = some cell := by
  unfold State.arrayAt? at h
  cases hh : s.heap[a]? with
  | none => simp [hh] at h
  | some w =>
    simp only [hh, Option.bind_eq_bind, Option.bind_some] at h
    cases hk : s.vm.classes[w.cls]? with
    | none => simp [hk] at h
    | some k =>
      simp only [hk, Option.bind_some] at h
      split at h
      · cases h
      · split at h
        · cases h; rfl
        · cases h
theorem own_len {args : Array Value} {s : State} {t : Term} {z : Int32} {a : Addr} {cl : Cell} (h : (Cond.eq (Term.length t) (Term.int z)).value args s none s [] = some true) (ht : t.eval args s none [] s = some (.ref a)) (hc : s.heap[a]? = some cl) : cl.slots.size < 2 ^ 31 ∧ cl.slots.size.toInt32 = z := by
  obtain ⟨x, y, e1, e2, k1, k2⟩ := cmp_v (Or.inl h)
  obtain ⟨a', cell, q1, q2, q3⟩ := Term.length_spec e1
  cases ht.symm.trans q1
  cases (own_arrAt q2).symm.trans hc
  have lt : cl.slots.size < 2 ^ 31 := by
    by_cases w : cl.slots.size < 2 ^ 31
    · exact w
    · simp [Term.eval, ht, q2, w] at e1
  refine ⟨lt, ?_⟩
  subst q3
  have q := Cond.eq_ints e1 (Term.int_eval z)
  exact gotT q h
theorem own_elem {args : Array Value} {s : State} {t u : Term} {k : Int32} {a : Addr} {cl : Cell} {w : Value} (h : (Cond.eq (Term.elem t (Term.int k)) u).value args s none s [] = some true) (ht : t.eval args s none [] s = some (.ref a)) (hc : s.heap[a]? = some cl) (hu : u.eval args s none [] s = some w) (hw : w.isRef = true) : cl.slots[k.toNatClampNeg]? = some w := by
  obtain ⟨x, y, e1, e2, k1, k2⟩ := cmp_v (Or.inl h)
  cases hu.symm.trans e2
  obtain ⟨-, q⟩ := elem_in e1 ht (Term.int_eval k) hc
  rw [q]
  have hx : x.isRef = true := by
    rcases ref_cases hw with rfl | ⟨b, rfl⟩
    · exact k2.2
    · exact k2.2
  have r := eq_R e1 e2 hx hw
  rw [gotT r h]
theorem d1_0 : decode method_2_code 0 = .ok (.lload_n 0, 1) := by decide +kernel
theorem d1_1 : decode method_2_code 1 = .ok (.lconst 1, 1) := by decide +kernel
theorem d1_2 : decode method_2_code 2 = .ok (.lcmp, 1) := by decide +kernel
theorem d1_3 : decode method_2_code 3 = .ok (.ifCond .ne 7, 3) := by decide +kernel
theorem d1_6 : decode method_2_code 6 = .ok (.getstatic 7, 3) := by decide +kernel
theorem d1_9 : decode method_2_code 9 = .ok (.areturn, 1) := by decide +kernel
theorem d1_10 : decode method_2_code 10 = .ok (.lload_n 0, 1) := by decide +kernel
theorem d1_11 : decode method_2_code 11 = .ok (.ldc2_w 13, 3) := by decide +kernel
theorem d1_14 : decode method_2_code 14 = .ok (.lcmp, 1) := by decide +kernel
theorem d1_15 : decode method_2_code 15 = .ok (.ifCond .ne 7, 3) := by decide +kernel
theorem d1_18 : decode method_2_code 18 = .ok (.getstatic 15, 3) := by decide +kernel
theorem d1_21 : decode method_2_code 21 = .ok (.areturn, 1) := by decide +kernel
theorem d1_22 : decode method_2_code 22 = .ok (.lload_n 0, 1) := by decide +kernel
theorem d1_23 : decode method_2_code 23 = .ok (.ldc2_w 18, 3) := by decide +kernel
theorem d1_26 : decode method_2_code 26 = .ok (.lcmp, 1) := by decide +kernel
theorem d1_27 : decode method_2_code 27 = .ok (.ifCond .ne 7, 3) := by decide +kernel
theorem d1_30 : decode method_2_code 30 = .ok (.getstatic 20, 3) := by decide +kernel
theorem d1_33 : decode method_2_code 33 = .ok (.areturn, 1) := by decide +kernel
theorem d1_34 : decode method_2_code 34 = .ok (.lload_n 0, 1) := by decide +kernel
theorem d1_35 : decode method_2_code 35 = .ok (.ldc2_w 23, 3) := by decide +kernel
theorem d1_38 : decode method_2_code 38 = .ok (.lcmp, 1) := by decide +kernel
theorem d1_39 : decode method_2_code 39 = .ok (.ifCond .ne 7, 3) := by decide +kernel
theorem d1_42 : decode method_2_code 42 = .ok (.getstatic 25, 3) := by decide +kernel
theorem d1_45 : decode method_2_code 45 = .ok (.areturn, 1) := by decide +kernel
theorem d1_46 : decode method_2_code 46 = .ok (.lload_n 0, 1) := by decide +kernel
theorem d1_47 : decode method_2_code 47 = .ok (.ldc2_w 28, 3) := by decide +kernel
theorem d1_50 : decode method_2_code 50 = .ok (.lcmp, 1) := by decide +kernel
theorem d1_51 : decode method_2_code 51 = .ok (.ifCond .ne 7, 3) := by decide +kernel
theorem d1_54 : decode method_2_code 54 = .ok (.getstatic 30, 3) := by decide +kernel
theorem d1_57 : decode method_2_code 57 = .ok (.areturn, 1) := by decide +kernel
theorem d1_58 : decode method_2_code 58 = .ok (.lload_n 0, 1) := by decide +kernel
theorem d1_59 : decode method_2_code 59 = .ok (.ldc2_w 33, 3) := by decide +kernel
theorem d1_62 : decode method_2_code 62 = .ok (.lcmp, 1) := by decide +kernel
theorem d1_63 : decode method_2_code 63 = .ok (.ifCond .ne 7, 3) := by decide +kernel
theorem d1_66 : decode method_2_code 66 = .ok (.getstatic 35, 3) := by decide +kernel
theorem d1_69 : decode method_2_code 69 = .ok (.areturn, 1) := by decide +kernel
theorem d1_70 : decode method_2_code 70 = .ok (.lload_n 0, 1) := by decide +kernel
theorem d1_71 : decode method_2_code 71 = .ok (.ldc2_w 38, 3) := by decide +kernel
theorem d1_74 : decode method_2_code 74 = .ok (.lcmp, 1) := by decide +kernel
theorem d1_75 : decode method_2_code 75 = .ok (.ifCond .ne 7, 3) := by decide +kernel
theorem d1_78 : decode method_2_code 78 = .ok (.getstatic 40, 3) := by decide +kernel
theorem d1_81 : decode method_2_code 81 = .ok (.areturn, 1) := by decide +kernel
theorem d1_82 : decode method_2_code 82 = .ok (.lload_n 0, 1) := by decide +kernel
theorem d1_83 : decode method_2_code 83 = .ok (.ldc2_w 43, 3) := by decide +kernel
theorem d1_86 : decode method_2_code 86 = .ok (.lcmp, 1) := by decide +kernel
theorem d1_87 : decode method_2_code 87 = .ok (.ifCond .ne 7, 3) := by decide +kernel
theorem d1_90 : decode method_2_code 90 = .ok (.getstatic 45, 3) := by decide +kernel
theorem d1_93 : decode method_2_code 93 = .ok (.areturn, 1) := by decide +kernel
theorem d1_94 : decode method_2_code 94 = .ok (.lload_n 0, 1) := by decide +kernel
theorem d1_95 : decode method_2_code 95 = .ok (.ldc2_w 48, 3) := by decide +kernel
theorem d1_98 : decode method_2_code 98 = .ok (.lcmp, 1) := by decide +kernel
theorem d1_99 : decode method_2_code 99 = .ok (.ifCond .ne 7, 3) := by decide +kernel
theorem d1_102 : decode method_2_code 102 = .ok (.getstatic 50, 3) := by decide +kernel
theorem d1_105 : decode method_2_code 105 = .ok (.areturn, 1) := by decide +kernel
theorem d1_106 : decode method_2_code 106 = .ok (.lload_n 0, 1) := by decide +kernel
theorem d1_107 : decode method_2_code 107 = .ok (.ldc2_w 53, 3) := by decide +kernel
theorem d1_110 : decode method_2_code 110 = .ok (.lcmp, 1) := by decide +kernel
theorem d1_111 : decode method_2_code 111 = .ok (.ifCond .ne 7, 3) := by decide +kernel
theorem d1_114 : decode method_2_code 114 = .ok (.getstatic 55, 3) := by decide +kernel
theorem d1_117 : decode method_2_code 117 = .ok (.areturn, 1) := by decide +kernel
theorem d1_118 : decode method_2_code 118 = .ok (.lload_n 0, 1) := by decide +kernel
theorem d1_119 : decode method_2_code 119 = .ok (.ldc2_w 58, 3) := by decide +kernel
theorem d1_122 : decode method_2_code 122 = .ok (.lcmp, 1) := by decide +kernel
theorem d1_123 : decode method_2_code 123 = .ok (.ifCond .ne 7, 3) := by decide +kernel
theorem d1_126 : decode method_2_code 126 = .ok (.getstatic 60, 3) := by decide +kernel
theorem d1_129 : decode method_2_code 129 = .ok (.areturn, 1) := by decide +kernel
theorem d1_130 : decode method_2_code 130 = .ok (.aconst_null, 1) := by decide +kernel
theorem d1_131 : decode method_2_code 131 = .ok (.areturn, 1) := by decide +kernel
theorem d0_0 : decode prog_53_method_4_code 0 = .ok (.lload_n 0, 1) := by decide +kernel
theorem d0_1 : decode prog_53_method_4_code 1 = .ok (.lconst 0, 1) := by decide +kernel
theorem d0_2 : decode prog_53_method_4_code 2 = .ok (.lcmp, 1) := by decide +kernel
theorem d0_3 : decode prog_53_method_4_code 3 = .ok (.ifCond .lt 22, 3) := by decide +kernel
theorem d0_6 : decode prog_53_method_4_code 6 = .ok (.lload_n 0, 1) := by decide +kernel
theorem d0_7 : decode prog_53_method_4_code 7 = .ok (.getstatic 64, 3) := by decide +kernel
theorem d0_10 : decode prog_53_method_4_code 10 = .ok (.arraylength, 1) := by decide +kernel
theorem d0_11 : decode prog_53_method_4_code 11 = .ok (.i2l, 1) := by decide +kernel
theorem d0_12 : decode prog_53_method_4_code 12 = .ok (.lcmp, 1) := by decide +kernel
theorem d0_13 : decode prog_53_method_4_code 13 = .ok (.ifCond .ge 12, 3) := by decide +kernel
theorem d0_16 : decode prog_53_method_4_code 16 = .ok (.getstatic 64, 3) := by decide +kernel
theorem d0_19 : decode prog_53_method_4_code 19 = .ok (.lload_n 0, 1) := by decide +kernel
theorem d0_20 : decode prog_53_method_4_code 20 = .ok (.l2i, 1) := by decide +kernel
theorem d0_21 : decode prog_53_method_4_code 21 = .ok (.aaload, 1) := by decide +kernel
theorem d0_22 : decode prog_53_method_4_code 22 = .ok (.goto 4, 3) := by decide +kernel
theorem d0_25 : decode prog_53_method_4_code 25 = .ok (.aconst_null, 1) := by decide +kernel
theorem d0_26 : decode prog_53_method_4_code 26 = .ok (.areturn, 1) := by decide +kernel
theorem tw0 {Z : State} {a0 : Array Value} (hw : ∀ d ∈ tables_1, d.before a0 Z = true) : (Jvm.Cond.methodLink "com/example/shellwire/shellwire/wire/NativeFrameTypeOfPinLaw" (67 : Nat) ({ cls := "com/example/shellwire/shellwire/wire/NativeFrameType", name := "of", desc := "(J)Lcom/example/shellwire/shellwire/wire/NativeFrameType;" } : Jvm.MethodName)).before a0 Z = true := hw _ (List.mem_of_getElem? (i := 0) rfl)
theorem tw1 {Z : State} {a0 : Array Value} (hw : ∀ d ∈ tables_1, d.before a0 Z = true) : (Jvm.Cond.static ({ cls := "com/example/shellwire/shellwire/wire/NativeFrameType", name := "of", desc := "(J)Lcom/example/shellwire/shellwire/wire/NativeFrameType;" } : Jvm.MethodName)).before a0 Z = true := hw _ (List.mem_of_getElem? (i := 1) rfl)
theorem tw2 {Z : State} {a0 : Array Value} (hw : ∀ d ∈ tables_1, d.before a0 Z = true) : (Jvm.Cond.initialized "com/example/shellwire/shellwire/wire/NativeFrameType").before a0 Z = true := hw _ (List.mem_of_getElem? (i := 2) rfl)
theorem tw3 {Z : State} {a0 : Array Value} (hw : ∀ d ∈ tables_1, d.before a0 Z = true) : (Jvm.Cond.code ({ cls := "com/example/shellwire/shellwire/wire/NativeFrameType", name := "of", desc := "(J)Lcom/example/shellwire/shellwire/wire/NativeFrameType;" } : Jvm.MethodName) prog_53_method_4_code (2 : Nat) (Option.some (Jvm.ClassFile.FieldType.object "com/example/shellwire/shellwire/wire/NativeFrameType"))).before a0 Z = true := hw _ (List.mem_of_getElem? (i := 3) rfl)
theorem tw4 {Z : State} {a0 : Array Value} (hw : ∀ d ∈ tables_1, d.before a0 Z = true) : (Jvm.Cond.fieldLink "com/example/shellwire/shellwire/wire/NativeFrameType" (64 : Nat) "com/example/shellwire/shellwire/wire/NativeFrameType" "BY_CODE" "[Lcom/example/shellwire/shellwire/wire/NativeFrameType;").before a0 Z = true := hw _ (List.mem_of_getElem? (i := 4) rfl)
theorem tw5 {Z : State} {a0 : Array Value} (hw : ∀ d ∈ tables_1, d.before a0 Z = true) : (Jvm.Cond.laysStatic "com/example/shellwire/shellwire/wire/NativeFrameType" "BY_CODE" "[Lcom/example/shellwire/shellwire/wire/NativeFrameType;").before a0 Z = true := hw _ (List.mem_of_getElem? (i := 5) rfl)
theorem tw6 {Z : State} {a0 : Array Value} (hw : ∀ d ∈ tables_1, d.before a0 Z = true) : (Jvm.Cond.laysStatic "com/example/shellwire/shellwire/wire/NativeFrameType" "BATCH" "Lcom/example/shellwire/shellwire/wire/NativeFrameType;").before a0 Z = true := hw _ (List.mem_of_getElem? (i := 6) rfl)
theorem tw7 {Z : State} {a0 : Array Value} (hw : ∀ d ∈ tables_1, d.before a0 Z = true) : (Jvm.Cond.methodLink "com/example/shellwire/shellwire/wire/NativeFrameTypeOfPinLaw" (71 : Nat) ({ cls := "com/example/shellwire/shellwire/wire/NativeFrameTypeOfPinLaw", name := "expected", desc := "(J)Lcom/example/shellwire/shellwire/wire/NativeFrameType;" } : Jvm.MethodName)).before a0 Z = true := hw _ (List.mem_of_getElem? (i := 7) rfl)
theorem tw8 {Z : State} {a0 : Array Value} (hw : ∀ d ∈ tables_1, d.before a0 Z = true) : (Jvm.Cond.static ({ cls := "com/example/shellwire/shellwire/wire/NativeFrameTypeOfPinLaw", name := "expected", desc := "(J)Lcom/example/shellwire/shellwire/wire/NativeFrameType;" } : Jvm.MethodName)).before a0 Z = true := hw _ (List.mem_of_getElem? (i := 8) rfl)
theorem tw9 {Z : State} {a0 : Array Value} (hw : ∀ d ∈ tables_1, d.before a0 Z = true) : (Jvm.Cond.initialized "com/example/shellwire/shellwire/wire/NativeFrameTypeOfPinLaw").before a0 Z = true := hw _ (List.mem_of_getElem? (i := 9) rfl)
theorem tw10 {Z : State} {a0 : Array Value} (hw : ∀ d ∈ tables_1, d.before a0 Z = true) : (Jvm.Cond.code ({ cls := "com/example/shellwire/shellwire/wire/NativeFrameTypeOfPinLaw", name := "expected", desc := "(J)Lcom/example/shellwire/shellwire/wire/NativeFrameType;" } : Jvm.MethodName) method_2_code (2 : Nat) (Option.some (Jvm.ClassFile.FieldType.object "com/example/shellwire/shellwire/wire/NativeFrameType"))).before a0 Z = true := hw _ (List.mem_of_getElem? (i := 10) rfl)
theorem tw11 {Z : State} {a0 : Array Value} (hw : ∀ d ∈ tables_1, d.before a0 Z = true) : (Jvm.Cond.constantLong "com/example/shellwire/shellwire/wire/NativeFrameTypeOfPinLaw" (13 : Nat) (2 : Int64)).before a0 Z = true := hw _ (List.mem_of_getElem? (i := 11) rfl)
theorem tw12 {Z : State} {a0 : Array Value} (hw : ∀ d ∈ tables_1, d.before a0 Z = true) : (Jvm.Cond.constantLong "com/example/shellwire/shellwire/wire/NativeFrameTypeOfPinLaw" (18 : Nat) (3 : Int64)).before a0 Z = true := hw _ (List.mem_of_getElem? (i := 12) rfl)
theorem tw13 {Z : State} {a0 : Array Value} (hw : ∀ d ∈ tables_1, d.before a0 Z = true) : (Jvm.Cond.fieldLink "com/example/shellwire/shellwire/wire/NativeFrameTypeOfPinLaw" (20 : Nat) "com/example/shellwire/shellwire/wire/NativeFrameType" "BATCH" "Lcom/example/shellwire/shellwire/wire/NativeFrameType;").before a0 Z = true := hw _ (List.mem_of_getElem? (i := 13) rfl)
theorem tw14 {Z : State} {a0 : Array Value} (hw : ∀ d ∈ tables_1, d.before a0 Z = true) : (Jvm.Cond.constantLong "com/example/shellwire/shellwire/wire/NativeFrameTypeOfPinLaw" (63 : Nat) (255 : Int64)).before a0 Z = true := hw _ (List.mem_of_getElem? (i := 14) rfl)
theorem tw15 {Z : State} {a0 : Array Value} (hw : ∀ d ∈ tables_1, d.before a0 Z = true) : (Jvm.Cond.constantLong "com/example/shellwire/shellwire/wire/NativeFrameTypeOfPinLaw" (65 : Nat) (4294967296 : Int64)).before a0 Z = true := hw _ (List.mem_of_getElem? (i := 15) rfl)
theorem tw16 {Z : State} {a0 : Array Value} (hw : ∀ d ∈ tables_1, d.before a0 Z = true) : (Jvm.Cond.constantLong "com/example/shellwire/shellwire/wire/NativeFrameTypeOfPinLaw" (23 : Nat) (4 : Int64)).before a0 Z = true := hw _ (List.mem_of_getElem? (i := 16) rfl)
theorem tw17 {Z : State} {a0 : Array Value} (hw : ∀ d ∈ tables_1, d.before a0 Z = true) : (Jvm.Cond.constantLong "com/example/shellwire/shellwire/wire/NativeFrameTypeOfPinLaw" (28 : Nat) (5 : Int64)).before a0 Z = true := hw _ (List.mem_of_getElem? (i := 17) rfl)
theorem tw18 {Z : State} {a0 : Array Value} (hw : ∀ d ∈ tables_1, d.before a0 Z = true) : (Jvm.Cond.constantLong "com/example/shellwire/shellwire/wire/NativeFrameTypeOfPinLaw" (33 : Nat) (6 : Int64)).before a0 Z = true := hw _ (List.mem_of_getElem? (i := 18) rfl)
theorem tw19 {Z : State} {a0 : Array Value} (hw : ∀ d ∈ tables_1, d.before a0 Z = true) : (Jvm.Cond.constantLong "com/example/shellwire/shellwire/wire/NativeFrameTypeOfPinLaw" (38 : Nat) (7 : Int64)).before a0 Z = true := hw _ (List.mem_of_getElem? (i := 19) rfl)
theorem tw20 {Z : State} {a0 : Array Value} (hw : ∀ d ∈ tables_1, d.before a0 Z = true) : (Jvm.Cond.constantLong "com/example/shellwire/shellwire/wire/NativeFrameTypeOfPinLaw" (43 : Nat) (8 : Int64)).before a0 Z = true := hw _ (List.mem_of_getElem? (i := 20) rfl)
theorem tw21 {Z : State} {a0 : Array Value} (hw : ∀ d ∈ tables_1, d.before a0 Z = true) : (Jvm.Cond.constantLong "com/example/shellwire/shellwire/wire/NativeFrameTypeOfPinLaw" (48 : Nat) (9 : Int64)).before a0 Z = true := hw _ (List.mem_of_getElem? (i := 21) rfl)
theorem tw22 {Z : State} {a0 : Array Value} (hw : ∀ d ∈ tables_1, d.before a0 Z = true) : (Jvm.Cond.constantLong "com/example/shellwire/shellwire/wire/NativeFrameTypeOfPinLaw" (53 : Nat) (10 : Int64)).before a0 Z = true := hw _ (List.mem_of_getElem? (i := 22) rfl)
theorem tw23 {Z : State} {a0 : Array Value} (hw : ∀ d ∈ tables_1, d.before a0 Z = true) : (Jvm.Cond.constantLong "com/example/shellwire/shellwire/wire/NativeFrameTypeOfPinLaw" (58 : Nat) (11 : Int64)).before a0 Z = true := hw _ (List.mem_of_getElem? (i := 23) rfl)
theorem tw24 {Z : State} {a0 : Array Value} (hw : ∀ d ∈ tables_1, d.before a0 Z = true) : (Jvm.Cond.laysStatic "com/example/shellwire/shellwire/wire/NativeFrameType" "HELLO" "Lcom/example/shellwire/shellwire/wire/NativeFrameType;").before a0 Z = true := hw _ (List.mem_of_getElem? (i := 24) rfl)
theorem tw25 {Z : State} {a0 : Array Value} (hw : ∀ d ∈ tables_1, d.before a0 Z = true) : (Jvm.Cond.fieldLink "com/example/shellwire/shellwire/wire/NativeFrameTypeOfPinLaw" (7 : Nat) "com/example/shellwire/shellwire/wire/NativeFrameType" "HELLO" "Lcom/example/shellwire/shellwire/wire/NativeFrameType;").before a0 Z = true := hw _ (List.mem_of_getElem? (i := 25) rfl)
theorem tw26 {Z : State} {a0 : Array Value} (hw : ∀ d ∈ tables_1, d.before a0 Z = true) : (Jvm.Cond.laysStatic "com/example/shellwire/shellwire/wire/NativeFrameType" "BYE" "Lcom/example/shellwire/shellwire/wire/NativeFrameType;").before a0 Z = true := hw _ (List.mem_of_getElem? (i := 26) rfl)
theorem tw27 {Z : State} {a0 : Array Value} (hw : ∀ d ∈ tables_1, d.before a0 Z = true) : (Jvm.Cond.fieldLink "com/example/shellwire/shellwire/wire/NativeFrameTypeOfPinLaw" (50 : Nat) "com/example/shellwire/shellwire/wire/NativeFrameType" "BYE" "Lcom/example/shellwire/shellwire/wire/NativeFrameType;").before a0 Z = true := hw _ (List.mem_of_getElem? (i := 27) rfl)
theorem tw28 {Z : State} {a0 : Array Value} (hw : ∀ d ∈ tables_1, d.before a0 Z = true) : (Jvm.Cond.laysStatic "com/example/shellwire/shellwire/wire/NativeFrameType" "ACK" "Lcom/example/shellwire/shellwire/wire/NativeFrameType;").before a0 Z = true := hw _ (List.mem_of_getElem? (i := 28) rfl)
theorem tw29 {Z : State} {a0 : Array Value} (hw : ∀ d ∈ tables_1, d.before a0 Z = true) : (Jvm.Cond.fieldLink "com/example/shellwire/shellwire/wire/NativeFrameTypeOfPinLaw" (25 : Nat) "com/example/shellwire/shellwire/wire/NativeFrameType" "ACK" "Lcom/example/shellwire/shellwire/wire/NativeFrameType;").before a0 Z = true := hw _ (List.mem_of_getElem? (i := 29) rfl)
theorem tw30 {Z : State} {a0 : Array Value} (hw : ∀ d ∈ tables_1, d.before a0 Z = true) : (Jvm.Cond.laysStatic "com/example/shellwire/shellwire/wire/NativeFrameType" "ERROR" "Lcom/example/shellwire/shellwire/wire/NativeFrameType;").before a0 Z = true := hw _ (List.mem_of_getElem? (i := 30) rfl)
theorem tw31 {Z : State} {a0 : Array Value} (hw : ∀ d ∈ tables_1, d.before a0 Z = true) : (Jvm.Cond.fieldLink "com/example/shellwire/shellwire/wire/NativeFrameTypeOfPinLaw" (40 : Nat) "com/example/shellwire/shellwire/wire/NativeFrameType" "ERROR" "Lcom/example/shellwire/shellwire/wire/NativeFrameType;").before a0 Z = true := hw _ (List.mem_of_getElem? (i := 31) rfl)
theorem tw32 {Z : State} {a0 : Array Value} (hw : ∀ d ∈ tables_1, d.before a0 Z = true) : (Jvm.Cond.laysStatic "com/example/shellwire/shellwire/wire/NativeFrameType" "EMIT" "Lcom/example/shellwire/shellwire/wire/NativeFrameType;").before a0 Z = true := hw _ (List.mem_of_getElem? (i := 32) rfl)
theorem tw33 {Z : State} {a0 : Array Value} (hw : ∀ d ∈ tables_1, d.before a0 Z = true) : (Jvm.Cond.fieldLink "com/example/shellwire/shellwire/wire/NativeFrameTypeOfPinLaw" (30 : Nat) "com/example/shellwire/shellwire/wire/NativeFrameType" "EMIT" "Lcom/example/shellwire/shellwire/wire/NativeFrameType;").before a0 Z = true := hw _ (List.mem_of_getElem? (i := 33) rfl)
theorem tw34 {Z : State} {a0 : Array Value} (hw : ∀ d ∈ tables_1, d.before a0 Z = true) : (Jvm.Cond.laysStatic "com/example/shellwire/shellwire/wire/NativeFrameType" "PING" "Lcom/example/shellwire/shellwire/wire/NativeFrameType;").before a0 Z = true := hw _ (List.mem_of_getElem? (i := 34) rfl)
theorem tw35 {Z : State} {a0 : Array Value} (hw : ∀ d ∈ tables_1, d.before a0 Z = true) : (Jvm.Cond.fieldLink "com/example/shellwire/shellwire/wire/NativeFrameTypeOfPinLaw" (55 : Nat) "com/example/shellwire/shellwire/wire/NativeFrameType" "PING" "Lcom/example/shellwire/shellwire/wire/NativeFrameType;").before a0 Z = true := hw _ (List.mem_of_getElem? (i := 35) rfl)
theorem tw36 {Z : State} {a0 : Array Value} (hw : ∀ d ∈ tables_1, d.before a0 Z = true) : (Jvm.Cond.laysStatic "com/example/shellwire/shellwire/wire/NativeFrameType" "LOG" "Lcom/example/shellwire/shellwire/wire/NativeFrameType;").before a0 Z = true := hw _ (List.mem_of_getElem? (i := 36) rfl)
theorem tw37 {Z : State} {a0 : Array Value} (hw : ∀ d ∈ tables_1, d.before a0 Z = true) : (Jvm.Cond.fieldLink "com/example/shellwire/shellwire/wire/NativeFrameTypeOfPinLaw" (35 : Nat) "com/example/shellwire/shellwire/wire/NativeFrameType" "LOG" "Lcom/example/shellwire/shellwire/wire/NativeFrameType;").before a0 Z = true := hw _ (List.mem_of_getElem? (i := 37) rfl)
theorem tw38 {Z : State} {a0 : Array Value} (hw : ∀ d ∈ tables_1, d.before a0 Z = true) : (Jvm.Cond.laysStatic "com/example/shellwire/shellwire/wire/NativeFrameType" "PONG" "Lcom/example/shellwire/shellwire/wire/NativeFrameType;").before a0 Z = true := hw _ (List.mem_of_getElem? (i := 38) rfl)
theorem tw39 {Z : State} {a0 : Array Value} (hw : ∀ d ∈ tables_1, d.before a0 Z = true) : (Jvm.Cond.fieldLink "com/example/shellwire/shellwire/wire/NativeFrameTypeOfPinLaw" (60 : Nat) "com/example/shellwire/shellwire/wire/NativeFrameType" "PONG" "Lcom/example/shellwire/shellwire/wire/NativeFrameType;").before a0 Z = true := hw _ (List.mem_of_getElem? (i := 39) rfl)
theorem tw40 {Z : State} {a0 : Array Value} (hw : ∀ d ∈ tables_1, d.before a0 Z = true) : (Jvm.Cond.laysStatic "com/example/shellwire/shellwire/wire/NativeFrameType" "END" "Lcom/example/shellwire/shellwire/wire/NativeFrameType;").before a0 Z = true := hw _ (List.mem_of_getElem? (i := 40) rfl)
theorem tw41 {Z : State} {a0 : Array Value} (hw : ∀ d ∈ tables_1, d.before a0 Z = true) : (Jvm.Cond.fieldLink "com/example/shellwire/shellwire/wire/NativeFrameTypeOfPinLaw" (45 : Nat) "com/example/shellwire/shellwire/wire/NativeFrameType" "END" "Lcom/example/shellwire/shellwire/wire/NativeFrameType;").before a0 Z = true := hw _ (List.mem_of_getElem? (i := 41) rfl)
theorem tw42 {Z : State} {a0 : Array Value} (hw : ∀ d ∈ tables_1, d.before a0 Z = true) : (Jvm.Cond.laysStatic "com/example/shellwire/shellwire/wire/NativeFrameType" "READY" "Lcom/example/shellwire/shellwire/wire/NativeFrameType;").before a0 Z = true := hw _ (List.mem_of_getElem? (i := 42) rfl)
theorem tw43 {Z : State} {a0 : Array Value} (hw : ∀ d ∈ tables_1, d.before a0 Z = true) : (Jvm.Cond.fieldLink "com/example/shellwire/shellwire/wire/NativeFrameTypeOfPinLaw" (15 : Nat) "com/example/shellwire/shellwire/wire/NativeFrameType" "READY" "Lcom/example/shellwire/shellwire/wire/NativeFrameType;").before a0 Z = true := hw _ (List.mem_of_getElem? (i := 43) rfl)
theorem pd_0 : parseMethodDescriptor "(J)Lcom/example/shellwire/shellwire/wire/NativeFrameType;" = some ⟨[.long], some (.object "com/example/shellwire/shellwire/wire/NativeFrameType")⟩ := by decide +kernel
theorem pn_0 : plainName "com/example/shellwire/shellwire/wire/NativeFrameType" = true := by first | (simp [plainName, overriddenIn]; done) | decide +kernel
theorem pn_1 : plainName "com/example/shellwire/shellwire/wire/NativeFrameTypeOfPinLaw" = true := by first | (simp [plainName, overriddenIn]; done) | decide +kernel
abbrev xs0 : String := "com/example/shellwire/shellwire/wire/NativeFrameTypeOfPinLaw"
abbrev xs1 : String := "(J)Lcom/example/shellwire/shellwire/wire/NativeFrameType;"
abbrev xs2 : String := "Lcom/example/shellwire/shellwire/wire/NativeFrameType;"
abbrev xs3 : String := "com/example/shellwire/shellwire/wire/NativeFrameType"
abbrev xm0 : MethodName := (⟨xs0, "expected", xs1⟩ : MethodName)
abbrev xm1 : MethodName := (⟨xs3, "of", xs1⟩ : MethodName)
abbrev xr0 : Room := ({ frames := 0, cells := 0, slots := 0, locals := 0 } : Room)
theorem ef_of (m : MethodId) (x0 : Int64) : entryFrame m #[(.long x0)] 2 = mkF m 0 #[.val (.long x0), .second] [] := by first | (simp [entryFrame, mkF, argsToLocals, Value.category]; done) | rfl
def Q_of (Z : State) (q1 : Int64) (bHELLO : Addr) (bREADY : Addr) (bBATCH : Addr) (bACK : Addr) (bEMIT : Addr) (bLOG : Addr) (bERROR : Addr) (bEND : Addr) (bBYE : Addr) (bPING : Addr) (bPONG : Addr) (ab : Addr) (kk : ClassId) (h0 : Heap) (n0 : Nat) (v : Option Value) (h : Heap) (L : List Loc) : Prop := v = some (own_r bHELLO bREADY bBATCH bACK bEMIT bLOG bERROR bEND bBYE bPING bPONG q1) ∧ Fr n0 L ∧ h = h0
set_option maxRecDepth 65536 in
set_option maxHeartbeats 40000000 in
theorem rm_of (l : Launch) (Z : State) (a0 : Array Value) (hw : ∀ d ∈ tables_1, d.before a0 Z = true) (ws : List Jvm.Cond) (q1 : Int64) (bHELLO : Addr) (bREADY : Addr) (bBATCH : Addr) (bACK : Addr) (bEMIT : Addr) (bLOG : Addr) (bERROR : Addr) (bEND : Addr) (bBYE : Addr) (bPING : Addr) (bPONG : Addr) (ab : Addr) (kk : ClassId) (h0 : Heap) (n0 : Nat) (Z0 : n0 ≤ h0.size) (S_BY_CODE : Sta Z h0 xs3 "BY_CODE" "[Lcom/example/shellwire/shellwire/wire/NativeFrameType;" (.ref ab)) (V_ab : Arv Z h0 ab kk (.object xs3) (12 : Int32) [.null, (.ref bHELLO), (.ref bREADY), (.ref bBATCH), (.ref bACK), (.ref bEMIT), (.ref bLOG), (.ref bERROR), (.ref bEND), (.ref bBYE), (.ref bPING), (.ref bPONG)] .null) :
    MetFree l xm1 (head1 (Jvm.Cond.code xm1 prog_53_method_4_code 2 (some (.object xs3)) :: ws) xr0) (fun a U => a = #[(.long q1)] ∧ Z.Warmed39 U.vm ∧ U.heap = h0) (fun _ _ _ _ _ => True) (fun _ U o U' => ∃ v L, o = .returned v ∧ Q_of Z q1 bHELLO bREADY bBATCH bACK bEMIT bLOG bERROR bEND bBYE bPING bPONG ab kk h0 n0 v U'.heap L ∧ FrameEnd U o U' L xr0.cells xr0.slots) := by
  refine MetFree.of_bodySF (plainFor_of_name pn_0) hisR ?_
  intro p e s m args below meth c s₁ Bd hml0 hP hK
  obtain ⟨rfl, hZ, hh⟩ := hP
  have hx := Bd.exec
  have hby := Bd.bytes
  have hlk : meth.locks = false := BodyLoose.notSynchronized Bd
  have hml : c.maxLocals = 2 := hml0
  have hown : s.vm.findClass xs3 = some m.cls := findClass_of_methodNamed Bd.named
  have hnm := (name_of_methodNamed Bd.named Bd.method).1
  have X0 : Stand p l e xr0 s m #[(.long q1)] below meth c s₁ [] 0 0 := Stand.of_body Bd
  have e0 : s₁.heap = h0 := by rw [← hh, Bd.state]; rfl
  have N0 := Fr.nil n0
  show Go p e below s (Q_of Z q1 bHELLO bREADY bBATCH bACK bEMIT bLOG bERROR bEND bBYE bPING bPONG ab kk h0 n0) xr0.cells xr0.slots s₁ (entryFrame m #[(.long q1)] 2)
  refine Go.cast (ef_of m q1) ?_
  show Go p e below s _ _ _ s₁ (mkF m 0 #[.val (.long q1), .second] [])
  refine Go.step (fun _ k => XS.lloadN X0.here hx rfl (hb hby d0_0) rfl (XS.lconst X0.here hx rfl (hb hby d0_1) (XS.lcmp X0.here hx rfl (hb hby d0_2) rfl k))) ?_
  show Go p e below s _ _ _ s₁ (mkF m 3 #[.val (.long q1), .second] [(.int (lcmpW q1 (0 : Int64)))])
  by_cases hc1 : (lcmpW q1 (0 : Int64)) < (0 : Int32)
  · refine Go.step (fun _ k => XS.ifYes X0.here hx rfl (pc0 := 3) (pc' := 25) rfl (hb hby d0_3) rfl ((if0 _ _).trans (tlt hc1).1) (by decide) (by decide) (XS.aconstNull X0.here hx rfl (hb hby d0_25) k)) ?_
    show Go p e below s _ _ _ s₁ (mkF m 26 #[.val (.long q1), .second] [.null])
    exact Go.retA X0 hx hlk Bd.returns rfl rfl (hb hby d0_26) e0 ⟨(by rw [own_out bHELLO bREADY bBATCH bACK bEMIT bLOG bERROR bEND bBYE bPING bPONG q1 (Or.inl (own_lt0 q1 hc1))]), N0, rfl⟩ (by decide) (by decide)
  · refine Go.step (fun _ k => XS.ifNo X0.here hx rfl (hb hby d0_3) rfl ((if0 _ _).trans (flt hc1).1) (XS.lloadN X0.here hx rfl (hb hby d0_6) rfl k)) ?_
    show Go p e below s _ _ _ s₁ (mkF m 7 #[.val (.long q1), .second] [(.long q1)])
    obtain ⟨T1, X1, e1, st1⟩ := getS2 X0 hx hZ hown (host := "") (Or.inl (tw4 hw)) Via.refl e0 S_BY_CODE (g := (mkF m 7 #[.val (.long q1), .second] [(.long q1)])) rfl (hb hby d0_7)
    refine Go.step (fun _ k => st1 _ k) ?_
    show Go p e below s _ _ _ T1 (mkF m 10 #[.val (.long q1), .second] [(.ref ab), (.long q1)])
    obtain ⟨cl2, Ar2, -, Sz2, Ng2, -, -⟩ := id V_ab
    have aln2 := X1.arraylength hx (by rw [e1]; exact Ar2.1) (State.isArrayOf_alike hZ.alike Ar2.2.1) (g := (mkF m 10 #[.val (.long q1), .second] [(.ref ab), (.long q1)])) rfl rfl (hb hby d0_10)
    rw [len_of Sz2 Ng2] at aln2
    refine Go.step (fun _ k => aln2 _ (XS.i2l X1.here hx rfl (hb hby d0_11) rfl (XS.lcmp X1.here hx rfl (hb hby d0_12) rfl k))) ?_
    show Go p e below s _ _ _ T1 (mkF m 13 #[.val (.long q1), .second] [(.int (lcmpW q1 ((12 : Int32).toInt64)))])
    by_cases hc2 : (lcmpW q1 ((12 : Int32).toInt64)) < (0 : Int32)
    · refine Go.step (fun _ k => XS.ifNo X1.here hx rfl (hb hby d0_13) rfl ((if0 _ _).trans (tlt hc2).2.1) k) ?_
      show Go p e below s _ _ _ T1 (mkF m 16 #[.val (.long q1), .second] [])
      rcases own_range q1 hc1 hc2 with ho | ho | ho | ho | ho | ho | ho | ho | ho | ho | ho | ho
      · obtain ⟨T3, X3, e3, st3⟩ := getS2 X1 hx hZ hown (host := "") (Or.inl (tw4 hw)) Via.refl e1 S_BY_CODE (g := (mkF m 16 #[.val (.long q1), .second] [])) rfl (hb hby d0_16)
        refine Go.step (fun _ k => st3 _ (XS.lloadN X3.here hx rfl (hb hby d0_19) rfl (XS.l2i X3.here hx rfl (hb hby d0_20) rfl k))) ?_
        show Go p e below s _ _ _ T3 (mkF m 21 #[.val (.long q1), .second] [(.int (q1.toInt32)), (.ref ab)])
        rw [show q1.toInt32 = (0 : Int32) from (by rw [ho]; rfl)]
        show Go p e below s _ _ _ T3 (mkF m 21 #[.val (.long q1), .second] [(.int (0 : Int32)), (.ref ab)])
        obtain ⟨cl4, Ar4, -, Sz4, Ng4, Hs4, Ft4⟩ := id V_ab
        have in4 : ¬ ((0 : Int32) < 0 ∨ cl4.slots.size ≤ ((0 : Int32)).toNatClampNeg) := (inb_of Sz4 ⟨by decide, by decide⟩)
        have at4 : cl4.slots[((0 : Int32)).toNatClampNeg]? = some .null := Hs4.at in4 rfl
        refine Go.step (fun _ k => X3.aaload hx (j := (0 : Int32)) (v := .null) (by rw [e3]; exact Ar4.1) (State.isArrayOf_alike hZ.alike Ar4.2.1) rfl Ar4.2.2 in4 at4 (g := (mkF m 21 #[.val (.long q1), .second] [(.int (0 : Int32)), (.ref ab)])) rfl rfl (hb hby d0_21) _ (XS.goto X3.here hx rfl (pc0 := 22) (pc' := 26) rfl (hb hby d0_22) (by decide) (by decide) k)) ?_
        show Go p e below s _ _ _ T3 (mkF m 26 #[.val (.long q1), .second] [.null])
        exact Go.retA X3 hx hlk Bd.returns rfl rfl (hb hby d0_26) e3 ⟨(by rw [ho]; rfl), N0, rfl⟩ (by decide) (by decide)
      · obtain ⟨T5, X5, e5, st5⟩ := getS2 X1 hx hZ hown (host := "") (Or.inl (tw4 hw)) Via.refl e1 S_BY_CODE (g := (mkF m 16 #[.val (.long q1), .second] [])) rfl (hb hby d0_16)
        refine Go.step (fun _ k => st5 _ (XS.lloadN X5.here hx rfl (hb hby d0_19) rfl (XS.l2i X5.here hx rfl (hb hby d0_20) rfl k))) ?_
        show Go p e below s _ _ _ T5 (mkF m 21 #[.val (.long q1), .second] [(.int (q1.toInt32)), (.ref ab)])
        rw [show q1.toInt32 = (1 : Int32) from (by rw [ho]; rfl)]
        show Go p e below s _ _ _ T5 (mkF m 21 #[.val (.long q1), .second] [(.int (1 : Int32)), (.ref ab)])
        obtain ⟨cl6, Ar6, -, Sz6, Ng6, Hs6, Ft6⟩ := id V_ab
        have in6 : ¬ ((1 : Int32) < 0 ∨ cl6.slots.size ≤ ((1 : Int32)).toNatClampNeg) := (inb_of Sz6 ⟨by decide, by decide⟩)
        have at6 : cl6.slots[((1 : Int32)).toNatClampNeg]? = some (.ref bHELLO) := Hs6.at in6 rfl
        refine Go.step (fun _ k => X5.aaload hx (j := (1 : Int32)) (v := (.ref bHELLO)) (by rw [e5]; exact Ar6.1) (State.isArrayOf_alike hZ.alike Ar6.2.1) rfl Ar6.2.2 in6 at6 (g := (mkF m 21 #[.val (.long q1), .second] [(.int (1 : Int32)), (.ref ab)])) rfl rfl (hb hby d0_21) _ (XS.goto X5.here hx rfl (pc0 := 22) (pc' := 26) rfl (hb hby d0_22) (by decide) (by decide) k)) ?_
        show Go p e below s _ _ _ T5 (mkF m 26 #[.val (.long q1), .second] [(.ref bHELLO)])
        exact Go.retA X5 hx hlk Bd.returns rfl rfl (hb hby d0_26) e5 ⟨(by rw [ho]; rfl), N0, rfl⟩ (by decide) (by decide)
      · obtain ⟨T7, X7, e7, st7⟩ := getS2 X1 hx hZ hown (host := "") (Or.inl (tw4 hw)) Via.refl e1 S_BY_CODE (g := (mkF m 16 #[.val (.long q1), .second] [])) rfl (hb hby d0_16)
        refine Go.step (fun _ k => st7 _ (XS.lloadN X7.here hx rfl (hb hby d0_19) rfl (XS.l2i X7.here hx rfl (hb hby d0_20) rfl k))) ?_
        show Go p e below s _ _ _ T7 (mkF m 21 #[.val (.long q1), .second] [(.int (q1.toInt32)), (.ref ab)])
        rw [show q1.toInt32 = (2 : Int32) from (by rw [ho]; rfl)]
        show Go p e below s _ _ _ T7 (mkF m 21 #[.val (.long q1), .second] [(.int (2 : Int32)), (.ref ab)])
        obtain ⟨cl8, Ar8, -, Sz8, Ng8, Hs8, Ft8⟩ := id V_ab
        have in8 : ¬ ((2 : Int32) < 0 ∨ cl8.slots.size ≤ ((2 : Int32)).toNatClampNeg) := (inb_of Sz8 ⟨by decide, by decide⟩)
        have at8 : cl8.slots[((2 : Int32)).toNatClampNeg]? = some (.ref bREADY) := Hs8.at in8 rfl
        refine Go.step (fun _ k => X7.aaload hx (j := (2 : Int32)) (v := (.ref bREADY)) (by rw [e7]; exact Ar8.1) (State.isArrayOf_alike hZ.alike Ar8.2.1) rfl Ar8.2.2 in8 at8 (g := (mkF m 21 #[.val (.long q1), .second] [(.int (2 : Int32)), (.ref ab)])) rfl rfl (hb hby d0_21) _ (XS.goto X7.here hx rfl (pc0 := 22) (pc' := 26) rfl (hb hby d0_22) (by decide) (by decide) k)) ?_
        show Go p e below s _ _ _ T7 (mkF m 26 #[.val (.long q1), .second] [(.ref bREADY)])
        exact Go.retA X7 hx hlk Bd.returns rfl rfl (hb hby d0_26) e7 ⟨(by rw [ho]; rfl), N0, rfl⟩ (by decide) (by decide)
      · obtain ⟨T9, X9, e9, st9⟩ := getS2 X1 hx hZ hown (host := "") (Or.inl (tw4 hw)) Via.refl e1 S_BY_CODE (g := (mkF m 16 #[.val (.long q1), .second] [])) rfl (hb hby d0_16)
        refine Go.step (fun _ k => st9 _ (XS.lloadN X9.here hx rfl (hb hby d0_19) rfl (XS.l2i X9.here hx rfl (hb hby d0_20) rfl k))) ?_
        show Go p e below s _ _ _ T9 (mkF m 21 #[.val (.long q1), .second] [(.int (q1.toInt32)), (.ref ab)])
        rw [show q1.toInt32 = (3 : Int32) from (by rw [ho]; rfl)]
        show Go p e below s _ _ _ T9 (mkF m 21 #[.val (.long q1), .second] [(.int (3 : Int32)), (.ref ab)])
        obtain ⟨cl10, Ar10, -, Sz10, Ng10, Hs10, Ft10⟩ := id V_ab
        have in10 : ¬ ((3 : Int32) < 0 ∨ cl10.slots.size ≤ ((3 : Int32)).toNatClampNeg) := (inb_of Sz10 ⟨by decide, by decide⟩)
        have at10 : cl10.slots[((3 : Int32)).toNatClampNeg]? = some (.ref bBATCH) := Hs10.at in10 rfl
        refine Go.step (fun _ k => X9.aaload hx (j := (3 : Int32)) (v := (.ref bBATCH)) (by rw [e9]; exact Ar10.1) (State.isArrayOf_alike hZ.alike Ar10.2.1) rfl Ar10.2.2 in10 at10 (g := (mkF m 21 #[.val (.long q1), .second] [(.int (3 : Int32)), (.ref ab)])) rfl rfl (hb hby d0_21) _ (XS.goto X9.here hx rfl (pc0 := 22) (pc' := 26) rfl (hb hby d0_22) (by decide) (by decide) k)) ?_
        show Go p e below s _ _ _ T9 (mkF m 26 #[.val (.long q1), .second] [(.ref bBATCH)])
        exact Go.retA X9 hx hlk Bd.returns rfl rfl (hb hby d0_26) e9 ⟨(by rw [ho]; rfl), N0, rfl⟩ (by decide) (by decide)
      · obtain ⟨T11, X11, e11, st11⟩ := getS2 X1 hx hZ hown (host := "") (Or.inl (tw4 hw)) Via.refl e1 S_BY_CODE (g := (mkF m 16 #[.val (.long q1), .second] [])) rfl (hb hby d0_16)
        refine Go.step (fun _ k => st11 _ (XS.lloadN X11.here hx rfl (hb hby d0_19) rfl (XS.l2i X11.here hx rfl (hb hby d0_20) rfl k))) ?_
        show Go p e below s _ _ _ T11 (mkF m 21 #[.val (.long q1), .second] [(.int (q1.toInt32)), (.ref ab)])
        rw [show q1.toInt32 = (4 : Int32) from (by rw [ho]; rfl)]
        show Go p e below s _ _ _ T11 (mkF m 21 #[.val (.long q1), .second] [(.int (4 : Int32)), (.ref ab)])
        obtain ⟨cl12, Ar12, -, Sz12, Ng12, Hs12, Ft12⟩ := id V_ab
        have in12 : ¬ ((4 : Int32) < 0 ∨ cl12.slots.size ≤ ((4 : Int32)).toNatClampNeg) := (inb_of Sz12 ⟨by decide, by decide⟩)
        have at12 : cl12.slots[((4 : Int32)).toNatClampNeg]? = some (.ref bACK) := Hs12.at in12 rfl
        refine Go.step (fun _ k => X11.aaload hx (j := (4 : Int32)) (v := (.ref bACK)) (by rw [e11]; exact Ar12.1) (State.isArrayOf_alike hZ.alike Ar12.2.1) rfl Ar12.2.2 in12 at12 (g := (mkF m 21 #[.val (.long q1), .second] [(.int (4 : Int32)), (.ref ab)])) rfl rfl (hb hby d0_21) _ (XS.goto X11.here hx rfl (pc0 := 22) (pc' := 26) rfl (hb hby d0_22) (by decide) (by decide) k)) ?_
        show Go p e below s _ _ _ T11 (mkF m 26 #[.val (.long q1), .second] [(.ref bACK)])
        exact Go.retA X11 hx hlk Bd.returns rfl rfl (hb hby d0_26) e11 ⟨(by rw [ho]; rfl), N0, rfl⟩ (by decide) (by decide)
      · obtain ⟨T13, X13, e13, st13⟩ := getS2 X1 hx hZ hown (host := "") (Or.inl (tw4 hw)) Via.refl e1 S_BY_CODE (g := (mkF m 16 #[.val (.long q1), .second] [])) rfl (hb hby d0_16)
        refine Go.step (fun _ k => st13 _ (XS.lloadN X13.here hx rfl (hb hby d0_19) rfl (XS.l2i X13.here hx rfl (hb hby d0_20) rfl k))) ?_
        show Go p e below s _ _ _ T13 (mkF m 21 #[.val (.long q1), .second] [(.int (q1.toInt32)), (.ref ab)])
        rw [show q1.toInt32 = (5 : Int32) from (by rw [ho]; rfl)]
        show Go p e below s _ _ _ T13 (mkF m 21 #[.val (.long q1), .second] [(.int (5 : Int32)), (.ref ab)])
        obtain ⟨cl14, Ar14, -, Sz14, Ng14, Hs14, Ft14⟩ := id V_ab
        have in14 : ¬ ((5 : Int32) < 0 ∨ cl14.slots.size ≤ ((5 : Int32)).toNatClampNeg) := (inb_of Sz14 ⟨by decide, by decide⟩)
        have at14 : cl14.slots[((5 : Int32)).toNatClampNeg]? = some (.ref bEMIT) := Hs14.at in14 rfl
        refine Go.step (fun _ k => X13.aaload hx (j := (5 : Int32)) (v := (.ref bEMIT)) (by rw [e13]; exact Ar14.1) (State.isArrayOf_alike hZ.alike Ar14.2.1) rfl Ar14.2.2 in14 at14 (g := (mkF m 21 #[.val (.long q1), .second] [(.int (5 : Int32)), (.ref ab)])) rfl rfl (hb hby d0_21) _ (XS.goto X13.here hx rfl (pc0 := 22) (pc' := 26) rfl (hb hby d0_22) (by decide) (by decide) k)) ?_
        show Go p e below s _ _ _ T13 (mkF m 26 #[.val (.long q1), .second] [(.ref bEMIT)])
        exact Go.retA X13 hx hlk Bd.returns rfl rfl (hb hby d0_26) e13 ⟨(by rw [ho]; rfl), N0, rfl⟩ (by decide) (by decide)
      · obtain ⟨T15, X15, e15, st15⟩ := getS2 X1 hx hZ hown (host := "") (Or.inl (tw4 hw)) Via.refl e1 S_BY_CODE (g := (mkF m 16 #[.val (.long q1), .second] [])) rfl (hb hby d0_16)
        refine Go.step (fun _ k => st15 _ (XS.lloadN X15.here hx rfl (hb hby d0_19) rfl (XS.l2i X15.here hx rfl (hb hby d0_20) rfl k))) ?_
        show Go p e below s _ _ _ T15 (mkF m 21 #[.val (.long q1), .second] [(.int (q1.toInt32)), (.ref ab)])
        rw [show q1.toInt32 = (6 : Int32) from (by rw [ho]; rfl)]
        show Go p e below s _ _ _ T15 (mkF m 21 #[.val (.long q1), .second] [(.int (6 : Int32)), (.ref ab)])
        obtain ⟨cl16, Ar16, -, Sz16, Ng16, Hs16, Ft16⟩ := id V_ab
        have in16 : ¬ ((6 : Int32) < 0 ∨ cl16.slots.size ≤ ((6 : Int32)).toNatClampNeg) := (inb_of Sz16 ⟨by decide, by decide⟩)
        have at16 : cl16.slots[((6 : Int32)).toNatClampNeg]? = some (.ref bLOG) := Hs16.at in16 rfl
        refine Go.step (fun _ k => X15.aaload hx (j := (6 : Int32)) (v := (.ref bLOG)) (by rw [e15]; exact Ar16.1) (State.isArrayOf_alike hZ.alike Ar16.2.1) rfl Ar16.2.2 in16 at16 (g := (mkF m 21 #[.val (.long q1), .second] [(.int (6 : Int32)), (.ref ab)])) rfl rfl (hb hby d0_21) _ (XS.goto X15.here hx rfl (pc0 := 22) (pc' := 26) rfl (hb hby d0_22) (by decide) (by decide) k)) ?_
        show Go p e below s _ _ _ T15 (mkF m 26 #[.val (.long q1), .second] [(.ref bLOG)])
        exact Go.retA X15 hx hlk Bd.returns rfl rfl (hb hby d0_26) e15 ⟨(by rw [ho]; rfl), N0, rfl⟩ (by decide) (by decide)
      · obtain ⟨T17, X17, e17, st17⟩ := getS2 X1 hx hZ hown (host := "") (Or.inl (tw4 hw)) Via.refl e1 S_BY_CODE (g := (mkF m 16 #[.val (.long q1), .second] [])) rfl (hb hby d0_16)
        refine Go.step (fun _ k => st17 _ (XS.lloadN X17.here hx rfl (hb hby d0_19) rfl (XS.l2i X17.here hx rfl (hb hby d0_20) rfl k))) ?_
        show Go p e below s _ _ _ T17 (mkF m 21 #[.val (.long q1), .second] [(.int (q1.toInt32)), (.ref ab)])
        rw [show q1.toInt32 = (7 : Int32) from (by rw [ho]; rfl)]
        show Go p e below s _ _ _ T17 (mkF m 21 #[.val (.long q1), .second] [(.int (7 : Int32)), (.ref ab)])
        obtain ⟨cl18, Ar18, -, Sz18, Ng18, Hs18, Ft18⟩ := id V_ab
        have in18 : ¬ ((7 : Int32) < 0 ∨ cl18.slots.size ≤ ((7 : Int32)).toNatClampNeg) := (inb_of Sz18 ⟨by decide, by decide⟩)
        have at18 : cl18.slots[((7 : Int32)).toNatClampNeg]? = some (.ref bERROR) := Hs18.at in18 rfl
        refine Go.step (fun _ k => X17.aaload hx (j := (7 : Int32)) (v := (.ref bERROR)) (by rw [e17]; exact Ar18.1) (State.isArrayOf_alike hZ.alike Ar18.2.1) rfl Ar18.2.2 in18 at18 (g := (mkF m 21 #[.val (.long q1), .second] [(.int (7 : Int32)), (.ref ab)])) rfl rfl (hb hby d0_21) _ (XS.goto X17.here hx rfl (pc0 := 22) (pc' := 26) rfl (hb hby d0_22) (by decide) (by decide) k)) ?_
        show Go p e below s _ _ _ T17 (mkF m 26 #[.val (.long q1), .second] [(.ref bERROR)])
        exact Go.retA X17 hx hlk Bd.returns rfl rfl (hb hby d0_26) e17 ⟨(by rw [ho]; rfl), N0, rfl⟩ (by decide) (by decide)
      · obtain ⟨T19, X19, e19, st19⟩ := getS2 X1 hx hZ hown (host := "") (Or.inl (tw4 hw)) Via.refl e1 S_BY_CODE (g := (mkF m 16 #[.val (.long q1), .second] [])) rfl (hb hby d0_16)
        refine Go.step (fun _ k => st19 _ (XS.lloadN X19.here hx rfl (hb hby d0_19) rfl (XS.l2i X19.here hx rfl (hb hby d0_20) rfl k))) ?_
        show Go p e below s _ _ _ T19 (mkF m 21 #[.val (.long q1), .second] [(.int (q1.toInt32)), (.ref ab)])
        rw [show q1.toInt32 = (8 : Int32) from (by rw [ho]; rfl)]
        show Go p e below s _ _ _ T19 (mkF m 21 #[.val (.long q1), .second] [(.int (8 : Int32)), (.ref ab)])
        obtain ⟨cl20, Ar20, -, Sz20, Ng20, Hs20, Ft20⟩ := id V_ab
        have in20 : ¬ ((8 : Int32) < 0 ∨ cl20.slots.size ≤ ((8 : Int32)).toNatClampNeg) := (inb_of Sz20 ⟨by decide, by decide⟩)
        have at20 : cl20.slots[((8 : Int32)).toNatClampNeg]? = some (.ref bEND) := Hs20.at in20 rfl
        refine Go.step (fun _ k => X19.aaload hx (j := (8 : Int32)) (v := (.ref bEND)) (by rw [e19]; exact Ar20.1) (State.isArrayOf_alike hZ.alike Ar20.2.1) rfl Ar20.2.2 in20 at20 (g := (mkF m 21 #[.val (.long q1), .second] [(.int (8 : Int32)), (.ref ab)])) rfl rfl (hb hby d0_21) _ (XS.goto X19.here hx rfl (pc0 := 22) (pc' := 26) rfl (hb hby d0_22) (by decide) (by decide) k)) ?_
        show Go p e below s _ _ _ T19 (mkF m 26 #[.val (.long q1), .second] [(.ref bEND)])
        exact Go.retA X19 hx hlk Bd.returns rfl rfl (hb hby d0_26) e19 ⟨(by rw [ho]; rfl), N0, rfl⟩ (by decide) (by decide)
      · obtain ⟨T21, X21, e21, st21⟩ := getS2 X1 hx hZ hown (host := "") (Or.inl (tw4 hw)) Via.refl e1 S_BY_CODE (g := (mkF m 16 #[.val (.long q1), .second] [])) rfl (hb hby d0_16)
        refine Go.step (fun _ k => st21 _ (XS.lloadN X21.here hx rfl (hb hby d0_19) rfl (XS.l2i X21.here hx rfl (hb hby d0_20) rfl k))) ?_
        show Go p e below s _ _ _ T21 (mkF m 21 #[.val (.long q1), .second] [(.int (q1.toInt32)), (.ref ab)])
        rw [show q1.toInt32 = (9 : Int32) from (by rw [ho]; rfl)]
        show Go p e below s _ _ _ T21 (mkF m 21 #[.val (.long q1), .second] [(.int (9 : Int32)), (.ref ab)])
        obtain ⟨cl22, Ar22, -, Sz22, Ng22, Hs22, Ft22⟩ := id V_ab
        have in22 : ¬ ((9 : Int32) < 0 ∨ cl22.slots.size ≤ ((9 : Int32)).toNatClampNeg) := (inb_of Sz22 ⟨by decide, by decide⟩)
        have at22 : cl22.slots[((9 : Int32)).toNatClampNeg]? = some (.ref bBYE) := Hs22.at in22 rfl
        refine Go.step (fun _ k => X21.aaload hx (j := (9 : Int32)) (v := (.ref bBYE)) (by rw [e21]; exact Ar22.1) (State.isArrayOf_alike hZ.alike Ar22.2.1) rfl Ar22.2.2 in22 at22 (g := (mkF m 21 #[.val (.long q1), .second] [(.int (9 : Int32)), (.ref ab)])) rfl rfl (hb hby d0_21) _ (XS.goto X21.here hx rfl (pc0 := 22) (pc' := 26) rfl (hb hby d0_22) (by decide) (by decide) k)) ?_
        show Go p e below s _ _ _ T21 (mkF m 26 #[.val (.long q1), .second] [(.ref bBYE)])
        exact Go.retA X21 hx hlk Bd.returns rfl rfl (hb hby d0_26) e21 ⟨(by rw [ho]; rfl), N0, rfl⟩ (by decide) (by decide)
      · obtain ⟨T23, X23, e23, st23⟩ := getS2 X1 hx hZ hown (host := "") (Or.inl (tw4 hw)) Via.refl e1 S_BY_CODE (g := (mkF m 16 #[.val (.long q1), .second] [])) rfl (hb hby d0_16)
        refine Go.step (fun _ k => st23 _ (XS.lloadN X23.here hx rfl (hb hby d0_19) rfl (XS.l2i X23.here hx rfl (hb hby d0_20) rfl k))) ?_
        show Go p e below s _ _ _ T23 (mkF m 21 #[.val (.long q1), .second] [(.int (q1.toInt32)), (.ref ab)])
        rw [show q1.toInt32 = (10 : Int32) from (by rw [ho]; rfl)]
        show Go p e below s _ _ _ T23 (mkF m 21 #[.val (.long q1), .second] [(.int (10 : Int32)), (.ref ab)])
        obtain ⟨cl24, Ar24, -, Sz24, Ng24, Hs24, Ft24⟩ := id V_ab
        have in24 : ¬ ((10 : Int32) < 0 ∨ cl24.slots.size ≤ ((10 : Int32)).toNatClampNeg) := (inb_of Sz24 ⟨by decide, by decide⟩)
        have at24 : cl24.slots[((10 : Int32)).toNatClampNeg]? = some (.ref bPING) := Hs24.at in24 rfl
        refine Go.step (fun _ k => X23.aaload hx (j := (10 : Int32)) (v := (.ref bPING)) (by rw [e23]; exact Ar24.1) (State.isArrayOf_alike hZ.alike Ar24.2.1) rfl Ar24.2.2 in24 at24 (g := (mkF m 21 #[.val (.long q1), .second] [(.int (10 : Int32)), (.ref ab)])) rfl rfl (hb hby d0_21) _ (XS.goto X23.here hx rfl (pc0 := 22) (pc' := 26) rfl (hb hby d0_22) (by decide) (by decide) k)) ?_
        show Go p e below s _ _ _ T23 (mkF m 26 #[.val (.long q1), .second] [(.ref bPING)])
        exact Go.retA X23 hx hlk Bd.returns rfl rfl (hb hby d0_26) e23 ⟨(by rw [ho]; rfl), N0, rfl⟩ (by decide) (by decide)
      · obtain ⟨T25, X25, e25, st25⟩ := getS2 X1 hx hZ hown (host := "") (Or.inl (tw4 hw)) Via.refl e1 S_BY_CODE (g := (mkF m 16 #[.val (.long q1), .second] [])) rfl (hb hby d0_16)
        refine Go.step (fun _ k => st25 _ (XS.lloadN X25.here hx rfl (hb hby d0_19) rfl (XS.l2i X25.here hx rfl (hb hby d0_20) rfl k))) ?_
        show Go p e below s _ _ _ T25 (mkF m 21 #[.val (.long q1), .second] [(.int (q1.toInt32)), (.ref ab)])
        rw [show q1.toInt32 = (11 : Int32) from (by rw [ho]; rfl)]
        show Go p e below s _ _ _ T25 (mkF m 21 #[.val (.long q1), .second] [(.int (11 : Int32)), (.ref ab)])
        obtain ⟨cl26, Ar26, -, Sz26, Ng26, Hs26, Ft26⟩ := id V_ab
        have in26 : ¬ ((11 : Int32) < 0 ∨ cl26.slots.size ≤ ((11 : Int32)).toNatClampNeg) := (inb_of Sz26 ⟨by decide, by decide⟩)
        have at26 : cl26.slots[((11 : Int32)).toNatClampNeg]? = some (.ref bPONG) := Hs26.at in26 rfl
        refine Go.step (fun _ k => X25.aaload hx (j := (11 : Int32)) (v := (.ref bPONG)) (by rw [e25]; exact Ar26.1) (State.isArrayOf_alike hZ.alike Ar26.2.1) rfl Ar26.2.2 in26 at26 (g := (mkF m 21 #[.val (.long q1), .second] [(.int (11 : Int32)), (.ref ab)])) rfl rfl (hb hby d0_21) _ (XS.goto X25.here hx rfl (pc0 := 22) (pc' := 26) rfl (hb hby d0_22) (by decide) (by decide) k)) ?_
        show Go p e below s _ _ _ T25 (mkF m 26 #[.val (.long q1), .second] [(.ref bPONG)])
        exact Go.retA X25 hx hlk Bd.returns rfl rfl (hb hby d0_26) e25 ⟨(by rw [ho]; rfl), N0, rfl⟩ (by decide) (by decide)
    · refine Go.step (fun _ k => XS.ifYes X1.here hx rfl (pc0 := 13) (pc' := 25) rfl (hb hby d0_13) rfl ((if0 _ _).trans (flt hc2).2.1) (by decide) (by decide) (XS.aconstNull X1.here hx rfl (hb hby d0_25) k)) ?_
      show Go p e below s _ _ _ T1 (mkF m 26 #[.val (.long q1), .second] [.null])
      exact Go.retA X1 hx hlk Bd.returns rfl rfl (hb hby d0_26) e1 ⟨(by rw [own_out bHELLO bREADY bBATCH bACK bEMIT bLOG bERROR bEND bBYE bPING bPONG q1 (Or.inr (own_ge12 q1 hc2))]), N0, rfl⟩ (by decide) (by decide)

theorem ef_exp (m : MethodId) (x0 : Int64) : entryFrame m #[(.long x0)] 2 = mkF m 0 #[.val (.long x0), .second] [] := by first | (simp [entryFrame, mkF, argsToLocals, Value.category]; done) | rfl
def Q_exp (Z : State) (q1 : Int64) (bHELLO : Addr) (bREADY : Addr) (bBATCH : Addr) (bACK : Addr) (bEMIT : Addr) (bLOG : Addr) (bERROR : Addr) (bEND : Addr) (bBYE : Addr) (bPING : Addr) (bPONG : Addr) (h0 : Heap) (n0 : Nat) (v : Option Value) (h : Heap) (L : List Loc) : Prop := v = some (own_r bHELLO bREADY bBATCH bACK bEMIT bLOG bERROR bEND bBYE bPING bPONG q1) ∧ Fr n0 L ∧ h = h0
set_option maxRecDepth 65536 in
set_option maxHeartbeats 40000000 in
theorem rm_exp (l : Launch) (Z : State) (a0 : Array Value) (hw : ∀ d ∈ tables_1, d.before a0 Z = true) (ws : List Jvm.Cond) (q1 : Int64) (bHELLO : Addr) (bREADY : Addr) (bBATCH : Addr) (bACK : Addr) (bEMIT : Addr) (bLOG : Addr) (bERROR : Addr) (bEND : Addr) (bBYE : Addr) (bPING : Addr) (bPONG : Addr) (h0 : Heap) (n0 : Nat) (Z0 : n0 ≤ h0.size) (S_HELLO : Sta Z h0 xs3 "HELLO" xs2 (.ref bHELLO)) (S_READY : Sta Z h0 xs3 "READY" xs2 (.ref bREADY)) (S_BATCH : Sta Z h0 xs3 "BATCH" xs2 (.ref bBATCH)) (S_ACK : Sta Z h0 xs3 "ACK" xs2 (.ref bACK)) (S_EMIT : Sta Z h0 xs3 "EMIT" xs2 (.ref bEMIT)) (S_LOG : Sta Z h0 xs3 "LOG" xs2 (.ref bLOG)) (S_ERROR : Sta Z h0 xs3 "ERROR" xs2 (.ref bERROR)) (S_END : Sta Z h0 xs3 "END" xs2 (.ref bEND)) (S_BYE : Sta Z h0 xs3 "BYE" xs2 (.ref bBYE)) (S_PING : Sta Z h0 xs3 "PING" xs2 (.ref bPING)) (S_PONG : Sta Z h0 xs3 "PONG" xs2 (.ref bPONG)) :
    MetFree l xm0 (head1 (Jvm.Cond.code xm0 method_2_code 2 (some (.object xs3)) :: ws) xr0) (fun a U => a = #[(.long q1)] ∧ Z.Warmed39 U.vm ∧ U.heap = h0) (fun _ _ _ _ _ => True) (fun _ U o U' => ∃ v L, o = .returned v ∧ Q_exp Z q1 bHELLO bREADY bBATCH bACK bEMIT bLOG bERROR bEND bBYE bPING bPONG h0 n0 v U'.heap L ∧ FrameEnd U o U' L xr0.cells xr0.slots) := by
  refine MetFree.of_bodySF (plainFor_of_name pn_1) hisR ?_
  intro p e s m args below meth c s₁ Bd hml0 hP hK
  obtain ⟨rfl, hZ, hh⟩ := hP
  have hx := Bd.exec
  have hby := Bd.bytes
  have hlk : meth.locks = false := BodyLoose.notSynchronized Bd
  have hml : c.maxLocals = 2 := hml0
  have hown : s.vm.findClass xs0 = some m.cls := findClass_of_methodNamed Bd.named
  have hnm := (name_of_methodNamed Bd.named Bd.method).1
  have X0 : Stand p l e xr0 s m #[(.long q1)] below meth c s₁ [] 0 0 := Stand.of_body Bd
  have e0 : s₁.heap = h0 := by rw [← hh, Bd.state]; rfl
  have N0 := Fr.nil n0
  show Go p e below s (Q_exp Z q1 bHELLO bREADY bBATCH bACK bEMIT bLOG bERROR bEND bBYE bPING bPONG h0 n0) xr0.cells xr0.slots s₁ (entryFrame m #[(.long q1)] 2)
  refine Go.cast (ef_exp m q1) ?_
  show Go p e below s _ _ _ s₁ (mkF m 0 #[.val (.long q1), .second] [])
  refine Go.step (fun _ k => XS.lloadN X0.here hx rfl (hb hby d1_0) rfl (XS.lconst X0.here hx rfl (hb hby d1_1) (XS.lcmp X0.here hx rfl (hb hby d1_2) rfl k))) ?_
  show Go p e below s _ _ _ s₁ (mkF m 3 #[.val (.long q1), .second] [(.int (lcmpW q1 (1 : Int64)))])
  by_cases hc0 : (lcmpW q1 (1 : Int64)) = (0 : Int32)
  · refine Go.step (fun _ k => XS.ifNo X0.here hx rfl (hb hby d1_3) rfl ((if0 _ _).trans (teq hc0).2) k) ?_
    show Go p e below s _ _ _ s₁ (mkF m 6 #[.val (.long q1), .second] [])
    obtain ⟨T1, X1, e1, st1⟩ := getS2 X0 hx hZ hown (host := "") (Or.inl (tw25 hw)) Via.refl e0 S_HELLO (g := (mkF m 6 #[.val (.long q1), .second] [])) rfl (hb hby d1_6)
    refine Go.step (fun _ k => st1 _ k) ?_
    show Go p e below s _ _ _ T1 (mkF m 9 #[.val (.long q1), .second] [(.ref bHELLO)])
    exact Go.retA X1 hx hlk Bd.returns rfl rfl (hb hby d1_9) e1 ⟨(by rw [(lw_eq _ _).mp hc0]; rfl), N0, rfl⟩ (by decide) (by decide)
  · refine Go.step (fun _ k => XS.ifYes X0.here hx rfl (pc0 := 3) (pc' := 10) rfl (hb hby d1_3) rfl ((if0 _ _).trans (feq hc0).2) (by decide) (by decide) (XS.lloadN X0.here hx rfl (hb hby d1_10) rfl (X0.ldc2Long hx hown (mvT hZ (tw11 hw)) (g := (mkF m 11 #[.val (.long q1), .second] [(.long q1)])) rfl (hb hby d1_11) _ (XS.lcmp X0.here hx rfl (hb hby d1_14) rfl k)))) ?_
    show Go p e below s _ _ _ s₁ (mkF m 15 #[.val (.long q1), .second] [(.int (lcmpW q1 (2 : Int64)))])
    by_cases hc1 : (lcmpW q1 (2 : Int64)) = (0 : Int32)
    · refine Go.step (fun _ k => XS.ifNo X0.here hx rfl (hb hby d1_15) rfl ((if0 _ _).trans (teq hc1).2) k) ?_
      show Go p e below s _ _ _ s₁ (mkF m 18 #[.val (.long q1), .second] [])
      obtain ⟨T2, X2, e2, st2⟩ := getS2 X0 hx hZ hown (host := "") (Or.inl (tw43 hw)) Via.refl e0 S_READY (g := (mkF m 18 #[.val (.long q1), .second] [])) rfl (hb hby d1_18)
      refine Go.step (fun _ k => st2 _ k) ?_
      show Go p e below s _ _ _ T2 (mkF m 21 #[.val (.long q1), .second] [(.ref bREADY)])
      exact Go.retA X2 hx hlk Bd.returns rfl rfl (hb hby d1_21) e2 ⟨(by rw [(lw_eq _ _).mp hc1]; rfl), N0, rfl⟩ (by decide) (by decide)
    · refine Go.step (fun _ k => XS.ifYes X0.here hx rfl (pc0 := 15) (pc' := 22) rfl (hb hby d1_15) rfl ((if0 _ _).trans (feq hc1).2) (by decide) (by decide) (XS.lloadN X0.here hx rfl (hb hby d1_22) rfl (X0.ldc2Long hx hown (mvT hZ (tw12 hw)) (g := (mkF m 23 #[.val (.long q1), .second] [(.long q1)])) rfl (hb hby d1_23) _ (XS.lcmp X0.here hx rfl (hb hby d1_26) rfl k)))) ?_
      show Go p e below s _ _ _ s₁ (mkF m 27 #[.val (.long q1), .second] [(.int (lcmpW q1 (3 : Int64)))])
      by_cases hc2 : (lcmpW q1 (3 : Int64)) = (0 : Int32)
      · refine Go.step (fun _ k => XS.ifNo X0.here hx rfl (hb hby d1_27) rfl ((if0 _ _).trans (teq hc2).2) k) ?_
        show Go p e below s _ _ _ s₁ (mkF m 30 #[.val (.long q1), .second] [])
        obtain ⟨T3, X3, e3, st3⟩ := getS2 X0 hx hZ hown (host := "") (Or.inl (tw13 hw)) Via.refl e0 S_BATCH (g := (mkF m 30 #[.val (.long q1), .second] [])) rfl (hb hby d1_30)
        refine Go.step (fun _ k => st3 _ k) ?_
        show Go p e below s _ _ _ T3 (mkF m 33 #[.val (.long q1), .second] [(.ref bBATCH)])
        exact Go.retA X3 hx hlk Bd.returns rfl rfl (hb hby d1_33) e3 ⟨(by rw [(lw_eq _ _).mp hc2]; rfl), N0, rfl⟩ (by decide) (by decide)
      · refine Go.step (fun _ k => XS.ifYes X0.here hx rfl (pc0 := 27) (pc' := 34) rfl (hb hby d1_27) rfl ((if0 _ _).trans (feq hc2).2) (by decide) (by decide) (XS.lloadN X0.here hx rfl (hb hby d1_34) rfl (X0.ldc2Long hx hown (mvT hZ (tw16 hw)) (g := (mkF m 35 #[.val (.long q1), .second] [(.long q1)])) rfl (hb hby d1_35) _ (XS.lcmp X0.here hx rfl (hb hby d1_38) rfl k)))) ?_
        show Go p e below s _ _ _ s₁ (mkF m 39 #[.val (.long q1), .second] [(.int (lcmpW q1 (4 : Int64)))])
        by_cases hc3 : (lcmpW q1 (4 : Int64)) = (0 : Int32)
        · refine Go.step (fun _ k => XS.ifNo X0.here hx rfl (hb hby d1_39) rfl ((if0 _ _).trans (teq hc3).2) k) ?_
          show Go p e below s _ _ _ s₁ (mkF m 42 #[.val (.long q1), .second] [])
          obtain ⟨T4, X4, e4, st4⟩ := getS2 X0 hx hZ hown (host := "") (Or.inl (tw29 hw)) Via.refl e0 S_ACK (g := (mkF m 42 #[.val (.long q1), .second] [])) rfl (hb hby d1_42)
          refine Go.step (fun _ k => st4 _ k) ?_
          show Go p e below s _ _ _ T4 (mkF m 45 #[.val (.long q1), .second] [(.ref bACK)])
          exact Go.retA X4 hx hlk Bd.returns rfl rfl (hb hby d1_45) e4 ⟨(by rw [(lw_eq _ _).mp hc3]; rfl), N0, rfl⟩ (by decide) (by decide)
        · refine Go.step (fun _ k => XS.ifYes X0.here hx rfl (pc0 := 39) (pc' := 46) rfl (hb hby d1_39) rfl ((if0 _ _).trans (feq hc3).2) (by decide) (by decide) (XS.lloadN X0.here hx rfl (hb hby d1_46) rfl (X0.ldc2Long hx hown (mvT hZ (tw17 hw)) (g := (mkF m 47 #[.val (.long q1), .second] [(.long q1)])) rfl (hb hby d1_47) _ (XS.lcmp X0.here hx rfl (hb hby d1_50) rfl k)))) ?_
          show Go p e below s _ _ _ s₁ (mkF m 51 #[.val (.long q1), .second] [(.int (lcmpW q1 (5 : Int64)))])
          by_cases hc4 : (lcmpW q1 (5 : Int64)) = (0 : Int32)
          · refine Go.step (fun _ k => XS.ifNo X0.here hx rfl (hb hby d1_51) rfl ((if0 _ _).trans (teq hc4).2) k) ?_
            show Go p e below s _ _ _ s₁ (mkF m 54 #[.val (.long q1), .second] [])
            obtain ⟨T5, X5, e5, st5⟩ := getS2 X0 hx hZ hown (host := "") (Or.inl (tw33 hw)) Via.refl e0 S_EMIT (g := (mkF m 54 #[.val (.long q1), .second] [])) rfl (hb hby d1_54)
            refine Go.step (fun _ k => st5 _ k) ?_
            show Go p e below s _ _ _ T5 (mkF m 57 #[.val (.long q1), .second] [(.ref bEMIT)])
            exact Go.retA X5 hx hlk Bd.returns rfl rfl (hb hby d1_57) e5 ⟨(by rw [(lw_eq _ _).mp hc4]; rfl), N0, rfl⟩ (by decide) (by decide)
          · refine Go.step (fun _ k => XS.ifYes X0.here hx rfl (pc0 := 51) (pc' := 58) rfl (hb hby d1_51) rfl ((if0 _ _).trans (feq hc4).2) (by decide) (by decide) (XS.lloadN X0.here hx rfl (hb hby d1_58) rfl (X0.ldc2Long hx hown (mvT hZ (tw18 hw)) (g := (mkF m 59 #[.val (.long q1), .second] [(.long q1)])) rfl (hb hby d1_59) _ (XS.lcmp X0.here hx rfl (hb hby d1_62) rfl k)))) ?_
            show Go p e below s _ _ _ s₁ (mkF m 63 #[.val (.long q1), .second] [(.int (lcmpW q1 (6 : Int64)))])
            by_cases hc5 : (lcmpW q1 (6 : Int64)) = (0 : Int32)
            · refine Go.step (fun _ k => XS.ifNo X0.here hx rfl (hb hby d1_63) rfl ((if0 _ _).trans (teq hc5).2) k) ?_
              show Go p e below s _ _ _ s₁ (mkF m 66 #[.val (.long q1), .second] [])
              obtain ⟨T6, X6, e6, st6⟩ := getS2 X0 hx hZ hown (host := "") (Or.inl (tw37 hw)) Via.refl e0 S_LOG (g := (mkF m 66 #[.val (.long q1), .second] [])) rfl (hb hby d1_66)
              refine Go.step (fun _ k => st6 _ k) ?_
              show Go p e below s _ _ _ T6 (mkF m 69 #[.val (.long q1), .second] [(.ref bLOG)])
              exact Go.retA X6 hx hlk Bd.returns rfl rfl (hb hby d1_69) e6 ⟨(by rw [(lw_eq _ _).mp hc5]; rfl), N0, rfl⟩ (by decide) (by decide)
            · refine Go.step (fun _ k => XS.ifYes X0.here hx rfl (pc0 := 63) (pc' := 70) rfl (hb hby d1_63) rfl ((if0 _ _).trans (feq hc5).2) (by decide) (by decide) (XS.lloadN X0.here hx rfl (hb hby d1_70) rfl (X0.ldc2Long hx hown (mvT hZ (tw19 hw)) (g := (mkF m 71 #[.val (.long q1), .second] [(.long q1)])) rfl (hb hby d1_71) _ (XS.lcmp X0.here hx rfl (hb hby d1_74) rfl k)))) ?_
              show Go p e below s _ _ _ s₁ (mkF m 75 #[.val (.long q1), .second] [(.int (lcmpW q1 (7 : Int64)))])
              by_cases hc6 : (lcmpW q1 (7 : Int64)) = (0 : Int32)
              · refine Go.step (fun _ k => XS.ifNo X0.here hx rfl (hb hby d1_75) rfl ((if0 _ _).trans (teq hc6).2) k) ?_
                show Go p e below s _ _ _ s₁ (mkF m 78 #[.val (.long q1), .second] [])
                obtain ⟨T7, X7, e7, st7⟩ := getS2 X0 hx hZ hown (host := "") (Or.inl (tw31 hw)) Via.refl e0 S_ERROR (g := (mkF m 78 #[.val (.long q1), .second] [])) rfl (hb hby d1_78)
                refine Go.step (fun _ k => st7 _ k) ?_
                show Go p e below s _ _ _ T7 (mkF m 81 #[.val (.long q1), .second] [(.ref bERROR)])
                exact Go.retA X7 hx hlk Bd.returns rfl rfl (hb hby d1_81) e7 ⟨(by rw [(lw_eq _ _).mp hc6]; rfl), N0, rfl⟩ (by decide) (by decide)
              · refine Go.step (fun _ k => XS.ifYes X0.here hx rfl (pc0 := 75) (pc' := 82) rfl (hb hby d1_75) rfl ((if0 _ _).trans (feq hc6).2) (by decide) (by decide) (XS.lloadN X0.here hx rfl (hb hby d1_82) rfl (X0.ldc2Long hx hown (mvT hZ (tw20 hw)) (g := (mkF m 83 #[.val (.long q1), .second] [(.long q1)])) rfl (hb hby d1_83) _ (XS.lcmp X0.here hx rfl (hb hby d1_86) rfl k)))) ?_
                show Go p e below s _ _ _ s₁ (mkF m 87 #[.val (.long q1), .second] [(.int (lcmpW q1 (8 : Int64)))])
                by_cases hc7 : (lcmpW q1 (8 : Int64)) = (0 : Int32)
                · refine Go.step (fun _ k => XS.ifNo X0.here hx rfl (hb hby d1_87) rfl ((if0 _ _).trans (teq hc7).2) k) ?_
                  show Go p e below s _ _ _ s₁ (mkF m 90 #[.val (.long q1), .second] [])
                  obtain ⟨T8, X8, e8, st8⟩ := getS2 X0 hx hZ hown (host := "") (Or.inl (tw41 hw)) Via.refl e0 S_END (g := (mkF m 90 #[.val (.long q1), .second] [])) rfl (hb hby d1_90)
                  refine Go.step (fun _ k => st8 _ k) ?_
                  show Go p e below s _ _ _ T8 (mkF m 93 #[.val (.long q1), .second] [(.ref bEND)])
                  exact Go.retA X8 hx hlk Bd.returns rfl rfl (hb hby d1_93) e8 ⟨(by rw [(lw_eq _ _).mp hc7]; rfl), N0, rfl⟩ (by decide) (by decide)
                · refine Go.step (fun _ k => XS.ifYes X0.here hx rfl (pc0 := 87) (pc' := 94) rfl (hb hby d1_87) rfl ((if0 _ _).trans (feq hc7).2) (by decide) (by decide) (XS.lloadN X0.here hx rfl (hb hby d1_94) rfl (X0.ldc2Long hx hown (mvT hZ (tw21 hw)) (g := (mkF m 95 #[.val (.long q1), .second] [(.long q1)])) rfl (hb hby d1_95) _ (XS.lcmp X0.here hx rfl (hb hby d1_98) rfl k)))) ?_
                  show Go p e below s _ _ _ s₁ (mkF m 99 #[.val (.long q1), .second] [(.int (lcmpW q1 (9 : Int64)))])
                  by_cases hc8 : (lcmpW q1 (9 : Int64)) = (0 : Int32)
                  · refine Go.step (fun _ k => XS.ifNo X0.here hx rfl (hb hby d1_99) rfl ((if0 _ _).trans (teq hc8).2) k) ?_
                    show Go p e below s _ _ _ s₁ (mkF m 102 #[.val (.long q1), .second] [])
                    obtain ⟨T9, X9, e9, st9⟩ := getS2 X0 hx hZ hown (host := "") (Or.inl (tw27 hw)) Via.refl e0 S_BYE (g := (mkF m 102 #[.val (.long q1), .second] [])) rfl (hb hby d1_102)
                    refine Go.step (fun _ k => st9 _ k) ?_
                    show Go p e below s _ _ _ T9 (mkF m 105 #[.val (.long q1), .second] [(.ref bBYE)])
                    exact Go.retA X9 hx hlk Bd.returns rfl rfl (hb hby d1_105) e9 ⟨(by rw [(lw_eq _ _).mp hc8]; rfl), N0, rfl⟩ (by decide) (by decide)
                  · refine Go.step (fun _ k => XS.ifYes X0.here hx rfl (pc0 := 99) (pc' := 106) rfl (hb hby d1_99) rfl ((if0 _ _).trans (feq hc8).2) (by decide) (by decide) (XS.lloadN X0.here hx rfl (hb hby d1_106) rfl (X0.ldc2Long hx hown (mvT hZ (tw22 hw)) (g := (mkF m 107 #[.val (.long q1), .second] [(.long q1)])) rfl (hb hby d1_107) _ (XS.lcmp X0.here hx rfl (hb hby d1_110) rfl k)))) ?_
                    show Go p e below s _ _ _ s₁ (mkF m 111 #[.val (.long q1), .second] [(.int (lcmpW q1 (10 : Int64)))])
                    by_cases hc9 : (lcmpW q1 (10 : Int64)) = (0 : Int32)
                    · refine Go.step (fun _ k => XS.ifNo X0.here hx rfl (hb hby d1_111) rfl ((if0 _ _).trans (teq hc9).2) k) ?_
                      show Go p e below s _ _ _ s₁ (mkF m 114 #[.val (.long q1), .second] [])
                      obtain ⟨T10, X10, e10, st10⟩ := getS2 X0 hx hZ hown (host := "") (Or.inl (tw35 hw)) Via.refl e0 S_PING (g := (mkF m 114 #[.val (.long q1), .second] [])) rfl (hb hby d1_114)
                      refine Go.step (fun _ k => st10 _ k) ?_
                      show Go p e below s _ _ _ T10 (mkF m 117 #[.val (.long q1), .second] [(.ref bPING)])
                      exact Go.retA X10 hx hlk Bd.returns rfl rfl (hb hby d1_117) e10 ⟨(by rw [(lw_eq _ _).mp hc9]; rfl), N0, rfl⟩ (by decide) (by decide)
                    · refine Go.step (fun _ k => XS.ifYes X0.here hx rfl (pc0 := 111) (pc' := 118) rfl (hb hby d1_111) rfl ((if0 _ _).trans (feq hc9).2) (by decide) (by decide) (XS.lloadN X0.here hx rfl (hb hby d1_118) rfl (X0.ldc2Long hx hown (mvT hZ (tw23 hw)) (g := (mkF m 119 #[.val (.long q1), .second] [(.long q1)])) rfl (hb hby d1_119) _ (XS.lcmp X0.here hx rfl (hb hby d1_122) rfl k)))) ?_
                      show Go p e below s _ _ _ s₁ (mkF m 123 #[.val (.long q1), .second] [(.int (lcmpW q1 (11 : Int64)))])
                      by_cases hc10 : (lcmpW q1 (11 : Int64)) = (0 : Int32)
                      · refine Go.step (fun _ k => XS.ifNo X0.here hx rfl (hb hby d1_123) rfl ((if0 _ _).trans (teq hc10).2) k) ?_
                        show Go p e below s _ _ _ s₁ (mkF m 126 #[.val (.long q1), .second] [])
                        obtain ⟨T11, X11, e11, st11⟩ := getS2 X0 hx hZ hown (host := "") (Or.inl (tw39 hw)) Via.refl e0 S_PONG (g := (mkF m 126 #[.val (.long q1), .second] [])) rfl (hb hby d1_126)
                        refine Go.step (fun _ k => st11 _ k) ?_
                        show Go p e below s _ _ _ T11 (mkF m 129 #[.val (.long q1), .second] [(.ref bPONG)])
                        exact Go.retA X11 hx hlk Bd.returns rfl rfl (hb hby d1_129) e11 ⟨(by rw [(lw_eq _ _).mp hc10]; rfl), N0, rfl⟩ (by decide) (by decide)
                      · refine Go.step (fun _ k => XS.ifYes X0.here hx rfl (pc0 := 123) (pc' := 130) rfl (hb hby d1_123) rfl ((if0 _ _).trans (feq hc10).2) (by decide) (by decide) (XS.aconstNull X0.here hx rfl (hb hby d1_130) k)) ?_
                        show Go p e below s _ _ _ s₁ (mkF m 131 #[.val (.long q1), .second] [.null])
                        exact Go.retA X0 hx hlk Bd.returns rfl rfl (hb hby d1_131) e0 ⟨(by rw [own_r, if_neg (fun q => hc0 ((lw_eq _ _).mpr q)), if_neg (fun q => hc1 ((lw_eq _ _).mpr q)), if_neg (fun q => hc2 ((lw_eq _ _).mpr q)), if_neg (fun q => hc3 ((lw_eq _ _).mpr q)), if_neg (fun q => hc4 ((lw_eq _ _).mpr q)), if_neg (fun q => hc5 ((lw_eq _ _).mpr q)), if_neg (fun q => hc6 ((lw_eq _ _).mpr q)), if_neg (fun q => hc7 ((lw_eq _ _).mpr q)), if_neg (fun q => hc8 ((lw_eq _ _).mpr q)), if_neg (fun q => hc9 ((lw_eq _ _).mpr q)), if_neg (fun q => hc10 ((lw_eq _ _).mpr q))]), N0, rfl⟩ (by decide) (by decide)

theorem ef_law (m : MethodId) (x0 : Int64) (x1 : Int32) (x2 : Int32) : entryFrame m #[(.long x0), (.int x1), (.int x2)] maxLocals = mkF m 0 #[.val (.long x0), .second, .val (.int x1), .val (.int x2), .unset, .unset, .unset, .unset] [] := by first | (simp [entryFrame, mkF, argsToLocals, Value.category, maxLocals]; done) | rfl
def Q_law (Z : State) (q1 : Int64) (p2 : Int32) (p3 : Int32) (bHELLO : Addr) (bREADY : Addr) (bBATCH : Addr) (bACK : Addr) (bEMIT : Addr) (bLOG : Addr) (bERROR : Addr) (bEND : Addr) (bBYE : Addr) (bPING : Addr) (bPONG : Addr) (ab : Addr) (kk : ClassId) (h0 : Heap) (n0 : Nat) (v : Option Value) (h : Heap) (L : List Loc) : Prop := v = some (.int (1 : Int32)) ∧ Fr n0 L
set_option maxRecDepth 65536 in
set_option maxHeartbeats 40000000 in
theorem rm_law (l : Launch) (Z : State) (a0 : Array Value) (hw : ∀ d ∈ tables_1, d.before a0 Z = true) (ws : List Jvm.Cond) (q1 : Int64) (p2 : Int32) (p3 : Int32) (bHELLO : Addr) (bREADY : Addr) (bBATCH : Addr) (bACK : Addr) (bEMIT : Addr) (bLOG : Addr) (bERROR : Addr) (bEND : Addr) (bBYE : Addr) (bPING : Addr) (bPONG : Addr) (ab : Addr) (kk : ClassId) (h0 : Heap) (n0 : Nat) (Z0 : n0 ≤ h0.size) (S_BY_CODE : Sta Z h0 xs3 "BY_CODE" "[Lcom/example/shellwire/shellwire/wire/NativeFrameType;" (.ref ab)) (V_ab : Arv Z h0 ab kk (.object xs3) (12 : Int32) [.null, (.ref bHELLO), (.ref bREADY), (.ref bBATCH), (.ref bACK), (.ref bEMIT), (.ref bLOG), (.ref bERROR), (.ref bEND), (.ref bBYE), (.ref bPING), (.ref bPONG)] .null) (S_HELLO : Sta Z h0 xs3 "HELLO" xs2 (.ref bHELLO)) (S_READY : Sta Z h0 xs3 "READY" xs2 (.ref bREADY)) (S_BATCH : Sta Z h0 xs3 "BATCH" xs2 (.ref bBATCH)) (S_ACK : Sta Z h0 xs3 "ACK" xs2 (.ref bACK)) (S_EMIT : Sta Z h0 xs3 "EMIT" xs2 (.ref bEMIT)) (S_LOG : Sta Z h0 xs3 "LOG" xs2 (.ref bLOG)) (S_ERROR : Sta Z h0 xs3 "ERROR" xs2 (.ref bERROR)) (S_END : Sta Z h0 xs3 "END" xs2 (.ref bEND)) (S_BYE : Sta Z h0 xs3 "BYE" xs2 (.ref bBYE)) (S_PING : Sta Z h0 xs3 "PING" xs2 (.ref bPING)) (S_PONG : Sta Z h0 xs3 "PONG" xs2 (.ref bPONG)) :
    MetFree l x (head1 (Jvm.Cond.code x code maxLocals ret :: ws) room_1) (fun a U => a = #[(.long q1), (.int p2), (.int p3)] ∧ Z.Warmed39 U.vm ∧ U.heap = h0) (fun _ _ _ _ _ => True) (fun _ U o U' => ∃ v L, o = .returned v ∧ Q_law Z q1 p2 p3 bHELLO bREADY bBATCH bACK bEMIT bLOG bERROR bEND bBYE bPING bPONG ab kk h0 n0 v U'.heap L ∧ FrameEnd U o U' L room_1.cells room_1.slots) := by
  refine MetFree.of_bodySF (plainFor_of_name pn_1) hisR ?_
  intro p e s m args below meth c s₁ Bd hml0 hP hK
  obtain ⟨rfl, hZ, hh⟩ := hP
  have hx := Bd.exec
  have hby := Bd.bytes
  have hlk : meth.locks = false := BodyLoose.notSynchronized Bd
  have hml : c.maxLocals = 8 := hml0
  have hown : s.vm.findClass xs0 = some m.cls := findClass_of_methodNamed Bd.named
  have hnm := (name_of_methodNamed Bd.named Bd.method).1
  have X0 : Stand p l e room_1 s m #[(.long q1), (.int p2), (.int p3)] below meth c s₁ [] 0 0 := Stand.of_body Bd
  have e0 : s₁.heap = h0 := by rw [← hh, Bd.state]; rfl
  have N0 := Fr.nil n0
  show Go p e below s (Q_law Z q1 p2 p3 bHELLO bREADY bBATCH bACK bEMIT bLOG bERROR bEND bBYE bPING bPONG ab kk h0 n0) room_1.cells room_1.slots s₁ (entryFrame m #[(.long q1), (.int p2), (.int p3)] maxLocals)
  refine Go.cast (ef_law m q1 p2 p3) ?_
  show Go p e below s _ _ _ s₁ (mkF m 0 #[.val (.long q1), .second, .val (.int p2), .val (.int p3), .unset, .unset, .unset, .unset] [])
  have J : ∀ (md : Int32) (cd : Int64), Go p e below s (Q_law Z q1 p2 p3 bHELLO bREADY bBATCH bACK bEMIT bLOG bERROR bEND bBYE bPING bPONG ab kk h0 n0) room_1.cells room_1.slots s₁ (mkF m 76 #[.val (.long q1), .second, .val (.int p2), .val (.int p3), .val (.int md), .val (.long cd), .second, .unset] []) := by
    intro md cd
    refine Go.step (fun _ k => XS.lload X0.here hx rfl (hb hby at_76) rfl k) ?_
    show Go p e below s _ _ _ s₁ (mkF m 78 #[.val (.long q1), .second, .val (.int p2), .val (.int p3), .val (.int md), .val (.long cd), .second, .unset] [(.long cd)])
    obtain ⟨_, _, ⟨T1, L1, k1, n1⟩, -, X1, ⟨Lc1, hQ1, l1, y1, z1⟩, st1⟩ := Jvm.LawKit.callS X0 hx (y := xm1) hown (mvT hZ (tw0 hw)) (mvT hZ (tw1 hw)) (mvT hZ (tw2 hw)) (mvT hZ (tw3 hw)) (by decide) (backOf (W := 0) (rm_of l Z a0 hw [] cd bHELLO bREADY bBATCH bACK bEMIT bLOG bERROR bEND bBYE bPING bPONG ab kk h0 n0 Z0 S_BY_CODE V_ab) hZ (tw3 hw) (tw2 hw) (by decide) (by decide)) (g := (mkF m 78 #[.val (.long q1), .second, .val (.int p2), .val (.int p3), .val (.int md), .val (.long cd), .second, .unset] [(.long cd)])) rfl (by rw [hml]; rfl) (argsL := [(.long cd)]) (rest := []) (lenOf pd_0 rfl) rfl (by show 2 * 0 + _ ≤ _; exact Nat.le_of_eq rfl) (hb hby at_78) (fun _ _ => ⟨rfl, e0, (by decide : 0 + 0 ≤ _), (by decide : 0 + 0 ≤ _)⟩)
    dsimp only [Pt.U, Pt.locs, Pt.cells, Pt.slots] at X1 l1 y1 z1 st1 hQ1
    subst l1 y1 z1
    obtain ⟨rfl, N1q, eq1⟩ := hQ1
    have N2 := Fr.app N0 N1q
    refine Go.step (fun _ k => st1 _ (XS.astoreS X1.here hx rfl (hb hby at_81) rfl (own_rr bHELLO bREADY bBATCH bACK bEMIT bLOG bERROR bEND bBYE bPING bPONG cd) (own_cat (own_rr bHELLO bREADY bBATCH bACK bEMIT bLOG bERROR bEND bBYE bPING bPONG cd)) rfl (Or.inl rfl) (XS.aload X1.here hx rfl (hb hby at_83) rfl (own_rr bHELLO bREADY bBATCH bACK bEMIT bLOG bERROR bEND bBYE bPING bPONG cd) (XS.lload X1.here hx rfl (hb hby at_85) rfl k)))) ?_
    show Go p e below s _ _ _ T1 (mkF m 87 #[.val (.long q1), .second, .val (.int p2), .val (.int p3), .val (.int md), .val (.long cd), .second, .val (own_r bHELLO bREADY bBATCH bACK bEMIT bLOG bERROR bEND bBYE bPING bPONG cd)] [(.long cd), (own_r bHELLO bREADY bBATCH bACK bEMIT bLOG bERROR bEND bBYE bPING bPONG cd)])
    obtain ⟨_, _, ⟨T3, L3, k3, n3⟩, -, X3, ⟨Lc3, hQ3, l3, y3, z3⟩, st3⟩ := Jvm.LawKit.callS X1 hx (y := xm0) hown (mvT hZ (tw7 hw)) (mvT hZ (tw8 hw)) (mvT hZ (tw9 hw)) (mvT hZ (tw10 hw)) (by decide) (backOf (W := 1) (rm_exp l Z a0 hw [] cd bHELLO bREADY bBATCH bACK bEMIT bLOG bERROR bEND bBYE bPING bPONG h0 n0 Z0 S_HELLO S_READY S_BATCH S_ACK S_EMIT S_LOG S_ERROR S_END S_BYE S_PING S_PONG) hZ (tw10 hw) (tw9 hw) (by decide) (by decide)) (g := (mkF m 87 #[.val (.long q1), .second, .val (.int p2), .val (.int p3), .val (.int md), .val (.long cd), .second, .val (own_r bHELLO bREADY bBATCH bACK bEMIT bLOG bERROR bEND bBYE bPING bPONG cd)] [(.long cd), (own_r bHELLO bREADY bBATCH bACK bEMIT bLOG bERROR bEND bBYE bPING bPONG cd)])) rfl (by rw [hml]; rfl) (argsL := [(.long cd)]) (rest := [(own_r bHELLO bREADY bBATCH bACK bEMIT bLOG bERROR bEND bBYE bPING bPONG cd)]) (lenOf pd_0 rfl) rfl (by show 2 * 0 + _ ≤ _; simp only [List.map, List.sum_cons, List.sum_nil, own_cat (own_rr bHELLO bREADY bBATCH bACK bEMIT bLOG bERROR bEND bBYE bPING bPONG cd)]; decide) (hb hby at_87) (fun _ _ => ⟨rfl, eq1, (by decide : 0 + 0 ≤ _), (by decide : 0 + 0 ≤ _)⟩)
    dsimp only [Pt.U, Pt.locs, Pt.cells, Pt.slots] at X3 l3 y3 z3 st3 hQ3
    subst l3 y3 z3
    obtain ⟨rfl, N3q, eq3⟩ := hQ3
    have N4 := Fr.app N2 N3q
    refine Go.step (fun _ k => st3 _ (Jvm.RoadKit.acmp (g := (mkF m 90 #[.val (.long q1), .second, .val (.int p2), .val (.int p3), .val (.int md), .val (.long cd), .second, .val (own_r bHELLO bREADY bBATCH bACK bEMIT bLOG bERROR bEND bBYE bPING bPONG cd)] [(own_r bHELLO bREADY bBATCH bACK bEMIT bLOG bERROR bEND bBYE bPING bPONG cd), (own_r bHELLO bREADY bBATCH bACK bEMIT bLOG bERROR bEND bBYE bPING bPONG cd)])) X3 hx rfl (own_rr bHELLO bREADY bBATCH bACK bEMIT bLOG bERROR bEND bBYE bPING bPONG cd) (own_rr bHELLO bREADY bBATCH bACK bEMIT bLOG bERROR bEND bBYE bPING bPONG cd) (pc0 := 90) (pc' := 93) (same := true) rfl (hb hby at_90) rfl (decide_eq_true rfl) (by decide) (by decide) (XS.iconst X3.here hx rfl (hb hby at_93) (XS.goto X3.here hx rfl (pc0 := 94) (pc' := 98) rfl (hb hby at_94) (by decide) (by decide) k)))) ?_
    show Go p e below s _ _ _ T3 (mkF m 98 #[.val (.long q1), .second, .val (.int p2), .val (.int p3), .val (.int md), .val (.long cd), .second, .val (own_r bHELLO bREADY bBATCH bACK bEMIT bLOG bERROR bEND bBYE bPING bPONG cd)] [(.int (1 : Int32))])
    exact Go.retN X3 hx hlk (t := .boolean) Bd.returns (by simp) (hb hby at_98) eq3 ⟨rfl, N4⟩ (by decide) (by decide)
  refine Go.step (fun _ k => XS.iloadN X0.here hx rfl (hb hby at_0) rfl (XS.iconst X0.here hx rfl (hb hby at_1) (XS.iand X0.here hx rfl (hb hby at_2) rfl (XS.istore X0.here hx rfl (hb hby at_3) rfl (l' := #[.val (.long q1), .second, .val (.int p2), .val (.int p3), .val (.int (p3 &&& (3 : Int32))), .unset, .unset, .unset]) rfl (XS.iload X0.here hx rfl (hb hby at_5) rfl k))))) ?_
  show Go p e below s _ _ _ s₁ (mkF m 7 #[.val (.long q1), .second, .val (.int p2), .val (.int p3), .val (.int (p3 &&& (3 : Int32))), .unset, .unset, .unset] [(.int (p3 &&& (3 : Int32)))])
  by_cases hc1 : (p3 &&& (3 : Int32)) = (0 : Int32)
  · refine Go.step (fun _ k => XS.ifNo X0.here hx rfl (hb hby at_7) rfl ((if0 _ _).trans (teq hc1).2) (XS.iloadN X0.here hx rfl (hb hby at_10) rfl (XS.bipush X0.here hx rfl (hb hby at_11) (XS.iand X0.here hx rfl (hb hby at_13) rfl (XS.iconst X0.here hx rfl (hb hby at_14) (XS.isub X0.here hx rfl (hb hby at_15) rfl (XS.i2l X0.here hx rfl (hb hby at_16) rfl (XS.lstore X0.here hx rfl (hb hby at_17) rfl (l' := #[.val (.long q1), .second, .val (.int p2), .val (.int p3), .val (.int (p3 &&& (3 : Int32))), .val (.long (((p2 &&& (15 : Int32)) - (2 : Int32)).toInt64)), .second, .unset]) rfl (XS.goto X0.here hx rfl (pc0 := 19) (pc' := 76) rfl (hb hby at_19) (by decide) (by decide) k))))))))) ?_
    show Go p e below s _ _ _ s₁ (mkF m 76 #[.val (.long q1), .second, .val (.int p2), .val (.int p3), .val (.int (p3 &&& (3 : Int32))), .val (.long (((p2 &&& (15 : Int32)) - (2 : Int32)).toInt64)), .second, .unset] [])
    exact J (p3 &&& (3 : Int32)) ((((p2 &&& (15 : Int32)) - (2 : Int32)).toInt64))
  · refine Go.step (fun _ k => XS.ifYes X0.here hx rfl (pc0 := 7) (pc' := 22) rfl (hb hby at_7) rfl ((if0 _ _).trans (feq hc1).2) (by decide) (by decide) (XS.iload X0.here hx rfl (hb hby at_22) rfl (XS.iconst X0.here hx rfl (hb hby at_24) k))) ?_
    show Go p e below s _ _ _ s₁ (mkF m 25 #[.val (.long q1), .second, .val (.int p2), .val (.int p3), .val (.int (p3 &&& (3 : Int32))), .unset, .unset, .unset] [(.int (1 : Int32)), (.int (p3 &&& (3 : Int32)))])
    by_cases hc2 : (p3 &&& (3 : Int32)) = (1 : Int32)
    · refine Go.step (fun _ k => XS.icmpNo X0.here hx rfl (hb hby at_25) rfl (teq hc2).2 (XS.lloadN X0.here hx rfl (hb hby at_28) rfl (XS.lstore X0.here hx rfl (hb hby at_29) rfl (l' := #[.val (.long q1), .second, .val (.int p2), .val (.int p3), .val (.int (p3 &&& (3 : Int32))), .val (.long q1), .second, .unset]) rfl (XS.goto X0.here hx rfl (pc0 := 31) (pc' := 76) rfl (hb hby at_31) (by decide) (by decide) k)))) ?_
      show Go p e below s _ _ _ s₁ (mkF m 76 #[.val (.long q1), .second, .val (.int p2), .val (.int p3), .val (.int (p3 &&& (3 : Int32))), .val (.long q1), .second, .unset] [])
      exact J (p3 &&& (3 : Int32)) q1
    · refine Go.step (fun _ k => XS.icmpYes X0.here hx rfl (pc0 := 25) (pc' := 34) rfl (hb hby at_25) rfl (feq hc2).2 (by decide) (by decide) (XS.iload X0.here hx rfl (hb hby at_34) rfl (XS.iconst X0.here hx rfl (hb hby at_36) k))) ?_
      show Go p e below s _ _ _ s₁ (mkF m 37 #[.val (.long q1), .second, .val (.int p2), .val (.int p3), .val (.int (p3 &&& (3 : Int32))), .unset, .unset, .unset] [(.int (2 : Int32)), (.int (p3 &&& (3 : Int32)))])
      by_cases hc3 : (p3 &&& (3 : Int32)) = (2 : Int32)
      · refine Go.step (fun _ k => XS.icmpNo X0.here hx rfl (hb hby at_37) rfl (teq hc3).2 (XS.lloadN X0.here hx rfl (hb hby at_40) rfl (XS.bipush X0.here hx rfl (hb hby at_41) (XS.lshl X0.here hx rfl (hb hby at_43) rfl (XS.iloadN X0.here hx rfl (hb hby at_44) rfl (XS.bipush X0.here hx rfl (hb hby at_45) (XS.iand X0.here hx rfl (hb hby at_47) rfl (XS.i2l X0.here hx rfl (hb hby at_48) rfl (XS.lor X0.here hx rfl (hb hby at_49) rfl (XS.lstore X0.here hx rfl (hb hby at_50) rfl (l' := #[.val (.long q1), .second, .val (.int p2), .val (.int p3), .val (.int (p3 &&& (3 : Int32))), .val (.long ((q1 <<< ((32 : Int32) &&& 0x3f).toInt64) ||| ((p2 &&& (15 : Int32)).toInt64))), .second, .unset]) rfl k)))))))))) ?_
        show Go p e below s _ _ _ s₁ (mkF m 52 #[.val (.long q1), .second, .val (.int p2), .val (.int p3), .val (.int (p3 &&& (3 : Int32))), .val (.long ((q1 <<< ((32 : Int32) &&& 0x3f).toInt64) ||| ((p2 &&& (15 : Int32)).toInt64))), .second, .unset] [])
        refine Go.step (fun _ k => XS.goto X0.here hx rfl (pc0 := 52) (pc' := 76) rfl (hb hby at_52) (by decide) (by decide) k) ?_
        show Go p e below s _ _ _ s₁ (mkF m 76 #[.val (.long q1), .second, .val (.int p2), .val (.int p3), .val (.int (p3 &&& (3 : Int32))), .val (.long ((q1 <<< ((32 : Int32) &&& 0x3f).toInt64) ||| ((p2 &&& (15 : Int32)).toInt64))), .second, .unset] [])
        exact J (p3 &&& (3 : Int32)) (((q1 <<< ((32 : Int32) &&& 0x3f).toInt64) ||| ((p2 &&& (15 : Int32)).toInt64)))
      · refine Go.step (fun _ k => XS.icmpYes X0.here hx rfl (pc0 := 37) (pc' := 55) rfl (hb hby at_37) rfl (feq hc3).2 (by decide) (by decide) (XS.iloadN X0.here hx rfl (hb hby at_55) rfl (XS.bipush X0.here hx rfl (hb hby at_56) (XS.iand X0.here hx rfl (hb hby at_58) rfl (XS.i2l X0.here hx rfl (hb hby at_59) rfl (X0.ldc2Long hx hown (mvT hZ (tw11 hw)) (g := (mkF m 60 #[.val (.long q1), .second, .val (.int p2), .val (.int p3), .val (.int (p3 &&& (3 : Int32))), .unset, .unset, .unset] [(.long ((p2 &&& (15 : Int32)).toInt64))])) rfl (hb hby at_60) _ (XS.lsub X0.here hx rfl (hb hby at_63) rfl (XS.lloadN X0.here hx rfl (hb hby at_64) rfl (X0.ldc2Long hx hown (mvT hZ (tw14 hw)) (g := (mkF m 65 #[.val (.long q1), .second, .val (.int p2), .val (.int p3), .val (.int (p3 &&& (3 : Int32))), .unset, .unset, .unset] [(.long q1), (.long (((p2 &&& (15 : Int32)).toInt64) - (2 : Int64)))])) rfl (hb hby at_65) _ (XS.land X0.here hx rfl (hb hby at_68) rfl k)))))))))) ?_
        show Go p e below s _ _ _ s₁ (mkF m 69 #[.val (.long q1), .second, .val (.int p2), .val (.int p3), .val (.int (p3 &&& (3 : Int32))), .unset, .unset, .unset] [(.long (q1 &&& (255 : Int64))), (.long (((p2 &&& (15 : Int32)).toInt64) - (2 : Int64)))])
        refine Go.step (fun _ k => X0.ldc2Long hx hown (mvT hZ (tw15 hw)) (g := (mkF m 69 #[.val (.long q1), .second, .val (.int p2), .val (.int p3), .val (.int (p3 &&& (3 : Int32))), .unset, .unset, .unset] [(.long (q1 &&& (255 : Int64))), (.long (((p2 &&& (15 : Int32)).toInt64) - (2 : Int64)))])) rfl (hb hby at_69) _ (XS.lmul X0.here hx rfl (hb hby at_72) rfl (XS.lsub X0.here hx rfl (hb hby at_73) rfl (XS.lstore X0.here hx rfl (hb hby at_74) rfl (l' := #[.val (.long q1), .second, .val (.int p2), .val (.int p3), .val (.int (p3 &&& (3 : Int32))), .val (.long ((((p2 &&& (15 : Int32)).toInt64) - (2 : Int64)) - ((q1 &&& (255 : Int64)) * (4294967296 : Int64)))), .second, .unset]) rfl k)))) ?_
        show Go p e below s _ _ _ s₁ (mkF m 76 #[.val (.long q1), .second, .val (.int p2), .val (.int p3), .val (.int (p3 &&& (3 : Int32))), .val (.long ((((p2 &&& (15 : Int32)).toInt64) - (2 : Int64)) - ((q1 &&& (255 : Int64)) * (4294967296 : Int64)))), .second, .unset] [])
        exact J (p3 &&& (3 : Int32)) (((((p2 &&& (15 : Int32)).toInt64) - (2 : Int64)) - ((q1 &&& (255 : Int64)) * (4294967296 : Int64))))

set_option maxRecDepth 65536 in
set_option maxHeartbeats 40000000 in
theorem comes_1 {Post : Tables → Env → Array Value → State → Outcome → State → Prop} (hpost : ∀ tb e args s v u, (limb_1_1.after args s (.returned v) u = true ∧ limb_1_2.after args s (.returned v) u = true ∧ True) → FrameEnd s (.returned v) u (Jvm.fieldLocs frame_1_writes args s ++ Jvm.arrayLocs frame_1_arrays args s ++ Jvm.staticLocs frame_1_statics s) 0 0 → Post tb e args s (.returned v) u) :
    ArmFor flags0 classFile x code maxLocals ret World_1 tables_1 room_1 Calls_1 rest_1 Pre_1 Post := by
  intro l hfl _ _ p e ha hc hk s m args below hf hA hF happ hP
  obtain ⟨hcalls, hrest, hpre⟩ := hP
  obtain ⟨-, -, -, hnamed, -, -, -, hat⟩ := (Spec.applies_iff hf).mp happ
  obtain ⟨hg, hn⟩ := and_e (Cond.before_iff.mp (show (Jvm.Cond.and given_1 narrow_1).before args s = true from hpre))
  obtain ⟨gv1, gv2⟩ := and_e hg
  obtain ⟨gv3, gv4⟩ := and_e gv2
  obtain ⟨gv5, gv6⟩ := and_e gv4
  obtain ⟨w0, w1, w2, rfl⟩ : ∃ w0 w1 w2 : Value, args = #[w0, w1, w2] := by
    have hs : args.size = 3 := by simpa [Cond.value, given_1] using gv1
    obtain ⟨L⟩ := args
    match L, hs with
    | [w0, w1, w2], _ => exact ⟨w0, w1, w2, rfl⟩
  have hw := fun d (hd : d ∈ tables_1) => atoms_spec (ws := Jvm.Cond.code x code maxLocals ret :: tables_1) hat d (List.mem_cons_of_mem _ hd)
  have hfit : Fit s := fun {y c} hc i hi => by
    obtain ⟨ha, rfl⟩ := Array.getElem?_eq_some_iff.mp hc
    have q := List.all_eq_true.mp ((Array.all_eq_true_iff_forall_mem.mp hF) _ (Array.getElem_mem ha)) i (List.mem_range.mpr hi)
    simpa [Array.getElem?_eq_getElem hi] using q
  obtain ⟨i0, ei0⟩ := isL_v gv3
  obtain rfl : w0 = (.long i0) := Option.some.inj ei0
  obtain ⟨i1, ei1⟩ := is_v gv5
  obtain rfl : w1 = (.int i1) := Option.some.inj ei1
  obtain ⟨i2, ei2⟩ := is_v gv6
  obtain rfl : w2 = (.int i2) := Option.some.inj ei2
  obtain ⟨hn1, hn2⟩ := and_e hn
  obtain ⟨hn3, hn4⟩ := and_e hn2
  obtain ⟨hn5, hn6⟩ := and_e hn4
  obtain ⟨hn7, hn8⟩ := and_e hn6
  obtain ⟨hn9, hn10⟩ := and_e hn8
  obtain ⟨hn11, hn12⟩ := and_e hn10
  obtain ⟨hn13, hn14⟩ := and_e hn12
  obtain ⟨hn15, hn16⟩ := and_e hn14
  obtain ⟨hn17, hn18⟩ := and_e hn16
  obtain ⟨hn19, hn20⟩ := and_e hn18
  obtain ⟨hn21, hn22⟩ := and_e hn20
  obtain ⟨hn23, hn24⟩ := and_e hn22
  obtain ⟨hn25, hn26⟩ := and_e hn24
  obtain ⟨hn27, hn28⟩ := and_e hn26
  obtain ⟨hn29, hn30⟩ := and_e hn28
  obtain ⟨hn31, hn32⟩ := and_e hn30
  obtain ⟨hn33, hn34⟩ := and_e hn32
  obtain ⟨hn35, hn36⟩ := and_e hn34
  obtain ⟨hn37, hn38⟩ := and_e hn36
  obtain ⟨hn39, hn40⟩ := and_e hn38
  obtain ⟨hn41, hn42⟩ := and_e hn40
  obtain ⟨hn43, hn44⟩ := and_e hn42
  obtain ⟨hn45, hn46⟩ := and_e hn44
  obtain ⟨hn47, hn48⟩ := and_e hn46
  obtain ⟨ab, eab⟩ := arr_v hn1
  have S_BY_CODE := Sta.start eab (Or.inr ⟨(tw2 hw), (tw5 hw)⟩)
  obtain ⟨cl, Ar⟩ := Arr.start eab hn1
  obtain ⟨hl1, hl2⟩ := own_len hn3 eab Ar.1
  obtain ⟨bBATCH, ebBATCH⟩ := exa_v hn5
  have S_BATCH := Sta.start ebBATCH (Or.inr ⟨(tw2 hw), (tw6 hw)⟩)
  obtain ⟨bHELLO, ebHELLO⟩ := exa_v hn9
  have S_HELLO := Sta.start ebHELLO (Or.inr ⟨(tw2 hw), (tw24 hw)⟩)
  obtain ⟨bBYE, ebBYE⟩ := exa_v hn13
  have S_BYE := Sta.start ebBYE (Or.inr ⟨(tw2 hw), (tw26 hw)⟩)
  obtain ⟨bACK, ebACK⟩ := exa_v hn19
  have S_ACK := Sta.start ebACK (Or.inr ⟨(tw2 hw), (tw28 hw)⟩)
  obtain ⟨bERROR, ebERROR⟩ := exa_v hn23
  have S_ERROR := Sta.start ebERROR (Or.inr ⟨(tw2 hw), (tw30 hw)⟩)
  obtain ⟨bEMIT, ebEMIT⟩ := exa_v hn27
  have S_EMIT := Sta.start ebEMIT (Or.inr ⟨(tw2 hw), (tw32 hw)⟩)
  obtain ⟨bPING, ebPING⟩ := exa_v hn31
  have S_PING := Sta.start ebPING (Or.inr ⟨(tw2 hw), (tw34 hw)⟩)
  obtain ⟨bLOG, ebLOG⟩ := exa_v hn35
  have S_LOG := Sta.start ebLOG (Or.inr ⟨(tw2 hw), (tw36 hw)⟩)
  obtain ⟨bPONG, ebPONG⟩ := exa_v hn39
  have S_PONG := Sta.start ebPONG (Or.inr ⟨(tw2 hw), (tw38 hw)⟩)
  obtain ⟨bEND, ebEND⟩ := exa_v hn43
  have S_END := Sta.start ebEND (Or.inr ⟨(tw2 hw), (tw40 hw)⟩)
  obtain ⟨bREADY, ebREADY⟩ := exa_v hn47
  have S_READY := Sta.start ebREADY (Or.inr ⟨(tw2 hw), (tw42 hw)⟩)
  have el3 := own_elem hn7 eab Ar.1 ebBATCH rfl
  have el1 := own_elem hn11 eab Ar.1 ebHELLO rfl
  have el9 := own_elem hn15 eab Ar.1 ebBYE rfl
  have el0 := own_elem hn17 eab Ar.1 (w := .null) rfl rfl
  have el4 := own_elem hn21 eab Ar.1 ebACK rfl
  have el7 := own_elem hn25 eab Ar.1 ebERROR rfl
  have el5 := own_elem hn29 eab Ar.1 ebEMIT rfl
  have el10 := own_elem hn33 eab Ar.1 ebPING rfl
  have el6 := own_elem hn37 eab Ar.1 ebLOG rfl
  have el11 := own_elem hn41 eab Ar.1 ebPONG rfl
  have el8 := own_elem hn45 eab Ar.1 ebEND rfl
  have el2 := own_elem hn48 eab Ar.1 ebREADY rfl
  have V_ab : Arv s s.heap ab cl.cls (.object xs3) (12 : Int32) [.null, (.ref bHELLO), (.ref bREADY), (.ref bBATCH), (.ref bACK), (.ref bEMIT), (.ref bLOG), (.ref bERROR), (.ref bEND), (.ref bBYE), (.ref bPING), (.ref bPONG)] .null := Arv.start hfit Ar hl1 hl2 (by decide) rfl ⟨el0, el1, el2, el3, el4, el5, el6, el7, el8, el9, el10, el11, trivial⟩
  obtain ⟨n, o, h1, h2, h3, _, L, rfl, ⟨rfl, N⟩, hq⟩ := rm_law l s _ hw tables_1 i0 i1 i2 bHELLO bREADY bBATCH bACK bEMIT bLOG bERROR bEND bBYE bPING bPONG ab cl.cls s.heap s.heap.size (Nat.le_refl _) S_BY_CODE V_ab S_HELLO S_READY S_BATCH S_ACK S_EMIT S_LOG S_ERROR S_END S_BYE S_PING S_PONG p e ha hc hk s m _ below hf ((Spec.applies_iff_loose hf).mp happ).1 ⟨rfl, State.Warmed39.refl s, rfl⟩ trivial
  refine ⟨n, _, h1, h2, h3, hpost _ _ _ _ _ _ ⟨Cond.after_iff.mpr rfl, Cond.after_iff.mpr (eq_i res_at (Term.int_eval (1)) rfl), trivial⟩ ⟨hq.1, hq.2.1, (hq.2.2.sift fun y hy => Or.inr (N y hy)).mono (by decide) (by decide)⟩⟩
theorem main_1_1 : Claimed_1_1 := comes_1 fun _ _ _ _ _ _ h hF => ⟨h.1, hF⟩
theorem main_1_2 : Claimed_1_2 := comes_1 fun _ _ _ _ _ _ h hF => ⟨h.2.1, hF⟩
end Jvm.Pilot.@@N@@
namespace Jvm.Pilot.@@N@@
open Jvm Jvm.ClassFile Sem Op Lib Jvm.Free Jvm.Stand Jvm.Pilot.@@N@@.Jvm.D
/-! MADE BY PROGRAM (witnessworld.py) out of the Statement's table words and the real class files: 13 classes; the members and pool entries that the words name. The judged class is class 1, her method 2. -/
namespace start1
open Jvm.ClassFile
def u (s : String) : CpInfo := .utf8 (stringToUtf16 s)
/-- a pool by its gaps: so many unusable entries, then the entry; so many at the end -/
def gap : Nat → List CpInfo → List CpInfo
  | 0, r => r
  | n + 1, r => .unusable :: gap n r
def poolList (es : List (Nat × CpInfo)) (last : Nat) : List CpInfo := es.foldr (fun e r => gap e.1 (e.2 :: r)) (gap last [])
def pool (es : List (Nat × CpInfo)) (last : Nat) : Array CpInfo := ⟨poolList es last⟩
def fileOf (pool : Array CpInfo) (this : Nat) (attrs : Array Attribute := #[]) (ms : Array MethodInfo := #[]) (fl : Nat := 33) (sup : Nat := 0) (ifs : Array Nat := #[]) (fds : Array FieldInfo := #[]) : ClassFile where
  minorVersion := 0
  majorVersion := 65
  constantPool := pool
  accessFlags := fl
  thisClass := this
  superClass := sup
  interfaces := ifs
  fields := fds
  methods := ms
  attributes := attrs
def plain (name : String) (sup : Option ClassId) : Class where
  name := name
  kind := .ordinary
  loader := none
  accessFlags := 33
  super := sup
  interfaces := #[]
  cf := none
  fields := #[]
  methods := #[]
  instanceTypes := #[]
  staticTypes := #[]
  resolved := #[]
  callSites := []
  init := .initialized
  statics := none
  mirror := none

def pool0 : Array CpInfo := pool [(5, u "<init>"), (0, u "()V"), (1, .class_ 10), (1, u "java/lang/Object")] 113

def k0m0 : Method := { name := "<init>", desc := "()V", sig := { parameters := [], returnType := none }, accessFlags := 1, code := none }
/-- java/lang/Object -/
def k0 : Class := { plain "java/lang/Object" none with
  accessFlags := 33
  interfaces := #[]
  cf := some (fileOf pool0 8 #[] #[{ accessFlags := 1, nameIndex := 5, descriptorIndex := 6, attributes := #[] }] 33 0 #[] #[])
  fields := #[]
  methods := #[k0m0]
  instanceTypes := #[]
  staticTypes := #[]
  resolved := Array.replicate 124 none
  statics := none }

def pool1 : Array CpInfo := pool [(2, .class_ 4), (1, u "java/lang/Object"), (0, u "<init>"), (0, u "()V"), (0, .fieldref 8 9), (0, .class_ 10), (0, .nameAndType 11 12), (0, u "com/example/shellwire/shellwire/wire/NativeFrameType"), (0, u "HELLO"), (0, u "Lcom/example/shellwire/shellwire/wire/NativeFrameType;"), (0, .long 2), (1, .fieldref 8 16), (0, .nameAndType 17 12), (0, u "READY"), (0, .long 3), (1, .fieldref 8 21), (0, .nameAndType 22 12), (0, u "BATCH"), (0, .long 4), (1, .fieldref 8 26), (0, .nameAndType 27 12), (0, u "ACK"), (0, .long 5), (1, .fieldref 8 31), (0, .nameAndType 32 12), (0, u "EMIT"), (0, .long 6), (1, .fieldref 8 36), (0, .nameAndType 37 12), (0, u "LOG"), (0, .long 7), (1, .fieldref 8 41), (0, .nameAndType 42 12), (0, u "ERROR"), (0, .long 8), (1, .fieldref 8 46), (0, .nameAndType 47 12), (0, u "END"), (0, .long 9), (1, .fieldref 8 51), (0, .nameAndType 52 12), (0, u "BYE"), (0, .long 10), (1, .fieldref 8 56), (0, .nameAndType 57 12), (0, u "PING"), (0, .long 11), (1, .fieldref 8 61), (0, .nameAndType 62 12), (0, u "PONG"), (0, .long 255), (1, .long 4294967296), (1, .methodref 8 68), (0, .nameAndType 69 70), (0, u "of"), (0, u "(J)Lcom/example/shellwire/shellwire/wire/NativeFrameType;"), (0, .methodref 72 73), (0, .class_ 74), (0, .nameAndType 75 70), (0, u "com/example/shellwire/shellwire/wire/NativeFrameTypeOfPinLaw"), (0, u "expected"), (3, u "law"), (0, u "(JII)Z")] 2

def k1m0 : Method := { name := "<init>", desc := "()V", sig := { parameters := [], returnType := none }, accessFlags := 1, code := none }
def k1c1 : Code := { maxStack := 4, maxLocals := 2, code := method_2_code, exceptionTable := #[], attributes := #[] }
def k1m1 : Method := { name := "expected", desc := "(J)Lcom/example/shellwire/shellwire/wire/NativeFrameType;", sig := { parameters := [.long], returnType := some (.object "com/example/shellwire/shellwire/wire/NativeFrameType") }, accessFlags := 10, code := some k1c1 }
def k1c2 : Code := { maxStack := 6, maxLocals := 8, code := code, exceptionTable := #[], attributes := #[] }
def k1m2 : Method := { name := "law", desc := "(JII)Z", sig := { parameters := [.long, .int, .int], returnType := some .boolean }, accessFlags := 9, code := some k1c2 }
/-- com/example/shellwire/shellwire/wire/NativeFrameTypeOfPinLaw -/
def k1 : Class := { plain "com/example/shellwire/shellwire/wire/NativeFrameTypeOfPinLaw" (some 0) with
  accessFlags := 49
  interfaces := #[]
  cf := some (fileOf pool1 72 #[] #[{ accessFlags := 1, nameIndex := 5, descriptorIndex := 6, attributes := #[] }, { accessFlags := 10, nameIndex := 75, descriptorIndex := 70, attributes := #[] }, { accessFlags := 9, nameIndex := 79, descriptorIndex := 80, attributes := #[] }] 49 2 #[] #[])
  fields := #[]
  methods := #[k1m0, k1m1, k1m2]
  instanceTypes := #[]
  staticTypes := #[]
  resolved := Array.replicate 83 none
  statics := none }

def pool2 : Array CpInfo := pool [(1, .class_ 2), (0, u "java/lang/constant/Constable"), (0, .class_ 4), (0, u "java/lang/Object")] 6

/-- java/lang/constant/Constable -/
def k2 : Class := { plain "java/lang/constant/Constable" (some 0) with
  accessFlags := 1537
  interfaces := #[]
  cf := some (fileOf pool2 1 #[] #[] 1537 3 #[] #[])
  fields := #[]
  methods := #[]
  instanceTypes := #[]
  staticTypes := #[]
  resolved := Array.replicate 11 none
  statics := none }

def pool3 : Array CpInfo := pool [(1, .class_ 2), (0, u "java/lang/Comparable"), (0, .class_ 4), (0, u "java/lang/Object")] 7

/-- java/lang/Comparable -/
def k3 : Class := { plain "java/lang/Comparable" (some 0) with
  accessFlags := 1537
  interfaces := #[]
  cf := some (fileOf pool3 1 #[] #[] 1537 3 #[] #[])
  fields := #[]
  methods := #[]
  instanceTypes := #[]
  staticTypes := #[]
  resolved := Array.replicate 12 none
  statics := none }

def pool4 : Array CpInfo := pool [(1, .class_ 2), (0, u "java/io/Serializable"), (0, .class_ 4), (0, u "java/lang/Object")] 2

/-- java/io/Serializable -/
def k4 : Class := { plain "java/io/Serializable" (some 0) with
  accessFlags := 1537
  interfaces := #[]
  cf := some (fileOf pool4 1 #[] #[] 1537 3 #[] #[])
  fields := #[]
  methods := #[]
  instanceTypes := #[]
  staticTypes := #[]
  resolved := Array.replicate 7 none
  statics := none }

def pool5 : Array CpInfo := pool [(2, .class_ 4), (1, u "java/lang/Enum"), (0, u "name"), (0, u "Ljava/lang/String;"), (2, u "ordinal"), (0, u "I"), (1, .class_ 14), (1, u "java/lang/Object"), (4, u "hash"), (86, .class_ 108), (1, u "java/lang/Enum$EnumDesc"), (2, .class_ 112), (0, u "java/lang/constant/Constable"), (0, .class_ 114), (0, u "java/lang/Comparable"), (0, .class_ 116), (0, u "java/io/Serializable")] 87

/-- java/lang/Enum -/
def k5 : Class := { plain "java/lang/Enum" (some 0) with
  accessFlags := 1057
  interfaces := #[2, 3, 4]
  cf := some (fileOf pool5 2 #[.nestMembers #[106]] #[] 1057 12 #[111, 113, 115] #[{ accessFlags := 18, nameIndex := 5, descriptorIndex := 6, attributes := #[] }, { accessFlags := 18, nameIndex := 9, descriptorIndex := 10, attributes := #[] }, { accessFlags := 2, nameIndex := 19, descriptorIndex := 10, attributes := #[] }])
  fields := #[{ name := "name", type := (.object "java/lang/String"), accessFlags := 18, slot := 0, constantValue := 0 }, { name := "ordinal", type := .int, accessFlags := 18, slot := 1, constantValue := 0 }, { name := "hash", type := .int, accessFlags := 2, slot := 2, constantValue := 0 }]
  methods := #[]
  instanceTypes := #[(.object "java/lang/String"), .int, .int]
  staticTypes := #[]
  resolved := Array.replicate 204 none
  statics := none }

def pool6 : Array CpInfo := pool [(1, .class_ 2), (0, u "com/example/shellwire/shellwire/wire/NativeFrameType"), (2, u "HELLO"), (0, u "Lcom/example/shellwire/shellwire/wire/NativeFrameType;"), (2, u "READY"), (2, u "BATCH"), (2, u "ACK"), (2, u "EMIT"), (2, u "LOG"), (2, u "ERROR"), (2, u "END"), (2, u "BYE"), (2, u "PING"), (2, u "PONG"), (2, u "$VALUES"), (0, u "[Lcom/example/shellwire/shellwire/wire/NativeFrameType;"), (6, .class_ 49), (1, u "java/lang/Enum"), (8, u "code"), (0, u "I"), (2, u "fromWorker"), (0, u "Z"), (0, .fieldref 1 65), (0, .nameAndType 66 40), (0, u "BY_CODE"), (36, u "of"), (0, u "(J)Lcom/example/shellwire/shellwire/wire/NativeFrameType;")] 8

def k6c0 : Code := { maxStack := 4, maxLocals := 2, code := prog_53_method_4_code, exceptionTable := #[], attributes := #[] }
def k6m0 : Method := { name := "of", desc := "(J)Lcom/example/shellwire/shellwire/wire/NativeFrameType;", sig := { parameters := [.long], returnType := some (.object "com/example/shellwire/shellwire/wire/NativeFrameType") }, accessFlags := 9, code := some k6c0 }
/-- com/example/shellwire/shellwire/wire/NativeFrameType -/
def k6 : Class := { plain "com/example/shellwire/shellwire/wire/NativeFrameType" (some 5) with
  accessFlags := 16433
  interfaces := #[]
  cf := some (fileOf pool6 1 #[] #[{ accessFlags := 9, nameIndex := 103, descriptorIndex := 104, attributes := #[] }] 16433 47 #[] #[{ accessFlags := 16409, nameIndex := 5, descriptorIndex := 6, attributes := #[] }, { accessFlags := 16409, nameIndex := 9, descriptorIndex := 6, attributes := #[] }, { accessFlags := 16409, nameIndex := 12, descriptorIndex := 6, attributes := #[] }, { accessFlags := 16409, nameIndex := 15, descriptorIndex := 6, attributes := #[] }, { accessFlags := 16409, nameIndex := 18, descriptorIndex := 6, attributes := #[] }, { accessFlags := 16409, nameIndex := 21, descriptorIndex := 6, attributes := #[] }, { accessFlags := 16409, nameIndex := 24, descriptorIndex := 6, attributes := #[] }, { accessFlags := 16409, nameIndex := 27, descriptorIndex := 6, attributes := #[] }, { accessFlags := 16409, nameIndex := 30, descriptorIndex := 6, attributes := #[] }, { accessFlags := 16409, nameIndex := 33, descriptorIndex := 6, attributes := #[] }, { accessFlags := 16409, nameIndex := 36, descriptorIndex := 6, attributes := #[] }, { accessFlags := 26, nameIndex := 66, descriptorIndex := 40, attributes := #[] }, { accessFlags := 18, nameIndex := 58, descriptorIndex := 59, attributes := #[] }, { accessFlags := 18, nameIndex := 62, descriptorIndex := 63, attributes := #[] }, { accessFlags := 4122, nameIndex := 39, descriptorIndex := 40, attributes := #[] }])
  fields := #[{ name := "HELLO", type := (.object "com/example/shellwire/shellwire/wire/NativeFrameType"), accessFlags := 16409, slot := 0, constantValue := 0 }, { name := "READY", type := (.object "com/example/shellwire/shellwire/wire/NativeFrameType"), accessFlags := 16409, slot := 1, constantValue := 0 }, { name := "BATCH", type := (.object "com/example/shellwire/shellwire/wire/NativeFrameType"), accessFlags := 16409, slot := 2, constantValue := 0 }, { name := "ACK", type := (.object "com/example/shellwire/shellwire/wire/NativeFrameType"), accessFlags := 16409, slot := 3, constantValue := 0 }, { name := "EMIT", type := (.object "com/example/shellwire/shellwire/wire/NativeFrameType"), accessFlags := 16409, slot := 4, constantValue := 0 }, { name := "LOG", type := (.object "com/example/shellwire/shellwire/wire/NativeFrameType"), accessFlags := 16409, slot := 5, constantValue := 0 }, { name := "ERROR", type := (.object "com/example/shellwire/shellwire/wire/NativeFrameType"), accessFlags := 16409, slot := 6, constantValue := 0 }, { name := "END", type := (.object "com/example/shellwire/shellwire/wire/NativeFrameType"), accessFlags := 16409, slot := 7, constantValue := 0 }, { name := "BYE", type := (.object "com/example/shellwire/shellwire/wire/NativeFrameType"), accessFlags := 16409, slot := 8, constantValue := 0 }, { name := "PING", type := (.object "com/example/shellwire/shellwire/wire/NativeFrameType"), accessFlags := 16409, slot := 9, constantValue := 0 }, { name := "PONG", type := (.object "com/example/shellwire/shellwire/wire/NativeFrameType"), accessFlags := 16409, slot := 10, constantValue := 0 }, { name := "BY_CODE", type := (.array (.object "com/example/shellwire/shellwire/wire/NativeFrameType")), accessFlags := 26, slot := 11, constantValue := 0 }, { name := "code", type := .int, accessFlags := 18, slot := 3, constantValue := 0 }, { name := "fromWorker", type := .boolean, accessFlags := 18, slot := 4, constantValue := 0 }, { name := "$VALUES", type := (.array (.object "com/example/shellwire/shellwire/wire/NativeFrameType")), accessFlags := 4122, slot := 12, constantValue := 0 }]
  methods := #[k6m0]
  instanceTypes := #[(.object "java/lang/String"), .int, .int, .int, .boolean]
  staticTypes := #[(.object "com/example/shellwire/shellwire/wire/NativeFrameType"), (.object "com/example/shellwire/shellwire/wire/NativeFrameType"), (.object "com/example/shellwire/shellwire/wire/NativeFrameType"), (.object "com/example/shellwire/shellwire/wire/NativeFrameType"), (.object "com/example/shellwire/shellwire/wire/NativeFrameType"), (.object "com/example/shellwire/shellwire/wire/NativeFrameType"), (.object "com/example/shellwire/shellwire/wire/NativeFrameType"), (.object "com/example/shellwire/shellwire/wire/NativeFrameType"), (.object "com/example/shellwire/shellwire/wire/NativeFrameType"), (.object "com/example/shellwire/shellwire/wire/NativeFrameType"), (.object "com/example/shellwire/shellwire/wire/NativeFrameType"), (.array (.object "com/example/shellwire/shellwire/wire/NativeFrameType")), (.array (.object "com/example/shellwire/shellwire/wire/NativeFrameType"))]
  resolved := Array.replicate 113 none
  statics := some 0 }

def pool7 : Array CpInfo := pool [(1, u "java/lang/Cloneable"), (0, .class_ 1), (0, u "java/lang/Object"), (0, .class_ 3)] 3

/-- java/lang/Cloneable -/
def k7 : Class := { plain "java/lang/Cloneable" (some 0) with
  accessFlags := 1537
  interfaces := #[]
  cf := some (fileOf pool7 2 #[] #[] 1537 4 #[] #[])
  fields := #[]
  methods := #[]
  instanceTypes := #[]
  staticTypes := #[]
  resolved := Array.replicate 8 none
  statics := none }

/-- the primitive byte -/
def k8 : Class := { plain "byte" none with kind := .primitive 'B', accessFlags := 0x411 }
/-- [B -/
def k9 : Class := { plain "[B" (some 0) with kind := .array 8 .byte, interfaces := #[7, 4], accessFlags := 1041 }

/-- the primitive int -/
def k10 : Class := { plain "int" none with kind := .primitive 'I', accessFlags := 0x411 }
/-- [I -/
def k11 : Class := { plain "[I" (some 0) with kind := .array 10 .int, interfaces := #[7, 4], accessFlags := 1041 }

/-- [Lcom/example/shellwire/shellwire/wire/NativeFrameType; -/
def k12 : Class := { plain "[Lcom/example/shellwire/shellwire/wire/NativeFrameType;" (some 0) with kind := .array 6 (.object "com/example/shellwire/shellwire/wire/NativeFrameType"), interfaces := #[7, 4], accessFlags := 1041 }

def heap : Heap := #[{ cls := 6, slots := #[.ref 2, .ref 3, .ref 4, .ref 5, .ref 6, .ref 7, .ref 8, .ref 9, .ref 10, .ref 11, .ref 12, .ref 1, .null], vm := .statics 6 },
  { cls := 12, slots := #[.null, .ref 2, .ref 3, .ref 4, .ref 5, .ref 6, .ref 7, .ref 8, .ref 9, .ref 10, .ref 11, .ref 12], vm := .none },
  { cls := 6, slots := #[.null, .int 0, .int 0, .int 0, .int 0], vm := .none },
  { cls := 6, slots := #[.null, .int 0, .int 0, .int 0, .int 0], vm := .none },
  { cls := 6, slots := #[.null, .int 0, .int 0, .int 0, .int 0], vm := .none },
  { cls := 6, slots := #[.null, .int 0, .int 0, .int 0, .int 0], vm := .none },
  { cls := 6, slots := #[.null, .int 0, .int 0, .int 0, .int 0], vm := .none },
  { cls := 6, slots := #[.null, .int 0, .int 0, .int 0, .int 0], vm := .none },
  { cls := 6, slots := #[.null, .int 0, .int 0, .int 0, .int 0], vm := .none },
  { cls := 6, slots := #[.null, .int 0, .int 0, .int 0, .int 0], vm := .none },
  { cls := 6, slots := #[.null, .int 0, .int 0, .int 0, .int 0], vm := .none },
  { cls := 6, slots := #[.null, .int 0, .int 0, .int 0, .int 0], vm := .none },
  { cls := 6, slots := #[.null, .int 0, .int 0, .int 0, .int 0], vm := .none }]
def classes : Array Class := #[k0, k1, k2, k3, k4, k5, k6, k7, k8, k9, k10, k11, k12]
def interned : List (Array UInt16 × Addr) := []
def slotsUsed : Nat := 80
def theMethod : MethodId := ⟨1, 2⟩
def args0 : Array Value := #[.long 5, .int 3, .int 1]
def aboutOver (below : List Frame) : State where
  vm := { classes := classes, interned := interned.toArray }
  heap := heap
  slotsUsed := slotsUsed
  threads := #[{ frames := .invoking theMethod args0 :: below }]
def below0 : List Frame := [.native { method := ⟨0, 0⟩, args := #[] }]
def about1 : State := aboutOver below0
def p0 : Program := .bare "" "" ""
def e0 : Env := launch0.env 0 0 0
theorem w_frames : about1.frames = Frame.invoking theMethod args0 :: below0 := rfl
set_option maxRecDepth 65536 in
theorem w_args : argsFit about1.vm theMethod args0 = true := by decide +kernel
set_option maxRecDepth 65536 in
theorem w_heap : heapFits about1 = true := by decide +kernel
set_option maxRecDepth 65536 in
theorem w_runnable : about1.curStatus? = some .runnable := by decide +kernel
set_option maxRecDepth 65536 in
theorem w_alone : about1.alone = true := by decide +kernel
set_option maxRecDepth 65536 in
theorem w_named : about1.methodNamed? x = some theMethod := by decide +kernel
set_option maxRecDepth 65536 in
theorem w_hears : about1.hears theMethod below0 = true := by decide +kernel
set_option maxRecDepth 65536 in
theorem w_ripe : about1.ripe theMethod args0 below0 = true := by decide +kernel
theorem w_running : about1.status = .running := rfl
set_option maxRecDepth 65536 in
theorem w_room : about1.hasRoom e0.platform room_1 = true :=
  launch0.hasRoom_least _ room_1 (by decide +kernel) (by decide +kernel) (by decide +kernel) (by decide +kernel) (by decide +kernel) (by decide +kernel)
theorem allAtoms_all (ts : List Jvm.Cond) (a : Array Jvm.Value) (st : Jvm.State) : (allAtoms ts).before a st = ts.all (fun c => c.before a st) := by
  induction ts with
  | nil => rfl
  | cons c t ih =>
    show (Jvm.Cond.and c (allAtoms t)).before a st = _
    rw [Jvm.Cond.before_and, ih, List.all_cons]
def words1 : List Jvm.Cond := Jvm.Cond.code x code maxLocals ret :: tables_1
/-- a 'code' word, met by the world's own term for the bytes: nothing is compared byte by byte -/
theorem code_word {y : MethodName} {bytes : ByteArray} {mx : Nat} {rt : Option FieldType} {a : Array Value} {s : State} {m : MethodId} {meth : Method} {c : Code} (h1 : s.methodNamed? y = some m) (h2 : s.vm.method? m = some meth) (h3 : meth.code = some c) (h4 : c.code = bytes)
    (h5 : (c.maxLocals == mx && c.exceptionTable.isEmpty && decide (c.maxStack ≤ mostOperands) && decide (meth.sig.returnType = rt) && !meth.locks && decide (parseMethodDescriptor y.desc = some meth.sig)) = true) : (Jvm.Cond.code y bytes mx rt).before a s = true := by
  simp only [Bool.and_eq_true, beq_iff_eq, Bool.not_eq_true', decide_eq_true_eq] at h5
  obtain ⟨⟨⟨⟨⟨g1, g2⟩, g3⟩, g4⟩, g5⟩, g6⟩ := h5
  simp [Cond.before, Cond.holds, Cond.value, h1, h2, h3, h4, g1, g2, g3, g4, g5, g6]
def isCode : Jvm.Cond → Bool
  | .code _ _ _ _ => true
  | _ => false
theorem all_split {L : List Jvm.Cond} {P : Jvm.Cond → Bool} (h1 : L.all (fun c => isCode c || P c) = true) (h2 : ∀ c ∈ L.filter isCode, P c = true) : L.all P = true := by
  refine List.all_eq_true.mpr fun c hc => ?_
  have h := List.all_eq_true.mp h1 c hc
  rcases Bool.eq_false_or_eq_true (isCode c) with hi | hi
  · exact h2 c (List.mem_filter.mpr ⟨hc, hi⟩)
  · simpa [hi] using h
set_option maxRecDepth 65536 in
theorem w_c0 : (Jvm.Cond.code x code maxLocals ret).before args0 about1 = true := code_word (m := ⟨1, 2⟩) (meth := k1m2) (c := k1c2) (by decide +kernel) rfl rfl rfl (by decide +kernel)
set_option maxRecDepth 65536 in
theorem w_c1 : (Jvm.Cond.code ({ cls := "com/example/shellwire/shellwire/wire/NativeFrameType", name := "of", desc := "(J)Lcom/example/shellwire/shellwire/wire/NativeFrameType;" } : Jvm.MethodName) prog_53_method_4_code (2 : Nat) (Option.some (Jvm.ClassFile.FieldType.object "com/example/shellwire/shellwire/wire/NativeFrameType"))).before args0 about1 = true := code_word (m := ⟨6, 0⟩) (meth := k6m0) (c := k6c0) (by decide +kernel) rfl rfl rfl (by decide +kernel)
set_option maxRecDepth 65536 in
theorem w_c2 : (Jvm.Cond.code ({ cls := "com/example/shellwire/shellwire/wire/NativeFrameTypeOfPinLaw", name := "expected", desc := "(J)Lcom/example/shellwire/shellwire/wire/NativeFrameType;" } : Jvm.MethodName) method_2_code (2 : Nat) (Option.some (Jvm.ClassFile.FieldType.object "com/example/shellwire/shellwire/wire/NativeFrameType"))).before args0 about1 = true := code_word (m := ⟨1, 1⟩) (meth := k1m1) (c := k1c1) (by decide +kernel) rfl rfl rfl (by decide +kernel)
def codes1 : List Jvm.Cond := [Jvm.Cond.code x code maxLocals ret, Jvm.Cond.code ({ cls := "com/example/shellwire/shellwire/wire/NativeFrameType", name := "of", desc := "(J)Lcom/example/shellwire/shellwire/wire/NativeFrameType;" } : Jvm.MethodName) prog_53_method_4_code (2 : Nat) (Option.some (Jvm.ClassFile.FieldType.object "com/example/shellwire/shellwire/wire/NativeFrameType")), Jvm.Cond.code ({ cls := "com/example/shellwire/shellwire/wire/NativeFrameTypeOfPinLaw", name := "expected", desc := "(J)Lcom/example/shellwire/shellwire/wire/NativeFrameType;" } : Jvm.MethodName) method_2_code (2 : Nat) (Option.some (Jvm.ClassFile.FieldType.object "com/example/shellwire/shellwire/wire/NativeFrameType"))]
set_option maxRecDepth 65536 in
theorem codes_eq : words1.filter isCode = codes1 := rfl
theorem w_codes : ∀ c ∈ words1.filter isCode, c.before args0 about1 = true := by
  rw [codes_eq]
  intro c hc
  simp only [codes1, List.mem_cons, List.not_mem_nil, or_false] at hc
  rcases hc with rfl | rfl | rfl
  · exact w_c0
  · exact w_c1
  · exact w_c2
set_option maxRecDepth 65536 in
theorem w_t1 : (words1.take 24).all (fun c => isCode c || c.before args0 about1) = true := by decide +kernel
set_option maxRecDepth 65536 in
theorem w_t2 : (words1.drop 24).all (fun c => isCode c || c.before args0 about1) = true := by decide +kernel
theorem w_tables : (allAtoms (Jvm.Cond.code x code maxLocals ret :: tables_1)).before args0 about1 = true := by
  rw [allAtoms_all]
  show words1.all (fun c => c.before args0 about1) = true
  refine all_split ?_ w_codes
  rw [← List.take_append_drop 24 words1, List.all_append, w_t1, w_t2]
  rfl
set_option maxRecDepth 65536 in
theorem w_case : (Jvm.Cond.and given_1 narrow_1).before args0 about1 = true := by decide +kernel
theorem w_applies : (headSpec (Jvm.Cond.code x code maxLocals ret :: tables_1) room_1).applies x e0.platform about1 = true :=
  (Spec.applies_iff w_frames).mpr ⟨w_running, w_runnable, w_alone, w_named, w_hears, w_ripe, w_room, w_tables⟩
theorem atStart : AtStart classFile x code maxLocals ret World_1 tables_1 room_1 Calls_1 rest_1 Pre_1 launch0 p0 e0 about1 theMethod args0 below0 :=
  ⟨lists_1, trivial, launch0.admits_env _ _ _, launch0.least_env, fairChoices_fair.cas, fairChoices_fair.clock, w_frames, w_args, w_heap, w_applies, trivial, trivial, w_case⟩
end start1
theorem witness_1 : WitnessClaimed_1 := ⟨start1.p0, start1.e0, start1.about1, start1.theMethod, start1.args0, start1.below0, start1.atStart⟩
end Jvm.Pilot.@@N@@
