import JvmDerived
import JvmDerived.Pilot.@@N@@Statement
import JvmDerived.Pilot.@@N@@Code
set_option linter.unusedVariables false
set_option linter.unusedSimpArgs false
namespace Jvm.RoadKit
open Sem ClassFile Op Lib Jvm.Stand Jvm.Free Jvm.LawKit
section New
variable {p : Program} {l : Launch} {e : Env} {R : Room} {s : State} {m : MethodId} {args : Array Value} {below : List Frame} {meth : Method} {c : Code} {T : State} {locs : List Loc} {cells slots : Nat}
theorem retI (X : Stand p l e R s m args below meth c T locs cells slots) (hx : p.tables.exec = Jvm.exec) {pc : Nat} {Ls : Array Slot} {z : Int32} {rest : List Value} (hret : meth.sig.returnType = some .int) (hd : decode c.code pc = .ok (.ireturn, 1)) {fs : List Frame}
    (hl : ∀ (f : JFrame) (acts : List Action), f.method = m → f.locked = none → f.entered = [] → (doReturn e (T.setTop f) acts (some (.int z))).1 = T.setFrames fs) : Steps p.tables e below (T.setTop (mkF m pc Ls (.int z :: rest))) (T.setFrames fs) := by
  have hm' : T.vm.method? m = some meth := X.method'
  have hn : narrow .int (.int z) = .int z := rfl
  show Steps p.tables e below (T.setTop { method := m, pc := pc, locals := Ls, stack := _ :: rest, locked := none }) _
  jvm_step X.here [X.here.top, hx, hd, hm', hret, hn]
  first | (intro acts; rw [hl _ acts rfl rfl rfl]) | rw [hl _ _ rfl rfl rfl]
  exact Steps.refl _
end New
end Jvm.RoadKit
namespace Jvm.Pilot.@@N@@
open Jvm Jvm.ClassFile Sem Op Lib Jvm.Free Jvm.Stand Jvm.LawKit Jvm.RoadKit Bundle Jvm.Pilot.@@N@@.Jvm.D
section Own
variable {p : Program} {l : Launch} {e : Env} {R : Room} {s : State} {m : MethodId} {args : Array Value} {below : List Frame} {meth : Method} {c : Code} {T T' : State} {locs : List Loc} {cells slots : Nat} {f f' : JFrame} {Q : Option Value → Heap → List Loc → Prop} {ck sk : Nat} {h : Heap} {Z : State}
/-- from here the run comes to its end, and leaves what Q says -/
def Go (p : Program) (e : Env) (below : List Frame) (s : State) (Q : Option Value → Heap → List Loc → Prop) (ck sk : Nat) (T : State) (f : JFrame) : Prop :=
  ∃ s₂ o, Steps p.tables e below (T.setTop f) s₂ ∧ s₂.status = .running ∧ Ended s₂ below o ∧ ∃ v L, o = .returned v ∧ Q v s₂.heap L ∧ FrameEnd s o s₂ L ck sk
theorem Go.step (st : ∀ t, Steps p.tables e below (T'.setTop f') t → Steps p.tables e below (T.setTop f) t) (k : Go p e below s Q ck sk T' f') : Go p e below s Q ck sk T f := by
  obtain ⟨s₂, o, h1, r⟩ := k; exact ⟨s₂, o, st _ h1, r⟩
theorem Go.via (st : Steps p.tables e below (T.setTop f) (T'.setTop f')) (k : Go p e below s Q ck sk T' f') : Go p e below s Q ck sk T f := by
  obtain ⟨s₂, o, h1, r⟩ := k; exact ⟨s₂, o, st.trans h1, r⟩
theorem Go.retI (X : Stand p l e R s m args below meth c T locs cells slots) (hx : p.tables.exec = Jvm.exec) (hlk : meth.locks = false) {pc : Nat} {Ls : Array Slot} {z : Int32} {rest : List Value} (hret : meth.sig.returnType = some .int) (hd : decode c.code pc = .ok (.ireturn, 1)) (eT : T.heap = h) (hq : Q (some (.int z)) h locs) (hck : cells ≤ ck) (hsk : slots ≤ sk) : Go p e below s Q ck sk T (mkF m pc Ls (.int z :: rest)) := by
  subst eT
  obtain ⟨fs, hr, hrun, hended, hW, hsame⟩ := X.leave (v := some (.int z)) (fun h => by rw [hret] at h; cases h) hlk
  exact ⟨_, _, Jvm.RoadKit.retI X hx hret hd hr, hrun, hended, _, _, rfl, hq, ⟨_, rfl⟩, hW, hsame.mono hck hsk⟩
theorem Go.retZ (X : Stand p l e R s m args below meth c T locs cells slots) (hx : p.tables.exec = Jvm.exec) (hlk : meth.locks = false) {pc : Nat} {Ls : Array Slot} {z : Int32} {rest : List Value} {t : FieldType} (hret : meth.sig.returnType = some t) (ht : t = .boolean ∨ t = .byte ∨ t = .char ∨ t = .short) (hd : decode c.code pc = .ok (.ireturn, 1)) (eT : T.heap = h) (hq : Q (some (.int (nar t z))) h locs) (hck : cells ≤ ck) (hsk : slots ≤ sk) : Go p e below s Q ck sk T (mkF m pc Ls (.int z :: rest)) := by
  subst eT
  obtain ⟨fs, hr, hrun, hended, hW, hsame⟩ := X.leave (v := some (.int (nar t z))) (fun h => by rw [hret] at h; cases h) hlk
  exact ⟨_, _, retN X hx hret ht hd hr, hrun, hended, _, _, rfl, hq, ⟨_, rfl⟩, hW, hsame.mono hck hsk⟩
theorem Go.retV (X : Stand p l e R s m args below meth c T locs cells slots) (hx : p.tables.exec = Jvm.exec) (hlk : meth.locks = false) {pc : Nat} {Ls : Array Slot} (hret : meth.sig.returnType = none) (hd : decode c.code pc = .ok (.return_, 1)) (eT : T.heap = h) (hq : Q none h locs) (hck : cells ≤ ck) (hsk : slots ≤ sk) : Go p e below s Q ck sk T (mkF m pc Ls []) := by
  subst eT
  obtain ⟨fs, hr, hrun, hended, hW, hsame⟩ := X.leave (v := none) (fun _ => rfl) hlk
  exact ⟨_, _, X.returnOut hx hret hd hr, hrun, hended, _, _, rfl, hq, ⟨_, rfl⟩, hW, hsame.mono hck hsk⟩
theorem Go.retJ (X : Stand p l e R s m args below meth c T locs cells slots) (hx : p.tables.exec = Jvm.exec) (hlk : meth.locks = false) {pc : Nat} {Ls : Array Slot} {z : Int64} {rest : List Value} (hret : meth.sig.returnType = some .long) (hd : decode c.code pc = .ok (.lreturn, 1)) (eT : T.heap = h) (hq : Q (some (.long z)) h locs) (hck : cells ≤ ck) (hsk : slots ≤ sk) : Go p e below s Q ck sk T (mkF m pc Ls (.long z :: rest)) := by
  subst eT
  obtain ⟨fs, hr, hrun, hended, hW, hsame⟩ := X.leave (v := some (.long z)) (fun h => by rw [hret] at h; cases h) hlk
  exact ⟨_, _, retOut X hx hret rfl (Or.inr (Or.inl ⟨rfl, rfl, _, rfl⟩)) hd hr, hrun, hended, _, _, rfl, hq, ⟨_, rfl⟩, hW, hsame.mono hck hsk⟩
theorem own_nar_ref {t : FieldType} {w : Value} (h1 : t.isReference = true) (h2 : w.isRef = true) : narrow t w = w := by
  cases t <;> first | (cases h1; done) | (cases w <;> first | rfl | (cases h2; done))
theorem Go.retA (X : Stand p l e R s m args below meth c T locs cells slots) (hx : p.tables.exec = Jvm.exec) (hlk : meth.locks = false) {pc : Nat} {Ls : Array Slot} {w : Value} {rest : List Value} {t : FieldType} (hret : meth.sig.returnType = some t) (ht : t.isReference = true) (hw : w.isRef = true) (hd : decode c.code pc = .ok (.areturn, 1)) (eT : T.heap = h) (hq : Q (some w) h locs) (hck : cells ≤ ck) (hsk : slots ≤ sk) : Go p e below s Q ck sk T (mkF m pc Ls (w :: rest)) := by
  subst eT
  obtain ⟨fs, hr, hrun, hended, hW, hsame⟩ := X.leave (v := some w) (fun h => by rw [hret] at h; cases h) hlk
  exact ⟨_, _, retOut X hx hret (own_nar_ref ht hw) (Or.inr (Or.inr (Or.inr (Or.inr ⟨rfl, ht, hw⟩)))) hd hr, hrun, hended, _, _, rfl, hq, ⟨_, rfl⟩, hW, hsame.mono hck hsk⟩
theorem own_old_le {n0 : Nat} (o : Old Z n0 h) : n0 ≤ h.size := o.1 ▸ o.2.1
theorem own_alen (X : Stand p l e R s m args below meth c T locs cells slots) (hx : p.tables.exec = Jvm.exec) (hZ : Z.Warmed39 s.vm) (eT : T.heap = h) {a : Addr} {cl : Cell} {ty : FieldType} (A : Arr Z h a cl ty) {z : Int32} (S : cl.slots.size = z.toNatClampNeg) (N : ¬ z < 0) {g : JFrame} (hg : g.method = m) {rest : List Value} (hs : g.stack = .ref a :: rest) (hd : decode c.code g.pc = .ok (.arraylength, 1)) {t : State}
    (k : Steps p.tables e below (T.setTop { g with pc := g.pc + 1, stack := .int z :: rest }) t) : Steps p.tables e below (T.setTop g) t :=
  X.arraylength hx (by rw [eT]; exact A.1) (State.isArrayOf_alike hZ.alike A.2.1) hg hs hd _ (by rw [len_of S N]; exact k)
theorem own_fld_start {args : Array Value} {s : State} {t : Term} {a : Addr} {C n d : String} {k : Int32} (ev : t.eval args s none [] s = some (.ref a)) (h : (Jvm.Cond.eq (.field t C n d) (.int k)).value args s none s [] = some true) : Fld s s.heap a C n d (.int k) := by
  refine Fld.start ?_
  rw [← fld_at ev]
  obtain ⟨x, y, h1, h2, h3, h4⟩ := cmp_v (Or.inl h)
  have h2' : (Value.int k) = y := Option.some.inj h2
  subst h2'
  obtain ⟨z, rfl⟩ := h4
  have q := gotT (Jvm.Cond.eq_ints h1 h2) h
  rw [h1, q]
theorem own_nar8 (z : Int32) : z.toInt8.toInt32.toInt8.toInt32 = z.toInt8.toInt32 := by simp
end Own
section OwnH
variable {p : Program} {l : Launch} {e : Env} {R : Room} {s : State} {m : MethodId} {args : Array Value} {below : List Frame} {meth : Method} {c : Code} {T T' : State} {locs : List Loc} {cells slots : Nat} {f f' : JFrame} {Q : Option Value → Heap → List Loc → Prop} {ck sk : Nat} {h : Heap} {Z : State} {EL : List (String × Nat)} {a0 : Array Value} {vm0 : Vm} {k0 : Nat}
/-- as Go, where String constants may be loaded on the way -/
def GoH (p : Program) (e : Env) (below : List Frame) (s : State) (Z : State) (EL : List (String × Nat)) (Q : Option Value → Heap → List Loc → Prop) (ck sk : Nat) (T : State) (f : JFrame) : Prop :=
  ∃ s₂ o, Steps p.tables e below (T.setTop f) s₂ ∧ s₂.status = .running ∧ Ended s₂ below o ∧ ∃ v L, o = .returned v ∧ Q v s₂.heap L ∧ CHr Z EL s.vm s.heap s₂.vm s₂.heap ∧ ReturnedEndW s o s₂ L ck sk
theorem GoH.step (st : ∀ t, Steps p.tables e below (T'.setTop f') t → Steps p.tables e below (T.setTop f) t) (k : GoH p e below s Z EL Q ck sk T' f') : GoH p e below s Z EL Q ck sk T f := by
  obtain ⟨s₂, o, h1, r⟩ := k; exact ⟨s₂, o, st _ h1, r⟩
theorem GoH.via (st : Steps p.tables e below (T.setTop f) (T'.setTop f')) (k : GoH p e below s Z EL Q ck sk T' f') : GoH p e below s Z EL Q ck sk T f := by
  obtain ⟨s₂, o, h1, r⟩ := k; exact ⟨s₂, o, st.trans h1, r⟩
theorem GoH.fin (X : Stand p l e R (s.setVm vm0) m args below meth c T locs cells slots) (hZ : Z.Warmed39 vm0) (hEL : EW Z a0 EL) (hS : s.Since vm0 k0) (hk : k0 ≤ h.size) (hC : CHr Z EL s.vm s.heap vm0 h) (hlk : meth.locks = false) {v : Option Value} (hv : meth.sig.returnType = none → v = none)
    (hst : ∀ fs, (∀ (f : JFrame) (acts : List Action), f.method = m → f.locked = none → f.entered = [] → (doReturn e (T.setTop f) acts v).1 = T.setFrames fs) → Steps p.tables e below (T.setTop f) (T.setFrames fs)) (eT : T.heap = h) (hq : Q v h locs) (hck : cells ≤ ck) (hsk : slots ≤ sk) : GoH p e below s Z EL Q ck sk T f := by
  subst eT
  obtain ⟨fs, hr, hrun, hended, hE⟩ := X.leaveW hS hk hv hlk
  exact ⟨_, _, hst fs hr, hrun, hended, _, _, rfl, hq, (show CHr Z EL s.vm s.heap (T.setFrames fs).vm (T.setFrames fs).heap from (hC.trans (CHv.at X hZ hEL hC.1) : CHr Z EL s.vm s.heap T.vm T.heap)), hE.1, hE.2.1, hE.2.2.1, hE.2.2.2.mono hck hsk⟩
theorem own_wS (hw : ∀ d ∈ tables_1, d.before a0 Z = true) : ∀ a ∈ Bundle.stringAtoms, a.before a0 Z = true := fun d hd => hw d ((by decide +kernel : ∀ w ∈ Bundle.stringAtoms, w ∈ tables_1) d hd)
theorem own_fcast {a : Addr} {C n d : String} {v w : Value} (e : v = w) (F : Fld Z h a C n d v) : Fld Z h a C n d w := e ▸ F
end OwnH
def own_EL : List (String × Nat) := []
theorem own_ns_root {Z : State} {a0 : Array Value} {O K : String} {n : Nat} (w : (Jvm.Cond.noSuperclass O).before a0 Z = true) (wi : (Jvm.Cond.instantiable K n).before a0 Z = true) (hn : O ≠ K) : NS Z O K := by
  obtain ⟨c, k, h1, h2, h3, -, -⟩ := Cond.noSuperclass_spec w
  obtain ⟨t, kt, g1, -⟩ := Cond.instantiable_spec wi
  have ne := ids_ne h1 g1 hn
  refine ⟨c, t, h1, g1, fun fuel => ?_⟩
  cases fuel with
  | zero => rfl
  | succ f => simp [Vm.isSubclassAux, ne, h2, h3]
theorem own_ns_no {Z : State} {a0 : Array Value} {C S K : String} {n : Nat} (w : (Jvm.Cond.superclass C S).before a0 Z = true) (wi : (Jvm.Cond.instantiable K n).before a0 Z = true) (m : NS Z C K) (hn : C ≠ K) : ∃ c t, Z.vm.findClass C = some c ∧ Z.vm.findClass K = some t ∧ Z.vm.assignable c t = false := by
  obtain ⟨c, t, h0, g0, n3⟩ := m
  obtain ⟨p, k, kp, h1, h2, h3, h4, h5, -, h7⟩ := Cond.superclass_spec h0 w
  obtain ⟨t', kt, g1, g2, g3, g4, -⟩ := Cond.instantiable_spec wi
  cases g0.symm.trans g1
  have ne := ids_ne h0 g0 hn
  have g5 : kt.isInterface = false := by cases hq : kt.isInterface <;> simp [hq] at g4 ⊢
  refine ⟨c, t, h0, g0, ?_⟩
  show Z.vm.assignableAux (255 + 1) c t = false
  simp [Vm.assignableAux, ne, h2, g2, h5, g3, g5, Vm.isSubclass, n3]
section OwnFlt
open Jvm.FP Jvm.FP.Core
abbrev own_four : UInt64 := 4616189618054758400
theorem own_v4 : val64 own_four = .fin false (2 ^ 52) (-50) := by decide +kernel
theorem own_q4 {s : Bool} {c : Nat} {q : Int} (hd : Core.fits b64 (.fin s c q)) (hq : b64.qmin + 2 ≤ q) : quotient b64 (.fin s c q) (.fin false (2 ^ 52) (-50)) = .fin s c (q - 2) := by
  have hb : (s != false) = s := by cases s <;> rfl
  simp only [quotient, hb]
  rw [if_neg (by decide +kernel)]
  obtain ⟨h1, h2, h3, h4⟩ := hd
  refine roundRatio_exact good_b64 (by decide +kernel) ⟨h1, by omega, by omega, Or.inr (h4.resolve_left (by omega))⟩ ?_
  rw [show (q - -50 - (q - 2)).toNat = 52 by omega, show (q - 2 - (q - -50)).toNat = 0 by omega]
  simp
/-- a quarter of a whole number, in units of the least double -/
theorem own_quart {a : Int64} (h : Small53 a) (h0 : 0 ≤ a.toInt) : val64 (Core.ddiv (Core.l2d a) own_four) ≠ .nan ∧ zval b64 (val64 (Core.ddiv (Core.l2d a) own_four)) * 4 = a.toInt * (one64 : Int) := by
  by_cases hz : a = 0
  · subst hz; exact ⟨by decide +kernel, by decide +kernel⟩
  have hw := l2d_whole h
  have hf := val64_fits (Core.l2d a)
  have hv := whole_zval good_b64 hf hw
  rw [pow_qmin64] at hv
  have hpos : 0 < a.toInt := by
    rcases Int.lt_or_eq_of_le h0 with q | q
    · exact q
    · exact absurd (Int64.toInt_inj.mp (q.symm.trans (by rfl : (0 : Int) = (0 : Int64).toInt))) hz
  rw [val64_ddiv, own_v4]
  generalize val64 (Core.l2d a) = d at hw hf hv
  cases d with
  | nan => exact hw.elim
  | inf => exact hw.elim
  | fin s c q =>
    have hq : b64.qmin + 2 ≤ q := by
      have hw' : signed s (c * 2 ^ q.toNat) = a.toInt * ((2 ^ (-q).toNat : Nat) : Int) := hw
      have e : b64.qmin = -1074 := by decide +kernel
      apply Classical.byContradiction; intro hn
      have hq0 : q.toNat = 0 := by omega
      have hc : c < 2 ^ 53 := hf.1
      rw [hq0] at hw'
      have hp : 2 ^ 53 ≤ 2 ^ (-q).toNat := Nat.pow_le_pow_right (by decide) (by omega)
      have h5 : signed s (c * 2 ^ 0) ≤ (c : Int) := by cases s <;> simp [signed] <;> omega
      have h6 : ((2 ^ (-q).toNat : Nat) : Int) ≤ a.toInt * ((2 ^ (-q).toNat : Nat) : Int) := by
        have := Int.mul_le_mul_of_nonneg_right (show (1 : Int) ≤ a.toInt by omega) (show (0 : Int) ≤ ((2 ^ (-q).toNat : Nat) : Int) from Int.natCast_nonneg _)
        simpa using this
      omega
    rw [own_q4 hf hq]
    refine ⟨by simp, ?_⟩
    rw [← hv]
    show signed s (inUnits c (q - 2) b64.qmin) * 4 = signed s (inUnits c q b64.qmin)
    have e2 : inUnits c q b64.qmin = inUnits c (q - 2) b64.qmin * 4 := by
      unfold inUnits
      rw [show (q - b64.qmin).toNat = (q - 2 - b64.qmin).toNat + 2 by omega, Nat.pow_add]; simp [Nat.mul_assoc]
    rw [e2]; cases s <;> simp [signed]
    omega
theorem own_cmp4 {a b : Int64} (ha : Small53 a) (a0 : 0 ≤ a.toInt) (hb : Small53 b) (b0 : 0 ≤ b.toInt) : FP.dcmp (FP.ddiv (FP.l2d a) own_four) (FP.ddiv (FP.l2d b) own_four) = some (if a.toInt < b.toInt then .lt else if a.toInt = b.toInt then .eq else .gt) := by
  obtain ⟨na, va⟩ := own_quart ha a0
  obtain ⟨nb, vb⟩ := own_quart hb b0
  have hp : (0 : Int) < (one64 : Int) := Int.natCast_pos.mpr one64_pos
  show Core.dcmp (Core.ddiv (Core.l2d a) own_four) (Core.ddiv (Core.l2d b) own_four) = _
  rw [dcmp_zval na nb]
  generalize zval b64 (val64 (Core.ddiv (Core.l2d a) own_four)) = x at va
  generalize zval b64 (val64 (Core.ddiv (Core.l2d b) own_four)) = y at vb
  congr 1
  by_cases h1 : a.toInt < b.toInt
  · rw [if_pos h1, compare_lt_iff]
    have := Int.mul_lt_mul_of_pos_right h1 hp
    omega
  · rw [if_neg h1]
    by_cases h2 : a.toInt = b.toInt
    · rw [if_pos h2, compare_eq_iff]; rw [h2] at va; omega
    · rw [if_neg h2, compare_gt_iff]
      have := Int.mul_lt_mul_of_pos_right (show b.toInt < a.toInt by omega) hp
      omega
end OwnFlt
def own_val (j : Int32) : Value := .int (j - 128)
theorem own_cidx {i : Int32} (h0 : ¬ i < (0 : Int32)) (h1 : ¬ (127 : Int32) < i) : ¬ (i + (128 : Int32)) < 0 ∧ (i + (128 : Int32)) < (256 : Int32) := by
  have e0 : (0 : Int32).toInt = 0 := rfl
  have e1 : (127 : Int32).toInt = 127 := by decide
  have e2 : (128 : Int32).toInt = 128 := by decide
  have e3 : (256 : Int32).toInt = 256 := by decide
  have q := c_iadd i 128; have r := rng32 (i + 128)
  simp only [Int32.lt_iff_toInt_lt] at *
  omega
theorem own_nonneg (x : Int32) : ¬ (x &&& (2147483647 : Int32)) < (0 : Int32) := by
  have h := c_and x 2147483647 (by decide)
  have e0 : (0 : Int32).toInt = 0 := rfl
  rw [Int32.lt_iff_toInt_lt]; omega
theorem own_not128 {i : Int32} (h0 : ¬ i < (0 : Int32)) : ¬ i < (-128 : Int32) := by
  have e0 : (0 : Int32).toInt = 0 := rfl
  have e1 : (-128 : Int32).toInt = -128 := by decide
  simp only [Int32.lt_iff_toInt_lt] at *
  omega
theorem own_len {args : Array Value} {s : State} {t : Term} {a : Addr} {c : Cell} {z : Int32} (ev : t.eval args s none [] s = some (.ref a)) (A : s.arrayAt? a = some c) (h : (Term.length t).eval args s none [] s = some (.int z)) : c.slots.size < 2 ^ 31 ∧ c.slots.size.toInt32 = z := by
  by_cases q : c.slots.size < 2 ^ 31
  · rw [len_f ev A q] at h; exact ⟨q, by simpa using h⟩
  · simp [Term.eval, ev, A, q] at h
theorem Go.retD {p : Program} {l : Launch} {e : Env} {R : Room} {s : State} {m : MethodId} {args : Array Value} {below : List Frame} {meth : Method} {c : Code} {T : State} {locs : List Loc} {cells slots : Nat} {Q : Option Value → Heap → List Loc → Prop} {ck sk : Nat} {h : Heap} (X : Stand p l e R s m args below meth c T locs cells slots) (hx : p.tables.exec = Jvm.exec) (hlk : meth.locks = false) {pc : Nat} {Ls : Array Slot} {z : UInt64} {rest : List Value} (hret : meth.sig.returnType = some .double) (hd : decode c.code pc = .ok (.dreturn, 1)) (eT : T.heap = h) (hq : Q (some (.double z)) h locs) (hck : cells ≤ ck) (hsk : slots ≤ sk) : Go p e below s Q ck sk T (mkF m pc Ls (.double z :: rest)) := by
  subst eT
  obtain ⟨fs, hr, hrun, hended, hW, hsame⟩ := X.leave (v := some (.double z)) (fun h => by rw [hret] at h; cases h) hlk
  exact ⟨_, _, retOut X hx hret rfl (Or.inr (Or.inr (Or.inl ⟨rfl, rfl, _, rfl⟩))) hd hr, hrun, hended, _, _, rfl, hq, ⟨_, rfl⟩, hW, hsame.mono hck hsk⟩
def own_x (k j a d : Int32) : Int32 := if k = j then a ^^^ d else a
def own_p (k j a d : Int32) : Int32 := if k = j then a + d else a
def own_r8 (k : Int32) : Prop := k = 0 ∨ k = 1 ∨ k = 2 ∨ k = 3 ∨ k = 4 ∨ k = 5 ∨ k = 6 ∨ k = 7
def own_r4 (d : Int32) : Prop := d = 0 ∨ d = 1 ∨ d = 2 ∨ d = 3
def own_r16 (g : Int32) : Prop := 0 ≤ g.toInt ∧ g.toInt ≤ 65535
def own_rw (w : Int32) : Prop := 1 ≤ w.toInt ∧ w.toInt ≤ 1073741824
theorem own_and16 (x : Int32) : own_r16 (x &&& (65535 : Int32)) := c_and x 65535 (by decide)
theorem own_nn (z : Int32) : Jvm.Free.Fl.NoNaN64 (FP.ddiv (FP.i2d z) (4616189618054758400 : UInt64)) := Jvm.Free.Fl.ddiv_out (Jvm.Free.Fl.i2d_fin z).noNaN (by unfold Jvm.Free.Fl.Fin64; decide +kernel) (by unfold Jvm.Free.Fl.Nz64; decide +kernel)
theorem own_b {z : Int32} (h : ¬ z < (0 : Int32)) : FP.Core.Small53 z.toInt64 ∧ 0 ≤ z.toInt64.toInt := by
  have r := rng32 z; have e0 : (0 : Int32).toInt = 0 := rfl
  rw [Int32.lt_iff_toInt_lt] at h
  have e : z.toInt64.toInt = z.toInt := by simp
  unfold FP.Core.Small53; rw [e]; omega
theorem own_c4 {y z : Int32} (hy : ¬ y < (0 : Int32)) (hz : ¬ z < (0 : Int32)) : FP.dcmp (FP.ddiv (FP.i2d y) own_four) (FP.ddiv (FP.i2d z) own_four) = some (if y.toInt < z.toInt then .lt else if y.toInt = z.toInt then .eq else .gt) := by
  rw [i2d_w, i2d_w, own_cmp4 (own_b hy).1 (own_b hy).2 (own_b hz).1 (own_b hz).2]
  simp
theorem own_eq4 {y z : Int32} (hy : ¬ y < (0 : Int32)) (hz : ¬ z < (0 : Int32)) : (cmpValue (FP.dcmp (FP.ddiv (FP.i2d y) own_four) (FP.ddiv (FP.i2d z) own_four)) .l) = (0 : Int32) ↔ y = z := by
  rw [own_c4 hy hz]
  by_cases h1 : y.toInt < z.toInt
  · rw [if_pos h1]
    constructor
    · intro q; exact absurd q (by decide)
    · intro q; rw [q] at h1; omega
  · rw [if_neg h1]
    by_cases h2 : y.toInt = z.toInt
    · rw [if_pos h2]; exact ⟨fun _ => Int32.toInt_inj.mp h2, fun _ => by decide⟩
    · rw [if_neg h2]
      constructor
      · intro q; exact absurd q (by decide)
      · intro q; rw [q] at h2; exact absurd rfl h2
theorem own_gz {z : Int32} (h : ¬ z < (0 : Int32)) : ¬ ((cmpValue (FP.dcmp (FP.ddiv (FP.i2d z) (4616189618054758400 : UInt64)) (0 : UInt64)) .l) < (0 : Int32)) := by
  have q := own_c4 h (z := 0) (by decide)
  rw [show FP.ddiv (FP.i2d 0) own_four = 0 from by decide +kernel] at q
  rw [q]
  have e0 : (0 : Int32).toInt = 0 := rfl
  rw [Int32.lt_iff_toInt_lt] at h
  rw [if_neg (by omega)]
  split <;> decide
theorem own_self (z : Int32) : (cmpValue (FP.dcmp (FP.ddiv (FP.i2d z) (4616189618054758400 : UInt64)) (FP.ddiv (FP.i2d z) (4616189618054758400 : UInt64))) .l) = (0 : Int32) := dcmpV_self (own_nn z) .l
theorem own_g0 {g : Int32} (h : own_r16 g) : ¬ g < (0 : Int32) := by
  have e0 : (0 : Int32).toInt = 0 := rfl
  rw [Int32.lt_iff_toInt_lt]; have := h.1; omega
theorem own_w1 {w : Int32} (h : own_rw w) : ¬ w < (1 : Int32) := by
  have e0 : (1 : Int32).toInt = 1 := by decide
  rw [Int32.lt_iff_toInt_lt]; have := h.1; omega
theorem own_d {d : Int32} (h : own_r4 d) : 0 ≤ d.toInt ∧ d.toInt ≤ 3 := by rcases h with rfl | rfl | rfl | rfl <;> decide
theorem own_p0 {k j g d : Int32} (h : own_r16 g) (hd : own_r4 d) : ¬ own_p k j g d < (0 : Int32) := by
  unfold own_p; split
  · have q := c_iadd g d; have r := rng32 (g + d); have e0 : (0 : Int32).toInt = 0 := rfl; have := own_d hd; have := h.1; have := h.2
    rw [Int32.lt_iff_toInt_lt]; omega
  · exact own_g0 h
theorem own_pw {k j w d : Int32} (h : own_rw w) (hd : own_r4 d) : ¬ own_p k j w d < (1 : Int32) := by
  unfold own_p; split
  · have q := c_iadd w d; have r := rng32 (w + d); have e0 : (1 : Int32).toInt = 1 := by decide
    have := own_d hd; have := h.1; have := h.2
    rw [Int32.lt_iff_toInt_lt]; omega
  · exact own_w1 h
theorem own_xor0 {a d : Int32} : a = a ^^^ d ↔ d = 0 := by
  constructor
  · intro h
    have q : a ^^^ a = a ^^^ (a ^^^ d) := by rw [← h]
    rw [← Int32.xor_assoc, Int32.xor_self, Int32.zero_xor] at q
    exact q.symm
  · rintro rfl; simp
theorem own_msb {a : Int32} (h : ¬ a < (0 : Int32)) : a.toBitVec.msb = false := by
  rw [Int32.lt_iff_toInt_lt] at h
  have e0 : (0 : Int32).toInt = 0 := rfl
  cases hm : a.toBitVec.msb with
  | false => rfl
  | true =>
    have : a.toBitVec.toInt < 0 := BitVec.toInt_neg_of_msb_true hm
    exact absurd (show a.toInt < (0 : Int32).toInt by rw [e0]; exact this) h
theorem own_x0 {k j a d : Int32} (h : ¬ a < (0 : Int32)) (hd : own_r4 d) : ¬ own_x k j a d < (0 : Int32) := by
  unfold own_x; split
  · have h1 := own_msb h
    have h2 : d.toBitVec.msb = false := own_msb (by rcases hd with rfl | rfl | rfl | rfl <;> decide)
    rw [Int32.lt_iff_toInt_lt]
    have e0 : (0 : Int32).toInt = 0 := rfl
    have : (a ^^^ d).toBitVec.msb = false := by rw [Int32.toBitVec_xor, BitVec.msb_xor, h1, h2]; rfl
    have : 0 ≤ (a ^^^ d).toBitVec.toInt := BitVec.toInt_nonneg_of_msb_false this
    have : 0 ≤ (a ^^^ d).toInt := this
    omega
  · exact h
theorem own_andw (x : Int32) : own_rw ((x &&& (1073741823 : Int32)) + (1 : Int32)) := by
  have h := c_and x 1073741823 (by decide); have q := c_iadd (x &&& 1073741823) 1; have r := rng32 ((x &&& 1073741823) + 1)
  have e1 : (1 : Int32).toInt = 1 := by decide
  have e2 : (1073741823 : Int32).toInt = 1073741823 := by decide
  unfold own_rw; omega
theorem own_max {z : Int32} (h : ¬ z < (0 : Int32)) : FP.dcmp (FP.ddiv (FP.i2d z) own_four) (9218868437227405311 : UInt64) = some .lt := by
  obtain ⟨n1, v1⟩ := own_quart (own_b h).1 (own_b h).2
  rw [i2d_w]
  show FP.Core.dcmp (FP.Core.ddiv (FP.Core.l2d z.toInt64) own_four) (9218868437227405311 : UInt64) = _
  rw [FP.Core.dcmp_zval n1 (by decide +kernel)]
  have hp : (0 : Int) < (FP.Core.one64 : Int) := Int.natCast_pos.mpr FP.Core.one64_pos
  have hm : (2147483648 : Int) * (FP.Core.one64 : Int) < FP.Core.zval FP.Core.b64 (FP.Core.val64 9218868437227405311) * 4 := by decide +kernel
  have e : z.toInt64.toInt = z.toInt := by simp
  have r := rng32 z
  have q := Int.mul_lt_mul_of_pos_right (show z.toInt64.toInt < 2147483648 by rw [e]; omega) hp
  congr 1
  rw [FP.Core.compare_lt_iff]
  omega
theorem own_gi {z : Int32} (h : ¬ z < (0 : Int32)) : ¬ ((0 : Int32) < (cmpValue (FP.dcmp ((FP.ddiv (FP.i2d z) (4616189618054758400 : UInt64)) &&& 9223372036854775807) (9218868437227405311 : UInt64)) .l)) := by
  have q := own_c4 h (z := 0) (by decide)
  rw [show FP.ddiv (FP.i2d 0) own_four = 0 from by decide +kernel] at q
  have e0 : (0 : Int32).toInt = 0 := rfl
  have h' := h
  rw [Int32.lt_iff_toInt_lt] at h'
  rw [if_neg (by omega)] at q
  by_cases hz : z.toInt = (0 : Int32).toInt
  · rw [if_pos hz] at q
    rw [show (FP.ddiv (FP.i2d z) (4616189618054758400 : UInt64)) &&& 9223372036854775807 = 0 from FP.Core.abs_zero q]
    decide +kernel
  · rw [if_neg hz] at q
    rw [show (FP.ddiv (FP.i2d z) (4616189618054758400 : UInt64)) &&& 9223372036854775807 = FP.ddiv (FP.i2d z) (4616189618054758400 : UInt64) from FP.Core.abs_pos q, show FP.dcmp (FP.ddiv (FP.i2d z) (4616189618054758400 : UInt64)) (9218868437227405311 : UInt64) = some .lt from own_max h]
    decide
theorem own_xI {k j a d : Int32} : a = own_x k j a d ↔ (k = j → d = 0) := by
  unfold own_x; split
  · rename_i h; rw [own_xor0]; exact ⟨fun q _ => q, fun q => q h⟩
  · rename_i h; exact ⟨fun _ q => absurd q h, fun _ => rfl⟩
theorem own_pI {k j a d : Int32} (hd : own_r4 d) : a = own_p k j a d ↔ (k = j → d = 0) := by
  unfold own_p; split
  · rename_i h
    constructor
    · intro q _
      have q1 := c_iadd a d; have r := rng32 (a + d); have r2 := rng32 a; have := own_d hd
      rw [← q] at q1
      apply Int32.toInt_inj.mp
      have e0 : (0 : Int32).toInt = 0 := rfl
      omega
    · intro q; rw [q h]; simp
  · rename_i h; exact ⟨fun _ q => absurd q h, fun _ => rfl⟩
theorem own_and8 (x : Int32) : (x &&& (7 : Int32)) = (0 : Int32) ∨ (x &&& (7 : Int32)) = (1 : Int32) ∨ (x &&& (7 : Int32)) = (2 : Int32) ∨ (x &&& (7 : Int32)) = (3 : Int32) ∨ (x &&& (7 : Int32)) = (4 : Int32) ∨ (x &&& (7 : Int32)) = (5 : Int32) ∨ (x &&& (7 : Int32)) = (6 : Int32) ∨ (x &&& (7 : Int32)) = (7 : Int32) := by
  have h1 := c_and x (7 : Int32) (by decide)
  have e0 : (0 : Int32).toInt = 0 := by decide
  have e1 : (1 : Int32).toInt = 1 := by decide
  have e2 : (2 : Int32).toInt = 2 := by decide
  have e3 : (3 : Int32).toInt = 3 := by decide
  have e4 : (4 : Int32).toInt = 4 := by decide
  have e5 : (5 : Int32).toInt = 5 := by decide
  have e6 : (6 : Int32).toInt = 6 := by decide
  have e7 : (7 : Int32).toInt = 7 := by decide
  simp only [← Int32.toInt_inj]
  omega
theorem own_and4 (x : Int32) : (x &&& (3 : Int32)) = (0 : Int32) ∨ (x &&& (3 : Int32)) = (1 : Int32) ∨ (x &&& (3 : Int32)) = (2 : Int32) ∨ (x &&& (3 : Int32)) = (3 : Int32) := by
  have h1 := c_and x (3 : Int32) (by decide)
  have e0 : (0 : Int32).toInt = 0 := by decide
  have e1 : (1 : Int32).toInt = 1 := by decide
  have e2 : (2 : Int32).toInt = 2 := by decide
  have e3 : (3 : Int32).toInt = 3 := by decide
  simp only [← Int32.toInt_inj]
  omega
theorem own_fin {zk zd za zb zc zg zh zw zv : Int32} (hK : own_r8 zk) (hD : own_r4 zd) (hG : own_r16 zg) (hH : own_r16 zh) : (if za = own_x zk (0 : Int32) za zd ∧ zb = own_x zk (1 : Int32) zb zd ∧ zc = own_x zk (2 : Int32) zc zd ∧ (cmpValue (FP.dcmp (FP.ddiv (FP.i2d zg) (4616189618054758400 : UInt64)) (FP.ddiv (FP.i2d (own_p zk (3 : Int32) zg zd)) (4616189618054758400 : UInt64))) .l) = (0 : Int32) ∧ (cmpValue (FP.dcmp (FP.ddiv (FP.i2d zh) (4616189618054758400 : UInt64)) (FP.ddiv (FP.i2d (own_p zk (4 : Int32) zh zd)) (4616189618054758400 : UInt64))) .l) = (0 : Int32) ∧ zw = own_p zk (5 : Int32) zw zd ∧ zv = own_x zk (6 : Int32) zv zd then (1 : Int32) else 0) = (if zk = (7 : Int32) ∨ zd = (0 : Int32) then (1 : Int32) else 0) := by
  have q : ∀ {A B : Prop} [Decidable A] [Decidable B], (A ↔ B) → (if A then (1 : Int32) else 0) = (if B then (1 : Int32) else 0) := by
    intro A B _ _ h
    by_cases b : B
    · rw [if_pos b, if_pos (h.mpr b)]
    · rw [if_neg b, if_neg (fun a => b (h.mp a))]
  apply q
  constructor
  · rintro ⟨h0, h1, h2, h3, h4, h5, h6⟩
    have h3' := (own_eq4 (own_g0 hG) (own_p0 hG hD)).mp h3
    have h4' := (own_eq4 (own_g0 hH) (own_p0 hH hD)).mp h4
    rcases hK with k | k | k | k | k | k | k | k
    · exact Or.inr (own_xI.mp h0 k)
    · exact Or.inr (own_xI.mp h1 k)
    · exact Or.inr (own_xI.mp h2 k)
    · exact Or.inr ((own_pI hD).mp h3' k)
    · exact Or.inr ((own_pI hD).mp h4' k)
    · exact Or.inr ((own_pI hD).mp h5 k)
    · exact Or.inr (own_xI.mp h6 k)
    · exact Or.inl k
  · intro h
    have f : ∀ {j : Int32}, j ≠ 7 → zk = j → zd = 0 := by
      intro j hj e
      rcases h with h | h
      · exact absurd (e.symm.trans h) hj
      · exact h
    exact ⟨own_xI.mpr (f (by decide)), own_xI.mpr (f (by decide)), own_xI.mpr (f (by decide)), (own_eq4 (own_g0 hG) (own_p0 hG hD)).mpr ((own_pI hD).mpr (f (by decide))), (own_eq4 (own_g0 hH) (own_p0 hH hD)).mpr ((own_pI hD).mpr (f (by decide))), (own_pI hD).mpr (f (by decide)), own_xI.mpr (f (by decide))⟩
theorem own_fin' {zk zd za zb zc zg zh zw zv : Int32} (hK : own_r8 zk) (hD : own_r4 zd) (hG : own_r16 zg) (hH : own_r16 zh) : (if own_x zk (0 : Int32) za zd = za ∧ own_x zk (1 : Int32) zb zd = zb ∧ own_x zk (2 : Int32) zc zd = zc ∧ (cmpValue (FP.dcmp (FP.ddiv (FP.i2d (own_p zk (3 : Int32) zg zd)) (4616189618054758400 : UInt64)) (FP.ddiv (FP.i2d zg) (4616189618054758400 : UInt64))) .l) = (0 : Int32) ∧ (cmpValue (FP.dcmp (FP.ddiv (FP.i2d (own_p zk (4 : Int32) zh zd)) (4616189618054758400 : UInt64)) (FP.ddiv (FP.i2d zh) (4616189618054758400 : UInt64))) .l) = (0 : Int32) ∧ own_p zk (5 : Int32) zw zd = zw ∧ own_x zk (6 : Int32) zv zd = zv then (1 : Int32) else 0) = (if zk = (7 : Int32) ∨ zd = (0 : Int32) then (1 : Int32) else 0) := by
  rw [← own_fin (za := za) (zb := zb) (zc := zc) (zw := zw) (zv := zv) hK hD hG hH]
  have q : ∀ {A B : Prop} [Decidable A] [Decidable B], (A ↔ B) → (if A then (1 : Int32) else 0) = (if B then (1 : Int32) else 0) := by
    intro A B _ _ h
    by_cases b : B
    · rw [if_pos b, if_pos (h.mpr b)]
    · rw [if_neg b, if_neg (fun a => b (h.mp a))]
  apply q
  constructor
  · rintro ⟨h0, h1, h2, h3, h4, h5, h6⟩
    exact ⟨h0.symm, h1.symm, h2.symm, (own_eq4 (own_g0 hG) (own_p0 hG hD)).mpr ((own_eq4 (own_p0 hG hD) (own_g0 hG)).mp h3).symm, (own_eq4 (own_g0 hH) (own_p0 hH hD)).mpr ((own_eq4 (own_p0 hH hD) (own_g0 hH)).mp h4).symm, h5.symm, h6.symm⟩
  · rintro ⟨h0, h1, h2, h3, h4, h5, h6⟩
    exact ⟨h0.symm, h1.symm, h2.symm, (own_eq4 (own_p0 hG hD) (own_g0 hG)).mpr ((own_eq4 (own_g0 hG) (own_p0 hG hD)).mp h3).symm, (own_eq4 (own_p0 hH hD) (own_g0 hH)).mpr ((own_eq4 (own_g0 hH) (own_p0 hH hD)).mp h4).symm, h5.symm, h6.symm⟩
theorem d5_0 : decode jdk_117_method_7_code 0 = .ok (.dload_n 0, 1) := by decide +kernel
theorem d5_1 : decode jdk_117_method_7_code 1 = .ok (.invokestatic 38, 3) := by decide +kernel
theorem d5_4 : decode jdk_117_method_7_code 4 = .ok (.ldc2_w 111, 3) := by decide +kernel
theorem d5_7 : decode jdk_117_method_7_code 7 = .ok (.dcmp .l, 1) := by decide +kernel
theorem d5_8 : decode jdk_117_method_7_code 8 = .ok (.ifCond .le 7, 3) := by decide +kernel
theorem d5_15 : decode jdk_117_method_7_code 15 = .ok (.iconst 0, 1) := by decide +kernel
theorem d5_16 : decode jdk_117_method_7_code 16 = .ok (.ireturn, 1) := by decide +kernel
theorem pn_java_lang_Double : plainName "java/lang/Double" = true := by first | (simp [plainName, overriddenIn]; done) | decide +kernel
theorem pd0 : parseMethodDescriptor "(D)D" = some ⟨[.double], some .double⟩ := by decide +kernel
theorem ef_inf (m : MethodId) (da : UInt64) : entryFrame m #[(.double da)] 2 = mkF m 0 #[.val (.double da), .second] [] := by first | (simp [entryFrame, mkF, argsToLocals, Value.category]; done) | rfl
def Q_inf (Z : State) (da : UInt64) (h0 : Heap) (n0 : Nat) (v : Option Value) (h : Heap) (L : List Loc) : Prop := v = some (.int (0 : Int32)) ∧ Fr n0 L ∧ h = h0
set_option maxRecDepth 65536 in
set_option maxHeartbeats 40000000 in
theorem rm_inf (l : Launch) (Z : State) (a0 : Array Value) (hw : ∀ d ∈ tables_1, d.before a0 Z = true) (ws : List Jvm.Cond) (da : UInt64) (h0 : Heap) (n0 : Nat) (O0 : Old Z n0 h0) (hn : Jvm.Free.Fl.NoNaN64 da) (hi : ¬ ((0 : Int32) < (cmpValue (FP.dcmp (da &&& 9223372036854775807) (9218868437227405311 : UInt64)) .l))) :
    MetFree l (⟨"java/lang/Double", "isInfinite", "(D)Z"⟩ : MethodName) (head1 (Jvm.Cond.code (⟨"java/lang/Double", "isInfinite", "(D)Z"⟩ : MethodName) jdk_117_method_7_code 2 (some .boolean) :: ws) ({ frames := 1, cells := 0, slots := 0, locals := 13 } : Room)) (fun a U => a = #[(.double da)] ∧ Z.Warmed39 U.vm ∧ U.heap = h0) (fun _ _ _ _ _ => True) (fun _ U o U' => ∃ v L, o = .returned v ∧ Q_inf Z da h0 n0 v U'.heap L ∧ FrameEnd U o U' L ({ frames := 1, cells := 0, slots := 0, locals := 13 } : Room).cells ({ frames := 1, cells := 0, slots := 0, locals := 13 } : Room).slots) := by
  refine MetFree.of_bodySF (plainFor_of_name pn_java_lang_Double) hisR ?_
  intro p e s m args below meth c s₁ Bd hml0 hP hK
  obtain ⟨rfl, hZ, hh⟩ := hP
  have hx := Bd.exec
  have hby := Bd.bytes
  have hml : c.maxLocals = 2 := hml0
  have hown : s.vm.findClass "java/lang/Double" = some m.cls := findClass_of_methodNamed Bd.named
  have hnm := (name_of_methodNamed Bd.named Bd.method).1
  have hlk : meth.locks = false := BodyLoose.notSynchronized Bd
  have X0 : Stand p l e ({ frames := 1, cells := 0, slots := 0, locals := 13 } : Room) s m #[(.double da)] below meth c s₁ [] 0 0 := Stand.of_body Bd
  have e0 : s₁.heap = h0 := by rw [← hh, Bd.state]; rfl
  have N0 := Fr.nil n0
  rw [ef_inf m da]
  show Go p e below s (fun v h L => Q_inf Z da h0 n0 v h L) ({ frames := 1, cells := 0, slots := 0, locals := 13 } : Room).cells ({ frames := 1, cells := 0, slots := 0, locals := 13 } : Room).slots s₁ (mkF m 0 #[.val (.double da), .second] [])
  refine Go.step (T' := s₁) (f' := (mkF m 1 #[.val (.double da), .second] [(.double da)])) (fun t k => Jvm.Free.XS.dloadN X0.here hx rfl (hb hby d5_0) rfl k) ?_
  obtain ⟨T1, X1, e1, st1⟩ := natS X0 hx hZ hown (y := Jvm.Free.Fl.Abs.absDN) (hw _ (List.mem_of_getElem? (i := 40) rfl)) (hw _ (List.mem_of_getElem? (i := 41) rfl)) (hw _ (List.mem_of_getElem? (i := 42) rfl)) (by0 := Jvm.Free.Fl.Abs.absDCode) (ml := 2) (rt := some .double) (hw _ (List.mem_of_getElem? (i := 43) rfl)) (by decide) e0 (F := fun a' => a' = #[.double da] ∧ Jvm.Free.Fl.NoNaN64 da) (fun hc => Jvm.Free.Fl.Abs.absD_pays (W := 0) da hc (by decide) (by decide)) (g := (mkF m 1 #[.val (.double da), .second] [(.double da)])) rfl (by rw [hml]; rfl) (argsL := [.double da]) (rest := []) (lenOf pd0 rfl) rfl (by show 2 * 0 + _ ≤ _; exact Nat.le_of_eq rfl) (hb hby d5_1) (by decide) (by decide) ⟨rfl, hn⟩ rfl
  refine Go.step (T' := T1) (f' := (mkF m 4 #[.val (.double da), .second] [(.double (da &&& 9223372036854775807))])) st1 ?_
  clear st1 X0
  refine Go.step (T' := T1) (f' := (mkF m 7 #[.val (.double da), .second] [(.double (9218868437227405311 : UInt64)), (.double (da &&& 9223372036854775807))])) (fun t k => X1.ldc2DoubleC hx hown (mvT hZ (hw _ (List.mem_of_getElem? (i := 44) rfl))) (g := (mkF m 4 #[.val (.double da), .second] [(.double (da &&& 9223372036854775807))])) rfl (hb hby d5_4) t k) ?_
  refine Go.step (T' := T1) (f' := (mkF m 8 #[.val (.double da), .second] [(.int (cmpValue (FP.dcmp (da &&& 9223372036854775807) (9218868437227405311 : UInt64)) .l))])) (fun t k => Jvm.Free.XS.dcmpS X1.here hx rfl (hb hby d5_7) rfl rfl k) ?_
  refine Go.step (T' := T1) (f' := (mkF m 15 #[.val (.double da), .second] [])) (fun t k => XS.ifYes X1.here hx rfl (pc0 := 8) (pc' := 15) rfl (hb hby d5_8) rfl ((if0 _ _).trans (flt hi).2.2.2) (by decide) (by decide) k) ?_
  refine Go.step (T' := T1) (f' := (mkF m 16 #[.val (.double da), .second] [(.int (0 : Int32))])) (fun t k => XS.iconst X1.here hx rfl (hb hby d5_15) k) ?_
  refine Go.retZ X1 hx hlk (t := .boolean) Bd.returns (by simp) (hb hby d5_16) e1 ?_ (by decide) (by decide)
  exact ⟨rfl, N0, rfl⟩
theorem d4_0 : decode prog_21_method_12_code 0 = .ok (.dload_n 0, 1) := by decide +kernel
theorem d4_1 : decode prog_21_method_12_code 1 = .ok (.dconst 0, 1) := by decide +kernel
theorem d4_2 : decode prog_21_method_12_code 2 = .ok (.dcmp .l, 1) := by decide +kernel
theorem d4_3 : decode prog_21_method_12_code 3 = .ok (.ifCond .lt 10, 3) := by decide +kernel
theorem d4_6 : decode prog_21_method_12_code 6 = .ok (.dload_n 0, 1) := by decide +kernel
theorem d4_7 : decode prog_21_method_12_code 7 = .ok (.invokestatic 80, 3) := by decide +kernel
theorem d4_10 : decode prog_21_method_12_code 10 = .ok (.ifCond .eq 18, 3) := by decide +kernel
theorem d4_28 : decode prog_21_method_12_code 28 = .ok (.dload_n 0, 1) := by decide +kernel
theorem d4_29 : decode prog_21_method_12_code 29 = .ok (.dreturn, 1) := by decide +kernel
theorem pn_com_example_honest_search_honestsearch_index_PhraseSettings : plainName "com/example/honest_search/honestsearch/index/PhraseSettings" = true := by first | (simp [plainName, overriddenIn]; done) | decide +kernel
theorem pd1 : parseMethodDescriptor "(D)Z" = some ⟨[.double], some .boolean⟩ := by decide +kernel
theorem ef_gain (m : MethodId) (da : UInt64) (bs : Addr) : entryFrame m #[(.double da), (.ref bs)] 3 = mkF m 0 #[.val (.double da), .second, .val (.ref bs)] [] := by first | (simp [entryFrame, mkF, argsToLocals, Value.category]; done) | rfl
def Q_gain (Z : State) (da : UInt64) (bs : Addr) (h0 : Heap) (n0 : Nat) (v : Option Value) (h : Heap) (L : List Loc) : Prop := v = some (.double da) ∧ Fr n0 L ∧ h = h0
set_option maxRecDepth 65536 in
set_option maxHeartbeats 40000000 in
theorem rm_gain (l : Launch) (Z : State) (a0 : Array Value) (hw : ∀ d ∈ tables_1, d.before a0 Z = true) (ws : List Jvm.Cond) (da : UInt64) (bs : Addr) (h0 : Heap) (n0 : Nat) (O0 : Old Z n0 h0) (hn : Jvm.Free.Fl.NoNaN64 da) (hz : ¬ ((cmpValue (FP.dcmp da (0 : UInt64)) .l) < (0 : Int32))) (hi : ¬ ((0 : Int32) < (cmpValue (FP.dcmp (da &&& 9223372036854775807) (9218868437227405311 : UInt64)) .l))) :
    MetFree l (⟨"com/example/honest_search/honestsearch/index/PhraseSettings", "gain", "(DLjava/lang/String;)D"⟩ : MethodName) (head1 (Jvm.Cond.code (⟨"com/example/honest_search/honestsearch/index/PhraseSettings", "gain", "(DLjava/lang/String;)D"⟩ : MethodName) prog_21_method_12_code 3 (some .double) :: ws) ({ frames := 2, cells := 0, slots := 0, locals := 26 } : Room)) (fun a U => a = #[(.double da), (.ref bs)] ∧ Z.Warmed39 U.vm ∧ U.heap = h0) (fun _ _ _ _ _ => True) (fun _ U o U' => ∃ v L, o = .returned v ∧ Q_gain Z da bs h0 n0 v U'.heap L ∧ FrameEnd U o U' L ({ frames := 2, cells := 0, slots := 0, locals := 26 } : Room).cells ({ frames := 2, cells := 0, slots := 0, locals := 26 } : Room).slots) := by
  refine MetFree.of_bodySF (plainFor_of_name pn_com_example_honest_search_honestsearch_index_PhraseSettings) hisR ?_
  intro p e s m args below meth c s₁ Bd hml0 hP hK
  obtain ⟨rfl, hZ, hh⟩ := hP
  have hx := Bd.exec
  have hby := Bd.bytes
  have hml : c.maxLocals = 3 := hml0
  have hown : s.vm.findClass "com/example/honest_search/honestsearch/index/PhraseSettings" = some m.cls := findClass_of_methodNamed Bd.named
  have hnm := (name_of_methodNamed Bd.named Bd.method).1
  have hlk : meth.locks = false := BodyLoose.notSynchronized Bd
  have X0 : Stand p l e ({ frames := 2, cells := 0, slots := 0, locals := 26 } : Room) s m #[(.double da), (.ref bs)] below meth c s₁ [] 0 0 := Stand.of_body Bd
  have e0 : s₁.heap = h0 := by rw [← hh, Bd.state]; rfl
  have N0 := Fr.nil n0
  rw [ef_gain m da bs]
  show Go p e below s (fun v h L => Q_gain Z da bs h0 n0 v h L) ({ frames := 2, cells := 0, slots := 0, locals := 26 } : Room).cells ({ frames := 2, cells := 0, slots := 0, locals := 26 } : Room).slots s₁ (mkF m 0 #[.val (.double da), .second, .val (.ref bs)] [])
  refine Go.step (T' := s₁) (f' := (mkF m 1 #[.val (.double da), .second, .val (.ref bs)] [(.double da)])) (fun t k => Jvm.Free.XS.dloadN X0.here hx rfl (hb hby d4_0) rfl k) ?_
  refine Go.step (T' := s₁) (f' := (mkF m 2 #[.val (.double da), .second, .val (.ref bs)] [(.double (0 : UInt64)), (.double da)])) (fun t k => Jvm.Free.XS.dconst0 X0.here hx rfl (hb hby d4_1) (v := 0) rfl k) ?_
  refine Go.step (T' := s₁) (f' := (mkF m 3 #[.val (.double da), .second, .val (.ref bs)] [(.int (cmpValue (FP.dcmp da (0 : UInt64)) .l))])) (fun t k => Jvm.Free.XS.dcmpS X0.here hx rfl (hb hby d4_2) rfl rfl k) ?_
  refine Go.step (T' := s₁) (f' := (mkF m 6 #[.val (.double da), .second, .val (.ref bs)] [])) (fun t k => XS.ifNo X0.here hx rfl (hb hby d4_3) rfl ((if0 _ _).trans (flt hz).1) k) ?_
  refine Go.step (T' := s₁) (f' := (mkF m 7 #[.val (.double da), .second, .val (.ref bs)] [(.double da)])) (fun t k => Jvm.Free.XS.dloadN X0.here hx rfl (hb hby d4_6) rfl k) ?_
  obtain ⟨_, _, ⟨T2, L2, k2, n2⟩, -, X2, ⟨Lc2, hQ2, l2, y2, z2⟩, st2⟩ := Jvm.LawKit.callS X0 hx (y := (⟨"java/lang/Double", "isInfinite", "(D)Z"⟩ : MethodName)) hown (mvT hZ (hw _ (List.mem_of_getElem? (i := 36) rfl))) (mvT hZ (hw _ (List.mem_of_getElem? (i := 37) rfl))) (mvT hZ (hw _ (List.mem_of_getElem? (i := 38) rfl))) (mvT hZ (hw _ (List.mem_of_getElem? (i := 39) rfl))) (by decide) (backOf (W := 0) (rm_inf l Z a0 hw [] da h0 n0 O0 hn hi) hZ (hw _ (List.mem_of_getElem? (i := 39) rfl)) (hw _ (List.mem_of_getElem? (i := 38) rfl)) (by decide) (by decide)) (g := (mkF m 7 #[.val (.double da), .second, .val (.ref bs)] [(.double da)])) rfl (by rw [hml]; rfl) (argsL := [(.double da)]) (rest := []) (lenOf pd1 rfl) rfl (by show 2 * 0 + _ ≤ _; exact Nat.le_of_eq rfl) (hb hby d4_7) (fun _ _ => ⟨rfl, e0, (by decide : 0 + 0 ≤ _), (by decide : 0 + 0 ≤ _)⟩)
  dsimp only [Pt.U, Pt.locs, Pt.cells, Pt.slots] at X2 l2 y2 z2 st2 hQ2
  subst l2 y2 z2
  obtain ⟨rfl, Nq2, hh2⟩ := hQ2
  have N3 := Fr.app N0 Nq2
  refine Go.step (T' := T2) (f' := (mkF m 10 #[.val (.double da), .second, .val (.ref bs)] [(.int (0 : Int32))])) st2 ?_
  clear st2 X0 Nq2
  refine Go.step (T' := T2) (f' := (mkF m 28 #[.val (.double da), .second, .val (.ref bs)] [])) (fun t k => XS.ifYes X2.here hx rfl (pc0 := 10) (pc' := 28) rfl (hb hby d4_10) rfl ((if0 _ _).trans (teq (by decide : (0 : Int32) = (0 : Int32))).1) (by decide) (by decide) k) ?_
  refine Go.step (T' := T2) (f' := (mkF m 29 #[.val (.double da), .second, .val (.ref bs)] [(.double da)])) (fun t k => Jvm.Free.XS.dloadN X2.here hx rfl (hb hby d4_28) rfl k) ?_
  refine Go.retD X2 hx hlk Bd.returns (hb hby d4_29) hh2 ?_ (by decide) (by decide)
  exact ⟨rfl, N3, rfl⟩
theorem d3_0 : decode prog_21_method_11_code 0 = .ok (.iload_n 1, 1) := by decide +kernel
theorem d3_1 : decode prog_21_method_11_code 1 = .ok (.iload_n 0, 1) := by decide +kernel
theorem d3_2 : decode prog_21_method_11_code 2 = .ok (.if_icmp .ge 19, 3) := by decide +kernel
theorem d3_21 : decode prog_21_method_11_code 21 = .ok (.iload_n 1, 1) := by decide +kernel
theorem d3_22 : decode prog_21_method_11_code 22 = .ok (.ireturn, 1) := by decide +kernel
theorem ef_atl (m : MethodId) (ia : Int32) (ib : Int32) (bs : Addr) : entryFrame m #[(.int ia), (.int ib), (.ref bs)] 3 = mkF m 0 #[.val (.int ia), .val (.int ib), .val (.ref bs)] [] := by first | (simp [entryFrame, mkF, argsToLocals, Value.category]; done) | rfl
def Q_atl (Z : State) (ia : Int32) (ib : Int32) (bs : Addr) (h0 : Heap) (n0 : Nat) (v : Option Value) (h : Heap) (L : List Loc) : Prop := v = some (.int ib) ∧ Fr n0 L ∧ h = h0
set_option maxRecDepth 65536 in
set_option maxHeartbeats 40000000 in
theorem rm_atl (l : Launch) (Z : State) (a0 : Array Value) (hw : ∀ d ∈ tables_1, d.before a0 Z = true) (ws : List Jvm.Cond) (ia : Int32) (ib : Int32) (bs : Addr) (h0 : Heap) (n0 : Nat) (O0 : Old Z n0 h0) (hab : ¬ (ib < ia)) :
    MetFree l (⟨"com/example/honest_search/honestsearch/index/PhraseSettings", "atLeast", "(IILjava/lang/String;)I"⟩ : MethodName) (head1 (Jvm.Cond.code (⟨"com/example/honest_search/honestsearch/index/PhraseSettings", "atLeast", "(IILjava/lang/String;)I"⟩ : MethodName) prog_21_method_11_code 3 (some .int) :: ws) ({ frames := 0, cells := 0, slots := 0, locals := 0 } : Room)) (fun a U => a = #[(.int ia), (.int ib), (.ref bs)] ∧ Z.Warmed39 U.vm ∧ U.heap = h0) (fun _ _ _ _ _ => True) (fun _ U o U' => ∃ v L, o = .returned v ∧ Q_atl Z ia ib bs h0 n0 v U'.heap L ∧ FrameEnd U o U' L ({ frames := 0, cells := 0, slots := 0, locals := 0 } : Room).cells ({ frames := 0, cells := 0, slots := 0, locals := 0 } : Room).slots) := by
  refine MetFree.of_bodySF (plainFor_of_name pn_com_example_honest_search_honestsearch_index_PhraseSettings) hisR ?_
  intro p e s m args below meth c s₁ Bd hml0 hP hK
  obtain ⟨rfl, hZ, hh⟩ := hP
  have hx := Bd.exec
  have hby := Bd.bytes
  have hml : c.maxLocals = 3 := hml0
  have hown : s.vm.findClass "com/example/honest_search/honestsearch/index/PhraseSettings" = some m.cls := findClass_of_methodNamed Bd.named
  have hnm := (name_of_methodNamed Bd.named Bd.method).1
  have hlk : meth.locks = false := BodyLoose.notSynchronized Bd
  have X0 : Stand p l e ({ frames := 0, cells := 0, slots := 0, locals := 0 } : Room) s m #[(.int ia), (.int ib), (.ref bs)] below meth c s₁ [] 0 0 := Stand.of_body Bd
  have e0 : s₁.heap = h0 := by rw [← hh, Bd.state]; rfl
  have N0 := Fr.nil n0
  rw [ef_atl m ia ib bs]
  show Go p e below s (fun v h L => Q_atl Z ia ib bs h0 n0 v h L) ({ frames := 0, cells := 0, slots := 0, locals := 0 } : Room).cells ({ frames := 0, cells := 0, slots := 0, locals := 0 } : Room).slots s₁ (mkF m 0 #[.val (.int ia), .val (.int ib), .val (.ref bs)] [])
  refine Go.step (T' := s₁) (f' := (mkF m 1 #[.val (.int ia), .val (.int ib), .val (.ref bs)] [(.int ib)])) (fun t k => XS.iloadN X0.here hx rfl (hb hby d3_0) rfl k) ?_
  refine Go.step (T' := s₁) (f' := (mkF m 2 #[.val (.int ia), .val (.int ib), .val (.ref bs)] [(.int ia), (.int ib)])) (fun t k => XS.iloadN X0.here hx rfl (hb hby d3_1) rfl k) ?_
  refine Go.step (T' := s₁) (f' := (mkF m 21 #[.val (.int ia), .val (.int ib), .val (.ref bs)] [])) (fun t k => XS.icmpYes X0.here hx rfl (pc0 := 2) (pc' := 21) rfl (hb hby d3_2) rfl (flt hab).2.1 (by decide) (by decide) k) ?_
  refine Go.step (T' := s₁) (f' := (mkF m 22 #[.val (.int ia), .val (.int ib), .val (.ref bs)] [(.int ib)])) (fun t k => XS.iloadN X0.here hx rfl (hb hby d3_21) rfl k) ?_
  refine Go.retI X0 hx hlk Bd.returns (hb hby d3_22) e0 ?_ (by decide) (by decide)
  exact ⟨rfl, N0, rfl⟩
theorem d1_0 : decode prog_21_method_1_code 0 = .ok (.aload_n 0, 1) := by decide +kernel
theorem d1_1 : decode prog_21_method_1_code 1 = .ok (.invokespecial 1, 3) := by decide +kernel
theorem d1_4 : decode prog_21_method_1_code 4 = .ok (.aload_n 0, 1) := by decide +kernel
theorem d1_5 : decode prog_21_method_1_code 5 = .ok (.iconst 0, 1) := by decide +kernel
theorem d1_6 : decode prog_21_method_1_code 6 = .ok (.iload_n 1, 1) := by decide +kernel
theorem d1_7 : decode prog_21_method_1_code 7 = .ok (.ldc 7, 2) := by decide +kernel
theorem d1_9 : decode prog_21_method_1_code 9 = .ok (.invokestatic 9, 3) := by decide +kernel
theorem d1_12 : decode prog_21_method_1_code 12 = .ok (.putfield 15, 3) := by decide +kernel
theorem d1_15 : decode prog_21_method_1_code 15 = .ok (.aload_n 0, 1) := by decide +kernel
theorem d1_16 : decode prog_21_method_1_code 16 = .ok (.iconst 0, 1) := by decide +kernel
theorem d1_17 : decode prog_21_method_1_code 17 = .ok (.iload_n 2, 1) := by decide +kernel
theorem d1_18 : decode prog_21_method_1_code 18 = .ok (.ldc 19, 2) := by decide +kernel
theorem d1_20 : decode prog_21_method_1_code 20 = .ok (.invokestatic 9, 3) := by decide +kernel
theorem d1_23 : decode prog_21_method_1_code 23 = .ok (.putfield 21, 3) := by decide +kernel
theorem d1_26 : decode prog_21_method_1_code 26 = .ok (.aload_n 0, 1) := by decide +kernel
theorem d1_27 : decode prog_21_method_1_code 27 = .ok (.iconst 0, 1) := by decide +kernel
theorem d1_28 : decode prog_21_method_1_code 28 = .ok (.iload_n 3, 1) := by decide +kernel
theorem d1_29 : decode prog_21_method_1_code 29 = .ok (.ldc 24, 2) := by decide +kernel
theorem d1_31 : decode prog_21_method_1_code 31 = .ok (.invokestatic 9, 3) := by decide +kernel
theorem d1_34 : decode prog_21_method_1_code 34 = .ok (.putfield 26, 3) := by decide +kernel
theorem d1_37 : decode prog_21_method_1_code 37 = .ok (.aload_n 0, 1) := by decide +kernel
theorem d1_38 : decode prog_21_method_1_code 38 = .ok (.dload 4, 2) := by decide +kernel
theorem d1_40 : decode prog_21_method_1_code 40 = .ok (.ldc 29, 2) := by decide +kernel
theorem d1_42 : decode prog_21_method_1_code 42 = .ok (.invokestatic 31, 3) := by decide +kernel
theorem d1_45 : decode prog_21_method_1_code 45 = .ok (.putfield 35, 3) := by decide +kernel
theorem d1_48 : decode prog_21_method_1_code 48 = .ok (.aload_n 0, 1) := by decide +kernel
theorem d1_49 : decode prog_21_method_1_code 49 = .ok (.dload 6, 2) := by decide +kernel
theorem d1_51 : decode prog_21_method_1_code 51 = .ok (.ldc 39, 2) := by decide +kernel
theorem d1_53 : decode prog_21_method_1_code 53 = .ok (.invokestatic 31, 3) := by decide +kernel
theorem d1_56 : decode prog_21_method_1_code 56 = .ok (.putfield 41, 3) := by decide +kernel
theorem d1_59 : decode prog_21_method_1_code 59 = .ok (.aload_n 0, 1) := by decide +kernel
theorem d1_60 : decode prog_21_method_1_code 60 = .ok (.iconst 1, 1) := by decide +kernel
theorem d1_61 : decode prog_21_method_1_code 61 = .ok (.iload 8, 2) := by decide +kernel
theorem d1_63 : decode prog_21_method_1_code 63 = .ok (.ldc 44, 2) := by decide +kernel
theorem d1_65 : decode prog_21_method_1_code 65 = .ok (.invokestatic 9, 3) := by decide +kernel
theorem d1_68 : decode prog_21_method_1_code 68 = .ok (.putfield 46, 3) := by decide +kernel
theorem d1_71 : decode prog_21_method_1_code 71 = .ok (.aload_n 0, 1) := by decide +kernel
theorem d1_72 : decode prog_21_method_1_code 72 = .ok (.iconst 0, 1) := by decide +kernel
theorem d1_73 : decode prog_21_method_1_code 73 = .ok (.iload 9, 2) := by decide +kernel
theorem d1_75 : decode prog_21_method_1_code 75 = .ok (.ldc 49, 2) := by decide +kernel
theorem d1_77 : decode prog_21_method_1_code 77 = .ok (.invokestatic 9, 3) := by decide +kernel
theorem d1_80 : decode prog_21_method_1_code 80 = .ok (.putfield 51, 3) := by decide +kernel
theorem d1_83 : decode prog_21_method_1_code 83 = .ok (.return_, 1) := by decide +kernel
theorem pd2 : parseMethodDescriptor "(IILjava/lang/String;)I" = some ⟨[.int, .int, (.object "java/lang/String")], some .int⟩ := by decide +kernel
theorem pd3 : parseMethodDescriptor "(DLjava/lang/String;)D" = some ⟨[.double, (.object "java/lang/String")], some .double⟩ := by decide +kernel
theorem ef_pini (m : MethodId) (ba : Addr) (pa : Int32) (pb : Int32) (pc_ : Int32) (dg : UInt64) (dh : UInt64) (pw : Int32) (pv : Int32) : entryFrame m #[(.ref ba), (.int pa), (.int pb), (.int pc_), (.double dg), (.double dh), (.int pw), (.int pv)] 10 = mkF m 0 #[.val (.ref ba), .val (.int pa), .val (.int pb), .val (.int pc_), .val (.double dg), .second, .val (.double dh), .second, .val (.int pw), .val (.int pv)] [] := by first | (simp [entryFrame, mkF, argsToLocals, Value.category]; done) | rfl
def Q_pini (Z : State) (ba : Addr) (pa : Int32) (pb : Int32) (pc_ : Int32) (dg : UInt64) (dh : UInt64) (pw : Int32) (pv : Int32) (u0 : Value) (u1 : Value) (u2 : Value) (u3 : Value) (u4 : Value) (u5 : Value) (u6 : Value) (h0 : Heap) (n0 : Nat) (v : Option Value) (h : Heap) (L : List Loc) : Prop := v = none ∧ Fr n0 L ∧ Keep h0 h [ba] ∧ Exa Z h ba "com/example/honest_search/honestsearch/index/PhraseSettings" ∧ Fld Z h ba "com/example/honest_search/honestsearch/index/PhraseSettings" "minDocuments" "I" (.int pa) ∧ Fld Z h ba "com/example/honest_search/honestsearch/index/PhraseSettings" "minInstances" "I" (.int pb) ∧ Fld Z h ba "com/example/honest_search/honestsearch/index/PhraseSettings" "minInteresting" "I" (.int pc_) ∧ Fld Z h ba "com/example/honest_search/honestsearch/index/PhraseSettings" "predictGain" "D" (.double dg) ∧ Fld Z h ba "com/example/honest_search/honestsearch/index/PhraseSettings" "relatedGain" "D" (.double dh) ∧ Fld Z h ba "com/example/honest_search/honestsearch/index/PhraseSettings" "maxPhraseWords" "I" (.int pw) ∧ Fld Z h ba "com/example/honest_search/honestsearch/index/PhraseSettings" "window" "I" (.int pv)
set_option maxRecDepth 65536 in
set_option maxHeartbeats 40000000 in
theorem rm_pini (l : Launch) (Z : State) (a0 : Array Value) (hw : ∀ d ∈ tables_1, d.before a0 Z = true) (ws : List Jvm.Cond) (ba : Addr) (pa : Int32) (pb : Int32) (pc_ : Int32) (dg : UInt64) (dh : UInt64) (pw : Int32) (pv : Int32) (u0 : Value) (u1 : Value) (u2 : Value) (u3 : Value) (u4 : Value) (u5 : Value) (u6 : Value) (h0 : Heap) (n0 : Nat) (O0 : Old Z n0 h0) (hEL : EW Z a0 own_EL) (P0 : Exa Z h0 ba "com/example/honest_search/honestsearch/index/PhraseSettings") (P1 : Fld Z h0 ba "com/example/honest_search/honestsearch/index/PhraseSettings" "minDocuments" "I" u0) (P2 : Fld Z h0 ba "com/example/honest_search/honestsearch/index/PhraseSettings" "minInstances" "I" u1) (P3 : Fld Z h0 ba "com/example/honest_search/honestsearch/index/PhraseSettings" "minInteresting" "I" u2) (P4 : Fld Z h0 ba "com/example/honest_search/honestsearch/index/PhraseSettings" "predictGain" "D" u3) (P5 : Fld Z h0 ba "com/example/honest_search/honestsearch/index/PhraseSettings" "relatedGain" "D" u4) (P6 : Fld Z h0 ba "com/example/honest_search/honestsearch/index/PhraseSettings" "maxPhraseWords" "I" u5) (P7 : Fld Z h0 ba "com/example/honest_search/honestsearch/index/PhraseSettings" "window" "I" u6) (P8 : n0 ≤ ba) (hpa0 : ¬ (pa < (0 : Int32))) (hpb0 : ¬ (pb < (0 : Int32))) (hpc_0 : ¬ (pc_ < (0 : Int32))) (hpw0 : ¬ (pw < (1 : Int32))) (hpv0 : ¬ (pv < (0 : Int32))) (hng : Jvm.Free.Fl.NoNaN64 dg) (hzg : ¬ ((cmpValue (FP.dcmp dg (0 : UInt64)) .l) < (0 : Int32))) (hig : ¬ ((0 : Int32) < (cmpValue (FP.dcmp (dg &&& 9223372036854775807) (9218868437227405311 : UInt64)) .l))) (hnh : Jvm.Free.Fl.NoNaN64 dh) (hzh : ¬ ((cmpValue (FP.dcmp dh (0 : UInt64)) .l) < (0 : Int32))) (hih : ¬ ((0 : Int32) < (cmpValue (FP.dcmp (dh &&& 9223372036854775807) (9218868437227405311 : UInt64)) .l))) :
    MetFree l (⟨"com/example/honest_search/honestsearch/index/PhraseSettings", "<init>", "(IIIDDII)V"⟩ : MethodName) (head1 (Jvm.Cond.code (⟨"com/example/honest_search/honestsearch/index/PhraseSettings", "<init>", "(IIIDDII)V"⟩ : MethodName) prog_21_method_1_code 10 none :: ws) ({ frames := 3, cells := 14, slots := 432, locals := 41 } : Room)) (fun a U => a = #[(.ref ba), (.int pa), (.int pb), (.int pc_), (.double dg), (.double dh), (.int pw), (.int pv)] ∧ Z.Warmed39 U.vm ∧ U.heap = h0 ∧ CHv Z own_EL U.vm h0) (fun _ _ _ _ _ => True) (fun _ U o U' => ∃ v L, o = .returned v ∧ Q_pini Z ba pa pb pc_ dg dh pw pv u0 u1 u2 u3 u4 u5 u6 h0 n0 v U'.heap L ∧ CHr Z own_EL U.vm U.heap U'.vm U'.heap ∧ ReturnedEndW U o U' L ({ frames := 3, cells := 14, slots := 432, locals := 41 } : Room).cells ({ frames := 3, cells := 14, slots := 432, locals := 41 } : Room).slots) := by
  refine MetFree.of_bodySF (plainFor_of_name pn_com_example_honest_search_honestsearch_index_PhraseSettings) hisR ?_
  intro p e s m args below meth c s₁ Bd hml0 hP hK
  obtain ⟨rfl, hZ, hh, hC0⟩ := hP
  have hx := Bd.exec
  have hby := Bd.bytes
  have hml : c.maxLocals = 10 := hml0
  have hown : (s.setVm s.vm).vm.findClass "com/example/honest_search/honestsearch/index/PhraseSettings" = some m.cls := findClass_of_methodNamed Bd.named
  have hnm := (name_of_methodNamed Bd.named Bd.method).1
  have hlk : meth.locks = false := BodyLoose.notSynchronized Bd
  have X0 : Stand p l e ({ frames := 3, cells := 14, slots := 432, locals := 41 } : Room) (s.setVm s.vm) m #[(.ref ba), (.int pa), (.int pb), (.int pc_), (.double dg), (.double dh), (.int pw), (.int pv)] below meth c s₁ [] 0 0 := Stand.of_body Bd
  have e0 : s₁.heap = h0 := by rw [← hh, Bd.state]; rfl
  have N0 := Fr.nil n0
  have hZ : Z.Warmed39 (s.setVm s.vm).vm := hZ
  have hS0 : s.Since s.vm 0 := (State.WarmedH.refl s).since 0
  have hk0 : 0 ≤ h0.size := Nat.zero_le _
  have CR0 : CHr Z own_EL s.vm s.heap s.vm h0 := by rw [hh]; exact CHr.refl hC0
  have K0 := Keep.refl h0 [ba]
  rw [ef_pini m ba pa pb pc_ dg dh pw pv]
  show GoH p e below s Z own_EL (fun v h L => Q_pini Z ba pa pb pc_ dg dh pw pv u0 u1 u2 u3 u4 u5 u6 h0 n0 v h L) ({ frames := 3, cells := 14, slots := 432, locals := 41 } : Room).cells ({ frames := 3, cells := 14, slots := 432, locals := 41 } : Room).slots s₁ (mkF m 0 #[.val (.ref ba), .val (.int pa), .val (.int pb), .val (.int pc_), .val (.double dg), .second, .val (.double dh), .second, .val (.int pw), .val (.int pv)] [])
  refine GoH.step (T' := s₁) (f' := (mkF m 1 #[.val (.ref ba), .val (.int pa), .val (.int pb), .val (.int pc_), .val (.double dg), .second, .val (.double dh), .second, .val (.int pw), .val (.int pv)] [(.ref ba)])) (fun t k => XS.aloadN X0.here hx rfl (hb hby d1_0) rfl rfl k) ?_
  obtain ⟨T4, X4, e4, st4⟩ := initO X0 hx hZ hown (hw _ (List.mem_of_getElem? (i := 10) rfl)) (hw _ (List.mem_of_getElem? (i := 11) rfl)) (hw _ (List.mem_of_getElem? (i := 12) rfl)) e0 (g := (mkF m 1 #[.val (.ref ba), .val (.int pa), .val (.int pb), .val (.int pc_), .val (.double dg), .second, .val (.double dh), .second, .val (.int pw), .val (.int pv)] [(.ref ba)])) rfl (by rw [hml]; rfl) rfl (hb hby d1_1) (by decide) (W := 0) (by show 2 * 0 + _ ≤ _; exact Nat.le_of_eq rfl) (by decide)
  refine GoH.step (T' := T4) (f' := (mkF m 4 #[.val (.ref ba), .val (.int pa), .val (.int pb), .val (.int pc_), .val (.double dg), .second, .val (.double dh), .second, .val (.int pw), .val (.int pv)] [])) st4 ?_
  clear st4 X0
  refine GoH.step (T' := T4) (f' := (mkF m 5 #[.val (.ref ba), .val (.int pa), .val (.int pb), .val (.int pc_), .val (.double dg), .second, .val (.double dh), .second, .val (.int pw), .val (.int pv)] [(.ref ba)])) (fun t k => XS.aloadN X4.here hx rfl (hb hby d1_4) rfl rfl k) ?_
  refine GoH.step (T' := T4) (f' := (mkF m 6 #[.val (.ref ba), .val (.int pa), .val (.int pb), .val (.int pc_), .val (.double dg), .second, .val (.double dh), .second, .val (.int pw), .val (.int pv)] [(.int (0 : Int32)), (.ref ba)])) (fun t k => XS.iconst X4.here hx rfl (hb hby d1_5) k) ?_
  refine GoH.step (T' := T4) (f' := (mkF m 7 #[.val (.ref ba), .val (.int pa), .val (.int pb), .val (.int pc_), .val (.double dg), .second, .val (.double dh), .second, .val (.int pw), .val (.int pv)] [(.int pa), (.int (0 : Int32)), (.ref ba)])) (fun t k => XS.iloadN X4.here hx rfl (hb hby d1_6) rfl k) ?_
  obtain ⟨a5, T5, h5, kk5, X5, e5, E5, hS5, hk5, hZ, hown, ch5, Li5, st5⟩ := ldcOH (s := s) (vm0 := s.vm) X4 hx hZ hown (hw _ (List.mem_of_getElem? (i := 13) rfl)) (own_wS hw) e4 hS0 hk0 hEL CR0.1 (g := (mkF m 7 #[.val (.ref ba), .val (.int pa), .val (.int pb), .val (.int pc_), .val (.double dg), .second, .val (.double dh), .second, .val (.int pw), .val (.int pv)] [(.int pa), (.int (0 : Int32)), (.ref ba)])) rfl (hb hby d1_7) (n := 60) (by decide) (by decide) (by decide) (by decide)
  have CR6 := CR0.trans ch5
  have f7 := P0.ext E5
  have f8 := P1.ext E5
  have f9 := P2.ext E5
  have f10 := P3.ext E5
  have f11 := P4.ext E5
  have f12 := P5.ext E5
  have f13 := P6.ext E5
  have f14 := P7.ext E5
  have O15 := O0.ext E5
  have K16 := K0.ext E5
  refine GoH.step (T' := T5) (f' := (mkF m 9 #[.val (.ref ba), .val (.int pa), .val (.int pb), .val (.int pc_), .val (.double dg), .second, .val (.double dh), .second, .val (.int pw), .val (.int pv)] [(.ref a5), (.int pa), (.int (0 : Int32)), (.ref ba)])) st5 ?_
  clear st5 X4 CR0 hS0 hk0
  obtain ⟨_, _, ⟨T17, L17, k17, n17⟩, -, X17, ⟨Lc17, hQ17, l17, y17, z17⟩, st17⟩ := Jvm.LawKit.callS X5 hx (y := (⟨"com/example/honest_search/honestsearch/index/PhraseSettings", "atLeast", "(IILjava/lang/String;)I"⟩ : MethodName)) hown (mvT hZ (hw _ (List.mem_of_getElem? (i := 21) rfl))) (mvT hZ (hw _ (List.mem_of_getElem? (i := 22) rfl))) (mvT hZ (hw _ (List.mem_of_getElem? (i := 5) rfl))) (mvT hZ (hw _ (List.mem_of_getElem? (i := 23) rfl))) (by decide) (backOf (W := 1) (rm_atl l Z a0 hw [] (0 : Int32) pa a5 h5 n0 O15 (hpa0)) hZ (hw _ (List.mem_of_getElem? (i := 23) rfl)) (hw _ (List.mem_of_getElem? (i := 5) rfl)) (by decide) (by decide)) (g := (mkF m 9 #[.val (.ref ba), .val (.int pa), .val (.int pb), .val (.int pc_), .val (.double dg), .second, .val (.double dh), .second, .val (.int pw), .val (.int pv)] [(.ref a5), (.int pa), (.int (0 : Int32)), (.ref ba)])) rfl (by rw [hml]; rfl) (argsL := [(.int (0 : Int32)), (.int pa), (.ref a5)]) (rest := [(.ref ba)]) (lenOf pd2 rfl) rfl (by show 2 * 0 + _ ≤ _; exact Nat.le_of_eq rfl) (hb hby d1_9) (fun _ _ => ⟨rfl, e5, (by decide : 2 + 0 ≤ _), (by decide : 64 + 0 ≤ _)⟩)
  dsimp only [Pt.U, Pt.locs, Pt.cells, Pt.slots] at X17 l17 y17 z17 st17 hQ17
  subst l17 y17 z17
  obtain ⟨rfl, Nq17, hh17⟩ := hQ17
  have N18 := Fr.app N0 Nq17
  refine GoH.step (T' := T17) (f' := (mkF m 12 #[.val (.ref ba), .val (.int pa), .val (.int pb), .val (.int pc_), .val (.double dg), .second, .val (.double dh), .second, .val (.int pw), .val (.int pv)] [(.int pa), (.ref ba)])) st17 ?_
  clear st17 X5 Nq17
  obtain ⟨T19, h19, X19, e19, W19, st19⟩ := putF X17 hx hZ hown (host := "") (Or.inl (hw _ (List.mem_of_getElem? (i := 24) rfl))) Via.refl hh17 f8 f7 (Or.inr ⟨(hw _ (List.mem_of_getElem? (i := 25) rfl)), rfl, hnm⟩) (hw _ (List.mem_of_getElem? (i := 4) rfl)) (ty := .int) (by decide) rfl rfl (g := (mkF m 12 #[.val (.ref ba), .val (.int pa), .val (.int pb), .val (.int pc_), .val (.double dg), .second, .val (.double dh), .second, .val (.int pw), .val (.int pv)] [(.int pa), (.ref ba)])) rfl rfl (hb hby d1_12)
  have f20 := f8.same W19
  have sa21 : Safe Z own_EL T5.vm h5 ba := (Safe.exa (EL := own_EL) hZ.alike f7 (by decide) (by decide))
  have CR22 := CR6.trans (CHr.wr W19 sa21 CR6.1)
  have hk23 := (by rw [W19.size]; exact hk5 : _ ≤ h19.size)
  have f24 := f7.wr W19
  have f25 := f9.other W19 (Or.inr (slot_ne (Or.inr (hw _ (List.mem_of_getElem? (i := 28) rfl))) (Or.inr (hw _ (List.mem_of_getElem? (i := 25) rfl))) (by decide) (t := .int) (t' := .int) (by decide) (by decide)))
  have f26 := f10.other W19 (Or.inr (slot_ne (Or.inr (hw _ (List.mem_of_getElem? (i := 31) rfl))) (Or.inr (hw _ (List.mem_of_getElem? (i := 25) rfl))) (by decide) (t := .int) (t' := .int) (by decide) (by decide)))
  have f27 := f11.other W19 (Or.inr (slot_ne (Or.inr (hw _ (List.mem_of_getElem? (i := 46) rfl))) (Or.inr (hw _ (List.mem_of_getElem? (i := 25) rfl))) (by decide) (t := .double) (t' := .int) (by decide) (by decide)))
  have f28 := f12.other W19 (Or.inr (slot_ne (Or.inr (hw _ (List.mem_of_getElem? (i := 49) rfl))) (Or.inr (hw _ (List.mem_of_getElem? (i := 25) rfl))) (by decide) (t := .double) (t' := .int) (by decide) (by decide)))
  have f29 := f13.other W19 (Or.inr (slot_ne (Or.inr (hw _ (List.mem_of_getElem? (i := 52) rfl))) (Or.inr (hw _ (List.mem_of_getElem? (i := 25) rfl))) (by decide) (t := .int) (t' := .int) (by decide) (by decide)))
  have f30 := f14.other W19 (Or.inr (slot_ne (Or.inr (hw _ (List.mem_of_getElem? (i := 55) rfl))) (Or.inr (hw _ (List.mem_of_getElem? (i := 25) rfl))) (by decide) (t := .int) (t' := .int) (by decide) (by decide)))
  have O31 := O15.wr W19 P8
  have K32 := K16.wr W19 (Or.inl (List.mem_of_getElem? (i := 0) rfl))
  have N33 := Fr.snoc X19 N18 P8
  refine GoH.step (T' := T19) (f' := (mkF m 15 #[.val (.ref ba), .val (.int pa), .val (.int pb), .val (.int pc_), .val (.double dg), .second, .val (.double dh), .second, .val (.int pw), .val (.int pv)] [])) st19 ?_
  clear st19 X17 CR6 hk5 sa21 f7 f9 f10 f11 f12 f13 f14 O15 K16 N18
  refine GoH.step (T' := T19) (f' := (mkF m 16 #[.val (.ref ba), .val (.int pa), .val (.int pb), .val (.int pc_), .val (.double dg), .second, .val (.double dh), .second, .val (.int pw), .val (.int pv)] [(.ref ba)])) (fun t k => XS.aloadN X19.here hx rfl (hb hby d1_15) rfl rfl k) ?_
  refine GoH.step (T' := T19) (f' := (mkF m 17 #[.val (.ref ba), .val (.int pa), .val (.int pb), .val (.int pc_), .val (.double dg), .second, .val (.double dh), .second, .val (.int pw), .val (.int pv)] [(.int (0 : Int32)), (.ref ba)])) (fun t k => XS.iconst X19.here hx rfl (hb hby d1_16) k) ?_
  refine GoH.step (T' := T19) (f' := (mkF m 18 #[.val (.ref ba), .val (.int pa), .val (.int pb), .val (.int pc_), .val (.double dg), .second, .val (.double dh), .second, .val (.int pw), .val (.int pv)] [(.int pb), (.int (0 : Int32)), (.ref ba)])) (fun t k => XS.iloadN X19.here hx rfl (hb hby d1_17) rfl k) ?_
  obtain ⟨a34, T34, h34, kk34, X34, e34, E34, hS34, hk34, hZ, hown, ch34, Li34, st34⟩ := ldcOH (s := s) (vm0 := T5.vm) X19 hx hZ hown (hw _ (List.mem_of_getElem? (i := 26) rfl)) (own_wS hw) e19 hS5 hk23 hEL CR22.1 (g := (mkF m 18 #[.val (.ref ba), .val (.int pa), .val (.int pb), .val (.int pc_), .val (.double dg), .second, .val (.double dh), .second, .val (.int pw), .val (.int pv)] [(.int pb), (.int (0 : Int32)), (.ref ba)])) rfl (hb hby d1_18) (n := 60) (by decide) (by decide) (by decide) (by decide)
  have CR35 := CR22.trans ch34
  have f36 := f24.ext E34
  have f37 := f25.ext E34
  have f38 := f26.ext E34
  have f39 := f27.ext E34
  have f40 := f28.ext E34
  have f41 := f29.ext E34
  have f42 := f30.ext E34
  have f43 := f20.ext E34
  have O44 := O31.ext E34
  have K45 := K32.ext E34
  refine GoH.step (T' := T34) (f' := (mkF m 20 #[.val (.ref ba), .val (.int pa), .val (.int pb), .val (.int pc_), .val (.double dg), .second, .val (.double dh), .second, .val (.int pw), .val (.int pv)] [(.ref a34), (.int pb), (.int (0 : Int32)), (.ref ba)])) st34 ?_
  clear st34 X19 CR22 hS5 hk23 f24 f25 f26 f27 f28 f29 f30 f20 O31 K32
  obtain ⟨_, _, ⟨T46, L46, k46, n46⟩, -, X46, ⟨Lc46, hQ46, l46, y46, z46⟩, st46⟩ := Jvm.LawKit.callS X34 hx (y := (⟨"com/example/honest_search/honestsearch/index/PhraseSettings", "atLeast", "(IILjava/lang/String;)I"⟩ : MethodName)) hown (mvT hZ (hw _ (List.mem_of_getElem? (i := 21) rfl))) (mvT hZ (hw _ (List.mem_of_getElem? (i := 22) rfl))) (mvT hZ (hw _ (List.mem_of_getElem? (i := 5) rfl))) (mvT hZ (hw _ (List.mem_of_getElem? (i := 23) rfl))) (by decide) (backOf (W := 1) (rm_atl l Z a0 hw [] (0 : Int32) pb a34 h34 n0 O44 (hpb0)) hZ (hw _ (List.mem_of_getElem? (i := 23) rfl)) (hw _ (List.mem_of_getElem? (i := 5) rfl)) (by decide) (by decide)) (g := (mkF m 20 #[.val (.ref ba), .val (.int pa), .val (.int pb), .val (.int pc_), .val (.double dg), .second, .val (.double dh), .second, .val (.int pw), .val (.int pv)] [(.ref a34), (.int pb), (.int (0 : Int32)), (.ref ba)])) rfl (by rw [hml]; rfl) (argsL := [(.int (0 : Int32)), (.int pb), (.ref a34)]) (rest := [(.ref ba)]) (lenOf pd2 rfl) rfl (by show 2 * 0 + _ ≤ _; exact Nat.le_of_eq rfl) (hb hby d1_20) (fun _ _ => ⟨rfl, e34, (by decide : 4 + 0 ≤ _), (by decide : 128 + 0 ≤ _)⟩)
  dsimp only [Pt.U, Pt.locs, Pt.cells, Pt.slots] at X46 l46 y46 z46 st46 hQ46
  subst l46 y46 z46
  obtain ⟨rfl, Nq46, hh46⟩ := hQ46
  have N47 := Fr.app N33 Nq46
  refine GoH.step (T' := T46) (f' := (mkF m 23 #[.val (.ref ba), .val (.int pa), .val (.int pb), .val (.int pc_), .val (.double dg), .second, .val (.double dh), .second, .val (.int pw), .val (.int pv)] [(.int pb), (.ref ba)])) st46 ?_
  clear st46 X34 N33 Nq46
  obtain ⟨T48, h48, X48, e48, W48, st48⟩ := putF X46 hx hZ hown (host := "") (Or.inl (hw _ (List.mem_of_getElem? (i := 27) rfl))) Via.refl hh46 f37 f36 (Or.inr ⟨(hw _ (List.mem_of_getElem? (i := 28) rfl)), rfl, hnm⟩) (hw _ (List.mem_of_getElem? (i := 4) rfl)) (ty := .int) (by decide) rfl rfl (g := (mkF m 23 #[.val (.ref ba), .val (.int pa), .val (.int pb), .val (.int pc_), .val (.double dg), .second, .val (.double dh), .second, .val (.int pw), .val (.int pv)] [(.int pb), (.ref ba)])) rfl rfl (hb hby d1_23)
  have f49 := f37.same W48
  have sa50 : Safe Z own_EL T34.vm h34 ba := (Safe.exa (EL := own_EL) hZ.alike f36 (by decide) (by decide))
  have CR51 := CR35.trans (CHr.wr W48 sa50 CR35.1)
  have hk52 := (by rw [W48.size]; exact hk34 : _ ≤ h48.size)
  have f53 := f36.wr W48
  have f54 := f38.other W48 (Or.inr (slot_ne (Or.inr (hw _ (List.mem_of_getElem? (i := 31) rfl))) (Or.inr (hw _ (List.mem_of_getElem? (i := 28) rfl))) (by decide) (t := .int) (t' := .int) (by decide) (by decide)))
  have f55 := f39.other W48 (Or.inr (slot_ne (Or.inr (hw _ (List.mem_of_getElem? (i := 46) rfl))) (Or.inr (hw _ (List.mem_of_getElem? (i := 28) rfl))) (by decide) (t := .double) (t' := .int) (by decide) (by decide)))
  have f56 := f40.other W48 (Or.inr (slot_ne (Or.inr (hw _ (List.mem_of_getElem? (i := 49) rfl))) (Or.inr (hw _ (List.mem_of_getElem? (i := 28) rfl))) (by decide) (t := .double) (t' := .int) (by decide) (by decide)))
  have f57 := f41.other W48 (Or.inr (slot_ne (Or.inr (hw _ (List.mem_of_getElem? (i := 52) rfl))) (Or.inr (hw _ (List.mem_of_getElem? (i := 28) rfl))) (by decide) (t := .int) (t' := .int) (by decide) (by decide)))
  have f58 := f42.other W48 (Or.inr (slot_ne (Or.inr (hw _ (List.mem_of_getElem? (i := 55) rfl))) (Or.inr (hw _ (List.mem_of_getElem? (i := 28) rfl))) (by decide) (t := .int) (t' := .int) (by decide) (by decide)))
  have f59 := f43.other W48 (Or.inr (slot_ne (Or.inr (hw _ (List.mem_of_getElem? (i := 25) rfl))) (Or.inr (hw _ (List.mem_of_getElem? (i := 28) rfl))) (by decide) (t := .int) (t' := .int) (by decide) (by decide)))
  have O60 := O44.wr W48 P8
  have K61 := K45.wr W48 (Or.inl (List.mem_of_getElem? (i := 0) rfl))
  have N62 := Fr.snoc X48 N47 P8
  refine GoH.step (T' := T48) (f' := (mkF m 26 #[.val (.ref ba), .val (.int pa), .val (.int pb), .val (.int pc_), .val (.double dg), .second, .val (.double dh), .second, .val (.int pw), .val (.int pv)] [])) st48 ?_
  clear st48 X46 CR35 hk34 sa50 f36 f38 f39 f40 f41 f42 f43 O44 K45 N47
  refine GoH.step (T' := T48) (f' := (mkF m 27 #[.val (.ref ba), .val (.int pa), .val (.int pb), .val (.int pc_), .val (.double dg), .second, .val (.double dh), .second, .val (.int pw), .val (.int pv)] [(.ref ba)])) (fun t k => XS.aloadN X48.here hx rfl (hb hby d1_26) rfl rfl k) ?_
  refine GoH.step (T' := T48) (f' := (mkF m 28 #[.val (.ref ba), .val (.int pa), .val (.int pb), .val (.int pc_), .val (.double dg), .second, .val (.double dh), .second, .val (.int pw), .val (.int pv)] [(.int (0 : Int32)), (.ref ba)])) (fun t k => XS.iconst X48.here hx rfl (hb hby d1_27) k) ?_
  refine GoH.step (T' := T48) (f' := (mkF m 29 #[.val (.ref ba), .val (.int pa), .val (.int pb), .val (.int pc_), .val (.double dg), .second, .val (.double dh), .second, .val (.int pw), .val (.int pv)] [(.int pc_), (.int (0 : Int32)), (.ref ba)])) (fun t k => XS.iloadN X48.here hx rfl (hb hby d1_28) rfl k) ?_
  obtain ⟨a63, T63, h63, kk63, X63, e63, E63, hS63, hk63, hZ, hown, ch63, Li63, st63⟩ := ldcOH (s := s) (vm0 := T34.vm) X48 hx hZ hown (hw _ (List.mem_of_getElem? (i := 29) rfl)) (own_wS hw) e48 hS34 hk52 hEL CR51.1 (g := (mkF m 29 #[.val (.ref ba), .val (.int pa), .val (.int pb), .val (.int pc_), .val (.double dg), .second, .val (.double dh), .second, .val (.int pw), .val (.int pv)] [(.int pc_), (.int (0 : Int32)), (.ref ba)])) rfl (hb hby d1_29) (n := 68) (by decide) (by decide) (by decide) (by decide)
  have CR64 := CR51.trans ch63
  have f65 := f53.ext E63
  have f66 := f54.ext E63
  have f67 := f55.ext E63
  have f68 := f56.ext E63
  have f69 := f57.ext E63
  have f70 := f58.ext E63
  have f71 := f59.ext E63
  have f72 := f49.ext E63
  have O73 := O60.ext E63
  have K74 := K61.ext E63
  refine GoH.step (T' := T63) (f' := (mkF m 31 #[.val (.ref ba), .val (.int pa), .val (.int pb), .val (.int pc_), .val (.double dg), .second, .val (.double dh), .second, .val (.int pw), .val (.int pv)] [(.ref a63), (.int pc_), (.int (0 : Int32)), (.ref ba)])) st63 ?_
  clear st63 X48 CR51 hS34 hk52 f53 f54 f55 f56 f57 f58 f59 f49 O60 K61
  obtain ⟨_, _, ⟨T75, L75, k75, n75⟩, -, X75, ⟨Lc75, hQ75, l75, y75, z75⟩, st75⟩ := Jvm.LawKit.callS X63 hx (y := (⟨"com/example/honest_search/honestsearch/index/PhraseSettings", "atLeast", "(IILjava/lang/String;)I"⟩ : MethodName)) hown (mvT hZ (hw _ (List.mem_of_getElem? (i := 21) rfl))) (mvT hZ (hw _ (List.mem_of_getElem? (i := 22) rfl))) (mvT hZ (hw _ (List.mem_of_getElem? (i := 5) rfl))) (mvT hZ (hw _ (List.mem_of_getElem? (i := 23) rfl))) (by decide) (backOf (W := 1) (rm_atl l Z a0 hw [] (0 : Int32) pc_ a63 h63 n0 O73 (hpc_0)) hZ (hw _ (List.mem_of_getElem? (i := 23) rfl)) (hw _ (List.mem_of_getElem? (i := 5) rfl)) (by decide) (by decide)) (g := (mkF m 31 #[.val (.ref ba), .val (.int pa), .val (.int pb), .val (.int pc_), .val (.double dg), .second, .val (.double dh), .second, .val (.int pw), .val (.int pv)] [(.ref a63), (.int pc_), (.int (0 : Int32)), (.ref ba)])) rfl (by rw [hml]; rfl) (argsL := [(.int (0 : Int32)), (.int pc_), (.ref a63)]) (rest := [(.ref ba)]) (lenOf pd2 rfl) rfl (by show 2 * 0 + _ ≤ _; exact Nat.le_of_eq rfl) (hb hby d1_31) (fun _ _ => ⟨rfl, e63, (by decide : 6 + 0 ≤ _), (by decide : 200 + 0 ≤ _)⟩)
  dsimp only [Pt.U, Pt.locs, Pt.cells, Pt.slots] at X75 l75 y75 z75 st75 hQ75
  subst l75 y75 z75
  obtain ⟨rfl, Nq75, hh75⟩ := hQ75
  have N76 := Fr.app N62 Nq75
  refine GoH.step (T' := T75) (f' := (mkF m 34 #[.val (.ref ba), .val (.int pa), .val (.int pb), .val (.int pc_), .val (.double dg), .second, .val (.double dh), .second, .val (.int pw), .val (.int pv)] [(.int pc_), (.ref ba)])) st75 ?_
  clear st75 X63 N62 Nq75
  obtain ⟨T77, h77, X77, e77, W77, st77⟩ := putF X75 hx hZ hown (host := "") (Or.inl (hw _ (List.mem_of_getElem? (i := 30) rfl))) Via.refl hh75 f66 f65 (Or.inr ⟨(hw _ (List.mem_of_getElem? (i := 31) rfl)), rfl, hnm⟩) (hw _ (List.mem_of_getElem? (i := 4) rfl)) (ty := .int) (by decide) rfl rfl (g := (mkF m 34 #[.val (.ref ba), .val (.int pa), .val (.int pb), .val (.int pc_), .val (.double dg), .second, .val (.double dh), .second, .val (.int pw), .val (.int pv)] [(.int pc_), (.ref ba)])) rfl rfl (hb hby d1_34)
  have f78 := f66.same W77
  have sa79 : Safe Z own_EL T63.vm h63 ba := (Safe.exa (EL := own_EL) hZ.alike f65 (by decide) (by decide))
  have CR80 := CR64.trans (CHr.wr W77 sa79 CR64.1)
  have hk81 := (by rw [W77.size]; exact hk63 : _ ≤ h77.size)
  have f82 := f65.wr W77
  have f83 := f67.other W77 (Or.inr (slot_ne (Or.inr (hw _ (List.mem_of_getElem? (i := 46) rfl))) (Or.inr (hw _ (List.mem_of_getElem? (i := 31) rfl))) (by decide) (t := .double) (t' := .int) (by decide) (by decide)))
  have f84 := f68.other W77 (Or.inr (slot_ne (Or.inr (hw _ (List.mem_of_getElem? (i := 49) rfl))) (Or.inr (hw _ (List.mem_of_getElem? (i := 31) rfl))) (by decide) (t := .double) (t' := .int) (by decide) (by decide)))
  have f85 := f69.other W77 (Or.inr (slot_ne (Or.inr (hw _ (List.mem_of_getElem? (i := 52) rfl))) (Or.inr (hw _ (List.mem_of_getElem? (i := 31) rfl))) (by decide) (t := .int) (t' := .int) (by decide) (by decide)))
  have f86 := f70.other W77 (Or.inr (slot_ne (Or.inr (hw _ (List.mem_of_getElem? (i := 55) rfl))) (Or.inr (hw _ (List.mem_of_getElem? (i := 31) rfl))) (by decide) (t := .int) (t' := .int) (by decide) (by decide)))
  have f87 := f71.other W77 (Or.inr (slot_ne (Or.inr (hw _ (List.mem_of_getElem? (i := 25) rfl))) (Or.inr (hw _ (List.mem_of_getElem? (i := 31) rfl))) (by decide) (t := .int) (t' := .int) (by decide) (by decide)))
  have f88 := f72.other W77 (Or.inr (slot_ne (Or.inr (hw _ (List.mem_of_getElem? (i := 28) rfl))) (Or.inr (hw _ (List.mem_of_getElem? (i := 31) rfl))) (by decide) (t := .int) (t' := .int) (by decide) (by decide)))
  have O89 := O73.wr W77 P8
  have K90 := K74.wr W77 (Or.inl (List.mem_of_getElem? (i := 0) rfl))
  have N91 := Fr.snoc X77 N76 P8
  refine GoH.step (T' := T77) (f' := (mkF m 37 #[.val (.ref ba), .val (.int pa), .val (.int pb), .val (.int pc_), .val (.double dg), .second, .val (.double dh), .second, .val (.int pw), .val (.int pv)] [])) st77 ?_
  clear st77 X75 CR64 hk63 sa79 f65 f67 f68 f69 f70 f71 f72 O73 K74 N76
  refine GoH.step (T' := T77) (f' := (mkF m 38 #[.val (.ref ba), .val (.int pa), .val (.int pb), .val (.int pc_), .val (.double dg), .second, .val (.double dh), .second, .val (.int pw), .val (.int pv)] [(.ref ba)])) (fun t k => XS.aloadN X77.here hx rfl (hb hby d1_37) rfl rfl k) ?_
  refine GoH.step (T' := T77) (f' := (mkF m 40 #[.val (.ref ba), .val (.int pa), .val (.int pb), .val (.int pc_), .val (.double dg), .second, .val (.double dh), .second, .val (.int pw), .val (.int pv)] [(.double dg), (.ref ba)])) (fun t k => Jvm.Free.XS.dload X77.here hx rfl (hb hby d1_38) rfl k) ?_
  obtain ⟨a92, T92, h92, kk92, X92, e92, E92, hS92, hk92, hZ, hown, ch92, Li92, st92⟩ := ldcOH (s := s) (vm0 := T63.vm) X77 hx hZ hown (hw _ (List.mem_of_getElem? (i := 32) rfl)) (own_wS hw) e77 hS63 hk81 hEL CR80.1 (g := (mkF m 40 #[.val (.ref ba), .val (.int pa), .val (.int pb), .val (.int pc_), .val (.double dg), .second, .val (.double dh), .second, .val (.int pw), .val (.int pv)] [(.double dg), (.ref ba)])) rfl (hb hby d1_40) (n := 56) (by decide) (by decide) (by decide) (by decide)
  have CR93 := CR80.trans ch92
  have f94 := f82.ext E92
  have f95 := f83.ext E92
  have f96 := f84.ext E92
  have f97 := f85.ext E92
  have f98 := f86.ext E92
  have f99 := f87.ext E92
  have f100 := f88.ext E92
  have f101 := f78.ext E92
  have O102 := O89.ext E92
  have K103 := K90.ext E92
  refine GoH.step (T' := T92) (f' := (mkF m 42 #[.val (.ref ba), .val (.int pa), .val (.int pb), .val (.int pc_), .val (.double dg), .second, .val (.double dh), .second, .val (.int pw), .val (.int pv)] [(.ref a92), (.double dg), (.ref ba)])) st92 ?_
  clear st92 X77 CR80 hS63 hk81 f82 f83 f84 f85 f86 f87 f88 f78 O89 K90
  obtain ⟨_, _, ⟨T104, L104, k104, n104⟩, -, X104, ⟨Lc104, hQ104, l104, y104, z104⟩, st104⟩ := Jvm.LawKit.callS X92 hx (y := (⟨"com/example/honest_search/honestsearch/index/PhraseSettings", "gain", "(DLjava/lang/String;)D"⟩ : MethodName)) hown (mvT hZ (hw _ (List.mem_of_getElem? (i := 33) rfl))) (mvT hZ (hw _ (List.mem_of_getElem? (i := 34) rfl))) (mvT hZ (hw _ (List.mem_of_getElem? (i := 5) rfl))) (mvT hZ (hw _ (List.mem_of_getElem? (i := 35) rfl))) (by decide) (backOf (W := 1) (rm_gain l Z a0 hw [] dg a92 h92 n0 O102 (hng) (hzg) (hig)) hZ (hw _ (List.mem_of_getElem? (i := 35) rfl)) (hw _ (List.mem_of_getElem? (i := 5) rfl)) (by decide) (by decide)) (g := (mkF m 42 #[.val (.ref ba), .val (.int pa), .val (.int pb), .val (.int pc_), .val (.double dg), .second, .val (.double dh), .second, .val (.int pw), .val (.int pv)] [(.ref a92), (.double dg), (.ref ba)])) rfl (by rw [hml]; rfl) (argsL := [(.double dg), (.ref a92)]) (rest := [(.ref ba)]) (lenOf pd3 rfl) rfl (by show 2 * 0 + _ ≤ _; exact Nat.le_of_eq rfl) (hb hby d1_42) (fun _ _ => ⟨rfl, e92, (by decide : 8 + 0 ≤ _), (by decide : 260 + 0 ≤ _)⟩)
  dsimp only [Pt.U, Pt.locs, Pt.cells, Pt.slots] at X104 l104 y104 z104 st104 hQ104
  subst l104 y104 z104
  obtain ⟨rfl, Nq104, hh104⟩ := hQ104
  have N105 := Fr.app N91 Nq104
  refine GoH.step (T' := T104) (f' := (mkF m 45 #[.val (.ref ba), .val (.int pa), .val (.int pb), .val (.int pc_), .val (.double dg), .second, .val (.double dh), .second, .val (.int pw), .val (.int pv)] [(.double dg), (.ref ba)])) st104 ?_
  clear st104 X92 N91 Nq104
  obtain ⟨T106, h106, X106, e106, W106, st106⟩ := putF X104 hx hZ hown (host := "") (Or.inl (hw _ (List.mem_of_getElem? (i := 45) rfl))) Via.refl hh104 f95 f94 (Or.inr ⟨(hw _ (List.mem_of_getElem? (i := 46) rfl)), rfl, hnm⟩) (hw _ (List.mem_of_getElem? (i := 4) rfl)) (ty := .double) (by decide) rfl rfl (g := (mkF m 45 #[.val (.ref ba), .val (.int pa), .val (.int pb), .val (.int pc_), .val (.double dg), .second, .val (.double dh), .second, .val (.int pw), .val (.int pv)] [(.double dg), (.ref ba)])) rfl rfl (hb hby d1_45)
  have f107 := f95.same W106
  have sa108 : Safe Z own_EL T92.vm h92 ba := (Safe.exa (EL := own_EL) hZ.alike f94 (by decide) (by decide))
  have CR109 := CR93.trans (CHr.wr W106 sa108 CR93.1)
  have hk110 := (by rw [W106.size]; exact hk92 : _ ≤ h106.size)
  have f111 := f94.wr W106
  have f112 := f96.other W106 (Or.inr (slot_ne (Or.inr (hw _ (List.mem_of_getElem? (i := 49) rfl))) (Or.inr (hw _ (List.mem_of_getElem? (i := 46) rfl))) (by decide) (t := .double) (t' := .double) (by decide) (by decide)))
  have f113 := f97.other W106 (Or.inr (slot_ne (Or.inr (hw _ (List.mem_of_getElem? (i := 52) rfl))) (Or.inr (hw _ (List.mem_of_getElem? (i := 46) rfl))) (by decide) (t := .int) (t' := .double) (by decide) (by decide)))
  have f114 := f98.other W106 (Or.inr (slot_ne (Or.inr (hw _ (List.mem_of_getElem? (i := 55) rfl))) (Or.inr (hw _ (List.mem_of_getElem? (i := 46) rfl))) (by decide) (t := .int) (t' := .double) (by decide) (by decide)))
  have f115 := f99.other W106 (Or.inr (slot_ne (Or.inr (hw _ (List.mem_of_getElem? (i := 25) rfl))) (Or.inr (hw _ (List.mem_of_getElem? (i := 46) rfl))) (by decide) (t := .int) (t' := .double) (by decide) (by decide)))
  have f116 := f100.other W106 (Or.inr (slot_ne (Or.inr (hw _ (List.mem_of_getElem? (i := 28) rfl))) (Or.inr (hw _ (List.mem_of_getElem? (i := 46) rfl))) (by decide) (t := .int) (t' := .double) (by decide) (by decide)))
  have f117 := f101.other W106 (Or.inr (slot_ne (Or.inr (hw _ (List.mem_of_getElem? (i := 31) rfl))) (Or.inr (hw _ (List.mem_of_getElem? (i := 46) rfl))) (by decide) (t := .int) (t' := .double) (by decide) (by decide)))
  have O118 := O102.wr W106 P8
  have K119 := K103.wr W106 (Or.inl (List.mem_of_getElem? (i := 0) rfl))
  have N120 := Fr.snoc X106 N105 P8
  refine GoH.step (T' := T106) (f' := (mkF m 48 #[.val (.ref ba), .val (.int pa), .val (.int pb), .val (.int pc_), .val (.double dg), .second, .val (.double dh), .second, .val (.int pw), .val (.int pv)] [])) st106 ?_
  clear st106 X104 CR93 hk92 sa108 f94 f96 f97 f98 f99 f100 f101 O102 K103 N105
  refine GoH.step (T' := T106) (f' := (mkF m 49 #[.val (.ref ba), .val (.int pa), .val (.int pb), .val (.int pc_), .val (.double dg), .second, .val (.double dh), .second, .val (.int pw), .val (.int pv)] [(.ref ba)])) (fun t k => XS.aloadN X106.here hx rfl (hb hby d1_48) rfl rfl k) ?_
  refine GoH.step (T' := T106) (f' := (mkF m 51 #[.val (.ref ba), .val (.int pa), .val (.int pb), .val (.int pc_), .val (.double dg), .second, .val (.double dh), .second, .val (.int pw), .val (.int pv)] [(.double dh), (.ref ba)])) (fun t k => Jvm.Free.XS.dload X106.here hx rfl (hb hby d1_49) rfl k) ?_
  obtain ⟨a121, T121, h121, kk121, X121, e121, E121, hS121, hk121, hZ, hown, ch121, Li121, st121⟩ := ldcOH (s := s) (vm0 := T92.vm) X106 hx hZ hown (hw _ (List.mem_of_getElem? (i := 47) rfl)) (own_wS hw) e106 hS92 hk110 hEL CR109.1 (g := (mkF m 51 #[.val (.ref ba), .val (.int pa), .val (.int pb), .val (.int pc_), .val (.double dg), .second, .val (.double dh), .second, .val (.int pw), .val (.int pv)] [(.double dh), (.ref ba)])) rfl (hb hby d1_51) (n := 56) (by decide) (by decide) (by decide) (by decide)
  have CR122 := CR109.trans ch121
  have f123 := f111.ext E121
  have f124 := f112.ext E121
  have f125 := f113.ext E121
  have f126 := f114.ext E121
  have f127 := f115.ext E121
  have f128 := f116.ext E121
  have f129 := f117.ext E121
  have f130 := f107.ext E121
  have O131 := O118.ext E121
  have K132 := K119.ext E121
  refine GoH.step (T' := T121) (f' := (mkF m 53 #[.val (.ref ba), .val (.int pa), .val (.int pb), .val (.int pc_), .val (.double dg), .second, .val (.double dh), .second, .val (.int pw), .val (.int pv)] [(.ref a121), (.double dh), (.ref ba)])) st121 ?_
  clear st121 X106 CR109 hS92 hk110 f111 f112 f113 f114 f115 f116 f117 f107 O118 K119
  obtain ⟨_, _, ⟨T133, L133, k133, n133⟩, -, X133, ⟨Lc133, hQ133, l133, y133, z133⟩, st133⟩ := Jvm.LawKit.callS X121 hx (y := (⟨"com/example/honest_search/honestsearch/index/PhraseSettings", "gain", "(DLjava/lang/String;)D"⟩ : MethodName)) hown (mvT hZ (hw _ (List.mem_of_getElem? (i := 33) rfl))) (mvT hZ (hw _ (List.mem_of_getElem? (i := 34) rfl))) (mvT hZ (hw _ (List.mem_of_getElem? (i := 5) rfl))) (mvT hZ (hw _ (List.mem_of_getElem? (i := 35) rfl))) (by decide) (backOf (W := 1) (rm_gain l Z a0 hw [] dh a121 h121 n0 O131 (hnh) (hzh) (hih)) hZ (hw _ (List.mem_of_getElem? (i := 35) rfl)) (hw _ (List.mem_of_getElem? (i := 5) rfl)) (by decide) (by decide)) (g := (mkF m 53 #[.val (.ref ba), .val (.int pa), .val (.int pb), .val (.int pc_), .val (.double dg), .second, .val (.double dh), .second, .val (.int pw), .val (.int pv)] [(.ref a121), (.double dh), (.ref ba)])) rfl (by rw [hml]; rfl) (argsL := [(.double dh), (.ref a121)]) (rest := [(.ref ba)]) (lenOf pd3 rfl) rfl (by show 2 * 0 + _ ≤ _; exact Nat.le_of_eq rfl) (hb hby d1_53) (fun _ _ => ⟨rfl, e121, (by decide : 10 + 0 ≤ _), (by decide : 320 + 0 ≤ _)⟩)
  dsimp only [Pt.U, Pt.locs, Pt.cells, Pt.slots] at X133 l133 y133 z133 st133 hQ133
  subst l133 y133 z133
  obtain ⟨rfl, Nq133, hh133⟩ := hQ133
  have N134 := Fr.app N120 Nq133
  refine GoH.step (T' := T133) (f' := (mkF m 56 #[.val (.ref ba), .val (.int pa), .val (.int pb), .val (.int pc_), .val (.double dg), .second, .val (.double dh), .second, .val (.int pw), .val (.int pv)] [(.double dh), (.ref ba)])) st133 ?_
  clear st133 X121 N120 Nq133
  obtain ⟨T135, h135, X135, e135, W135, st135⟩ := putF X133 hx hZ hown (host := "") (Or.inl (hw _ (List.mem_of_getElem? (i := 48) rfl))) Via.refl hh133 f124 f123 (Or.inr ⟨(hw _ (List.mem_of_getElem? (i := 49) rfl)), rfl, hnm⟩) (hw _ (List.mem_of_getElem? (i := 4) rfl)) (ty := .double) (by decide) rfl rfl (g := (mkF m 56 #[.val (.ref ba), .val (.int pa), .val (.int pb), .val (.int pc_), .val (.double dg), .second, .val (.double dh), .second, .val (.int pw), .val (.int pv)] [(.double dh), (.ref ba)])) rfl rfl (hb hby d1_56)
  have f136 := f124.same W135
  have sa137 : Safe Z own_EL T121.vm h121 ba := (Safe.exa (EL := own_EL) hZ.alike f123 (by decide) (by decide))
  have CR138 := CR122.trans (CHr.wr W135 sa137 CR122.1)
  have hk139 := (by rw [W135.size]; exact hk121 : _ ≤ h135.size)
  have f140 := f123.wr W135
  have f141 := f125.other W135 (Or.inr (slot_ne (Or.inr (hw _ (List.mem_of_getElem? (i := 52) rfl))) (Or.inr (hw _ (List.mem_of_getElem? (i := 49) rfl))) (by decide) (t := .int) (t' := .double) (by decide) (by decide)))
  have f142 := f126.other W135 (Or.inr (slot_ne (Or.inr (hw _ (List.mem_of_getElem? (i := 55) rfl))) (Or.inr (hw _ (List.mem_of_getElem? (i := 49) rfl))) (by decide) (t := .int) (t' := .double) (by decide) (by decide)))
  have f143 := f127.other W135 (Or.inr (slot_ne (Or.inr (hw _ (List.mem_of_getElem? (i := 25) rfl))) (Or.inr (hw _ (List.mem_of_getElem? (i := 49) rfl))) (by decide) (t := .int) (t' := .double) (by decide) (by decide)))
  have f144 := f128.other W135 (Or.inr (slot_ne (Or.inr (hw _ (List.mem_of_getElem? (i := 28) rfl))) (Or.inr (hw _ (List.mem_of_getElem? (i := 49) rfl))) (by decide) (t := .int) (t' := .double) (by decide) (by decide)))
  have f145 := f129.other W135 (Or.inr (slot_ne (Or.inr (hw _ (List.mem_of_getElem? (i := 31) rfl))) (Or.inr (hw _ (List.mem_of_getElem? (i := 49) rfl))) (by decide) (t := .int) (t' := .double) (by decide) (by decide)))
  have f146 := f130.other W135 (Or.inr (slot_ne (Or.inr (hw _ (List.mem_of_getElem? (i := 46) rfl))) (Or.inr (hw _ (List.mem_of_getElem? (i := 49) rfl))) (by decide) (t := .double) (t' := .double) (by decide) (by decide)))
  have O147 := O131.wr W135 P8
  have K148 := K132.wr W135 (Or.inl (List.mem_of_getElem? (i := 0) rfl))
  have N149 := Fr.snoc X135 N134 P8
  refine GoH.step (T' := T135) (f' := (mkF m 59 #[.val (.ref ba), .val (.int pa), .val (.int pb), .val (.int pc_), .val (.double dg), .second, .val (.double dh), .second, .val (.int pw), .val (.int pv)] [])) st135 ?_
  clear st135 X133 CR122 hk121 sa137 f123 f125 f126 f127 f128 f129 f130 O131 K132 N134
  refine GoH.step (T' := T135) (f' := (mkF m 60 #[.val (.ref ba), .val (.int pa), .val (.int pb), .val (.int pc_), .val (.double dg), .second, .val (.double dh), .second, .val (.int pw), .val (.int pv)] [(.ref ba)])) (fun t k => XS.aloadN X135.here hx rfl (hb hby d1_59) rfl rfl k) ?_
  refine GoH.step (T' := T135) (f' := (mkF m 61 #[.val (.ref ba), .val (.int pa), .val (.int pb), .val (.int pc_), .val (.double dg), .second, .val (.double dh), .second, .val (.int pw), .val (.int pv)] [(.int (1 : Int32)), (.ref ba)])) (fun t k => XS.iconst X135.here hx rfl (hb hby d1_60) k) ?_
  refine GoH.step (T' := T135) (f' := (mkF m 63 #[.val (.ref ba), .val (.int pa), .val (.int pb), .val (.int pc_), .val (.double dg), .second, .val (.double dh), .second, .val (.int pw), .val (.int pv)] [(.int pw), (.int (1 : Int32)), (.ref ba)])) (fun t k => XS.iload X135.here hx rfl (hb hby d1_61) rfl k) ?_
  obtain ⟨a150, T150, h150, kk150, X150, e150, E150, hS150, hk150, hZ, hown, ch150, Li150, st150⟩ := ldcOH (s := s) (vm0 := T121.vm) X135 hx hZ hown (hw _ (List.mem_of_getElem? (i := 50) rfl)) (own_wS hw) e135 hS121 hk139 hEL CR138.1 (g := (mkF m 63 #[.val (.ref ba), .val (.int pa), .val (.int pb), .val (.int pc_), .val (.double dg), .second, .val (.double dh), .second, .val (.int pw), .val (.int pv)] [(.int pw), (.int (1 : Int32)), (.ref ba)])) rfl (hb hby d1_63) (n := 72) (by decide) (by decide) (by decide) (by decide)
  have CR151 := CR138.trans ch150
  have f152 := f140.ext E150
  have f153 := f141.ext E150
  have f154 := f142.ext E150
  have f155 := f143.ext E150
  have f156 := f144.ext E150
  have f157 := f145.ext E150
  have f158 := f146.ext E150
  have f159 := f136.ext E150
  have O160 := O147.ext E150
  have K161 := K148.ext E150
  refine GoH.step (T' := T150) (f' := (mkF m 65 #[.val (.ref ba), .val (.int pa), .val (.int pb), .val (.int pc_), .val (.double dg), .second, .val (.double dh), .second, .val (.int pw), .val (.int pv)] [(.ref a150), (.int pw), (.int (1 : Int32)), (.ref ba)])) st150 ?_
  clear st150 X135 CR138 hS121 hk139 f140 f141 f142 f143 f144 f145 f146 f136 O147 K148
  obtain ⟨_, _, ⟨T162, L162, k162, n162⟩, -, X162, ⟨Lc162, hQ162, l162, y162, z162⟩, st162⟩ := Jvm.LawKit.callS X150 hx (y := (⟨"com/example/honest_search/honestsearch/index/PhraseSettings", "atLeast", "(IILjava/lang/String;)I"⟩ : MethodName)) hown (mvT hZ (hw _ (List.mem_of_getElem? (i := 21) rfl))) (mvT hZ (hw _ (List.mem_of_getElem? (i := 22) rfl))) (mvT hZ (hw _ (List.mem_of_getElem? (i := 5) rfl))) (mvT hZ (hw _ (List.mem_of_getElem? (i := 23) rfl))) (by decide) (backOf (W := 1) (rm_atl l Z a0 hw [] (1 : Int32) pw a150 h150 n0 O160 (hpw0)) hZ (hw _ (List.mem_of_getElem? (i := 23) rfl)) (hw _ (List.mem_of_getElem? (i := 5) rfl)) (by decide) (by decide)) (g := (mkF m 65 #[.val (.ref ba), .val (.int pa), .val (.int pb), .val (.int pc_), .val (.double dg), .second, .val (.double dh), .second, .val (.int pw), .val (.int pv)] [(.ref a150), (.int pw), (.int (1 : Int32)), (.ref ba)])) rfl (by rw [hml]; rfl) (argsL := [(.int (1 : Int32)), (.int pw), (.ref a150)]) (rest := [(.ref ba)]) (lenOf pd2 rfl) rfl (by show 2 * 0 + _ ≤ _; exact Nat.le_of_eq rfl) (hb hby d1_65) (fun _ _ => ⟨rfl, e150, (by decide : 12 + 0 ≤ _), (by decide : 396 + 0 ≤ _)⟩)
  dsimp only [Pt.U, Pt.locs, Pt.cells, Pt.slots] at X162 l162 y162 z162 st162 hQ162
  subst l162 y162 z162
  obtain ⟨rfl, Nq162, hh162⟩ := hQ162
  have N163 := Fr.app N149 Nq162
  refine GoH.step (T' := T162) (f' := (mkF m 68 #[.val (.ref ba), .val (.int pa), .val (.int pb), .val (.int pc_), .val (.double dg), .second, .val (.double dh), .second, .val (.int pw), .val (.int pv)] [(.int pw), (.ref ba)])) st162 ?_
  clear st162 X150 N149 Nq162
  obtain ⟨T164, h164, X164, e164, W164, st164⟩ := putF X162 hx hZ hown (host := "") (Or.inl (hw _ (List.mem_of_getElem? (i := 51) rfl))) Via.refl hh162 f153 f152 (Or.inr ⟨(hw _ (List.mem_of_getElem? (i := 52) rfl)), rfl, hnm⟩) (hw _ (List.mem_of_getElem? (i := 4) rfl)) (ty := .int) (by decide) rfl rfl (g := (mkF m 68 #[.val (.ref ba), .val (.int pa), .val (.int pb), .val (.int pc_), .val (.double dg), .second, .val (.double dh), .second, .val (.int pw), .val (.int pv)] [(.int pw), (.ref ba)])) rfl rfl (hb hby d1_68)
  have f165 := f153.same W164
  have sa166 : Safe Z own_EL T150.vm h150 ba := (Safe.exa (EL := own_EL) hZ.alike f152 (by decide) (by decide))
  have CR167 := CR151.trans (CHr.wr W164 sa166 CR151.1)
  have hk168 := (by rw [W164.size]; exact hk150 : _ ≤ h164.size)
  have f169 := f152.wr W164
  have f170 := f154.other W164 (Or.inr (slot_ne (Or.inr (hw _ (List.mem_of_getElem? (i := 55) rfl))) (Or.inr (hw _ (List.mem_of_getElem? (i := 52) rfl))) (by decide) (t := .int) (t' := .int) (by decide) (by decide)))
  have f171 := f155.other W164 (Or.inr (slot_ne (Or.inr (hw _ (List.mem_of_getElem? (i := 25) rfl))) (Or.inr (hw _ (List.mem_of_getElem? (i := 52) rfl))) (by decide) (t := .int) (t' := .int) (by decide) (by decide)))
  have f172 := f156.other W164 (Or.inr (slot_ne (Or.inr (hw _ (List.mem_of_getElem? (i := 28) rfl))) (Or.inr (hw _ (List.mem_of_getElem? (i := 52) rfl))) (by decide) (t := .int) (t' := .int) (by decide) (by decide)))
  have f173 := f157.other W164 (Or.inr (slot_ne (Or.inr (hw _ (List.mem_of_getElem? (i := 31) rfl))) (Or.inr (hw _ (List.mem_of_getElem? (i := 52) rfl))) (by decide) (t := .int) (t' := .int) (by decide) (by decide)))
  have f174 := f158.other W164 (Or.inr (slot_ne (Or.inr (hw _ (List.mem_of_getElem? (i := 46) rfl))) (Or.inr (hw _ (List.mem_of_getElem? (i := 52) rfl))) (by decide) (t := .double) (t' := .int) (by decide) (by decide)))
  have f175 := f159.other W164 (Or.inr (slot_ne (Or.inr (hw _ (List.mem_of_getElem? (i := 49) rfl))) (Or.inr (hw _ (List.mem_of_getElem? (i := 52) rfl))) (by decide) (t := .double) (t' := .int) (by decide) (by decide)))
  have O176 := O160.wr W164 P8
  have K177 := K161.wr W164 (Or.inl (List.mem_of_getElem? (i := 0) rfl))
  have N178 := Fr.snoc X164 N163 P8
  refine GoH.step (T' := T164) (f' := (mkF m 71 #[.val (.ref ba), .val (.int pa), .val (.int pb), .val (.int pc_), .val (.double dg), .second, .val (.double dh), .second, .val (.int pw), .val (.int pv)] [])) st164 ?_
  clear st164 X162 CR151 hk150 sa166 f152 f154 f155 f156 f157 f158 f159 O160 K161 N163
  refine GoH.step (T' := T164) (f' := (mkF m 72 #[.val (.ref ba), .val (.int pa), .val (.int pb), .val (.int pc_), .val (.double dg), .second, .val (.double dh), .second, .val (.int pw), .val (.int pv)] [(.ref ba)])) (fun t k => XS.aloadN X164.here hx rfl (hb hby d1_71) rfl rfl k) ?_
  refine GoH.step (T' := T164) (f' := (mkF m 73 #[.val (.ref ba), .val (.int pa), .val (.int pb), .val (.int pc_), .val (.double dg), .second, .val (.double dh), .second, .val (.int pw), .val (.int pv)] [(.int (0 : Int32)), (.ref ba)])) (fun t k => XS.iconst X164.here hx rfl (hb hby d1_72) k) ?_
  refine GoH.step (T' := T164) (f' := (mkF m 75 #[.val (.ref ba), .val (.int pa), .val (.int pb), .val (.int pc_), .val (.double dg), .second, .val (.double dh), .second, .val (.int pw), .val (.int pv)] [(.int pv), (.int (0 : Int32)), (.ref ba)])) (fun t k => XS.iload X164.here hx rfl (hb hby d1_73) rfl k) ?_
  obtain ⟨a179, T179, h179, kk179, X179, e179, E179, hS179, hk179, hZ, hown, ch179, Li179, st179⟩ := ldcOH (s := s) (vm0 := T150.vm) X164 hx hZ hown (hw _ (List.mem_of_getElem? (i := 53) rfl)) (own_wS hw) e164 hS150 hk168 hEL CR167.1 (g := (mkF m 75 #[.val (.ref ba), .val (.int pa), .val (.int pb), .val (.int pc_), .val (.double dg), .second, .val (.double dh), .second, .val (.int pw), .val (.int pv)] [(.int pv), (.int (0 : Int32)), (.ref ba)])) rfl (hb hby d1_75) (n := 32) (by decide) (by decide) (by decide) (by decide)
  have CR180 := CR167.trans ch179
  have f181 := f169.ext E179
  have f182 := f170.ext E179
  have f183 := f171.ext E179
  have f184 := f172.ext E179
  have f185 := f173.ext E179
  have f186 := f174.ext E179
  have f187 := f175.ext E179
  have f188 := f165.ext E179
  have O189 := O176.ext E179
  have K190 := K177.ext E179
  refine GoH.step (T' := T179) (f' := (mkF m 77 #[.val (.ref ba), .val (.int pa), .val (.int pb), .val (.int pc_), .val (.double dg), .second, .val (.double dh), .second, .val (.int pw), .val (.int pv)] [(.ref a179), (.int pv), (.int (0 : Int32)), (.ref ba)])) st179 ?_
  clear st179 X164 CR167 hS150 hk168 f169 f170 f171 f172 f173 f174 f175 f165 O176 K177
  obtain ⟨_, _, ⟨T191, L191, k191, n191⟩, -, X191, ⟨Lc191, hQ191, l191, y191, z191⟩, st191⟩ := Jvm.LawKit.callS X179 hx (y := (⟨"com/example/honest_search/honestsearch/index/PhraseSettings", "atLeast", "(IILjava/lang/String;)I"⟩ : MethodName)) hown (mvT hZ (hw _ (List.mem_of_getElem? (i := 21) rfl))) (mvT hZ (hw _ (List.mem_of_getElem? (i := 22) rfl))) (mvT hZ (hw _ (List.mem_of_getElem? (i := 5) rfl))) (mvT hZ (hw _ (List.mem_of_getElem? (i := 23) rfl))) (by decide) (backOf (W := 1) (rm_atl l Z a0 hw [] (0 : Int32) pv a179 h179 n0 O189 (hpv0)) hZ (hw _ (List.mem_of_getElem? (i := 23) rfl)) (hw _ (List.mem_of_getElem? (i := 5) rfl)) (by decide) (by decide)) (g := (mkF m 77 #[.val (.ref ba), .val (.int pa), .val (.int pb), .val (.int pc_), .val (.double dg), .second, .val (.double dh), .second, .val (.int pw), .val (.int pv)] [(.ref a179), (.int pv), (.int (0 : Int32)), (.ref ba)])) rfl (by rw [hml]; rfl) (argsL := [(.int (0 : Int32)), (.int pv), (.ref a179)]) (rest := [(.ref ba)]) (lenOf pd2 rfl) rfl (by show 2 * 0 + _ ≤ _; exact Nat.le_of_eq rfl) (hb hby d1_77) (fun _ _ => ⟨rfl, e179, (by decide : 14 + 0 ≤ _), (by decide : 432 + 0 ≤ _)⟩)
  dsimp only [Pt.U, Pt.locs, Pt.cells, Pt.slots] at X191 l191 y191 z191 st191 hQ191
  subst l191 y191 z191
  obtain ⟨rfl, Nq191, hh191⟩ := hQ191
  have N192 := Fr.app N178 Nq191
  refine GoH.step (T' := T191) (f' := (mkF m 80 #[.val (.ref ba), .val (.int pa), .val (.int pb), .val (.int pc_), .val (.double dg), .second, .val (.double dh), .second, .val (.int pw), .val (.int pv)] [(.int pv), (.ref ba)])) st191 ?_
  clear st191 X179 N178 Nq191
  obtain ⟨T193, h193, X193, e193, W193, st193⟩ := putF X191 hx hZ hown (host := "") (Or.inl (hw _ (List.mem_of_getElem? (i := 54) rfl))) Via.refl hh191 f182 f181 (Or.inr ⟨(hw _ (List.mem_of_getElem? (i := 55) rfl)), rfl, hnm⟩) (hw _ (List.mem_of_getElem? (i := 4) rfl)) (ty := .int) (by decide) rfl rfl (g := (mkF m 80 #[.val (.ref ba), .val (.int pa), .val (.int pb), .val (.int pc_), .val (.double dg), .second, .val (.double dh), .second, .val (.int pw), .val (.int pv)] [(.int pv), (.ref ba)])) rfl rfl (hb hby d1_80)
  have f194 := f182.same W193
  have sa195 : Safe Z own_EL T179.vm h179 ba := (Safe.exa (EL := own_EL) hZ.alike f181 (by decide) (by decide))
  have CR196 := CR180.trans (CHr.wr W193 sa195 CR180.1)
  have hk197 := (by rw [W193.size]; exact hk179 : _ ≤ h193.size)
  have f198 := f181.wr W193
  have f199 := f183.other W193 (Or.inr (slot_ne (Or.inr (hw _ (List.mem_of_getElem? (i := 25) rfl))) (Or.inr (hw _ (List.mem_of_getElem? (i := 55) rfl))) (by decide) (t := .int) (t' := .int) (by decide) (by decide)))
  have f200 := f184.other W193 (Or.inr (slot_ne (Or.inr (hw _ (List.mem_of_getElem? (i := 28) rfl))) (Or.inr (hw _ (List.mem_of_getElem? (i := 55) rfl))) (by decide) (t := .int) (t' := .int) (by decide) (by decide)))
  have f201 := f185.other W193 (Or.inr (slot_ne (Or.inr (hw _ (List.mem_of_getElem? (i := 31) rfl))) (Or.inr (hw _ (List.mem_of_getElem? (i := 55) rfl))) (by decide) (t := .int) (t' := .int) (by decide) (by decide)))
  have f202 := f186.other W193 (Or.inr (slot_ne (Or.inr (hw _ (List.mem_of_getElem? (i := 46) rfl))) (Or.inr (hw _ (List.mem_of_getElem? (i := 55) rfl))) (by decide) (t := .double) (t' := .int) (by decide) (by decide)))
  have f203 := f187.other W193 (Or.inr (slot_ne (Or.inr (hw _ (List.mem_of_getElem? (i := 49) rfl))) (Or.inr (hw _ (List.mem_of_getElem? (i := 55) rfl))) (by decide) (t := .double) (t' := .int) (by decide) (by decide)))
  have f204 := f188.other W193 (Or.inr (slot_ne (Or.inr (hw _ (List.mem_of_getElem? (i := 52) rfl))) (Or.inr (hw _ (List.mem_of_getElem? (i := 55) rfl))) (by decide) (t := .int) (t' := .int) (by decide) (by decide)))
  have O205 := O189.wr W193 P8
  have K206 := K190.wr W193 (Or.inl (List.mem_of_getElem? (i := 0) rfl))
  have N207 := Fr.snoc X193 N192 P8
  refine GoH.step (T' := T193) (f' := (mkF m 83 #[.val (.ref ba), .val (.int pa), .val (.int pb), .val (.int pc_), .val (.double dg), .second, .val (.double dh), .second, .val (.int pw), .val (.int pv)] [])) st193 ?_
  clear st193 X191 CR180 hk179 sa195 f181 f183 f184 f185 f186 f187 f188 O189 K190 N192
  refine GoH.fin X193 hZ hEL hS179 hk197 CR196 hlk (v := none) (fun _ => rfl) (fun fs hr => X193.returnOut hx Bd.returns (hb hby d1_83) hr) e193 ?_ (by decide) (by decide)
  exact ⟨rfl, N207, K206, f198, f199, f200, f201, f202, f203, f204, f194⟩
theorem d7_0 : decode prog_21_method_9_code 0 = .ok (.aload_n 1, 1) := by decide +kernel
theorem d7_1 : decode prog_21_method_9_code 1 = .ok (.instanceof 10, 3) := by decide +kernel
theorem d7_4 : decode prog_21_method_9_code 4 = .ok (.ifCond .eq 11, 3) := by decide +kernel
theorem d7_7 : decode prog_21_method_9_code 7 = .ok (.aload_n 1, 1) := by decide +kernel
theorem d7_8 : decode prog_21_method_9_code 8 = .ok (.checkcast 10, 3) := by decide +kernel
theorem d7_11 : decode prog_21_method_9_code 11 = .ok (.astore_n 2, 1) := by decide +kernel
theorem d7_12 : decode prog_21_method_9_code 12 = .ok (.goto 5, 3) := by decide +kernel
theorem d7_17 : decode prog_21_method_9_code 17 = .ok (.aload_n 0, 1) := by decide +kernel
theorem d7_18 : decode prog_21_method_9_code 18 = .ok (.getfield 15, 3) := by decide +kernel
theorem d7_21 : decode prog_21_method_9_code 21 = .ok (.aload_n 2, 1) := by decide +kernel
theorem d7_22 : decode prog_21_method_9_code 22 = .ok (.getfield 15, 3) := by decide +kernel
theorem d7_25 : decode prog_21_method_9_code 25 = .ok (.if_icmp .ne 75, 3) := by decide +kernel
theorem d7_28 : decode prog_21_method_9_code 28 = .ok (.aload_n 0, 1) := by decide +kernel
theorem d7_29 : decode prog_21_method_9_code 29 = .ok (.getfield 21, 3) := by decide +kernel
theorem d7_32 : decode prog_21_method_9_code 32 = .ok (.aload_n 2, 1) := by decide +kernel
theorem d7_33 : decode prog_21_method_9_code 33 = .ok (.getfield 21, 3) := by decide +kernel
theorem d7_36 : decode prog_21_method_9_code 36 = .ok (.if_icmp .ne 64, 3) := by decide +kernel
theorem d7_39 : decode prog_21_method_9_code 39 = .ok (.aload_n 0, 1) := by decide +kernel
theorem d7_40 : decode prog_21_method_9_code 40 = .ok (.getfield 26, 3) := by decide +kernel
theorem d7_43 : decode prog_21_method_9_code 43 = .ok (.aload_n 2, 1) := by decide +kernel
theorem d7_44 : decode prog_21_method_9_code 44 = .ok (.getfield 26, 3) := by decide +kernel
theorem d7_47 : decode prog_21_method_9_code 47 = .ok (.if_icmp .ne 53, 3) := by decide +kernel
theorem d7_50 : decode prog_21_method_9_code 50 = .ok (.aload_n 0, 1) := by decide +kernel
theorem d7_51 : decode prog_21_method_9_code 51 = .ok (.getfield 35, 3) := by decide +kernel
theorem d7_54 : decode prog_21_method_9_code 54 = .ok (.aload_n 2, 1) := by decide +kernel
theorem d7_55 : decode prog_21_method_9_code 55 = .ok (.getfield 35, 3) := by decide +kernel
theorem d7_58 : decode prog_21_method_9_code 58 = .ok (.dcmp .l, 1) := by decide +kernel
theorem d7_59 : decode prog_21_method_9_code 59 = .ok (.ifCond .ne 41, 3) := by decide +kernel
theorem d7_62 : decode prog_21_method_9_code 62 = .ok (.aload_n 0, 1) := by decide +kernel
theorem d7_63 : decode prog_21_method_9_code 63 = .ok (.getfield 41, 3) := by decide +kernel
theorem d7_66 : decode prog_21_method_9_code 66 = .ok (.aload_n 2, 1) := by decide +kernel
theorem d7_67 : decode prog_21_method_9_code 67 = .ok (.getfield 41, 3) := by decide +kernel
theorem d7_70 : decode prog_21_method_9_code 70 = .ok (.dcmp .l, 1) := by decide +kernel
theorem d7_71 : decode prog_21_method_9_code 71 = .ok (.ifCond .ne 29, 3) := by decide +kernel
theorem d7_74 : decode prog_21_method_9_code 74 = .ok (.aload_n 0, 1) := by decide +kernel
theorem d7_75 : decode prog_21_method_9_code 75 = .ok (.getfield 46, 3) := by decide +kernel
theorem d7_78 : decode prog_21_method_9_code 78 = .ok (.aload_n 2, 1) := by decide +kernel
theorem d7_79 : decode prog_21_method_9_code 79 = .ok (.getfield 46, 3) := by decide +kernel
theorem d7_82 : decode prog_21_method_9_code 82 = .ok (.if_icmp .ne 18, 3) := by decide +kernel
theorem d7_85 : decode prog_21_method_9_code 85 = .ok (.aload_n 0, 1) := by decide +kernel
theorem d7_86 : decode prog_21_method_9_code 86 = .ok (.getfield 51, 3) := by decide +kernel
theorem d7_89 : decode prog_21_method_9_code 89 = .ok (.aload_n 2, 1) := by decide +kernel
theorem d7_90 : decode prog_21_method_9_code 90 = .ok (.getfield 51, 3) := by decide +kernel
theorem d7_93 : decode prog_21_method_9_code 93 = .ok (.if_icmp .ne 7, 3) := by decide +kernel
theorem d7_96 : decode prog_21_method_9_code 96 = .ok (.iconst 1, 1) := by decide +kernel
theorem d7_97 : decode prog_21_method_9_code 97 = .ok (.goto 4, 3) := by decide +kernel
theorem d7_100 : decode prog_21_method_9_code 100 = .ok (.iconst 0, 1) := by decide +kernel
theorem d7_101 : decode prog_21_method_9_code 101 = .ok (.ireturn, 1) := by decide +kernel
theorem ef_peq (m : MethodId) (ba : Addr) (bb : Addr) : entryFrame m #[(.ref ba), (.ref bb)] 3 = mkF m 0 #[.val (.ref ba), .val (.ref bb), .unset] [] := by first | (simp [entryFrame, mkF, argsToLocals, Value.category]; done) | rfl
def Q_peq (Z : State) (ba : Addr) (bb : Addr) (xa : Int32) (xb : Int32) (xc : Int32) (dxg : UInt64) (dxh : UInt64) (xw : Int32) (xv : Int32) (ya : Int32) (yb : Int32) (yc : Int32) (dyg : UInt64) (dyh : UInt64) (yw : Int32) (yv : Int32) (h0 : Heap) (n0 : Nat) (v : Option Value) (h : Heap) (L : List Loc) : Prop := v = some (.int (if xa = ya ∧ xb = yb ∧ xc = yc ∧ (cmpValue (FP.dcmp dxg dyg) .l) = (0 : Int32) ∧ (cmpValue (FP.dcmp dxh dyh) .l) = (0 : Int32) ∧ xw = yw ∧ xv = yv then (1 : Int32) else 0)) ∧ Fr n0 L ∧ h = h0
set_option maxRecDepth 65536 in
set_option maxHeartbeats 40000000 in
theorem rm_peq (l : Launch) (Z : State) (a0 : Array Value) (hw : ∀ d ∈ tables_1, d.before a0 Z = true) (ws : List Jvm.Cond) (ba : Addr) (bb : Addr) (xa : Int32) (xb : Int32) (xc : Int32) (dxg : UInt64) (dxh : UInt64) (xw : Int32) (xv : Int32) (ya : Int32) (yb : Int32) (yc : Int32) (dyg : UInt64) (dyh : UInt64) (yw : Int32) (yv : Int32) (h0 : Heap) (n0 : Nat) (O0 : Old Z n0 h0) (P0 : Exa Z h0 bb "com/example/honest_search/honestsearch/index/PhraseSettings") (P1 : Fld Z h0 ba "com/example/honest_search/honestsearch/index/PhraseSettings" "minDocuments" "I" (.int xa)) (P2 : Fld Z h0 ba "com/example/honest_search/honestsearch/index/PhraseSettings" "minInstances" "I" (.int xb)) (P3 : Fld Z h0 ba "com/example/honest_search/honestsearch/index/PhraseSettings" "minInteresting" "I" (.int xc)) (P4 : Fld Z h0 ba "com/example/honest_search/honestsearch/index/PhraseSettings" "predictGain" "D" (.double dxg)) (P5 : Fld Z h0 ba "com/example/honest_search/honestsearch/index/PhraseSettings" "relatedGain" "D" (.double dxh)) (P6 : Fld Z h0 ba "com/example/honest_search/honestsearch/index/PhraseSettings" "maxPhraseWords" "I" (.int xw)) (P7 : Fld Z h0 ba "com/example/honest_search/honestsearch/index/PhraseSettings" "window" "I" (.int xv)) (P8 : Fld Z h0 bb "com/example/honest_search/honestsearch/index/PhraseSettings" "minDocuments" "I" (.int ya)) (P9 : Fld Z h0 bb "com/example/honest_search/honestsearch/index/PhraseSettings" "minInstances" "I" (.int yb)) (P10 : Fld Z h0 bb "com/example/honest_search/honestsearch/index/PhraseSettings" "minInteresting" "I" (.int yc)) (P11 : Fld Z h0 bb "com/example/honest_search/honestsearch/index/PhraseSettings" "predictGain" "D" (.double dyg)) (P12 : Fld Z h0 bb "com/example/honest_search/honestsearch/index/PhraseSettings" "relatedGain" "D" (.double dyh)) (P13 : Fld Z h0 bb "com/example/honest_search/honestsearch/index/PhraseSettings" "maxPhraseWords" "I" (.int yw)) (P14 : Fld Z h0 bb "com/example/honest_search/honestsearch/index/PhraseSettings" "window" "I" (.int yv)) :
    MetFree l (⟨"com/example/honest_search/honestsearch/index/PhraseSettings", "equals", "(Ljava/lang/Object;)Z"⟩ : MethodName) (head1 (Jvm.Cond.code (⟨"com/example/honest_search/honestsearch/index/PhraseSettings", "equals", "(Ljava/lang/Object;)Z"⟩ : MethodName) prog_21_method_9_code 3 (some .boolean) :: ws) ({ frames := 0, cells := 0, slots := 0, locals := 0 } : Room)) (fun a U => a = #[(.ref ba), (.ref bb)] ∧ Z.Warmed39 U.vm ∧ U.heap = h0) (fun _ _ _ _ _ => True) (fun _ U o U' => ∃ v L, o = .returned v ∧ Q_peq Z ba bb xa xb xc dxg dxh xw xv ya yb yc dyg dyh yw yv h0 n0 v U'.heap L ∧ FrameEnd U o U' L ({ frames := 0, cells := 0, slots := 0, locals := 0 } : Room).cells ({ frames := 0, cells := 0, slots := 0, locals := 0 } : Room).slots) := by
  refine MetFree.of_bodySF (plainFor_of_name pn_com_example_honest_search_honestsearch_index_PhraseSettings) hisR ?_
  intro p e s m args below meth c s₁ Bd hml0 hP hK
  obtain ⟨rfl, hZ, hh⟩ := hP
  have hx := Bd.exec
  have hby := Bd.bytes
  have hml : c.maxLocals = 3 := hml0
  have hown : s.vm.findClass "com/example/honest_search/honestsearch/index/PhraseSettings" = some m.cls := findClass_of_methodNamed Bd.named
  have hnm := (name_of_methodNamed Bd.named Bd.method).1
  have hlk : meth.locks = false := BodyLoose.notSynchronized Bd
  have X0 : Stand p l e ({ frames := 0, cells := 0, slots := 0, locals := 0 } : Room) s m #[(.ref ba), (.ref bb)] below meth c s₁ [] 0 0 := Stand.of_body Bd
  have e0 : s₁.heap = h0 := by rw [← hh, Bd.state]; rfl
  have N0 := Fr.nil n0
  rw [ef_peq m ba bb]
  show Go p e below s (fun v h L => Q_peq Z ba bb xa xb xc dxg dxh xw xv ya yb yc dyg dyh yw yv h0 n0 v h L) ({ frames := 0, cells := 0, slots := 0, locals := 0 } : Room).cells ({ frames := 0, cells := 0, slots := 0, locals := 0 } : Room).slots s₁ (mkF m 0 #[.val (.ref ba), .val (.ref bb), .unset] [])
  refine Go.step (T' := s₁) (f' := (mkF m 1 #[.val (.ref ba), .val (.ref bb), .unset] [(.ref bb)])) (fun t k => XS.aloadN X0.here hx rfl (hb hby d7_0) rfl rfl k) ?_
  obtain ⟨T208, X208, e208, st208⟩ := instY X0 hx hZ hown (hw _ (List.mem_of_getElem? (i := 61) rfl)) e0 (Ins.self P0) (g := (mkF m 1 #[.val (.ref ba), .val (.ref bb), .unset] [(.ref bb)])) rfl rfl (hb hby d7_1)
  refine Go.step (T' := T208) (f' := (mkF m 4 #[.val (.ref ba), .val (.ref bb), .unset] [(.int (1 : Int32))])) st208 ?_
  clear st208 X0
  refine Go.step (T' := T208) (f' := (mkF m 7 #[.val (.ref ba), .val (.ref bb), .unset] [])) (fun t k => XS.ifNo X208.here hx rfl (hb hby d7_4) rfl ((if0 _ _).trans (feq (by decide : ¬ ((1 : Int32) = (0 : Int32)))).1) k) ?_
  refine Go.step (T' := T208) (f' := (mkF m 8 #[.val (.ref ba), .val (.ref bb), .unset] [(.ref bb)])) (fun t k => XS.aloadN X208.here hx rfl (hb hby d7_7) rfl rfl k) ?_
  obtain ⟨T209, X209, e209, st209⟩ := castY X208 hx hZ hown (hw _ (List.mem_of_getElem? (i := 61) rfl)) e208 (Ins.self P0) (g := (mkF m 8 #[.val (.ref ba), .val (.ref bb), .unset] [(.ref bb)])) rfl rfl (hb hby d7_8)
  refine Go.step (T' := T209) (f' := (mkF m 11 #[.val (.ref ba), .val (.ref bb), .unset] [(.ref bb)])) st209 ?_
  clear st209 X208
  refine Go.step (T' := T209) (f' := (mkF m 12 #[.val (.ref ba), .val (.ref bb), .val (.ref bb)] [])) (fun t k => XS.astoreN X209.here hx rfl (hb hby d7_11) rfl rfl (l' := #[.val (.ref ba), .val (.ref bb), .val (.ref bb)]) rfl k) ?_
  refine Go.step (T' := T209) (f' := (mkF m 17 #[.val (.ref ba), .val (.ref bb), .val (.ref bb)] [])) (fun t k => XS.goto X209.here hx rfl (pc0 := 12) (pc' := 17) rfl (hb hby d7_12) (by decide) (by decide) k) ?_
  refine Go.step (T' := T209) (f' := (mkF m 18 #[.val (.ref ba), .val (.ref bb), .val (.ref bb)] [(.ref ba)])) (fun t k => XS.aloadN X209.here hx rfl (hb hby d7_17) rfl rfl k) ?_
  obtain ⟨T210, X210, e210, st210⟩ := getF X209 hx hZ hown (host := "") (Or.inl (hw _ (List.mem_of_getElem? (i := 24) rfl))) Via.refl e209 P1 (g := (mkF m 18 #[.val (.ref ba), .val (.ref bb), .val (.ref bb)] [(.ref ba)])) rfl rfl (hb hby d7_18)
  refine Go.step (T' := T210) (f' := (mkF m 21 #[.val (.ref ba), .val (.ref bb), .val (.ref bb)] [(.int xa)])) st210 ?_
  clear st210 X209
  refine Go.step (T' := T210) (f' := (mkF m 22 #[.val (.ref ba), .val (.ref bb), .val (.ref bb)] [(.ref bb), (.int xa)])) (fun t k => XS.aloadN X210.here hx rfl (hb hby d7_21) rfl rfl k) ?_
  obtain ⟨T211, X211, e211, st211⟩ := getF X210 hx hZ hown (host := "") (Or.inl (hw _ (List.mem_of_getElem? (i := 24) rfl))) Via.refl e210 P8 (g := (mkF m 22 #[.val (.ref ba), .val (.ref bb), .val (.ref bb)] [(.ref bb), (.int xa)])) rfl rfl (hb hby d7_22)
  refine Go.step (T' := T211) (f' := (mkF m 25 #[.val (.ref ba), .val (.ref bb), .val (.ref bb)] [(.int ya), (.int xa)])) st211 ?_
  clear st211 X210
  by_cases hc212 : xa = ya
  ·
    refine Go.step (T' := T211) (f' := (mkF m 28 #[.val (.ref ba), .val (.ref bb), .val (.ref bb)] [])) (fun t k => XS.icmpNo X211.here hx rfl (hb hby d7_25) rfl (teq hc212).2 k) ?_
    refine Go.step (T' := T211) (f' := (mkF m 29 #[.val (.ref ba), .val (.ref bb), .val (.ref bb)] [(.ref ba)])) (fun t k => XS.aloadN X211.here hx rfl (hb hby d7_28) rfl rfl k) ?_
    obtain ⟨T213, X213, e213, st213⟩ := getF X211 hx hZ hown (host := "") (Or.inl (hw _ (List.mem_of_getElem? (i := 27) rfl))) Via.refl e211 P2 (g := (mkF m 29 #[.val (.ref ba), .val (.ref bb), .val (.ref bb)] [(.ref ba)])) rfl rfl (hb hby d7_29)
    refine Go.step (T' := T213) (f' := (mkF m 32 #[.val (.ref ba), .val (.ref bb), .val (.ref bb)] [(.int xb)])) st213 ?_
    clear st213 X211
    refine Go.step (T' := T213) (f' := (mkF m 33 #[.val (.ref ba), .val (.ref bb), .val (.ref bb)] [(.ref bb), (.int xb)])) (fun t k => XS.aloadN X213.here hx rfl (hb hby d7_32) rfl rfl k) ?_
    obtain ⟨T214, X214, e214, st214⟩ := getF X213 hx hZ hown (host := "") (Or.inl (hw _ (List.mem_of_getElem? (i := 27) rfl))) Via.refl e213 P9 (g := (mkF m 33 #[.val (.ref ba), .val (.ref bb), .val (.ref bb)] [(.ref bb), (.int xb)])) rfl rfl (hb hby d7_33)
    refine Go.step (T' := T214) (f' := (mkF m 36 #[.val (.ref ba), .val (.ref bb), .val (.ref bb)] [(.int yb), (.int xb)])) st214 ?_
    clear st214 X213
    by_cases hc215 : xb = yb
    ·
      refine Go.step (T' := T214) (f' := (mkF m 39 #[.val (.ref ba), .val (.ref bb), .val (.ref bb)] [])) (fun t k => XS.icmpNo X214.here hx rfl (hb hby d7_36) rfl (teq hc215).2 k) ?_
      refine Go.step (T' := T214) (f' := (mkF m 40 #[.val (.ref ba), .val (.ref bb), .val (.ref bb)] [(.ref ba)])) (fun t k => XS.aloadN X214.here hx rfl (hb hby d7_39) rfl rfl k) ?_
      obtain ⟨T216, X216, e216, st216⟩ := getF X214 hx hZ hown (host := "") (Or.inl (hw _ (List.mem_of_getElem? (i := 30) rfl))) Via.refl e214 P3 (g := (mkF m 40 #[.val (.ref ba), .val (.ref bb), .val (.ref bb)] [(.ref ba)])) rfl rfl (hb hby d7_40)
      refine Go.step (T' := T216) (f' := (mkF m 43 #[.val (.ref ba), .val (.ref bb), .val (.ref bb)] [(.int xc)])) st216 ?_
      clear st216 X214
      refine Go.step (T' := T216) (f' := (mkF m 44 #[.val (.ref ba), .val (.ref bb), .val (.ref bb)] [(.ref bb), (.int xc)])) (fun t k => XS.aloadN X216.here hx rfl (hb hby d7_43) rfl rfl k) ?_
      obtain ⟨T217, X217, e217, st217⟩ := getF X216 hx hZ hown (host := "") (Or.inl (hw _ (List.mem_of_getElem? (i := 30) rfl))) Via.refl e216 P10 (g := (mkF m 44 #[.val (.ref ba), .val (.ref bb), .val (.ref bb)] [(.ref bb), (.int xc)])) rfl rfl (hb hby d7_44)
      refine Go.step (T' := T217) (f' := (mkF m 47 #[.val (.ref ba), .val (.ref bb), .val (.ref bb)] [(.int yc), (.int xc)])) st217 ?_
      clear st217 X216
      by_cases hc218 : xc = yc
      ·
        refine Go.step (T' := T217) (f' := (mkF m 50 #[.val (.ref ba), .val (.ref bb), .val (.ref bb)] [])) (fun t k => XS.icmpNo X217.here hx rfl (hb hby d7_47) rfl (teq hc218).2 k) ?_
        refine Go.step (T' := T217) (f' := (mkF m 51 #[.val (.ref ba), .val (.ref bb), .val (.ref bb)] [(.ref ba)])) (fun t k => XS.aloadN X217.here hx rfl (hb hby d7_50) rfl rfl k) ?_
        obtain ⟨T219, X219, e219, st219⟩ := getF X217 hx hZ hown (host := "") (Or.inl (hw _ (List.mem_of_getElem? (i := 45) rfl))) Via.refl e217 P4 (g := (mkF m 51 #[.val (.ref ba), .val (.ref bb), .val (.ref bb)] [(.ref ba)])) rfl rfl (hb hby d7_51)
        refine Go.step (T' := T219) (f' := (mkF m 54 #[.val (.ref ba), .val (.ref bb), .val (.ref bb)] [(.double dxg)])) st219 ?_
        clear st219 X217
        refine Go.step (T' := T219) (f' := (mkF m 55 #[.val (.ref ba), .val (.ref bb), .val (.ref bb)] [(.ref bb), (.double dxg)])) (fun t k => XS.aloadN X219.here hx rfl (hb hby d7_54) rfl rfl k) ?_
        obtain ⟨T220, X220, e220, st220⟩ := getF X219 hx hZ hown (host := "") (Or.inl (hw _ (List.mem_of_getElem? (i := 45) rfl))) Via.refl e219 P11 (g := (mkF m 55 #[.val (.ref ba), .val (.ref bb), .val (.ref bb)] [(.ref bb), (.double dxg)])) rfl rfl (hb hby d7_55)
        refine Go.step (T' := T220) (f' := (mkF m 58 #[.val (.ref ba), .val (.ref bb), .val (.ref bb)] [(.double dyg), (.double dxg)])) st220 ?_
        clear st220 X219
        refine Go.step (T' := T220) (f' := (mkF m 59 #[.val (.ref ba), .val (.ref bb), .val (.ref bb)] [(.int (cmpValue (FP.dcmp dxg dyg) .l))])) (fun t k => Jvm.Free.XS.dcmpS X220.here hx rfl (hb hby d7_58) rfl rfl k) ?_
        by_cases hc221 : (cmpValue (FP.dcmp dxg dyg) .l) = (0 : Int32)
        ·
          refine Go.step (T' := T220) (f' := (mkF m 62 #[.val (.ref ba), .val (.ref bb), .val (.ref bb)] [])) (fun t k => XS.ifNo X220.here hx rfl (hb hby d7_59) rfl ((if0 _ _).trans (teq hc221).2) k) ?_
          refine Go.step (T' := T220) (f' := (mkF m 63 #[.val (.ref ba), .val (.ref bb), .val (.ref bb)] [(.ref ba)])) (fun t k => XS.aloadN X220.here hx rfl (hb hby d7_62) rfl rfl k) ?_
          obtain ⟨T222, X222, e222, st222⟩ := getF X220 hx hZ hown (host := "") (Or.inl (hw _ (List.mem_of_getElem? (i := 48) rfl))) Via.refl e220 P5 (g := (mkF m 63 #[.val (.ref ba), .val (.ref bb), .val (.ref bb)] [(.ref ba)])) rfl rfl (hb hby d7_63)
          refine Go.step (T' := T222) (f' := (mkF m 66 #[.val (.ref ba), .val (.ref bb), .val (.ref bb)] [(.double dxh)])) st222 ?_
          clear st222 X220
          refine Go.step (T' := T222) (f' := (mkF m 67 #[.val (.ref ba), .val (.ref bb), .val (.ref bb)] [(.ref bb), (.double dxh)])) (fun t k => XS.aloadN X222.here hx rfl (hb hby d7_66) rfl rfl k) ?_
          obtain ⟨T223, X223, e223, st223⟩ := getF X222 hx hZ hown (host := "") (Or.inl (hw _ (List.mem_of_getElem? (i := 48) rfl))) Via.refl e222 P12 (g := (mkF m 67 #[.val (.ref ba), .val (.ref bb), .val (.ref bb)] [(.ref bb), (.double dxh)])) rfl rfl (hb hby d7_67)
          refine Go.step (T' := T223) (f' := (mkF m 70 #[.val (.ref ba), .val (.ref bb), .val (.ref bb)] [(.double dyh), (.double dxh)])) st223 ?_
          clear st223 X222
          refine Go.step (T' := T223) (f' := (mkF m 71 #[.val (.ref ba), .val (.ref bb), .val (.ref bb)] [(.int (cmpValue (FP.dcmp dxh dyh) .l))])) (fun t k => Jvm.Free.XS.dcmpS X223.here hx rfl (hb hby d7_70) rfl rfl k) ?_
          by_cases hc224 : (cmpValue (FP.dcmp dxh dyh) .l) = (0 : Int32)
          ·
            refine Go.step (T' := T223) (f' := (mkF m 74 #[.val (.ref ba), .val (.ref bb), .val (.ref bb)] [])) (fun t k => XS.ifNo X223.here hx rfl (hb hby d7_71) rfl ((if0 _ _).trans (teq hc224).2) k) ?_
            refine Go.step (T' := T223) (f' := (mkF m 75 #[.val (.ref ba), .val (.ref bb), .val (.ref bb)] [(.ref ba)])) (fun t k => XS.aloadN X223.here hx rfl (hb hby d7_74) rfl rfl k) ?_
            obtain ⟨T225, X225, e225, st225⟩ := getF X223 hx hZ hown (host := "") (Or.inl (hw _ (List.mem_of_getElem? (i := 51) rfl))) Via.refl e223 P6 (g := (mkF m 75 #[.val (.ref ba), .val (.ref bb), .val (.ref bb)] [(.ref ba)])) rfl rfl (hb hby d7_75)
            refine Go.step (T' := T225) (f' := (mkF m 78 #[.val (.ref ba), .val (.ref bb), .val (.ref bb)] [(.int xw)])) st225 ?_
            clear st225 X223
            refine Go.step (T' := T225) (f' := (mkF m 79 #[.val (.ref ba), .val (.ref bb), .val (.ref bb)] [(.ref bb), (.int xw)])) (fun t k => XS.aloadN X225.here hx rfl (hb hby d7_78) rfl rfl k) ?_
            obtain ⟨T226, X226, e226, st226⟩ := getF X225 hx hZ hown (host := "") (Or.inl (hw _ (List.mem_of_getElem? (i := 51) rfl))) Via.refl e225 P13 (g := (mkF m 79 #[.val (.ref ba), .val (.ref bb), .val (.ref bb)] [(.ref bb), (.int xw)])) rfl rfl (hb hby d7_79)
            refine Go.step (T' := T226) (f' := (mkF m 82 #[.val (.ref ba), .val (.ref bb), .val (.ref bb)] [(.int yw), (.int xw)])) st226 ?_
            clear st226 X225
            by_cases hc227 : xw = yw
            ·
              refine Go.step (T' := T226) (f' := (mkF m 85 #[.val (.ref ba), .val (.ref bb), .val (.ref bb)] [])) (fun t k => XS.icmpNo X226.here hx rfl (hb hby d7_82) rfl (teq hc227).2 k) ?_
              refine Go.step (T' := T226) (f' := (mkF m 86 #[.val (.ref ba), .val (.ref bb), .val (.ref bb)] [(.ref ba)])) (fun t k => XS.aloadN X226.here hx rfl (hb hby d7_85) rfl rfl k) ?_
              obtain ⟨T228, X228, e228, st228⟩ := getF X226 hx hZ hown (host := "") (Or.inl (hw _ (List.mem_of_getElem? (i := 54) rfl))) Via.refl e226 P7 (g := (mkF m 86 #[.val (.ref ba), .val (.ref bb), .val (.ref bb)] [(.ref ba)])) rfl rfl (hb hby d7_86)
              refine Go.step (T' := T228) (f' := (mkF m 89 #[.val (.ref ba), .val (.ref bb), .val (.ref bb)] [(.int xv)])) st228 ?_
              clear st228 X226
              refine Go.step (T' := T228) (f' := (mkF m 90 #[.val (.ref ba), .val (.ref bb), .val (.ref bb)] [(.ref bb), (.int xv)])) (fun t k => XS.aloadN X228.here hx rfl (hb hby d7_89) rfl rfl k) ?_
              obtain ⟨T229, X229, e229, st229⟩ := getF X228 hx hZ hown (host := "") (Or.inl (hw _ (List.mem_of_getElem? (i := 54) rfl))) Via.refl e228 P14 (g := (mkF m 90 #[.val (.ref ba), .val (.ref bb), .val (.ref bb)] [(.ref bb), (.int xv)])) rfl rfl (hb hby d7_90)
              refine Go.step (T' := T229) (f' := (mkF m 93 #[.val (.ref ba), .val (.ref bb), .val (.ref bb)] [(.int yv), (.int xv)])) st229 ?_
              clear st229 X228
              by_cases hc230 : xv = yv
              ·
                refine Go.step (T' := T229) (f' := (mkF m 96 #[.val (.ref ba), .val (.ref bb), .val (.ref bb)] [])) (fun t k => XS.icmpNo X229.here hx rfl (hb hby d7_93) rfl (teq hc230).2 k) ?_
                refine Go.step (T' := T229) (f' := (mkF m 97 #[.val (.ref ba), .val (.ref bb), .val (.ref bb)] [(.int (1 : Int32))])) (fun t k => XS.iconst X229.here hx rfl (hb hby d7_96) k) ?_
                refine Go.step (T' := T229) (f' := (mkF m 101 #[.val (.ref ba), .val (.ref bb), .val (.ref bb)] [(.int (1 : Int32))])) (fun t k => XS.goto X229.here hx rfl (pc0 := 97) (pc' := 101) rfl (hb hby d7_97) (by decide) (by decide) k) ?_
                refine Go.retZ X229 hx hlk (t := .boolean) Bd.returns (by simp) (hb hby d7_101) e229 ?_ (by decide) (by decide)
                exact ⟨by simp_all [nar], N0, rfl⟩
              ·
                refine Go.step (T' := T229) (f' := (mkF m 100 #[.val (.ref ba), .val (.ref bb), .val (.ref bb)] [])) (fun t k => XS.icmpYes X229.here hx rfl (pc0 := 93) (pc' := 100) rfl (hb hby d7_93) rfl (feq hc230).2 (by decide) (by decide) k) ?_
                refine Go.step (T' := T229) (f' := (mkF m 101 #[.val (.ref ba), .val (.ref bb), .val (.ref bb)] [(.int (0 : Int32))])) (fun t k => XS.iconst X229.here hx rfl (hb hby d7_100) k) ?_
                refine Go.retZ X229 hx hlk (t := .boolean) Bd.returns (by simp) (hb hby d7_101) e229 ?_ (by decide) (by decide)
                exact ⟨by simp_all [nar], N0, rfl⟩
            ·
              refine Go.step (T' := T226) (f' := (mkF m 100 #[.val (.ref ba), .val (.ref bb), .val (.ref bb)] [])) (fun t k => XS.icmpYes X226.here hx rfl (pc0 := 82) (pc' := 100) rfl (hb hby d7_82) rfl (feq hc227).2 (by decide) (by decide) k) ?_
              refine Go.step (T' := T226) (f' := (mkF m 101 #[.val (.ref ba), .val (.ref bb), .val (.ref bb)] [(.int (0 : Int32))])) (fun t k => XS.iconst X226.here hx rfl (hb hby d7_100) k) ?_
              refine Go.retZ X226 hx hlk (t := .boolean) Bd.returns (by simp) (hb hby d7_101) e226 ?_ (by decide) (by decide)
              exact ⟨by simp_all [nar], N0, rfl⟩
          ·
            refine Go.step (T' := T223) (f' := (mkF m 100 #[.val (.ref ba), .val (.ref bb), .val (.ref bb)] [])) (fun t k => XS.ifYes X223.here hx rfl (pc0 := 71) (pc' := 100) rfl (hb hby d7_71) rfl ((if0 _ _).trans (feq hc224).2) (by decide) (by decide) k) ?_
            refine Go.step (T' := T223) (f' := (mkF m 101 #[.val (.ref ba), .val (.ref bb), .val (.ref bb)] [(.int (0 : Int32))])) (fun t k => XS.iconst X223.here hx rfl (hb hby d7_100) k) ?_
            refine Go.retZ X223 hx hlk (t := .boolean) Bd.returns (by simp) (hb hby d7_101) e223 ?_ (by decide) (by decide)
            exact ⟨by simp_all [nar], N0, rfl⟩
        ·
          refine Go.step (T' := T220) (f' := (mkF m 100 #[.val (.ref ba), .val (.ref bb), .val (.ref bb)] [])) (fun t k => XS.ifYes X220.here hx rfl (pc0 := 59) (pc' := 100) rfl (hb hby d7_59) rfl ((if0 _ _).trans (feq hc221).2) (by decide) (by decide) k) ?_
          refine Go.step (T' := T220) (f' := (mkF m 101 #[.val (.ref ba), .val (.ref bb), .val (.ref bb)] [(.int (0 : Int32))])) (fun t k => XS.iconst X220.here hx rfl (hb hby d7_100) k) ?_
          refine Go.retZ X220 hx hlk (t := .boolean) Bd.returns (by simp) (hb hby d7_101) e220 ?_ (by decide) (by decide)
          exact ⟨by simp_all [nar], N0, rfl⟩
      ·
        refine Go.step (T' := T217) (f' := (mkF m 100 #[.val (.ref ba), .val (.ref bb), .val (.ref bb)] [])) (fun t k => XS.icmpYes X217.here hx rfl (pc0 := 47) (pc' := 100) rfl (hb hby d7_47) rfl (feq hc218).2 (by decide) (by decide) k) ?_
        refine Go.step (T' := T217) (f' := (mkF m 101 #[.val (.ref ba), .val (.ref bb), .val (.ref bb)] [(.int (0 : Int32))])) (fun t k => XS.iconst X217.here hx rfl (hb hby d7_100) k) ?_
        refine Go.retZ X217 hx hlk (t := .boolean) Bd.returns (by simp) (hb hby d7_101) e217 ?_ (by decide) (by decide)
        exact ⟨by simp_all [nar], N0, rfl⟩
    ·
      refine Go.step (T' := T214) (f' := (mkF m 100 #[.val (.ref ba), .val (.ref bb), .val (.ref bb)] [])) (fun t k => XS.icmpYes X214.here hx rfl (pc0 := 36) (pc' := 100) rfl (hb hby d7_36) rfl (feq hc215).2 (by decide) (by decide) k) ?_
      refine Go.step (T' := T214) (f' := (mkF m 101 #[.val (.ref ba), .val (.ref bb), .val (.ref bb)] [(.int (0 : Int32))])) (fun t k => XS.iconst X214.here hx rfl (hb hby d7_100) k) ?_
      refine Go.retZ X214 hx hlk (t := .boolean) Bd.returns (by simp) (hb hby d7_101) e214 ?_ (by decide) (by decide)
      exact ⟨by simp_all [nar], N0, rfl⟩
  ·
    refine Go.step (T' := T211) (f' := (mkF m 100 #[.val (.ref ba), .val (.ref bb), .val (.ref bb)] [])) (fun t k => XS.icmpYes X211.here hx rfl (pc0 := 25) (pc' := 100) rfl (hb hby d7_25) rfl (feq hc212).2 (by decide) (by decide) k) ?_
    refine Go.step (T' := T211) (f' := (mkF m 101 #[.val (.ref ba), .val (.ref bb), .val (.ref bb)] [(.int (0 : Int32))])) (fun t k => XS.iconst X211.here hx rfl (hb hby d7_100) k) ?_
    refine Go.retZ X211 hx hlk (t := .boolean) Bd.returns (by simp) (hb hby d7_101) e211 ?_ (by decide) (by decide)
    exact ⟨by simp_all [nar], N0, rfl⟩
theorem ef_peq1 (m : MethodId) (ba : Addr) : entryFrame m #[(.ref ba), (.ref ba)] 3 = mkF m 0 #[.val (.ref ba), .val (.ref ba), .unset] [] := by first | (simp [entryFrame, mkF, argsToLocals, Value.category]; done) | rfl
def Q_peq1 (Z : State) (ba : Addr) (xa : Int32) (xb : Int32) (xc : Int32) (dxg : UInt64) (dxh : UInt64) (xw : Int32) (xv : Int32) (h0 : Heap) (n0 : Nat) (v : Option Value) (h : Heap) (L : List Loc) : Prop := v = some (.int (1 : Int32)) ∧ Fr n0 L ∧ h = h0
set_option maxRecDepth 65536 in
set_option maxHeartbeats 40000000 in
theorem rm_peq1 (l : Launch) (Z : State) (a0 : Array Value) (hw : ∀ d ∈ tables_1, d.before a0 Z = true) (ws : List Jvm.Cond) (ba : Addr) (xa : Int32) (xb : Int32) (xc : Int32) (dxg : UInt64) (dxh : UInt64) (xw : Int32) (xv : Int32) (h0 : Heap) (n0 : Nat) (O0 : Old Z n0 h0) (P0 : Exa Z h0 ba "com/example/honest_search/honestsearch/index/PhraseSettings") (P1 : Fld Z h0 ba "com/example/honest_search/honestsearch/index/PhraseSettings" "minDocuments" "I" (.int xa)) (P2 : Fld Z h0 ba "com/example/honest_search/honestsearch/index/PhraseSettings" "minInstances" "I" (.int xb)) (P3 : Fld Z h0 ba "com/example/honest_search/honestsearch/index/PhraseSettings" "minInteresting" "I" (.int xc)) (P4 : Fld Z h0 ba "com/example/honest_search/honestsearch/index/PhraseSettings" "predictGain" "D" (.double dxg)) (P5 : Fld Z h0 ba "com/example/honest_search/honestsearch/index/PhraseSettings" "relatedGain" "D" (.double dxh)) (P6 : Fld Z h0 ba "com/example/honest_search/honestsearch/index/PhraseSettings" "maxPhraseWords" "I" (.int xw)) (P7 : Fld Z h0 ba "com/example/honest_search/honestsearch/index/PhraseSettings" "window" "I" (.int xv)) (hg1 : (cmpValue (FP.dcmp dxg dxg) .l) = (0 : Int32)) (hh1 : (cmpValue (FP.dcmp dxh dxh) .l) = (0 : Int32)) :
    MetFree l (⟨"com/example/honest_search/honestsearch/index/PhraseSettings", "equals", "(Ljava/lang/Object;)Z"⟩ : MethodName) (head1 (Jvm.Cond.code (⟨"com/example/honest_search/honestsearch/index/PhraseSettings", "equals", "(Ljava/lang/Object;)Z"⟩ : MethodName) prog_21_method_9_code 3 (some .boolean) :: ws) ({ frames := 0, cells := 0, slots := 0, locals := 0 } : Room)) (fun a U => a = #[(.ref ba), (.ref ba)] ∧ Z.Warmed39 U.vm ∧ U.heap = h0) (fun _ _ _ _ _ => True) (fun _ U o U' => ∃ v L, o = .returned v ∧ Q_peq1 Z ba xa xb xc dxg dxh xw xv h0 n0 v U'.heap L ∧ FrameEnd U o U' L ({ frames := 0, cells := 0, slots := 0, locals := 0 } : Room).cells ({ frames := 0, cells := 0, slots := 0, locals := 0 } : Room).slots) := by
  refine MetFree.of_bodySF (plainFor_of_name pn_com_example_honest_search_honestsearch_index_PhraseSettings) hisR ?_
  intro p e s m args below meth c s₁ Bd hml0 hP hK
  obtain ⟨rfl, hZ, hh⟩ := hP
  have hx := Bd.exec
  have hby := Bd.bytes
  have hml : c.maxLocals = 3 := hml0
  have hown : s.vm.findClass "com/example/honest_search/honestsearch/index/PhraseSettings" = some m.cls := findClass_of_methodNamed Bd.named
  have hnm := (name_of_methodNamed Bd.named Bd.method).1
  have hlk : meth.locks = false := BodyLoose.notSynchronized Bd
  have X0 : Stand p l e ({ frames := 0, cells := 0, slots := 0, locals := 0 } : Room) s m #[(.ref ba), (.ref ba)] below meth c s₁ [] 0 0 := Stand.of_body Bd
  have e0 : s₁.heap = h0 := by rw [← hh, Bd.state]; rfl
  have N0 := Fr.nil n0
  rw [ef_peq1 m ba]
  show Go p e below s (fun v h L => Q_peq1 Z ba xa xb xc dxg dxh xw xv h0 n0 v h L) ({ frames := 0, cells := 0, slots := 0, locals := 0 } : Room).cells ({ frames := 0, cells := 0, slots := 0, locals := 0 } : Room).slots s₁ (mkF m 0 #[.val (.ref ba), .val (.ref ba), .unset] [])
  refine Go.step (T' := s₁) (f' := (mkF m 1 #[.val (.ref ba), .val (.ref ba), .unset] [(.ref ba)])) (fun t k => XS.aloadN X0.here hx rfl (hb hby d7_0) rfl rfl k) ?_
  obtain ⟨T231, X231, e231, st231⟩ := instY X0 hx hZ hown (hw _ (List.mem_of_getElem? (i := 61) rfl)) e0 (Ins.self P0) (g := (mkF m 1 #[.val (.ref ba), .val (.ref ba), .unset] [(.ref ba)])) rfl rfl (hb hby d7_1)
  refine Go.step (T' := T231) (f' := (mkF m 4 #[.val (.ref ba), .val (.ref ba), .unset] [(.int (1 : Int32))])) st231 ?_
  clear st231 X0
  refine Go.step (T' := T231) (f' := (mkF m 7 #[.val (.ref ba), .val (.ref ba), .unset] [])) (fun t k => XS.ifNo X231.here hx rfl (hb hby d7_4) rfl ((if0 _ _).trans (feq (by decide : ¬ ((1 : Int32) = (0 : Int32)))).1) k) ?_
  refine Go.step (T' := T231) (f' := (mkF m 8 #[.val (.ref ba), .val (.ref ba), .unset] [(.ref ba)])) (fun t k => XS.aloadN X231.here hx rfl (hb hby d7_7) rfl rfl k) ?_
  obtain ⟨T232, X232, e232, st232⟩ := castY X231 hx hZ hown (hw _ (List.mem_of_getElem? (i := 61) rfl)) e231 (Ins.self P0) (g := (mkF m 8 #[.val (.ref ba), .val (.ref ba), .unset] [(.ref ba)])) rfl rfl (hb hby d7_8)
  refine Go.step (T' := T232) (f' := (mkF m 11 #[.val (.ref ba), .val (.ref ba), .unset] [(.ref ba)])) st232 ?_
  clear st232 X231
  refine Go.step (T' := T232) (f' := (mkF m 12 #[.val (.ref ba), .val (.ref ba), .val (.ref ba)] [])) (fun t k => XS.astoreN X232.here hx rfl (hb hby d7_11) rfl rfl (l' := #[.val (.ref ba), .val (.ref ba), .val (.ref ba)]) rfl k) ?_
  refine Go.step (T' := T232) (f' := (mkF m 17 #[.val (.ref ba), .val (.ref ba), .val (.ref ba)] [])) (fun t k => XS.goto X232.here hx rfl (pc0 := 12) (pc' := 17) rfl (hb hby d7_12) (by decide) (by decide) k) ?_
  refine Go.step (T' := T232) (f' := (mkF m 18 #[.val (.ref ba), .val (.ref ba), .val (.ref ba)] [(.ref ba)])) (fun t k => XS.aloadN X232.here hx rfl (hb hby d7_17) rfl rfl k) ?_
  obtain ⟨T233, X233, e233, st233⟩ := getF X232 hx hZ hown (host := "") (Or.inl (hw _ (List.mem_of_getElem? (i := 24) rfl))) Via.refl e232 P1 (g := (mkF m 18 #[.val (.ref ba), .val (.ref ba), .val (.ref ba)] [(.ref ba)])) rfl rfl (hb hby d7_18)
  refine Go.step (T' := T233) (f' := (mkF m 21 #[.val (.ref ba), .val (.ref ba), .val (.ref ba)] [(.int xa)])) st233 ?_
  clear st233 X232
  refine Go.step (T' := T233) (f' := (mkF m 22 #[.val (.ref ba), .val (.ref ba), .val (.ref ba)] [(.ref ba), (.int xa)])) (fun t k => XS.aloadN X233.here hx rfl (hb hby d7_21) rfl rfl k) ?_
  obtain ⟨T234, X234, e234, st234⟩ := getF X233 hx hZ hown (host := "") (Or.inl (hw _ (List.mem_of_getElem? (i := 24) rfl))) Via.refl e233 P1 (g := (mkF m 22 #[.val (.ref ba), .val (.ref ba), .val (.ref ba)] [(.ref ba), (.int xa)])) rfl rfl (hb hby d7_22)
  refine Go.step (T' := T234) (f' := (mkF m 25 #[.val (.ref ba), .val (.ref ba), .val (.ref ba)] [(.int xa), (.int xa)])) st234 ?_
  clear st234 X233
  refine Go.step (T' := T234) (f' := (mkF m 28 #[.val (.ref ba), .val (.ref ba), .val (.ref ba)] [])) (fun t k => XS.icmpNo X234.here hx rfl (hb hby d7_25) rfl (teq (rfl : xa = xa)).2 k) ?_
  refine Go.step (T' := T234) (f' := (mkF m 29 #[.val (.ref ba), .val (.ref ba), .val (.ref ba)] [(.ref ba)])) (fun t k => XS.aloadN X234.here hx rfl (hb hby d7_28) rfl rfl k) ?_
  obtain ⟨T235, X235, e235, st235⟩ := getF X234 hx hZ hown (host := "") (Or.inl (hw _ (List.mem_of_getElem? (i := 27) rfl))) Via.refl e234 P2 (g := (mkF m 29 #[.val (.ref ba), .val (.ref ba), .val (.ref ba)] [(.ref ba)])) rfl rfl (hb hby d7_29)
  refine Go.step (T' := T235) (f' := (mkF m 32 #[.val (.ref ba), .val (.ref ba), .val (.ref ba)] [(.int xb)])) st235 ?_
  clear st235 X234
  refine Go.step (T' := T235) (f' := (mkF m 33 #[.val (.ref ba), .val (.ref ba), .val (.ref ba)] [(.ref ba), (.int xb)])) (fun t k => XS.aloadN X235.here hx rfl (hb hby d7_32) rfl rfl k) ?_
  obtain ⟨T236, X236, e236, st236⟩ := getF X235 hx hZ hown (host := "") (Or.inl (hw _ (List.mem_of_getElem? (i := 27) rfl))) Via.refl e235 P2 (g := (mkF m 33 #[.val (.ref ba), .val (.ref ba), .val (.ref ba)] [(.ref ba), (.int xb)])) rfl rfl (hb hby d7_33)
  refine Go.step (T' := T236) (f' := (mkF m 36 #[.val (.ref ba), .val (.ref ba), .val (.ref ba)] [(.int xb), (.int xb)])) st236 ?_
  clear st236 X235
  refine Go.step (T' := T236) (f' := (mkF m 39 #[.val (.ref ba), .val (.ref ba), .val (.ref ba)] [])) (fun t k => XS.icmpNo X236.here hx rfl (hb hby d7_36) rfl (teq (rfl : xb = xb)).2 k) ?_
  refine Go.step (T' := T236) (f' := (mkF m 40 #[.val (.ref ba), .val (.ref ba), .val (.ref ba)] [(.ref ba)])) (fun t k => XS.aloadN X236.here hx rfl (hb hby d7_39) rfl rfl k) ?_
  obtain ⟨T237, X237, e237, st237⟩ := getF X236 hx hZ hown (host := "") (Or.inl (hw _ (List.mem_of_getElem? (i := 30) rfl))) Via.refl e236 P3 (g := (mkF m 40 #[.val (.ref ba), .val (.ref ba), .val (.ref ba)] [(.ref ba)])) rfl rfl (hb hby d7_40)
  refine Go.step (T' := T237) (f' := (mkF m 43 #[.val (.ref ba), .val (.ref ba), .val (.ref ba)] [(.int xc)])) st237 ?_
  clear st237 X236
  refine Go.step (T' := T237) (f' := (mkF m 44 #[.val (.ref ba), .val (.ref ba), .val (.ref ba)] [(.ref ba), (.int xc)])) (fun t k => XS.aloadN X237.here hx rfl (hb hby d7_43) rfl rfl k) ?_
  obtain ⟨T238, X238, e238, st238⟩ := getF X237 hx hZ hown (host := "") (Or.inl (hw _ (List.mem_of_getElem? (i := 30) rfl))) Via.refl e237 P3 (g := (mkF m 44 #[.val (.ref ba), .val (.ref ba), .val (.ref ba)] [(.ref ba), (.int xc)])) rfl rfl (hb hby d7_44)
  refine Go.step (T' := T238) (f' := (mkF m 47 #[.val (.ref ba), .val (.ref ba), .val (.ref ba)] [(.int xc), (.int xc)])) st238 ?_
  clear st238 X237
  refine Go.step (T' := T238) (f' := (mkF m 50 #[.val (.ref ba), .val (.ref ba), .val (.ref ba)] [])) (fun t k => XS.icmpNo X238.here hx rfl (hb hby d7_47) rfl (teq (rfl : xc = xc)).2 k) ?_
  refine Go.step (T' := T238) (f' := (mkF m 51 #[.val (.ref ba), .val (.ref ba), .val (.ref ba)] [(.ref ba)])) (fun t k => XS.aloadN X238.here hx rfl (hb hby d7_50) rfl rfl k) ?_
  obtain ⟨T239, X239, e239, st239⟩ := getF X238 hx hZ hown (host := "") (Or.inl (hw _ (List.mem_of_getElem? (i := 45) rfl))) Via.refl e238 P4 (g := (mkF m 51 #[.val (.ref ba), .val (.ref ba), .val (.ref ba)] [(.ref ba)])) rfl rfl (hb hby d7_51)
  refine Go.step (T' := T239) (f' := (mkF m 54 #[.val (.ref ba), .val (.ref ba), .val (.ref ba)] [(.double dxg)])) st239 ?_
  clear st239 X238
  refine Go.step (T' := T239) (f' := (mkF m 55 #[.val (.ref ba), .val (.ref ba), .val (.ref ba)] [(.ref ba), (.double dxg)])) (fun t k => XS.aloadN X239.here hx rfl (hb hby d7_54) rfl rfl k) ?_
  obtain ⟨T240, X240, e240, st240⟩ := getF X239 hx hZ hown (host := "") (Or.inl (hw _ (List.mem_of_getElem? (i := 45) rfl))) Via.refl e239 P4 (g := (mkF m 55 #[.val (.ref ba), .val (.ref ba), .val (.ref ba)] [(.ref ba), (.double dxg)])) rfl rfl (hb hby d7_55)
  refine Go.step (T' := T240) (f' := (mkF m 58 #[.val (.ref ba), .val (.ref ba), .val (.ref ba)] [(.double dxg), (.double dxg)])) st240 ?_
  clear st240 X239
  refine Go.step (T' := T240) (f' := (mkF m 59 #[.val (.ref ba), .val (.ref ba), .val (.ref ba)] [(.int (cmpValue (FP.dcmp dxg dxg) .l))])) (fun t k => Jvm.Free.XS.dcmpS X240.here hx rfl (hb hby d7_58) rfl rfl k) ?_
  refine Go.step (T' := T240) (f' := (mkF m 62 #[.val (.ref ba), .val (.ref ba), .val (.ref ba)] [])) (fun t k => XS.ifNo X240.here hx rfl (hb hby d7_59) rfl ((if0 _ _).trans (teq hg1).2) k) ?_
  refine Go.step (T' := T240) (f' := (mkF m 63 #[.val (.ref ba), .val (.ref ba), .val (.ref ba)] [(.ref ba)])) (fun t k => XS.aloadN X240.here hx rfl (hb hby d7_62) rfl rfl k) ?_
  obtain ⟨T241, X241, e241, st241⟩ := getF X240 hx hZ hown (host := "") (Or.inl (hw _ (List.mem_of_getElem? (i := 48) rfl))) Via.refl e240 P5 (g := (mkF m 63 #[.val (.ref ba), .val (.ref ba), .val (.ref ba)] [(.ref ba)])) rfl rfl (hb hby d7_63)
  refine Go.step (T' := T241) (f' := (mkF m 66 #[.val (.ref ba), .val (.ref ba), .val (.ref ba)] [(.double dxh)])) st241 ?_
  clear st241 X240
  refine Go.step (T' := T241) (f' := (mkF m 67 #[.val (.ref ba), .val (.ref ba), .val (.ref ba)] [(.ref ba), (.double dxh)])) (fun t k => XS.aloadN X241.here hx rfl (hb hby d7_66) rfl rfl k) ?_
  obtain ⟨T242, X242, e242, st242⟩ := getF X241 hx hZ hown (host := "") (Or.inl (hw _ (List.mem_of_getElem? (i := 48) rfl))) Via.refl e241 P5 (g := (mkF m 67 #[.val (.ref ba), .val (.ref ba), .val (.ref ba)] [(.ref ba), (.double dxh)])) rfl rfl (hb hby d7_67)
  refine Go.step (T' := T242) (f' := (mkF m 70 #[.val (.ref ba), .val (.ref ba), .val (.ref ba)] [(.double dxh), (.double dxh)])) st242 ?_
  clear st242 X241
  refine Go.step (T' := T242) (f' := (mkF m 71 #[.val (.ref ba), .val (.ref ba), .val (.ref ba)] [(.int (cmpValue (FP.dcmp dxh dxh) .l))])) (fun t k => Jvm.Free.XS.dcmpS X242.here hx rfl (hb hby d7_70) rfl rfl k) ?_
  refine Go.step (T' := T242) (f' := (mkF m 74 #[.val (.ref ba), .val (.ref ba), .val (.ref ba)] [])) (fun t k => XS.ifNo X242.here hx rfl (hb hby d7_71) rfl ((if0 _ _).trans (teq hh1).2) k) ?_
  refine Go.step (T' := T242) (f' := (mkF m 75 #[.val (.ref ba), .val (.ref ba), .val (.ref ba)] [(.ref ba)])) (fun t k => XS.aloadN X242.here hx rfl (hb hby d7_74) rfl rfl k) ?_
  obtain ⟨T243, X243, e243, st243⟩ := getF X242 hx hZ hown (host := "") (Or.inl (hw _ (List.mem_of_getElem? (i := 51) rfl))) Via.refl e242 P6 (g := (mkF m 75 #[.val (.ref ba), .val (.ref ba), .val (.ref ba)] [(.ref ba)])) rfl rfl (hb hby d7_75)
  refine Go.step (T' := T243) (f' := (mkF m 78 #[.val (.ref ba), .val (.ref ba), .val (.ref ba)] [(.int xw)])) st243 ?_
  clear st243 X242
  refine Go.step (T' := T243) (f' := (mkF m 79 #[.val (.ref ba), .val (.ref ba), .val (.ref ba)] [(.ref ba), (.int xw)])) (fun t k => XS.aloadN X243.here hx rfl (hb hby d7_78) rfl rfl k) ?_
  obtain ⟨T244, X244, e244, st244⟩ := getF X243 hx hZ hown (host := "") (Or.inl (hw _ (List.mem_of_getElem? (i := 51) rfl))) Via.refl e243 P6 (g := (mkF m 79 #[.val (.ref ba), .val (.ref ba), .val (.ref ba)] [(.ref ba), (.int xw)])) rfl rfl (hb hby d7_79)
  refine Go.step (T' := T244) (f' := (mkF m 82 #[.val (.ref ba), .val (.ref ba), .val (.ref ba)] [(.int xw), (.int xw)])) st244 ?_
  clear st244 X243
  refine Go.step (T' := T244) (f' := (mkF m 85 #[.val (.ref ba), .val (.ref ba), .val (.ref ba)] [])) (fun t k => XS.icmpNo X244.here hx rfl (hb hby d7_82) rfl (teq (rfl : xw = xw)).2 k) ?_
  refine Go.step (T' := T244) (f' := (mkF m 86 #[.val (.ref ba), .val (.ref ba), .val (.ref ba)] [(.ref ba)])) (fun t k => XS.aloadN X244.here hx rfl (hb hby d7_85) rfl rfl k) ?_
  obtain ⟨T245, X245, e245, st245⟩ := getF X244 hx hZ hown (host := "") (Or.inl (hw _ (List.mem_of_getElem? (i := 54) rfl))) Via.refl e244 P7 (g := (mkF m 86 #[.val (.ref ba), .val (.ref ba), .val (.ref ba)] [(.ref ba)])) rfl rfl (hb hby d7_86)
  refine Go.step (T' := T245) (f' := (mkF m 89 #[.val (.ref ba), .val (.ref ba), .val (.ref ba)] [(.int xv)])) st245 ?_
  clear st245 X244
  refine Go.step (T' := T245) (f' := (mkF m 90 #[.val (.ref ba), .val (.ref ba), .val (.ref ba)] [(.ref ba), (.int xv)])) (fun t k => XS.aloadN X245.here hx rfl (hb hby d7_89) rfl rfl k) ?_
  obtain ⟨T246, X246, e246, st246⟩ := getF X245 hx hZ hown (host := "") (Or.inl (hw _ (List.mem_of_getElem? (i := 54) rfl))) Via.refl e245 P7 (g := (mkF m 90 #[.val (.ref ba), .val (.ref ba), .val (.ref ba)] [(.ref ba), (.int xv)])) rfl rfl (hb hby d7_90)
  refine Go.step (T' := T246) (f' := (mkF m 93 #[.val (.ref ba), .val (.ref ba), .val (.ref ba)] [(.int xv), (.int xv)])) st246 ?_
  clear st246 X245
  refine Go.step (T' := T246) (f' := (mkF m 96 #[.val (.ref ba), .val (.ref ba), .val (.ref ba)] [])) (fun t k => XS.icmpNo X246.here hx rfl (hb hby d7_93) rfl (teq (rfl : xv = xv)).2 k) ?_
  refine Go.step (T' := T246) (f' := (mkF m 97 #[.val (.ref ba), .val (.ref ba), .val (.ref ba)] [(.int (1 : Int32))])) (fun t k => XS.iconst X246.here hx rfl (hb hby d7_96) k) ?_
  refine Go.step (T' := T246) (f' := (mkF m 101 #[.val (.ref ba), .val (.ref ba), .val (.ref ba)] [(.int (1 : Int32))])) (fun t k => XS.goto X246.here hx rfl (pc0 := 97) (pc' := 101) rfl (hb hby d7_97) (by decide) (by decide) k) ?_
  refine Go.retZ X246 hx hlk (t := .boolean) Bd.returns (by simp) (hb hby d7_101) e246 ?_ (by decide) (by decide)
  exact ⟨rfl, N0, rfl⟩
theorem d7_15 : decode prog_21_method_9_code 15 = .ok (.iconst 0, 1) := by decide +kernel
theorem d7_16 : decode prog_21_method_9_code 16 = .ok (.ireturn, 1) := by decide +kernel
theorem ef_peqN (m : MethodId) (ba : Addr) : entryFrame m #[(.ref ba), .null] 3 = mkF m 0 #[.val (.ref ba), .val .null, .unset] [] := by first | (simp [entryFrame, mkF, argsToLocals, Value.category]; done) | rfl
def Q_peqN (Z : State) (ba : Addr) (h0 : Heap) (n0 : Nat) (v : Option Value) (h : Heap) (L : List Loc) : Prop := v = some (.int (0 : Int32)) ∧ Fr n0 L ∧ h = h0
set_option maxRecDepth 65536 in
set_option maxHeartbeats 40000000 in
theorem rm_peqN (l : Launch) (Z : State) (a0 : Array Value) (hw : ∀ d ∈ tables_1, d.before a0 Z = true) (ws : List Jvm.Cond) (ba : Addr) (h0 : Heap) (n0 : Nat) (O0 : Old Z n0 h0) :
    MetFree l (⟨"com/example/honest_search/honestsearch/index/PhraseSettings", "equals", "(Ljava/lang/Object;)Z"⟩ : MethodName) (head1 (Jvm.Cond.code (⟨"com/example/honest_search/honestsearch/index/PhraseSettings", "equals", "(Ljava/lang/Object;)Z"⟩ : MethodName) prog_21_method_9_code 3 (some .boolean) :: ws) ({ frames := 0, cells := 0, slots := 0, locals := 0 } : Room)) (fun a U => a = #[(.ref ba), .null] ∧ Z.Warmed39 U.vm ∧ U.heap = h0) (fun _ _ _ _ _ => True) (fun _ U o U' => ∃ v L, o = .returned v ∧ Q_peqN Z ba h0 n0 v U'.heap L ∧ FrameEnd U o U' L ({ frames := 0, cells := 0, slots := 0, locals := 0 } : Room).cells ({ frames := 0, cells := 0, slots := 0, locals := 0 } : Room).slots) := by
  refine MetFree.of_bodySF (plainFor_of_name pn_com_example_honest_search_honestsearch_index_PhraseSettings) hisR ?_
  intro p e s m args below meth c s₁ Bd hml0 hP hK
  obtain ⟨rfl, hZ, hh⟩ := hP
  have hx := Bd.exec
  have hby := Bd.bytes
  have hml : c.maxLocals = 3 := hml0
  have hown : s.vm.findClass "com/example/honest_search/honestsearch/index/PhraseSettings" = some m.cls := findClass_of_methodNamed Bd.named
  have hnm := (name_of_methodNamed Bd.named Bd.method).1
  have hlk : meth.locks = false := BodyLoose.notSynchronized Bd
  have X0 : Stand p l e ({ frames := 0, cells := 0, slots := 0, locals := 0 } : Room) s m #[(.ref ba), .null] below meth c s₁ [] 0 0 := Stand.of_body Bd
  have e0 : s₁.heap = h0 := by rw [← hh, Bd.state]; rfl
  have N0 := Fr.nil n0
  rw [ef_peqN m ba]
  show Go p e below s (fun v h L => Q_peqN Z ba h0 n0 v h L) ({ frames := 0, cells := 0, slots := 0, locals := 0 } : Room).cells ({ frames := 0, cells := 0, slots := 0, locals := 0 } : Room).slots s₁ (mkF m 0 #[.val (.ref ba), .val .null, .unset] [])
  refine Go.step (T' := s₁) (f' := (mkF m 1 #[.val (.ref ba), .val .null, .unset] [.null])) (fun t k => XS.aloadN X0.here hx rfl (hb hby d7_0) rfl rfl k) ?_
  refine Go.step (T' := s₁) (f' := (mkF m 4 #[.val (.ref ba), .val .null, .unset] [(.int (0 : Int32))])) (fun t k => X0.instanceofNull hx (g := (mkF m 1 #[.val (.ref ba), .val .null, .unset] [.null])) rfl rfl (hb hby d7_1) t k) ?_
  refine Go.step (T' := s₁) (f' := (mkF m 15 #[.val (.ref ba), .val .null, .unset] [])) (fun t k => XS.ifYes X0.here hx rfl (pc0 := 4) (pc' := 15) rfl (hb hby d7_4) rfl ((if0 _ _).trans (teq (by decide : (0 : Int32) = (0 : Int32))).1) (by decide) (by decide) k) ?_
  refine Go.step (T' := s₁) (f' := (mkF m 16 #[.val (.ref ba), .val .null, .unset] [(.int (0 : Int32))])) (fun t k => XS.iconst X0.here hx rfl (hb hby d7_15) k) ?_
  refine Go.retZ X0 hx hlk (t := .boolean) Bd.returns (by simp) (hb hby d7_16) e0 ?_ (by decide) (by decide)
  exact ⟨rfl, N0, rfl⟩
theorem ef_peqI (m : MethodId) (ba : Addr) (bb : Addr) : entryFrame m #[(.ref ba), (.ref bb)] 3 = mkF m 0 #[.val (.ref ba), .val (.ref bb), .unset] [] := by first | (simp [entryFrame, mkF, argsToLocals, Value.category]; done) | rfl
def Q_peqI (Z : State) (ba : Addr) (bb : Addr) (h0 : Heap) (n0 : Nat) (v : Option Value) (h : Heap) (L : List Loc) : Prop := v = some (.int (0 : Int32)) ∧ Fr n0 L ∧ h = h0
set_option maxRecDepth 65536 in
set_option maxHeartbeats 40000000 in
theorem rm_peqI (l : Launch) (Z : State) (a0 : Array Value) (hw : ∀ d ∈ tables_1, d.before a0 Z = true) (ws : List Jvm.Cond) (ba : Addr) (bb : Addr) (h0 : Heap) (n0 : Nat) (O0 : Old Z n0 h0) (P0 : Exa Z h0 bb "java/lang/Integer") :
    MetFree l (⟨"com/example/honest_search/honestsearch/index/PhraseSettings", "equals", "(Ljava/lang/Object;)Z"⟩ : MethodName) (head1 (Jvm.Cond.code (⟨"com/example/honest_search/honestsearch/index/PhraseSettings", "equals", "(Ljava/lang/Object;)Z"⟩ : MethodName) prog_21_method_9_code 3 (some .boolean) :: ws) ({ frames := 0, cells := 0, slots := 0, locals := 0 } : Room)) (fun a U => a = #[(.ref ba), (.ref bb)] ∧ Z.Warmed39 U.vm ∧ U.heap = h0) (fun _ _ _ _ _ => True) (fun _ U o U' => ∃ v L, o = .returned v ∧ Q_peqI Z ba bb h0 n0 v U'.heap L ∧ FrameEnd U o U' L ({ frames := 0, cells := 0, slots := 0, locals := 0 } : Room).cells ({ frames := 0, cells := 0, slots := 0, locals := 0 } : Room).slots) := by
  refine MetFree.of_bodySF (plainFor_of_name pn_com_example_honest_search_honestsearch_index_PhraseSettings) hisR ?_
  intro p e s m args below meth c s₁ Bd hml0 hP hK
  obtain ⟨rfl, hZ, hh⟩ := hP
  have hx := Bd.exec
  have hby := Bd.bytes
  have hml : c.maxLocals = 3 := hml0
  have hown : s.vm.findClass "com/example/honest_search/honestsearch/index/PhraseSettings" = some m.cls := findClass_of_methodNamed Bd.named
  have hnm := (name_of_methodNamed Bd.named Bd.method).1
  have hlk : meth.locks = false := BodyLoose.notSynchronized Bd
  have X0 : Stand p l e ({ frames := 0, cells := 0, slots := 0, locals := 0 } : Room) s m #[(.ref ba), (.ref bb)] below meth c s₁ [] 0 0 := Stand.of_body Bd
  have e0 : s₁.heap = h0 := by rw [← hh, Bd.state]; rfl
  have N0 := Fr.nil n0
  rw [ef_peqI m ba bb]
  show Go p e below s (fun v h L => Q_peqI Z ba bb h0 n0 v h L) ({ frames := 0, cells := 0, slots := 0, locals := 0 } : Room).cells ({ frames := 0, cells := 0, slots := 0, locals := 0 } : Room).slots s₁ (mkF m 0 #[.val (.ref ba), .val (.ref bb), .unset] [])
  refine Go.step (T' := s₁) (f' := (mkF m 1 #[.val (.ref ba), .val (.ref bb), .unset] [(.ref bb)])) (fun t k => XS.aloadN X0.here hx rfl (hb hby d7_0) rfl rfl k) ?_
  obtain ⟨T247, X247, e247, st247⟩ := instNo X0 hx hZ hown (hw _ (List.mem_of_getElem? (i := 61) rfl)) e0 P0 (own_ns_no (hw _ (List.mem_of_getElem? (i := 70) rfl)) (hw _ (List.mem_of_getElem? (i := 4) rfl)) (NS.step (hw _ (List.mem_of_getElem? (i := 70) rfl)) (NS.step (hw _ (List.mem_of_getElem? (i := 71) rfl)) (own_ns_root (hw _ (List.mem_of_getElem? (i := 72) rfl)) (hw _ (List.mem_of_getElem? (i := 4) rfl)) (by decide)) (by decide)) (by decide)) (by decide)) (g := (mkF m 1 #[.val (.ref ba), .val (.ref bb), .unset] [(.ref bb)])) rfl rfl (hb hby d7_1)
  refine Go.step (T' := T247) (f' := (mkF m 4 #[.val (.ref ba), .val (.ref bb), .unset] [(.int (0 : Int32))])) st247 ?_
  clear st247 X0
  refine Go.step (T' := T247) (f' := (mkF m 15 #[.val (.ref ba), .val (.ref bb), .unset] [])) (fun t k => XS.ifYes X247.here hx rfl (pc0 := 4) (pc' := 15) rfl (hb hby d7_4) rfl ((if0 _ _).trans (teq (by decide : (0 : Int32) = (0 : Int32))).1) (by decide) (by decide) k) ?_
  refine Go.step (T' := T247) (f' := (mkF m 16 #[.val (.ref ba), .val (.ref bb), .unset] [(.int (0 : Int32))])) (fun t k => XS.iconst X247.here hx rfl (hb hby d7_15) k) ?_
  refine Go.retZ X247 hx hlk (t := .boolean) Bd.returns (by simp) (hb hby d7_16) e247 ?_ (by decide) (by decide)
  exact ⟨rfl, N0, rfl⟩
theorem d10_0 : decode jdk_18_method_1_code 0 = .ok (.aload_n 0, 1) := by decide +kernel
theorem d10_1 : decode jdk_18_method_1_code 1 = .ok (.invokespecial 1, 3) := by decide +kernel
theorem d10_4 : decode jdk_18_method_1_code 4 = .ok (.return_, 1) := by decide +kernel
theorem pn_java_lang_Number : plainName "java/lang/Number" = true := by first | (simp [plainName, overriddenIn]; done) | decide +kernel
theorem ef_num (m : MethodId) (ba : Addr) : entryFrame m #[(.ref ba)] 1 = mkF m 0 #[.val (.ref ba)] [] := by first | (simp [entryFrame, mkF, argsToLocals, Value.category]; done) | rfl
def Q_num (Z : State) (ba : Addr) (h0 : Heap) (n0 : Nat) (v : Option Value) (h : Heap) (L : List Loc) : Prop := v = none ∧ Fr n0 L ∧ h = h0
set_option maxRecDepth 65536 in
set_option maxHeartbeats 40000000 in
theorem rm_num (l : Launch) (Z : State) (a0 : Array Value) (hw : ∀ d ∈ tables_1, d.before a0 Z = true) (ws : List Jvm.Cond) (ba : Addr) (h0 : Heap) (n0 : Nat) (O0 : Old Z n0 h0) :
    MetFree l (⟨"java/lang/Number", "<init>", "()V"⟩ : MethodName) (head1 (Jvm.Cond.code (⟨"java/lang/Number", "<init>", "()V"⟩ : MethodName) jdk_18_method_1_code 1 none :: ws) ({ frames := 1, cells := 0, slots := 0, locals := 12 } : Room)) (fun a U => a = #[(.ref ba)] ∧ Z.Warmed39 U.vm ∧ U.heap = h0) (fun _ _ _ _ _ => True) (fun _ U o U' => ∃ v L, o = .returned v ∧ Q_num Z ba h0 n0 v U'.heap L ∧ FrameEnd U o U' L ({ frames := 1, cells := 0, slots := 0, locals := 12 } : Room).cells ({ frames := 1, cells := 0, slots := 0, locals := 12 } : Room).slots) := by
  refine MetFree.of_bodySF (plainFor_of_name pn_java_lang_Number) hisR ?_
  intro p e s m args below meth c s₁ Bd hml0 hP hK
  obtain ⟨rfl, hZ, hh⟩ := hP
  have hx := Bd.exec
  have hby := Bd.bytes
  have hml : c.maxLocals = 1 := hml0
  have hown : s.vm.findClass "java/lang/Number" = some m.cls := findClass_of_methodNamed Bd.named
  have hnm := (name_of_methodNamed Bd.named Bd.method).1
  have hlk : meth.locks = false := BodyLoose.notSynchronized Bd
  have X0 : Stand p l e ({ frames := 1, cells := 0, slots := 0, locals := 12 } : Room) s m #[(.ref ba)] below meth c s₁ [] 0 0 := Stand.of_body Bd
  have e0 : s₁.heap = h0 := by rw [← hh, Bd.state]; rfl
  have N0 := Fr.nil n0
  rw [ef_num m ba]
  show Go p e below s (fun v h L => Q_num Z ba h0 n0 v h L) ({ frames := 1, cells := 0, slots := 0, locals := 12 } : Room).cells ({ frames := 1, cells := 0, slots := 0, locals := 12 } : Room).slots s₁ (mkF m 0 #[.val (.ref ba)] [])
  refine Go.step (T' := s₁) (f' := (mkF m 1 #[.val (.ref ba)] [(.ref ba)])) (fun t k => XS.aloadN X0.here hx rfl (hb hby d10_0) rfl rfl k) ?_
  obtain ⟨T248, X248, e248, st248⟩ := initO X0 hx hZ hown (hw _ (List.mem_of_getElem? (i := 85) rfl)) (hw _ (List.mem_of_getElem? (i := 11) rfl)) (hw _ (List.mem_of_getElem? (i := 12) rfl)) e0 (g := (mkF m 1 #[.val (.ref ba)] [(.ref ba)])) rfl (by rw [hml]; rfl) rfl (hb hby d10_1) (by decide) (W := 0) (by show 2 * 0 + _ ≤ _; exact Nat.le_of_eq rfl) (by decide)
  refine Go.step (T' := T248) (f' := (mkF m 4 #[.val (.ref ba)] [])) st248 ?_
  clear st248 X0
  refine Go.retV X248 hx hlk Bd.returns (hb hby d10_4) e248 ?_ (by decide) (by decide)
  exact ⟨rfl, N0, rfl⟩
theorem d9_0 : decode jdk_33_method_23_code 0 = .ok (.aload_n 0, 1) := by decide +kernel
theorem d9_1 : decode jdk_33_method_23_code 1 = .ok (.invokespecial 202, 3) := by decide +kernel
theorem d9_4 : decode jdk_33_method_23_code 4 = .ok (.aload_n 0, 1) := by decide +kernel
theorem d9_5 : decode jdk_33_method_23_code 5 = .ok (.iload_n 1, 1) := by decide +kernel
theorem d9_6 : decode jdk_33_method_23_code 6 = .ok (.putfield 205, 3) := by decide +kernel
theorem d9_9 : decode jdk_33_method_23_code 9 = .ok (.return_, 1) := by decide +kernel
theorem pn_java_lang_Integer : plainName "java/lang/Integer" = true := by first | (simp [plainName, overriddenIn]; done) | decide +kernel
theorem pd4 : parseMethodDescriptor "()V" = some ⟨[], none⟩ := by decide +kernel
theorem ef_iini (m : MethodId) (ba : Addr) (ia : Int32) : entryFrame m #[(.ref ba), (.int ia)] 2 = mkF m 0 #[.val (.ref ba), .val (.int ia)] [] := by first | (simp [entryFrame, mkF, argsToLocals, Value.category]; done) | rfl
def Q_iini (Z : State) (ba : Addr) (ia : Int32) (u0 : Value) (h0 : Heap) (n0 : Nat) (v : Option Value) (h : Heap) (L : List Loc) : Prop := v = none ∧ Fr n0 L ∧ Keep h0 h [ba] ∧ Exa Z h ba "java/lang/Integer"
set_option maxRecDepth 65536 in
set_option maxHeartbeats 40000000 in
theorem rm_iini (l : Launch) (Z : State) (a0 : Array Value) (hw : ∀ d ∈ tables_1, d.before a0 Z = true) (ws : List Jvm.Cond) (ba : Addr) (ia : Int32) (u0 : Value) (h0 : Heap) (n0 : Nat) (O0 : Old Z n0 h0) (P0 : Exa Z h0 ba "java/lang/Integer") (P1 : Fld Z h0 ba "java/lang/Integer" "value" "I" u0) (P2 : n0 ≤ ba) :
    MetFree l (⟨"java/lang/Integer", "<init>", "(I)V"⟩ : MethodName) (head1 (Jvm.Cond.code (⟨"java/lang/Integer", "<init>", "(I)V"⟩ : MethodName) jdk_33_method_23_code 2 none :: ws) ({ frames := 2, cells := 0, slots := 0, locals := 24 } : Room)) (fun a U => a = #[(.ref ba), (.int ia)] ∧ Z.Warmed39 U.vm ∧ U.heap = h0) (fun _ _ _ _ _ => True) (fun _ U o U' => ∃ v L, o = .returned v ∧ Q_iini Z ba ia u0 h0 n0 v U'.heap L ∧ FrameEnd U o U' L ({ frames := 2, cells := 0, slots := 0, locals := 24 } : Room).cells ({ frames := 2, cells := 0, slots := 0, locals := 24 } : Room).slots) := by
  refine MetFree.of_bodySF (plainFor_of_name pn_java_lang_Integer) hisR ?_
  intro p e s m args below meth c s₁ Bd hml0 hP hK
  obtain ⟨rfl, hZ, hh⟩ := hP
  have hx := Bd.exec
  have hby := Bd.bytes
  have hml : c.maxLocals = 2 := hml0
  have hown : s.vm.findClass "java/lang/Integer" = some m.cls := findClass_of_methodNamed Bd.named
  have hnm := (name_of_methodNamed Bd.named Bd.method).1
  have hlk : meth.locks = false := BodyLoose.notSynchronized Bd
  have X0 : Stand p l e ({ frames := 2, cells := 0, slots := 0, locals := 24 } : Room) s m #[(.ref ba), (.int ia)] below meth c s₁ [] 0 0 := Stand.of_body Bd
  have e0 : s₁.heap = h0 := by rw [← hh, Bd.state]; rfl
  have N0 := Fr.nil n0
  have K0 := Keep.refl h0 [ba]
  rw [ef_iini m ba ia]
  show Go p e below s (fun v h L => Q_iini Z ba ia u0 h0 n0 v h L) ({ frames := 2, cells := 0, slots := 0, locals := 24 } : Room).cells ({ frames := 2, cells := 0, slots := 0, locals := 24 } : Room).slots s₁ (mkF m 0 #[.val (.ref ba), .val (.int ia)] [])
  refine Go.step (T' := s₁) (f' := (mkF m 1 #[.val (.ref ba), .val (.int ia)] [(.ref ba)])) (fun t k => XS.aloadN X0.here hx rfl (hb hby d9_0) rfl rfl k) ?_
  obtain ⟨_, _, ⟨T249, L249, k249, n249⟩, -, X249, ⟨Lc249, hQ249, l249, y249, z249⟩, st249⟩ := X0.specialBack hx (y := (⟨"java/lang/Number", "<init>", "()V"⟩ : MethodName)) rfl hown (mvT hZ (hw _ (List.mem_of_getElem? (i := 79) rfl))) (mvT hZ (hw _ (List.mem_of_getElem? (i := 80) rfl))) (mvT hZ (hw _ (List.mem_of_getElem? (i := 84) rfl))) (by decide) (backOf (W := 0) (rm_num l Z a0 hw [] ba h0 n0 O0 ) hZ (hw _ (List.mem_of_getElem? (i := 84) rfl)) (hw _ (List.mem_of_getElem? (i := 83) rfl)) (by decide) (by decide)) (g := (mkF m 1 #[.val (.ref ba), .val (.int ia)] [(.ref ba)])) rfl (by rw [hml]; rfl) (Steps.refl _) (a := ba) (argsL := []) (rest := []) (lenOf pd4 rfl) rfl (by show 2 * 0 + _ ≤ _; exact Nat.le_of_eq rfl) (hb hby d9_1) (fun _ _ => ⟨rfl, e0, (by decide : 0 + 0 ≤ _), (by decide : 0 + 0 ≤ _)⟩)
  dsimp only [Pt.U, Pt.locs, Pt.cells, Pt.slots] at X249 l249 y249 z249 st249 hQ249
  subst l249 y249 z249
  obtain ⟨rfl, Nq249, hh249⟩ := hQ249
  have N250 := Fr.app N0 Nq249
  refine Go.via (T' := T249) (f' := (mkF m 4 #[.val (.ref ba), .val (.int ia)] [])) st249 ?_
  clear st249 X0 Nq249
  refine Go.step (T' := T249) (f' := (mkF m 5 #[.val (.ref ba), .val (.int ia)] [(.ref ba)])) (fun t k => XS.aloadN X249.here hx rfl (hb hby d9_4) rfl rfl k) ?_
  refine Go.step (T' := T249) (f' := (mkF m 6 #[.val (.ref ba), .val (.int ia)] [(.int ia), (.ref ba)])) (fun t k => XS.iloadN X249.here hx rfl (hb hby d9_5) rfl k) ?_
  obtain ⟨T251, h251, X251, e251, W251, st251⟩ := putF X249 hx hZ hown (host := "") (Or.inl (hw _ (List.mem_of_getElem? (i := 86) rfl))) Via.refl hh249 P1 P0 (Or.inr ⟨(hw _ (List.mem_of_getElem? (i := 87) rfl)), rfl, hnm⟩) (hw _ (List.mem_of_getElem? (i := 74) rfl)) (ty := .int) (by decide) rfl rfl (g := (mkF m 6 #[.val (.ref ba), .val (.int ia)] [(.int ia), (.ref ba)])) rfl rfl (hb hby d9_6)
  have f252 := P1.same W251
  have f253 := P0.wr W251
  have O254 := O0.wr W251 P2
  have K255 := K0.wr W251 (Or.inl (List.mem_of_getElem? (i := 0) rfl))
  have N256 := Fr.snoc X251 N250 P2
  refine Go.step (T' := T251) (f' := (mkF m 9 #[.val (.ref ba), .val (.int ia)] [])) st251 ?_
  clear st251 X249 N250
  refine Go.retV X251 hx hlk Bd.returns (hb hby d9_9) e251 ?_ (by decide) (by decide)
  exact ⟨rfl, N256, K255, f253⟩
theorem d8_0 : decode jdk_33_method_22_code 0 = .ok (.iload_n 0, 1) := by decide +kernel
theorem d8_1 : decode jdk_33_method_22_code 1 = .ok (.bipush (-128), 2) := by decide +kernel
theorem d8_3 : decode jdk_33_method_22_code 3 = .ok (.if_icmp .lt 20, 3) := by decide +kernel
theorem d8_6 : decode jdk_33_method_22_code 6 = .ok (.iload_n 0, 1) := by decide +kernel
theorem d8_7 : decode jdk_33_method_22_code 7 = .ok (.getstatic 191, 3) := by decide +kernel
theorem d8_10 : decode jdk_33_method_22_code 10 = .ok (.if_icmp .gt 13, 3) := by decide +kernel
theorem d8_13 : decode jdk_33_method_22_code 13 = .ok (.getstatic 195, 3) := by decide +kernel
theorem d8_16 : decode jdk_33_method_22_code 16 = .ok (.iload_n 0, 1) := by decide +kernel
theorem d8_17 : decode jdk_33_method_22_code 17 = .ok (.sipush 128, 3) := by decide +kernel
theorem d8_20 : decode jdk_33_method_22_code 20 = .ok (.iadd, 1) := by decide +kernel
theorem d8_21 : decode jdk_33_method_22_code 21 = .ok (.aaload, 1) := by decide +kernel
theorem d8_22 : decode jdk_33_method_22_code 22 = .ok (.areturn, 1) := by decide +kernel
theorem d8_23 : decode jdk_33_method_22_code 23 = .ok (.new 1, 3) := by decide +kernel
theorem d8_26 : decode jdk_33_method_22_code 26 = .ok (.dup, 1) := by decide +kernel
theorem d8_27 : decode jdk_33_method_22_code 27 = .ok (.iload_n 0, 1) := by decide +kernel
theorem d8_28 : decode jdk_33_method_22_code 28 = .ok (.invokespecial 199, 3) := by decide +kernel
theorem d8_31 : decode jdk_33_method_22_code 31 = .ok (.areturn, 1) := by decide +kernel
theorem pd5 : parseMethodDescriptor "(I)V" = some ⟨[.int], none⟩ := by decide +kernel
theorem ef_ival (m : MethodId) (ia : Int32) : entryFrame m #[(.int ia)] 1 = mkF m 0 #[.val (.int ia)] [] := by first | (simp [entryFrame, mkF, argsToLocals, Value.category]; done) | rfl
def Q_ival (Z : State) (ia : Int32) (wc : Addr) (cc : Cell) (h0 : Heap) (n0 : Nat) (v : Option Value) (h : Heap) (L : List Loc) : Prop := ∃ bi : Addr, v = some (.ref bi) ∧ Fr n0 L ∧ Keep h0 h [] ∧ Exa Z h bi "java/lang/Integer"
set_option maxRecDepth 65536 in
set_option maxHeartbeats 40000000 in
theorem rm_ival (l : Launch) (Z : State) (a0 : Array Value) (hw : ∀ d ∈ tables_1, d.before a0 Z = true) (ws : List Jvm.Cond) (ia : Int32) (wc : Addr) (cc : Cell) (h0 : Heap) (n0 : Nat) (O0 : Old Z n0 h0) (P0 : Sta Z Z.heap "java/lang/Integer$IntegerCache" "high" "I" (.int (127 : Int32))) (P1 : Sta Z Z.heap "java/lang/Integer$IntegerCache" "cache" "[Ljava/lang/Integer;" (.ref wc)) (hbx : Bxs Z wc cc "java/lang/Integer" "I" (256 : Int32) own_val) (hia : ¬ (ia < (0 : Int32))) :
    MetFree l (⟨"java/lang/Integer", "valueOf", "(I)Ljava/lang/Integer;"⟩ : MethodName) (head1 (Jvm.Cond.code (⟨"java/lang/Integer", "valueOf", "(I)Ljava/lang/Integer;"⟩ : MethodName) jdk_33_method_22_code 1 (some (.object "java/lang/Integer")) :: ws) ({ frames := 3, cells := 1, slots := 1, locals := 38 } : Room)) (fun a U => a = #[(.int ia)] ∧ Z.Warmed39 U.vm ∧ U.heap = h0) (fun _ _ _ _ _ => True) (fun _ U o U' => ∃ v L, o = .returned v ∧ Q_ival Z ia wc cc h0 n0 v U'.heap L ∧ FrameEnd U o U' L ({ frames := 3, cells := 1, slots := 1, locals := 38 } : Room).cells ({ frames := 3, cells := 1, slots := 1, locals := 38 } : Room).slots) := by
  refine MetFree.of_bodySF (plainFor_of_name pn_java_lang_Integer) hisR ?_
  intro p e s m args below meth c s₁ Bd hml0 hP hK
  obtain ⟨rfl, hZ, hh⟩ := hP
  have hx := Bd.exec
  have hby := Bd.bytes
  have hml : c.maxLocals = 1 := hml0
  have hown : s.vm.findClass "java/lang/Integer" = some m.cls := findClass_of_methodNamed Bd.named
  have hnm := (name_of_methodNamed Bd.named Bd.method).1
  have hlk : meth.locks = false := BodyLoose.notSynchronized Bd
  have X0 : Stand p l e ({ frames := 3, cells := 1, slots := 1, locals := 38 } : Room) s m #[(.int ia)] below meth c s₁ [] 0 0 := Stand.of_body Bd
  have e0 : s₁.heap = h0 := by rw [← hh, Bd.state]; rfl
  have N0 := Fr.nil n0
  have K0 := Keep.refl h0 []
  rw [ef_ival m ia]
  show Go p e below s (fun v h L => Q_ival Z ia wc cc h0 n0 v h L) ({ frames := 3, cells := 1, slots := 1, locals := 38 } : Room).cells ({ frames := 3, cells := 1, slots := 1, locals := 38 } : Room).slots s₁ (mkF m 0 #[.val (.int ia)] [])
  refine Go.step (T' := s₁) (f' := (mkF m 1 #[.val (.int ia)] [(.int ia)])) (fun t k => XS.iloadN X0.here hx rfl (hb hby d8_0) rfl k) ?_
  refine Go.step (T' := s₁) (f' := (mkF m 3 #[.val (.int ia)] [(.int (-128 : Int32)), (.int ia)])) (fun t k => XS.bipush X0.here hx rfl (hb hby d8_1) k) ?_
  have hc257 : ¬ (ia < (-128 : Int32)) := by
    exact own_not128 hia
  refine Go.step (T' := s₁) (f' := (mkF m 6 #[.val (.int ia)] [])) (fun t k => XS.icmpNo X0.here hx rfl (hb hby d8_3) rfl (flt hc257).1 k) ?_
  refine Go.step (T' := s₁) (f' := (mkF m 7 #[.val (.int ia)] [(.int ia)])) (fun t k => XS.iloadN X0.here hx rfl (hb hby d8_6) rfl k) ?_
  obtain ⟨T258, X258, e258, st258⟩ := getS2 X0 hx hZ hown (host := "") (Or.inl (hw _ (List.mem_of_getElem? (i := 67) rfl))) Via.refl e0 (P0.ext O0.2) (g := (mkF m 7 #[.val (.int ia)] [(.int ia)])) rfl (hb hby d8_7)
  refine Go.step (T' := T258) (f' := (mkF m 10 #[.val (.int ia)] [(.int (127 : Int32)), (.int ia)])) st258 ?_
  clear st258 X0
  by_cases hc259 : (127 : Int32) < ia
  ·
    refine Go.step (T' := T258) (f' := (mkF m 23 #[.val (.int ia)] [])) (fun t k => XS.icmpYes X258.here hx rfl (pc0 := 10) (pc' := 23) rfl (hb hby d8_10) rfl (tlt hc259).2.2.1 (by decide) (by decide) k) ?_
    obtain ⟨T260, h260, X260, e260, E260, A260, D260, -, st260⟩ := newO X258 hx hZ hown (hw _ (List.mem_of_getElem? (i := 73) rfl)) (hw _ (List.mem_of_getElem? (i := 74) rfl)) (hw _ (List.mem_of_getElem? (i := 65) rfl)) e258 (g := (mkF m 23 #[.val (.int ia)] [])) rfl (hb hby d8_23) (by decide) (by decide)
    obtain ⟨b260, g260⟩ : ∃ z, z = h0.size := ⟨_, rfl⟩
    rw [← g260] at A260 D260 st260
    have g261 : n0 ≤ b260 := Nat.le_trans (own_old_le O0) (Nat.le_of_eq g260.symm)
    have g262 : h0.size ≤ b260 := Nat.le_trans K0.1 (Nat.le_of_eq g260.symm)
    have O263 := O0.ext E260
    have K264 := K0.ext E260
    have f265 : Fld Z h260 b260 "java/lang/Integer" "value" "I" (.int (0 : Int32)) := D260 (Or.inr (hw _ (List.mem_of_getElem? (i := 87) rfl))) (ty := .int) (by decide)
    refine Go.step (T' := T260) (f' := (mkF m 26 #[.val (.int ia)] [(.ref b260)])) st260 ?_
    clear st260 X258
    refine Go.step (T' := T260) (f' := (mkF m 27 #[.val (.int ia)] [(.ref b260), (.ref b260)])) (fun t k => XS.dup X260.here hx rfl (hb hby d8_26) rfl rfl k) ?_
    refine Go.step (T' := T260) (f' := (mkF m 28 #[.val (.int ia)] [(.int ia), (.ref b260), (.ref b260)])) (fun t k => XS.iloadN X260.here hx rfl (hb hby d8_27) rfl k) ?_
    obtain ⟨_, _, ⟨T266, L266, k266, n266⟩, -, X266, ⟨Lc266, hQ266, l266, y266, z266⟩, st266⟩ := X260.specialBack hx (y := (⟨"java/lang/Integer", "<init>", "(I)V"⟩ : MethodName)) rfl hown (mvT hZ (hw _ (List.mem_of_getElem? (i := 75) rfl))) (mvT hZ (hw _ (List.mem_of_getElem? (i := 76) rfl))) (mvT hZ (hw _ (List.mem_of_getElem? (i := 78) rfl))) (by decide) (backOf (W := 1) (rm_iini l Z a0 hw [] b260 ia (.int (0 : Int32)) h260 n0 O263 A260 f265 g261) hZ (hw _ (List.mem_of_getElem? (i := 78) rfl)) (hw _ (List.mem_of_getElem? (i := 65) rfl)) (by decide) (by decide)) (g := (mkF m 28 #[.val (.int ia)] [(.int ia), (.ref b260), (.ref b260)])) rfl (by rw [hml]; rfl) (Steps.refl _) (a := b260) (argsL := [(.int ia)]) (rest := [(.ref b260)]) (lenOf pd5 rfl) rfl (by show 2 * 0 + _ ≤ _; exact Nat.le_of_eq rfl) (hb hby d8_28) (fun _ _ => ⟨rfl, e260, (by decide : 1 + 0 ≤ _), (by decide : 1 + 0 ≤ _)⟩)
    dsimp only [Pt.U, Pt.locs, Pt.cells, Pt.slots] at X266 l266 y266 z266 st266 hQ266
    subst l266 y266 z266
    obtain ⟨rfl, Nq266, hh266, p267⟩ := hQ266
    have N268 := Fr.app N0 Nq266
    have f269 := A260.keep hh266
    have O270 := O263.keep hh266 (allS g261 all0)
    have K271 := K264.trans hh266 (allS (Or.inr g262) all0)
    refine Go.via (T' := T266) (f' := (mkF m 31 #[.val (.int ia)] [(.ref b260)])) st266 ?_
    clear st266 X260 Nq266
    refine Go.retA X266 hx hlk Bd.returns rfl rfl (hb hby d8_31) rfl ?_ (by decide) (by decide)
    exact ⟨b260, rfl, N268, K271, p267⟩
  ·
    refine Go.step (T' := T258) (f' := (mkF m 13 #[.val (.int ia)] [])) (fun t k => XS.icmpNo X258.here hx rfl (hb hby d8_10) rfl (flt hc259).2.2.1 k) ?_
    obtain ⟨T272, X272, e272, st272⟩ := getS2 X258 hx hZ hown (host := "") (Or.inl (hw _ (List.mem_of_getElem? (i := 69) rfl))) Via.refl e258 (P1.ext O0.2) (g := (mkF m 13 #[.val (.int ia)] [])) rfl (hb hby d8_13)
    refine Go.step (T' := T272) (f' := (mkF m 16 #[.val (.int ia)] [(.ref wc)])) st272 ?_
    clear st272 X258
    refine Go.step (T' := T272) (f' := (mkF m 17 #[.val (.int ia)] [(.int ia), (.ref wc)])) (fun t k => XS.iloadN X272.here hx rfl (hb hby d8_16) rfl k) ?_
    refine Go.step (T' := T272) (f' := (mkF m 20 #[.val (.int ia)] [(.int (128 : Int32)), (.int ia), (.ref wc)])) (fun t k => XS.sipush X272.here hx rfl (hb hby d8_17) k) ?_
    refine Go.step (T' := T272) (f' := (mkF m 21 #[.val (.int ia)] [(.int (ia + (128 : Int32))), (.ref wc)])) (fun t k => XS.iadd X272.here hx rfl (hb hby d8_20) rfl k) ?_
    obtain ⟨Ab, Sb, Nb⟩ := hbx.ext O0.2
    have ib : ¬ ((ia + (128 : Int32)) < 0 ∨ cc.slots.size ≤ ((ia + (128 : Int32))).toNatClampNeg) := inb_of Sb (own_cidx hia hc259)
    obtain ⟨bx, vb, Eb, -⟩ := hbx.2.2.2 _ ib
    refine Go.step (T' := T272) (f' := (mkF m 22 #[.val (.int ia)] [(.ref bx)])) (fun t k => X272.aaload hx (j := (ia + (128 : Int32))) (v := (.ref bx)) (by rw [e272]; exact Ab.1) (State.isArrayOf_alike hZ.alike Ab.2.1) rfl Ab.2.2 ib vb (g := (mkF m 21 #[.val (.int ia)] [(.int (ia + (128 : Int32))), (.ref wc)])) rfl rfl (hb hby d8_21) t k) ?_
    refine Go.retA X272 hx hlk Bd.returns rfl rfl (hb hby d8_22) e272 ?_ (by decide) (by decide)
    exact ⟨bx, rfl, N0, K0, (Eb.ext O0.2)⟩
theorem pn_com_example_honest_search_honestsearch_index_PhraseSettingsEqualsPinLaw : plainName "com/example/honest_search/honestsearch/index/PhraseSettingsEqualsPinLaw" = true := by first | (simp [plainName, overriddenIn]; done) | decide +kernel
theorem pd6 : parseMethodDescriptor "(IIIDDII)V" = some ⟨[.int, .int, .int, .double, .double, .int, .int], none⟩ := by decide +kernel
theorem pd7 : parseMethodDescriptor "(Ljava/lang/Object;)Z" = some ⟨[(.object "java/lang/Object")], some .boolean⟩ := by decide +kernel
theorem pd8 : parseMethodDescriptor "(I)Ljava/lang/Integer;" = some ⟨[.int], some (.object "java/lang/Integer")⟩ := by decide +kernel
theorem ef_law (m : MethodId) (ia : Int32) (ib : Int32) (ic : Int32) (ie : Int32) (ij : Int64) (ig : Int32) : entryFrame m #[(.int ia), (.int ib), (.int ic), (.int ie), (.long ij), (.int ig)] maxLocals = mkF m 0 #[.val (.int ia), .val (.int ib), .val (.int ic), .val (.int ie), .val (.long ij), .second, .val (.int ig), .unset, .unset, .unset, .unset, .unset, .unset, .unset, .unset, .unset, .unset, .unset, .unset, .unset, .unset, .unset, .unset, .unset, .unset, .unset] [] := by first | (simp [entryFrame, mkF, argsToLocals, Value.category, maxLocals]; done) | rfl
def Q_law (Z : State) (ia : Int32) (ib : Int32) (ic : Int32) (ie : Int32) (ij : Int64) (ig : Int32) (wc : Addr) (cc : Cell) (h0 : Heap) (n0 : Nat) (v : Option Value) (h : Heap) (L : List Loc) : Prop := v = some (.int (1 : Int32)) ∧ Fr n0 L ∧ Keep h0 h []
set_option maxRecDepth 65536 in
set_option maxHeartbeats 40000000 in
theorem rm_law (l : Launch) (Z : State) (a0 : Array Value) (hw : ∀ d ∈ tables_1, d.before a0 Z = true) (ws : List Jvm.Cond) (ia : Int32) (ib : Int32) (ic : Int32) (ie : Int32) (ij : Int64) (ig : Int32) (wc : Addr) (cc : Cell) (h0 : Heap) (n0 : Nat) (O0 : Old Z n0 h0) (hEL : EW Z a0 own_EL) (P0 : Sta Z Z.heap "java/lang/Integer$IntegerCache" "high" "I" (.int (127 : Int32))) (P1 : Sta Z Z.heap "java/lang/Integer$IntegerCache" "cache" "[Ljava/lang/Integer;" (.ref wc)) (hbx : Bxs Z wc cc "java/lang/Integer" "I" (256 : Int32) own_val) :
    MetFree l x (head1 (Jvm.Cond.code x code maxLocals ret :: ws) room_1) (fun a U => a = #[(.int ia), (.int ib), (.int ic), (.int ie), (.long ij), (.int ig)] ∧ Z.Warmed39 U.vm ∧ U.heap = h0 ∧ CHv Z own_EL U.vm h0) (fun _ _ _ _ _ => True) (fun _ U o U' => ∃ v L, o = .returned v ∧ Q_law Z ia ib ic ie ij ig wc cc h0 n0 v U'.heap L ∧ CHr Z own_EL U.vm U.heap U'.vm U'.heap ∧ ReturnedEndW U o U' L room_1.cells room_1.slots) := by
  refine MetFree.of_bodySF (plainFor_of_name pn_com_example_honest_search_honestsearch_index_PhraseSettingsEqualsPinLaw) hisR ?_
  intro p e s m args below meth c s₁ Bd hml0 hP hK
  obtain ⟨rfl, hZ, hh, hC0⟩ := hP
  have hx := Bd.exec
  have hby := Bd.bytes
  have hml : c.maxLocals = 26 := hml0
  have hown : (s.setVm s.vm).vm.findClass "com/example/honest_search/honestsearch/index/PhraseSettingsEqualsPinLaw" = some m.cls := findClass_of_methodNamed Bd.named
  have hnm := (name_of_methodNamed Bd.named Bd.method).1
  have hlk : meth.locks = false := BodyLoose.notSynchronized Bd
  have X0 : Stand p l e room_1 (s.setVm s.vm) m #[(.int ia), (.int ib), (.int ic), (.int ie), (.long ij), (.int ig)] below meth c s₁ [] 0 0 := Stand.of_body Bd
  have e0 : s₁.heap = h0 := by rw [← hh, Bd.state]; rfl
  have N0 := Fr.nil n0
  have hZ : Z.Warmed39 (s.setVm s.vm).vm := hZ
  have hS0 : s.Since s.vm 0 := (State.WarmedH.refl s).since 0
  have hk0 : 0 ≤ h0.size := Nat.zero_le _
  have CR0 : CHr Z own_EL s.vm s.heap s.vm h0 := by rw [hh]; exact CHr.refl hC0
  have K0 := Keep.refl h0 []
  rw [ef_law m ia ib ic ie ij ig]
  show GoH p e below s Z own_EL (fun v h L => Q_law Z ia ib ic ie ij ig wc cc h0 n0 v h L) room_1.cells room_1.slots s₁ (mkF m 0 #[.val (.int ia), .val (.int ib), .val (.int ic), .val (.int ie), .val (.long ij), .second, .val (.int ig), .unset, .unset, .unset, .unset, .unset, .unset, .unset, .unset, .unset, .unset, .unset, .unset, .unset, .unset, .unset, .unset, .unset, .unset, .unset] [])
  refine GoH.step (T' := s₁) (f' := (mkF m 2 #[.val (.int ia), .val (.int ib), .val (.int ic), .val (.int ie), .val (.long ij), .second, .val (.int ig), .unset, .unset, .unset, .unset, .unset, .unset, .unset, .unset, .unset, .unset, .unset, .unset, .unset, .unset, .unset, .unset, .unset, .unset, .unset] [(.int ig)])) (fun t k => XS.iload X0.here hx rfl (hb hby at_0) rfl k) ?_
  refine GoH.step (T' := s₁) (f' := (mkF m 4 #[.val (.int ia), .val (.int ib), .val (.int ic), .val (.int ie), .val (.long ij), .second, .val (.int ig), .unset, .unset, .unset, .unset, .unset, .unset, .unset, .unset, .unset, .unset, .unset, .unset, .unset, .unset, .unset, .unset, .unset, .unset, .unset] [(.int (7 : Int32)), (.int ig)])) (fun t k => XS.bipush X0.here hx rfl (hb hby at_2) k) ?_
  refine GoH.step (T' := s₁) (f' := (mkF m 5 #[.val (.int ia), .val (.int ib), .val (.int ic), .val (.int ie), .val (.long ij), .second, .val (.int ig), .unset, .unset, .unset, .unset, .unset, .unset, .unset, .unset, .unset, .unset, .unset, .unset, .unset, .unset, .unset, .unset, .unset, .unset, .unset] [(.int (ig &&& (7 : Int32)))])) (fun t k => XS.iand X0.here hx rfl (hb hby at_4) rfl k) ?_
  refine GoH.step (T' := s₁) (f' := (mkF m 7 #[.val (.int ia), .val (.int ib), .val (.int ic), .val (.int ie), .val (.long ij), .second, .val (.int ig), .val (.int (ig &&& (7 : Int32))), .unset, .unset, .unset, .unset, .unset, .unset, .unset, .unset, .unset, .unset, .unset, .unset, .unset, .unset, .unset, .unset, .unset, .unset] [])) (fun t k => XS.istore X0.here hx rfl (hb hby at_5) rfl (l' := #[.val (.int ia), .val (.int ib), .val (.int ic), .val (.int ie), .val (.long ij), .second, .val (.int ig), .val (.int (ig &&& (7 : Int32))), .unset, .unset, .unset, .unset, .unset, .unset, .unset, .unset, .unset, .unset, .unset, .unset, .unset, .unset, .unset, .unset, .unset, .unset]) rfl k) ?_
  refine GoH.step (T' := s₁) (f' := (mkF m 9 #[.val (.int ia), .val (.int ib), .val (.int ic), .val (.int ie), .val (.long ij), .second, .val (.int ig), .val (.int (ig &&& (7 : Int32))), .unset, .unset, .unset, .unset, .unset, .unset, .unset, .unset, .unset, .unset, .unset, .unset, .unset, .unset, .unset, .unset, .unset, .unset] [(.int ig)])) (fun t k => XS.iload X0.here hx rfl (hb hby at_7) rfl k) ?_
  refine GoH.step (T' := s₁) (f' := (mkF m 10 #[.val (.int ia), .val (.int ib), .val (.int ic), .val (.int ie), .val (.long ij), .second, .val (.int ig), .val (.int (ig &&& (7 : Int32))), .unset, .unset, .unset, .unset, .unset, .unset, .unset, .unset, .unset, .unset, .unset, .unset, .unset, .unset, .unset, .unset, .unset, .unset] [(.int (3 : Int32)), (.int ig)])) (fun t k => XS.iconst X0.here hx rfl (hb hby at_9) k) ?_
  refine GoH.step (T' := s₁) (f' := (mkF m 11 #[.val (.int ia), .val (.int ib), .val (.int ic), .val (.int ie), .val (.long ij), .second, .val (.int ig), .val (.int (ig &&& (7 : Int32))), .unset, .unset, .unset, .unset, .unset, .unset, .unset, .unset, .unset, .unset, .unset, .unset, .unset, .unset, .unset, .unset, .unset, .unset] [(.int ((ig.toUInt32 >>> ((3 : Int32) &&& 31).toUInt32).toInt32))])) (fun t k => XS.iushr X0.here hx rfl (hb hby at_10) rfl k) ?_
  refine GoH.step (T' := s₁) (f' := (mkF m 12 #[.val (.int ia), .val (.int ib), .val (.int ic), .val (.int ie), .val (.long ij), .second, .val (.int ig), .val (.int (ig &&& (7 : Int32))), .unset, .unset, .unset, .unset, .unset, .unset, .unset, .unset, .unset, .unset, .unset, .unset, .unset, .unset, .unset, .unset, .unset, .unset] [(.int (3 : Int32)), (.int ((ig.toUInt32 >>> ((3 : Int32) &&& 31).toUInt32).toInt32))])) (fun t k => XS.iconst X0.here hx rfl (hb hby at_11) k) ?_
  refine GoH.step (T' := s₁) (f' := (mkF m 13 #[.val (.int ia), .val (.int ib), .val (.int ic), .val (.int ie), .val (.long ij), .second, .val (.int ig), .val (.int (ig &&& (7 : Int32))), .unset, .unset, .unset, .unset, .unset, .unset, .unset, .unset, .unset, .unset, .unset, .unset, .unset, .unset, .unset, .unset, .unset, .unset] [(.int (((ig.toUInt32 >>> ((3 : Int32) &&& 31).toUInt32).toInt32) &&& (3 : Int32)))])) (fun t k => XS.iand X0.here hx rfl (hb hby at_12) rfl k) ?_
  refine GoH.step (T' := s₁) (f' := (mkF m 15 #[.val (.int ia), .val (.int ib), .val (.int ic), .val (.int ie), .val (.long ij), .second, .val (.int ig), .val (.int (ig &&& (7 : Int32))), .val (.int (((ig.toUInt32 >>> ((3 : Int32) &&& 31).toUInt32).toInt32) &&& (3 : Int32))), .unset, .unset, .unset, .unset, .unset, .unset, .unset, .unset, .unset, .unset, .unset, .unset, .unset, .unset, .unset, .unset, .unset] [])) (fun t k => XS.istore X0.here hx rfl (hb hby at_13) rfl (l' := #[.val (.int ia), .val (.int ib), .val (.int ic), .val (.int ie), .val (.long ij), .second, .val (.int ig), .val (.int (ig &&& (7 : Int32))), .val (.int (((ig.toUInt32 >>> ((3 : Int32) &&& 31).toUInt32).toInt32) &&& (3 : Int32))), .unset, .unset, .unset, .unset, .unset, .unset, .unset, .unset, .unset, .unset, .unset, .unset, .unset, .unset, .unset, .unset, .unset]) rfl k) ?_
  refine GoH.step (T' := s₁) (f' := (mkF m 16 #[.val (.int ia), .val (.int ib), .val (.int ic), .val (.int ie), .val (.long ij), .second, .val (.int ig), .val (.int (ig &&& (7 : Int32))), .val (.int (((ig.toUInt32 >>> ((3 : Int32) &&& 31).toUInt32).toInt32) &&& (3 : Int32))), .unset, .unset, .unset, .unset, .unset, .unset, .unset, .unset, .unset, .unset, .unset, .unset, .unset, .unset, .unset, .unset, .unset] [(.int ia)])) (fun t k => XS.iloadN X0.here hx rfl (hb hby at_15) rfl k) ?_
  refine GoH.step (T' := s₁) (f' := (mkF m 18 #[.val (.int ia), .val (.int ib), .val (.int ic), .val (.int ie), .val (.long ij), .second, .val (.int ig), .val (.int (ig &&& (7 : Int32))), .val (.int (((ig.toUInt32 >>> ((3 : Int32) &&& 31).toUInt32).toInt32) &&& (3 : Int32))), .unset, .unset, .unset, .unset, .unset, .unset, .unset, .unset, .unset, .unset, .unset, .unset, .unset, .unset, .unset, .unset, .unset] [(.int (2147483647 : Int32)), (.int ia)])) (fun t k => X0.ldcInt hx hown (mvT hZ (hw _ (List.mem_of_getElem? (i := 0) rfl))) (g := (mkF m 16 #[.val (.int ia), .val (.int ib), .val (.int ic), .val (.int ie), .val (.long ij), .second, .val (.int ig), .val (.int (ig &&& (7 : Int32))), .val (.int (((ig.toUInt32 >>> ((3 : Int32) &&& 31).toUInt32).toInt32) &&& (3 : Int32))), .unset, .unset, .unset, .unset, .unset, .unset, .unset, .unset, .unset, .unset, .unset, .unset, .unset, .unset, .unset, .unset, .unset] [(.int ia)])) rfl (hb hby at_16) t k) ?_
  refine GoH.step (T' := s₁) (f' := (mkF m 19 #[.val (.int ia), .val (.int ib), .val (.int ic), .val (.int ie), .val (.long ij), .second, .val (.int ig), .val (.int (ig &&& (7 : Int32))), .val (.int (((ig.toUInt32 >>> ((3 : Int32) &&& 31).toUInt32).toInt32) &&& (3 : Int32))), .unset, .unset, .unset, .unset, .unset, .unset, .unset, .unset, .unset, .unset, .unset, .unset, .unset, .unset, .unset, .unset, .unset] [(.int (ia &&& (2147483647 : Int32)))])) (fun t k => XS.iand X0.here hx rfl (hb hby at_18) rfl k) ?_
  refine GoH.step (T' := s₁) (f' := (mkF m 21 #[.val (.int ia), .val (.int ib), .val (.int ic), .val (.int ie), .val (.long ij), .second, .val (.int ig), .val (.int (ig &&& (7 : Int32))), .val (.int (((ig.toUInt32 >>> ((3 : Int32) &&& 31).toUInt32).toInt32) &&& (3 : Int32))), .val (.int (ia &&& (2147483647 : Int32))), .unset, .unset, .unset, .unset, .unset, .unset, .unset, .unset, .unset, .unset, .unset, .unset, .unset, .unset, .unset, .unset] [])) (fun t k => XS.istore X0.here hx rfl (hb hby at_19) rfl (l' := #[.val (.int ia), .val (.int ib), .val (.int ic), .val (.int ie), .val (.long ij), .second, .val (.int ig), .val (.int (ig &&& (7 : Int32))), .val (.int (((ig.toUInt32 >>> ((3 : Int32) &&& 31).toUInt32).toInt32) &&& (3 : Int32))), .val (.int (ia &&& (2147483647 : Int32))), .unset, .unset, .unset, .unset, .unset, .unset, .unset, .unset, .unset, .unset, .unset, .unset, .unset, .unset, .unset, .unset]) rfl k) ?_
  refine GoH.step (T' := s₁) (f' := (mkF m 22 #[.val (.int ia), .val (.int ib), .val (.int ic), .val (.int ie), .val (.long ij), .second, .val (.int ig), .val (.int (ig &&& (7 : Int32))), .val (.int (((ig.toUInt32 >>> ((3 : Int32) &&& 31).toUInt32).toInt32) &&& (3 : Int32))), .val (.int (ia &&& (2147483647 : Int32))), .unset, .unset, .unset, .unset, .unset, .unset, .unset, .unset, .unset, .unset, .unset, .unset, .unset, .unset, .unset, .unset] [(.int ib)])) (fun t k => XS.iloadN X0.here hx rfl (hb hby at_21) rfl k) ?_
  refine GoH.step (T' := s₁) (f' := (mkF m 24 #[.val (.int ia), .val (.int ib), .val (.int ic), .val (.int ie), .val (.long ij), .second, .val (.int ig), .val (.int (ig &&& (7 : Int32))), .val (.int (((ig.toUInt32 >>> ((3 : Int32) &&& 31).toUInt32).toInt32) &&& (3 : Int32))), .val (.int (ia &&& (2147483647 : Int32))), .unset, .unset, .unset, .unset, .unset, .unset, .unset, .unset, .unset, .unset, .unset, .unset, .unset, .unset, .unset, .unset] [(.int (2147483647 : Int32)), (.int ib)])) (fun t k => X0.ldcInt hx hown (mvT hZ (hw _ (List.mem_of_getElem? (i := 0) rfl))) (g := (mkF m 22 #[.val (.int ia), .val (.int ib), .val (.int ic), .val (.int ie), .val (.long ij), .second, .val (.int ig), .val (.int (ig &&& (7 : Int32))), .val (.int (((ig.toUInt32 >>> ((3 : Int32) &&& 31).toUInt32).toInt32) &&& (3 : Int32))), .val (.int (ia &&& (2147483647 : Int32))), .unset, .unset, .unset, .unset, .unset, .unset, .unset, .unset, .unset, .unset, .unset, .unset, .unset, .unset, .unset, .unset] [(.int ib)])) rfl (hb hby at_22) t k) ?_
  refine GoH.step (T' := s₁) (f' := (mkF m 25 #[.val (.int ia), .val (.int ib), .val (.int ic), .val (.int ie), .val (.long ij), .second, .val (.int ig), .val (.int (ig &&& (7 : Int32))), .val (.int (((ig.toUInt32 >>> ((3 : Int32) &&& 31).toUInt32).toInt32) &&& (3 : Int32))), .val (.int (ia &&& (2147483647 : Int32))), .unset, .unset, .unset, .unset, .unset, .unset, .unset, .unset, .unset, .unset, .unset, .unset, .unset, .unset, .unset, .unset] [(.int (ib &&& (2147483647 : Int32)))])) (fun t k => XS.iand X0.here hx rfl (hb hby at_24) rfl k) ?_
  refine GoH.step (T' := s₁) (f' := (mkF m 27 #[.val (.int ia), .val (.int ib), .val (.int ic), .val (.int ie), .val (.long ij), .second, .val (.int ig), .val (.int (ig &&& (7 : Int32))), .val (.int (((ig.toUInt32 >>> ((3 : Int32) &&& 31).toUInt32).toInt32) &&& (3 : Int32))), .val (.int (ia &&& (2147483647 : Int32))), .val (.int (ib &&& (2147483647 : Int32))), .unset, .unset, .unset, .unset, .unset, .unset, .unset, .unset, .unset, .unset, .unset, .unset, .unset, .unset, .unset] [])) (fun t k => XS.istore X0.here hx rfl (hb hby at_25) rfl (l' := #[.val (.int ia), .val (.int ib), .val (.int ic), .val (.int ie), .val (.long ij), .second, .val (.int ig), .val (.int (ig &&& (7 : Int32))), .val (.int (((ig.toUInt32 >>> ((3 : Int32) &&& 31).toUInt32).toInt32) &&& (3 : Int32))), .val (.int (ia &&& (2147483647 : Int32))), .val (.int (ib &&& (2147483647 : Int32))), .unset, .unset, .unset, .unset, .unset, .unset, .unset, .unset, .unset, .unset, .unset, .unset, .unset, .unset, .unset]) rfl k) ?_
  refine GoH.step (T' := s₁) (f' := (mkF m 28 #[.val (.int ia), .val (.int ib), .val (.int ic), .val (.int ie), .val (.long ij), .second, .val (.int ig), .val (.int (ig &&& (7 : Int32))), .val (.int (((ig.toUInt32 >>> ((3 : Int32) &&& 31).toUInt32).toInt32) &&& (3 : Int32))), .val (.int (ia &&& (2147483647 : Int32))), .val (.int (ib &&& (2147483647 : Int32))), .unset, .unset, .unset, .unset, .unset, .unset, .unset, .unset, .unset, .unset, .unset, .unset, .unset, .unset, .unset] [(.int ic)])) (fun t k => XS.iloadN X0.here hx rfl (hb hby at_27) rfl k) ?_
  refine GoH.step (T' := s₁) (f' := (mkF m 30 #[.val (.int ia), .val (.int ib), .val (.int ic), .val (.int ie), .val (.long ij), .second, .val (.int ig), .val (.int (ig &&& (7 : Int32))), .val (.int (((ig.toUInt32 >>> ((3 : Int32) &&& 31).toUInt32).toInt32) &&& (3 : Int32))), .val (.int (ia &&& (2147483647 : Int32))), .val (.int (ib &&& (2147483647 : Int32))), .unset, .unset, .unset, .unset, .unset, .unset, .unset, .unset, .unset, .unset, .unset, .unset, .unset, .unset, .unset] [(.int (2147483647 : Int32)), (.int ic)])) (fun t k => X0.ldcInt hx hown (mvT hZ (hw _ (List.mem_of_getElem? (i := 0) rfl))) (g := (mkF m 28 #[.val (.int ia), .val (.int ib), .val (.int ic), .val (.int ie), .val (.long ij), .second, .val (.int ig), .val (.int (ig &&& (7 : Int32))), .val (.int (((ig.toUInt32 >>> ((3 : Int32) &&& 31).toUInt32).toInt32) &&& (3 : Int32))), .val (.int (ia &&& (2147483647 : Int32))), .val (.int (ib &&& (2147483647 : Int32))), .unset, .unset, .unset, .unset, .unset, .unset, .unset, .unset, .unset, .unset, .unset, .unset, .unset, .unset, .unset] [(.int ic)])) rfl (hb hby at_28) t k) ?_
  refine GoH.step (T' := s₁) (f' := (mkF m 31 #[.val (.int ia), .val (.int ib), .val (.int ic), .val (.int ie), .val (.long ij), .second, .val (.int ig), .val (.int (ig &&& (7 : Int32))), .val (.int (((ig.toUInt32 >>> ((3 : Int32) &&& 31).toUInt32).toInt32) &&& (3 : Int32))), .val (.int (ia &&& (2147483647 : Int32))), .val (.int (ib &&& (2147483647 : Int32))), .unset, .unset, .unset, .unset, .unset, .unset, .unset, .unset, .unset, .unset, .unset, .unset, .unset, .unset, .unset] [(.int (ic &&& (2147483647 : Int32)))])) (fun t k => XS.iand X0.here hx rfl (hb hby at_30) rfl k) ?_
  refine GoH.step (T' := s₁) (f' := (mkF m 33 #[.val (.int ia), .val (.int ib), .val (.int ic), .val (.int ie), .val (.long ij), .second, .val (.int ig), .val (.int (ig &&& (7 : Int32))), .val (.int (((ig.toUInt32 >>> ((3 : Int32) &&& 31).toUInt32).toInt32) &&& (3 : Int32))), .val (.int (ia &&& (2147483647 : Int32))), .val (.int (ib &&& (2147483647 : Int32))), .val (.int (ic &&& (2147483647 : Int32))), .unset, .unset, .unset, .unset, .unset, .unset, .unset, .unset, .unset, .unset, .unset, .unset, .unset, .unset] [])) (fun t k => XS.istore X0.here hx rfl (hb hby at_31) rfl (l' := #[.val (.int ia), .val (.int ib), .val (.int ic), .val (.int ie), .val (.long ij), .second, .val (.int ig), .val (.int (ig &&& (7 : Int32))), .val (.int (((ig.toUInt32 >>> ((3 : Int32) &&& 31).toUInt32).toInt32) &&& (3 : Int32))), .val (.int (ia &&& (2147483647 : Int32))), .val (.int (ib &&& (2147483647 : Int32))), .val (.int (ic &&& (2147483647 : Int32))), .unset, .unset, .unset, .unset, .unset, .unset, .unset, .unset, .unset, .unset, .unset, .unset, .unset, .unset]) rfl k) ?_
  refine GoH.step (T' := s₁) (f' := (mkF m 34 #[.val (.int ia), .val (.int ib), .val (.int ic), .val (.int ie), .val (.long ij), .second, .val (.int ig), .val (.int (ig &&& (7 : Int32))), .val (.int (((ig.toUInt32 >>> ((3 : Int32) &&& 31).toUInt32).toInt32) &&& (3 : Int32))), .val (.int (ia &&& (2147483647 : Int32))), .val (.int (ib &&& (2147483647 : Int32))), .val (.int (ic &&& (2147483647 : Int32))), .unset, .unset, .unset, .unset, .unset, .unset, .unset, .unset, .unset, .unset, .unset, .unset, .unset, .unset] [(.int ie)])) (fun t k => XS.iloadN X0.here hx rfl (hb hby at_33) rfl k) ?_
  refine GoH.step (T' := s₁) (f' := (mkF m 36 #[.val (.int ia), .val (.int ib), .val (.int ic), .val (.int ie), .val (.long ij), .second, .val (.int ig), .val (.int (ig &&& (7 : Int32))), .val (.int (((ig.toUInt32 >>> ((3 : Int32) &&& 31).toUInt32).toInt32) &&& (3 : Int32))), .val (.int (ia &&& (2147483647 : Int32))), .val (.int (ib &&& (2147483647 : Int32))), .val (.int (ic &&& (2147483647 : Int32))), .unset, .unset, .unset, .unset, .unset, .unset, .unset, .unset, .unset, .unset, .unset, .unset, .unset, .unset] [(.int (65535 : Int32)), (.int ie)])) (fun t k => X0.ldcInt hx hown (mvT hZ (hw _ (List.mem_of_getElem? (i := 1) rfl))) (g := (mkF m 34 #[.val (.int ia), .val (.int ib), .val (.int ic), .val (.int ie), .val (.long ij), .second, .val (.int ig), .val (.int (ig &&& (7 : Int32))), .val (.int (((ig.toUInt32 >>> ((3 : Int32) &&& 31).toUInt32).toInt32) &&& (3 : Int32))), .val (.int (ia &&& (2147483647 : Int32))), .val (.int (ib &&& (2147483647 : Int32))), .val (.int (ic &&& (2147483647 : Int32))), .unset, .unset, .unset, .unset, .unset, .unset, .unset, .unset, .unset, .unset, .unset, .unset, .unset, .unset] [(.int ie)])) rfl (hb hby at_34) t k) ?_
  refine GoH.step (T' := s₁) (f' := (mkF m 37 #[.val (.int ia), .val (.int ib), .val (.int ic), .val (.int ie), .val (.long ij), .second, .val (.int ig), .val (.int (ig &&& (7 : Int32))), .val (.int (((ig.toUInt32 >>> ((3 : Int32) &&& 31).toUInt32).toInt32) &&& (3 : Int32))), .val (.int (ia &&& (2147483647 : Int32))), .val (.int (ib &&& (2147483647 : Int32))), .val (.int (ic &&& (2147483647 : Int32))), .unset, .unset, .unset, .unset, .unset, .unset, .unset, .unset, .unset, .unset, .unset, .unset, .unset, .unset] [(.int (ie &&& (65535 : Int32)))])) (fun t k => XS.iand X0.here hx rfl (hb hby at_36) rfl k) ?_
  refine GoH.step (T' := s₁) (f' := (mkF m 39 #[.val (.int ia), .val (.int ib), .val (.int ic), .val (.int ie), .val (.long ij), .second, .val (.int ig), .val (.int (ig &&& (7 : Int32))), .val (.int (((ig.toUInt32 >>> ((3 : Int32) &&& 31).toUInt32).toInt32) &&& (3 : Int32))), .val (.int (ia &&& (2147483647 : Int32))), .val (.int (ib &&& (2147483647 : Int32))), .val (.int (ic &&& (2147483647 : Int32))), .val (.int (ie &&& (65535 : Int32))), .unset, .unset, .unset, .unset, .unset, .unset, .unset, .unset, .unset, .unset, .unset, .unset, .unset] [])) (fun t k => XS.istore X0.here hx rfl (hb hby at_37) rfl (l' := #[.val (.int ia), .val (.int ib), .val (.int ic), .val (.int ie), .val (.long ij), .second, .val (.int ig), .val (.int (ig &&& (7 : Int32))), .val (.int (((ig.toUInt32 >>> ((3 : Int32) &&& 31).toUInt32).toInt32) &&& (3 : Int32))), .val (.int (ia &&& (2147483647 : Int32))), .val (.int (ib &&& (2147483647 : Int32))), .val (.int (ic &&& (2147483647 : Int32))), .val (.int (ie &&& (65535 : Int32))), .unset, .unset, .unset, .unset, .unset, .unset, .unset, .unset, .unset, .unset, .unset, .unset, .unset]) rfl k) ?_
  refine GoH.step (T' := s₁) (f' := (mkF m 40 #[.val (.int ia), .val (.int ib), .val (.int ic), .val (.int ie), .val (.long ij), .second, .val (.int ig), .val (.int (ig &&& (7 : Int32))), .val (.int (((ig.toUInt32 >>> ((3 : Int32) &&& 31).toUInt32).toInt32) &&& (3 : Int32))), .val (.int (ia &&& (2147483647 : Int32))), .val (.int (ib &&& (2147483647 : Int32))), .val (.int (ic &&& (2147483647 : Int32))), .val (.int (ie &&& (65535 : Int32))), .unset, .unset, .unset, .unset, .unset, .unset, .unset, .unset, .unset, .unset, .unset, .unset, .unset] [(.int ie)])) (fun t k => XS.iloadN X0.here hx rfl (hb hby at_39) rfl k) ?_
  refine GoH.step (T' := s₁) (f' := (mkF m 42 #[.val (.int ia), .val (.int ib), .val (.int ic), .val (.int ie), .val (.long ij), .second, .val (.int ig), .val (.int (ig &&& (7 : Int32))), .val (.int (((ig.toUInt32 >>> ((3 : Int32) &&& 31).toUInt32).toInt32) &&& (3 : Int32))), .val (.int (ia &&& (2147483647 : Int32))), .val (.int (ib &&& (2147483647 : Int32))), .val (.int (ic &&& (2147483647 : Int32))), .val (.int (ie &&& (65535 : Int32))), .unset, .unset, .unset, .unset, .unset, .unset, .unset, .unset, .unset, .unset, .unset, .unset, .unset] [(.int (16 : Int32)), (.int ie)])) (fun t k => XS.bipush X0.here hx rfl (hb hby at_40) k) ?_
  refine GoH.step (T' := s₁) (f' := (mkF m 43 #[.val (.int ia), .val (.int ib), .val (.int ic), .val (.int ie), .val (.long ij), .second, .val (.int ig), .val (.int (ig &&& (7 : Int32))), .val (.int (((ig.toUInt32 >>> ((3 : Int32) &&& 31).toUInt32).toInt32) &&& (3 : Int32))), .val (.int (ia &&& (2147483647 : Int32))), .val (.int (ib &&& (2147483647 : Int32))), .val (.int (ic &&& (2147483647 : Int32))), .val (.int (ie &&& (65535 : Int32))), .unset, .unset, .unset, .unset, .unset, .unset, .unset, .unset, .unset, .unset, .unset, .unset, .unset] [(.int ((ie.toUInt32 >>> ((16 : Int32) &&& 31).toUInt32).toInt32))])) (fun t k => XS.iushr X0.here hx rfl (hb hby at_42) rfl k) ?_
  refine GoH.step (T' := s₁) (f' := (mkF m 45 #[.val (.int ia), .val (.int ib), .val (.int ic), .val (.int ie), .val (.long ij), .second, .val (.int ig), .val (.int (ig &&& (7 : Int32))), .val (.int (((ig.toUInt32 >>> ((3 : Int32) &&& 31).toUInt32).toInt32) &&& (3 : Int32))), .val (.int (ia &&& (2147483647 : Int32))), .val (.int (ib &&& (2147483647 : Int32))), .val (.int (ic &&& (2147483647 : Int32))), .val (.int (ie &&& (65535 : Int32))), .unset, .unset, .unset, .unset, .unset, .unset, .unset, .unset, .unset, .unset, .unset, .unset, .unset] [(.int (65535 : Int32)), (.int ((ie.toUInt32 >>> ((16 : Int32) &&& 31).toUInt32).toInt32))])) (fun t k => X0.ldcInt hx hown (mvT hZ (hw _ (List.mem_of_getElem? (i := 1) rfl))) (g := (mkF m 43 #[.val (.int ia), .val (.int ib), .val (.int ic), .val (.int ie), .val (.long ij), .second, .val (.int ig), .val (.int (ig &&& (7 : Int32))), .val (.int (((ig.toUInt32 >>> ((3 : Int32) &&& 31).toUInt32).toInt32) &&& (3 : Int32))), .val (.int (ia &&& (2147483647 : Int32))), .val (.int (ib &&& (2147483647 : Int32))), .val (.int (ic &&& (2147483647 : Int32))), .val (.int (ie &&& (65535 : Int32))), .unset, .unset, .unset, .unset, .unset, .unset, .unset, .unset, .unset, .unset, .unset, .unset, .unset] [(.int ((ie.toUInt32 >>> ((16 : Int32) &&& 31).toUInt32).toInt32))])) rfl (hb hby at_43) t k) ?_
  refine GoH.step (T' := s₁) (f' := (mkF m 46 #[.val (.int ia), .val (.int ib), .val (.int ic), .val (.int ie), .val (.long ij), .second, .val (.int ig), .val (.int (ig &&& (7 : Int32))), .val (.int (((ig.toUInt32 >>> ((3 : Int32) &&& 31).toUInt32).toInt32) &&& (3 : Int32))), .val (.int (ia &&& (2147483647 : Int32))), .val (.int (ib &&& (2147483647 : Int32))), .val (.int (ic &&& (2147483647 : Int32))), .val (.int (ie &&& (65535 : Int32))), .unset, .unset, .unset, .unset, .unset, .unset, .unset, .unset, .unset, .unset, .unset, .unset, .unset] [(.int (((ie.toUInt32 >>> ((16 : Int32) &&& 31).toUInt32).toInt32) &&& (65535 : Int32)))])) (fun t k => XS.iand X0.here hx rfl (hb hby at_45) rfl k) ?_
  refine GoH.step (T' := s₁) (f' := (mkF m 48 #[.val (.int ia), .val (.int ib), .val (.int ic), .val (.int ie), .val (.long ij), .second, .val (.int ig), .val (.int (ig &&& (7 : Int32))), .val (.int (((ig.toUInt32 >>> ((3 : Int32) &&& 31).toUInt32).toInt32) &&& (3 : Int32))), .val (.int (ia &&& (2147483647 : Int32))), .val (.int (ib &&& (2147483647 : Int32))), .val (.int (ic &&& (2147483647 : Int32))), .val (.int (ie &&& (65535 : Int32))), .val (.int (((ie.toUInt32 >>> ((16 : Int32) &&& 31).toUInt32).toInt32) &&& (65535 : Int32))), .unset, .unset, .unset, .unset, .unset, .unset, .unset, .unset, .unset, .unset, .unset, .unset] [])) (fun t k => XS.istore X0.here hx rfl (hb hby at_46) rfl (l' := #[.val (.int ia), .val (.int ib), .val (.int ic), .val (.int ie), .val (.long ij), .second, .val (.int ig), .val (.int (ig &&& (7 : Int32))), .val (.int (((ig.toUInt32 >>> ((3 : Int32) &&& 31).toUInt32).toInt32) &&& (3 : Int32))), .val (.int (ia &&& (2147483647 : Int32))), .val (.int (ib &&& (2147483647 : Int32))), .val (.int (ic &&& (2147483647 : Int32))), .val (.int (ie &&& (65535 : Int32))), .val (.int (((ie.toUInt32 >>> ((16 : Int32) &&& 31).toUInt32).toInt32) &&& (65535 : Int32))), .unset, .unset, .unset, .unset, .unset, .unset, .unset, .unset, .unset, .unset, .unset, .unset]) rfl k) ?_
  refine GoH.step (T' := s₁) (f' := (mkF m 50 #[.val (.int ia), .val (.int ib), .val (.int ic), .val (.int ie), .val (.long ij), .second, .val (.int ig), .val (.int (ig &&& (7 : Int32))), .val (.int (((ig.toUInt32 >>> ((3 : Int32) &&& 31).toUInt32).toInt32) &&& (3 : Int32))), .val (.int (ia &&& (2147483647 : Int32))), .val (.int (ib &&& (2147483647 : Int32))), .val (.int (ic &&& (2147483647 : Int32))), .val (.int (ie &&& (65535 : Int32))), .val (.int (((ie.toUInt32 >>> ((16 : Int32) &&& 31).toUInt32).toInt32) &&& (65535 : Int32))), .unset, .unset, .unset, .unset, .unset, .unset, .unset, .unset, .unset, .unset, .unset, .unset] [(.long ij)])) (fun t k => XS.lload X0.here hx rfl (hb hby at_48) rfl k) ?_
  refine GoH.step (T' := s₁) (f' := (mkF m 51 #[.val (.int ia), .val (.int ib), .val (.int ic), .val (.int ie), .val (.long ij), .second, .val (.int ig), .val (.int (ig &&& (7 : Int32))), .val (.int (((ig.toUInt32 >>> ((3 : Int32) &&& 31).toUInt32).toInt32) &&& (3 : Int32))), .val (.int (ia &&& (2147483647 : Int32))), .val (.int (ib &&& (2147483647 : Int32))), .val (.int (ic &&& (2147483647 : Int32))), .val (.int (ie &&& (65535 : Int32))), .val (.int (((ie.toUInt32 >>> ((16 : Int32) &&& 31).toUInt32).toInt32) &&& (65535 : Int32))), .unset, .unset, .unset, .unset, .unset, .unset, .unset, .unset, .unset, .unset, .unset, .unset] [(.int (ij.toInt32))])) (fun t k => XS.l2i X0.here hx rfl (hb hby at_50) rfl k) ?_
  refine GoH.step (T' := s₁) (f' := (mkF m 53 #[.val (.int ia), .val (.int ib), .val (.int ic), .val (.int ie), .val (.long ij), .second, .val (.int ig), .val (.int (ig &&& (7 : Int32))), .val (.int (((ig.toUInt32 >>> ((3 : Int32) &&& 31).toUInt32).toInt32) &&& (3 : Int32))), .val (.int (ia &&& (2147483647 : Int32))), .val (.int (ib &&& (2147483647 : Int32))), .val (.int (ic &&& (2147483647 : Int32))), .val (.int (ie &&& (65535 : Int32))), .val (.int (((ie.toUInt32 >>> ((16 : Int32) &&& 31).toUInt32).toInt32) &&& (65535 : Int32))), .unset, .unset, .unset, .unset, .unset, .unset, .unset, .unset, .unset, .unset, .unset, .unset] [(.int (1073741823 : Int32)), (.int (ij.toInt32))])) (fun t k => X0.ldcInt hx hown (mvT hZ (hw _ (List.mem_of_getElem? (i := 2) rfl))) (g := (mkF m 51 #[.val (.int ia), .val (.int ib), .val (.int ic), .val (.int ie), .val (.long ij), .second, .val (.int ig), .val (.int (ig &&& (7 : Int32))), .val (.int (((ig.toUInt32 >>> ((3 : Int32) &&& 31).toUInt32).toInt32) &&& (3 : Int32))), .val (.int (ia &&& (2147483647 : Int32))), .val (.int (ib &&& (2147483647 : Int32))), .val (.int (ic &&& (2147483647 : Int32))), .val (.int (ie &&& (65535 : Int32))), .val (.int (((ie.toUInt32 >>> ((16 : Int32) &&& 31).toUInt32).toInt32) &&& (65535 : Int32))), .unset, .unset, .unset, .unset, .unset, .unset, .unset, .unset, .unset, .unset, .unset, .unset] [(.int (ij.toInt32))])) rfl (hb hby at_51) t k) ?_
  refine GoH.step (T' := s₁) (f' := (mkF m 54 #[.val (.int ia), .val (.int ib), .val (.int ic), .val (.int ie), .val (.long ij), .second, .val (.int ig), .val (.int (ig &&& (7 : Int32))), .val (.int (((ig.toUInt32 >>> ((3 : Int32) &&& 31).toUInt32).toInt32) &&& (3 : Int32))), .val (.int (ia &&& (2147483647 : Int32))), .val (.int (ib &&& (2147483647 : Int32))), .val (.int (ic &&& (2147483647 : Int32))), .val (.int (ie &&& (65535 : Int32))), .val (.int (((ie.toUInt32 >>> ((16 : Int32) &&& 31).toUInt32).toInt32) &&& (65535 : Int32))), .unset, .unset, .unset, .unset, .unset, .unset, .unset, .unset, .unset, .unset, .unset, .unset] [(.int ((ij.toInt32) &&& (1073741823 : Int32)))])) (fun t k => XS.iand X0.here hx rfl (hb hby at_53) rfl k) ?_
  refine GoH.step (T' := s₁) (f' := (mkF m 55 #[.val (.int ia), .val (.int ib), .val (.int ic), .val (.int ie), .val (.long ij), .second, .val (.int ig), .val (.int (ig &&& (7 : Int32))), .val (.int (((ig.toUInt32 >>> ((3 : Int32) &&& 31).toUInt32).toInt32) &&& (3 : Int32))), .val (.int (ia &&& (2147483647 : Int32))), .val (.int (ib &&& (2147483647 : Int32))), .val (.int (ic &&& (2147483647 : Int32))), .val (.int (ie &&& (65535 : Int32))), .val (.int (((ie.toUInt32 >>> ((16 : Int32) &&& 31).toUInt32).toInt32) &&& (65535 : Int32))), .unset, .unset, .unset, .unset, .unset, .unset, .unset, .unset, .unset, .unset, .unset, .unset] [(.int (1 : Int32)), (.int ((ij.toInt32) &&& (1073741823 : Int32)))])) (fun t k => XS.iconst X0.here hx rfl (hb hby at_54) k) ?_
  refine GoH.step (T' := s₁) (f' := (mkF m 56 #[.val (.int ia), .val (.int ib), .val (.int ic), .val (.int ie), .val (.long ij), .second, .val (.int ig), .val (.int (ig &&& (7 : Int32))), .val (.int (((ig.toUInt32 >>> ((3 : Int32) &&& 31).toUInt32).toInt32) &&& (3 : Int32))), .val (.int (ia &&& (2147483647 : Int32))), .val (.int (ib &&& (2147483647 : Int32))), .val (.int (ic &&& (2147483647 : Int32))), .val (.int (ie &&& (65535 : Int32))), .val (.int (((ie.toUInt32 >>> ((16 : Int32) &&& 31).toUInt32).toInt32) &&& (65535 : Int32))), .unset, .unset, .unset, .unset, .unset, .unset, .unset, .unset, .unset, .unset, .unset, .unset] [(.int (((ij.toInt32) &&& (1073741823 : Int32)) + (1 : Int32)))])) (fun t k => XS.iadd X0.here hx rfl (hb hby at_55) rfl k) ?_
  refine GoH.step (T' := s₁) (f' := (mkF m 58 #[.val (.int ia), .val (.int ib), .val (.int ic), .val (.int ie), .val (.long ij), .second, .val (.int ig), .val (.int (ig &&& (7 : Int32))), .val (.int (((ig.toUInt32 >>> ((3 : Int32) &&& 31).toUInt32).toInt32) &&& (3 : Int32))), .val (.int (ia &&& (2147483647 : Int32))), .val (.int (ib &&& (2147483647 : Int32))), .val (.int (ic &&& (2147483647 : Int32))), .val (.int (ie &&& (65535 : Int32))), .val (.int (((ie.toUInt32 >>> ((16 : Int32) &&& 31).toUInt32).toInt32) &&& (65535 : Int32))), .val (.int (((ij.toInt32) &&& (1073741823 : Int32)) + (1 : Int32))), .unset, .unset, .unset, .unset, .unset, .unset, .unset, .unset, .unset, .unset, .unset] [])) (fun t k => XS.istore X0.here hx rfl (hb hby at_56) rfl (l' := #[.val (.int ia), .val (.int ib), .val (.int ic), .val (.int ie), .val (.long ij), .second, .val (.int ig), .val (.int (ig &&& (7 : Int32))), .val (.int (((ig.toUInt32 >>> ((3 : Int32) &&& 31).toUInt32).toInt32) &&& (3 : Int32))), .val (.int (ia &&& (2147483647 : Int32))), .val (.int (ib &&& (2147483647 : Int32))), .val (.int (ic &&& (2147483647 : Int32))), .val (.int (ie &&& (65535 : Int32))), .val (.int (((ie.toUInt32 >>> ((16 : Int32) &&& 31).toUInt32).toInt32) &&& (65535 : Int32))), .val (.int (((ij.toInt32) &&& (1073741823 : Int32)) + (1 : Int32))), .unset, .unset, .unset, .unset, .unset, .unset, .unset, .unset, .unset, .unset, .unset]) rfl k) ?_
  refine GoH.step (T' := s₁) (f' := (mkF m 60 #[.val (.int ia), .val (.int ib), .val (.int ic), .val (.int ie), .val (.long ij), .second, .val (.int ig), .val (.int (ig &&& (7 : Int32))), .val (.int (((ig.toUInt32 >>> ((3 : Int32) &&& 31).toUInt32).toInt32) &&& (3 : Int32))), .val (.int (ia &&& (2147483647 : Int32))), .val (.int (ib &&& (2147483647 : Int32))), .val (.int (ic &&& (2147483647 : Int32))), .val (.int (ie &&& (65535 : Int32))), .val (.int (((ie.toUInt32 >>> ((16 : Int32) &&& 31).toUInt32).toInt32) &&& (65535 : Int32))), .val (.int (((ij.toInt32) &&& (1073741823 : Int32)) + (1 : Int32))), .unset, .unset, .unset, .unset, .unset, .unset, .unset, .unset, .unset, .unset, .unset] [(.long ij)])) (fun t k => XS.lload X0.here hx rfl (hb hby at_58) rfl k) ?_
  refine GoH.step (T' := s₁) (f' := (mkF m 62 #[.val (.int ia), .val (.int ib), .val (.int ic), .val (.int ie), .val (.long ij), .second, .val (.int ig), .val (.int (ig &&& (7 : Int32))), .val (.int (((ig.toUInt32 >>> ((3 : Int32) &&& 31).toUInt32).toInt32) &&& (3 : Int32))), .val (.int (ia &&& (2147483647 : Int32))), .val (.int (ib &&& (2147483647 : Int32))), .val (.int (ic &&& (2147483647 : Int32))), .val (.int (ie &&& (65535 : Int32))), .val (.int (((ie.toUInt32 >>> ((16 : Int32) &&& 31).toUInt32).toInt32) &&& (65535 : Int32))), .val (.int (((ij.toInt32) &&& (1073741823 : Int32)) + (1 : Int32))), .unset, .unset, .unset, .unset, .unset, .unset, .unset, .unset, .unset, .unset, .unset] [(.int (32 : Int32)), (.long ij)])) (fun t k => XS.bipush X0.here hx rfl (hb hby at_60) k) ?_
  refine GoH.step (T' := s₁) (f' := (mkF m 63 #[.val (.int ia), .val (.int ib), .val (.int ic), .val (.int ie), .val (.long ij), .second, .val (.int ig), .val (.int (ig &&& (7 : Int32))), .val (.int (((ig.toUInt32 >>> ((3 : Int32) &&& 31).toUInt32).toInt32) &&& (3 : Int32))), .val (.int (ia &&& (2147483647 : Int32))), .val (.int (ib &&& (2147483647 : Int32))), .val (.int (ic &&& (2147483647 : Int32))), .val (.int (ie &&& (65535 : Int32))), .val (.int (((ie.toUInt32 >>> ((16 : Int32) &&& 31).toUInt32).toInt32) &&& (65535 : Int32))), .val (.int (((ij.toInt32) &&& (1073741823 : Int32)) + (1 : Int32))), .unset, .unset, .unset, .unset, .unset, .unset, .unset, .unset, .unset, .unset, .unset] [(.long ((ij.toUInt64 >>> ((32 : Int32) &&& 0x3f).toInt64.toUInt64).toInt64))])) (fun t k => XS.lushr X0.here hx rfl (hb hby at_62) rfl k) ?_
  refine GoH.step (T' := s₁) (f' := (mkF m 64 #[.val (.int ia), .val (.int ib), .val (.int ic), .val (.int ie), .val (.long ij), .second, .val (.int ig), .val (.int (ig &&& (7 : Int32))), .val (.int (((ig.toUInt32 >>> ((3 : Int32) &&& 31).toUInt32).toInt32) &&& (3 : Int32))), .val (.int (ia &&& (2147483647 : Int32))), .val (.int (ib &&& (2147483647 : Int32))), .val (.int (ic &&& (2147483647 : Int32))), .val (.int (ie &&& (65535 : Int32))), .val (.int (((ie.toUInt32 >>> ((16 : Int32) &&& 31).toUInt32).toInt32) &&& (65535 : Int32))), .val (.int (((ij.toInt32) &&& (1073741823 : Int32)) + (1 : Int32))), .unset, .unset, .unset, .unset, .unset, .unset, .unset, .unset, .unset, .unset, .unset] [(.int (((ij.toUInt64 >>> ((32 : Int32) &&& 0x3f).toInt64.toUInt64).toInt64).toInt32))])) (fun t k => XS.l2i X0.here hx rfl (hb hby at_63) rfl k) ?_
  refine GoH.step (T' := s₁) (f' := (mkF m 66 #[.val (.int ia), .val (.int ib), .val (.int ic), .val (.int ie), .val (.long ij), .second, .val (.int ig), .val (.int (ig &&& (7 : Int32))), .val (.int (((ig.toUInt32 >>> ((3 : Int32) &&& 31).toUInt32).toInt32) &&& (3 : Int32))), .val (.int (ia &&& (2147483647 : Int32))), .val (.int (ib &&& (2147483647 : Int32))), .val (.int (ic &&& (2147483647 : Int32))), .val (.int (ie &&& (65535 : Int32))), .val (.int (((ie.toUInt32 >>> ((16 : Int32) &&& 31).toUInt32).toInt32) &&& (65535 : Int32))), .val (.int (((ij.toInt32) &&& (1073741823 : Int32)) + (1 : Int32))), .unset, .unset, .unset, .unset, .unset, .unset, .unset, .unset, .unset, .unset, .unset] [(.int (2147483647 : Int32)), (.int (((ij.toUInt64 >>> ((32 : Int32) &&& 0x3f).toInt64.toUInt64).toInt64).toInt32))])) (fun t k => X0.ldcInt hx hown (mvT hZ (hw _ (List.mem_of_getElem? (i := 0) rfl))) (g := (mkF m 64 #[.val (.int ia), .val (.int ib), .val (.int ic), .val (.int ie), .val (.long ij), .second, .val (.int ig), .val (.int (ig &&& (7 : Int32))), .val (.int (((ig.toUInt32 >>> ((3 : Int32) &&& 31).toUInt32).toInt32) &&& (3 : Int32))), .val (.int (ia &&& (2147483647 : Int32))), .val (.int (ib &&& (2147483647 : Int32))), .val (.int (ic &&& (2147483647 : Int32))), .val (.int (ie &&& (65535 : Int32))), .val (.int (((ie.toUInt32 >>> ((16 : Int32) &&& 31).toUInt32).toInt32) &&& (65535 : Int32))), .val (.int (((ij.toInt32) &&& (1073741823 : Int32)) + (1 : Int32))), .unset, .unset, .unset, .unset, .unset, .unset, .unset, .unset, .unset, .unset, .unset] [(.int (((ij.toUInt64 >>> ((32 : Int32) &&& 0x3f).toInt64.toUInt64).toInt64).toInt32))])) rfl (hb hby at_64) t k) ?_
  refine GoH.step (T' := s₁) (f' := (mkF m 67 #[.val (.int ia), .val (.int ib), .val (.int ic), .val (.int ie), .val (.long ij), .second, .val (.int ig), .val (.int (ig &&& (7 : Int32))), .val (.int (((ig.toUInt32 >>> ((3 : Int32) &&& 31).toUInt32).toInt32) &&& (3 : Int32))), .val (.int (ia &&& (2147483647 : Int32))), .val (.int (ib &&& (2147483647 : Int32))), .val (.int (ic &&& (2147483647 : Int32))), .val (.int (ie &&& (65535 : Int32))), .val (.int (((ie.toUInt32 >>> ((16 : Int32) &&& 31).toUInt32).toInt32) &&& (65535 : Int32))), .val (.int (((ij.toInt32) &&& (1073741823 : Int32)) + (1 : Int32))), .unset, .unset, .unset, .unset, .unset, .unset, .unset, .unset, .unset, .unset, .unset] [(.int ((((ij.toUInt64 >>> ((32 : Int32) &&& 0x3f).toInt64.toUInt64).toInt64).toInt32) &&& (2147483647 : Int32)))])) (fun t k => XS.iand X0.here hx rfl (hb hby at_66) rfl k) ?_
  refine GoH.step (T' := s₁) (f' := (mkF m 69 #[.val (.int ia), .val (.int ib), .val (.int ic), .val (.int ie), .val (.long ij), .second, .val (.int ig), .val (.int (ig &&& (7 : Int32))), .val (.int (((ig.toUInt32 >>> ((3 : Int32) &&& 31).toUInt32).toInt32) &&& (3 : Int32))), .val (.int (ia &&& (2147483647 : Int32))), .val (.int (ib &&& (2147483647 : Int32))), .val (.int (ic &&& (2147483647 : Int32))), .val (.int (ie &&& (65535 : Int32))), .val (.int (((ie.toUInt32 >>> ((16 : Int32) &&& 31).toUInt32).toInt32) &&& (65535 : Int32))), .val (.int (((ij.toInt32) &&& (1073741823 : Int32)) + (1 : Int32))), .val (.int ((((ij.toUInt64 >>> ((32 : Int32) &&& 0x3f).toInt64.toUInt64).toInt64).toInt32) &&& (2147483647 : Int32))), .unset, .unset, .unset, .unset, .unset, .unset, .unset, .unset, .unset, .unset] [])) (fun t k => XS.istore X0.here hx rfl (hb hby at_67) rfl (l' := #[.val (.int ia), .val (.int ib), .val (.int ic), .val (.int ie), .val (.long ij), .second, .val (.int ig), .val (.int (ig &&& (7 : Int32))), .val (.int (((ig.toUInt32 >>> ((3 : Int32) &&& 31).toUInt32).toInt32) &&& (3 : Int32))), .val (.int (ia &&& (2147483647 : Int32))), .val (.int (ib &&& (2147483647 : Int32))), .val (.int (ic &&& (2147483647 : Int32))), .val (.int (ie &&& (65535 : Int32))), .val (.int (((ie.toUInt32 >>> ((16 : Int32) &&& 31).toUInt32).toInt32) &&& (65535 : Int32))), .val (.int (((ij.toInt32) &&& (1073741823 : Int32)) + (1 : Int32))), .val (.int ((((ij.toUInt64 >>> ((32 : Int32) &&& 0x3f).toInt64.toUInt64).toInt64).toInt32) &&& (2147483647 : Int32))), .unset, .unset, .unset, .unset, .unset, .unset, .unset, .unset, .unset, .unset]) rfl k) ?_
  obtain ⟨zk, h_zk⟩ : ∃ z : Int32, z = (ig &&& (7 : Int32)) := ⟨_, rfl⟩
  rw [← h_zk]
  obtain ⟨zd, h_zd⟩ : ∃ z : Int32, z = (((ig.toUInt32 >>> ((3 : Int32) &&& 31).toUInt32).toInt32) &&& (3 : Int32)) := ⟨_, rfl⟩
  rw [← h_zd]
  obtain ⟨za, h_za⟩ : ∃ z : Int32, z = (ia &&& (2147483647 : Int32)) := ⟨_, rfl⟩
  rw [← h_za]
  obtain ⟨zb, h_zb⟩ : ∃ z : Int32, z = (ib &&& (2147483647 : Int32)) := ⟨_, rfl⟩
  rw [← h_zb]
  obtain ⟨zc, h_zc⟩ : ∃ z : Int32, z = (ic &&& (2147483647 : Int32)) := ⟨_, rfl⟩
  rw [← h_zc]
  obtain ⟨zg, h_zg⟩ : ∃ z : Int32, z = (ie &&& (65535 : Int32)) := ⟨_, rfl⟩
  rw [← h_zg]
  obtain ⟨zh, h_zh⟩ : ∃ z : Int32, z = (((ie.toUInt32 >>> ((16 : Int32) &&& 31).toUInt32).toInt32) &&& (65535 : Int32)) := ⟨_, rfl⟩
  rw [← h_zh]
  obtain ⟨zw, h_zw⟩ : ∃ z : Int32, z = (((ij.toInt32) &&& (1073741823 : Int32)) + (1 : Int32)) := ⟨_, rfl⟩
  rw [← h_zw]
  obtain ⟨zv, h_zv⟩ : ∃ z : Int32, z = ((((ij.toUInt64 >>> ((32 : Int32) &&& 0x3f).toInt64.toUInt64).toInt64).toInt32) &&& (2147483647 : Int32)) := ⟨_, rfl⟩
  rw [← h_zv]
  have hK : own_r8 zk := by rw [h_zk]; exact own_and8 _
  have hD : own_r4 zd := by rw [h_zd]; exact own_and4 _
  have hA : ¬ (za < (0 : Int32)) := by rw [h_za]; exact own_nonneg _
  have hB : ¬ (zb < (0 : Int32)) := by rw [h_zb]; exact own_nonneg _
  have hC : ¬ (zc < (0 : Int32)) := by rw [h_zc]; exact own_nonneg _
  have hG : own_r16 zg := by rw [h_zg]; exact own_and16 _
  have hH : own_r16 zh := by rw [h_zh]; exact own_and16 _
  have hW : own_rw zw := by rw [h_zw]; exact own_andw _
  have hV : ¬ (zv < (0 : Int32)) := by rw [h_zv]; exact own_nonneg _
  clear h_zk h_zd h_za h_zb h_zc h_zg h_zh h_zw h_zv
  have Kc273 : ∀ (y0 : Int32), y0 = own_x zk (0 : Int32) za zd → GoH p e below s Z own_EL (fun v h L => Q_law Z ia ib ic ie ij ig wc cc h0 n0 v h L) room_1.cells room_1.slots s₁ (mkF m 84 #[.val (.int ia), .val (.int ib), .val (.int ic), .val (.int ie), .val (.long ij), .second, .val (.int ig), .val (.int zk), .val (.int zd), .val (.int za), .val (.int zb), .val (.int zc), .val (.int zg), .val (.int zh), .val (.int zw), .val (.int zv), .unset, .unset, .unset, .unset, .unset, .unset, .unset, .unset, .unset, .unset] [(.int y0)]) := by
    intro y0 hy0
    refine GoH.step (T' := s₁) (f' := (mkF m 86 #[.val (.int ia), .val (.int ib), .val (.int ic), .val (.int ie), .val (.long ij), .second, .val (.int ig), .val (.int zk), .val (.int zd), .val (.int za), .val (.int zb), .val (.int zc), .val (.int zg), .val (.int zh), .val (.int zw), .val (.int zv), .val (.int y0), .unset, .unset, .unset, .unset, .unset, .unset, .unset, .unset, .unset] [])) (fun t k => XS.istore X0.here hx rfl (hb hby at_84) rfl (l' := #[.val (.int ia), .val (.int ib), .val (.int ic), .val (.int ie), .val (.long ij), .second, .val (.int ig), .val (.int zk), .val (.int zd), .val (.int za), .val (.int zb), .val (.int zc), .val (.int zg), .val (.int zh), .val (.int zw), .val (.int zv), .val (.int y0), .unset, .unset, .unset, .unset, .unset, .unset, .unset, .unset, .unset]) rfl k) ?_
    have Kc275 : ∀ (y1 : Int32), y1 = own_x zk (1 : Int32) zb zd → GoH p e below s Z own_EL (fun v h L => Q_law Z ia ib ic ie ij ig wc cc h0 n0 v h L) room_1.cells room_1.slots s₁ (mkF m 102 #[.val (.int ia), .val (.int ib), .val (.int ic), .val (.int ie), .val (.long ij), .second, .val (.int ig), .val (.int zk), .val (.int zd), .val (.int za), .val (.int zb), .val (.int zc), .val (.int zg), .val (.int zh), .val (.int zw), .val (.int zv), .val (.int y0), .unset, .unset, .unset, .unset, .unset, .unset, .unset, .unset, .unset] [(.int y1)]) := by
      intro y1 hy1
      refine GoH.step (T' := s₁) (f' := (mkF m 104 #[.val (.int ia), .val (.int ib), .val (.int ic), .val (.int ie), .val (.long ij), .second, .val (.int ig), .val (.int zk), .val (.int zd), .val (.int za), .val (.int zb), .val (.int zc), .val (.int zg), .val (.int zh), .val (.int zw), .val (.int zv), .val (.int y0), .val (.int y1), .unset, .unset, .unset, .unset, .unset, .unset, .unset, .unset] [])) (fun t k => XS.istore X0.here hx rfl (hb hby at_102) rfl (l' := #[.val (.int ia), .val (.int ib), .val (.int ic), .val (.int ie), .val (.long ij), .second, .val (.int ig), .val (.int zk), .val (.int zd), .val (.int za), .val (.int zb), .val (.int zc), .val (.int zg), .val (.int zh), .val (.int zw), .val (.int zv), .val (.int y0), .val (.int y1), .unset, .unset, .unset, .unset, .unset, .unset, .unset, .unset]) rfl k) ?_
      have Kc277 : ∀ (y2 : Int32), y2 = own_x zk (2 : Int32) zc zd → GoH p e below s Z own_EL (fun v h L => Q_law Z ia ib ic ie ij ig wc cc h0 n0 v h L) room_1.cells room_1.slots s₁ (mkF m 120 #[.val (.int ia), .val (.int ib), .val (.int ic), .val (.int ie), .val (.long ij), .second, .val (.int ig), .val (.int zk), .val (.int zd), .val (.int za), .val (.int zb), .val (.int zc), .val (.int zg), .val (.int zh), .val (.int zw), .val (.int zv), .val (.int y0), .val (.int y1), .unset, .unset, .unset, .unset, .unset, .unset, .unset, .unset] [(.int y2)]) := by
        intro y2 hy2
        refine GoH.step (T' := s₁) (f' := (mkF m 122 #[.val (.int ia), .val (.int ib), .val (.int ic), .val (.int ie), .val (.long ij), .second, .val (.int ig), .val (.int zk), .val (.int zd), .val (.int za), .val (.int zb), .val (.int zc), .val (.int zg), .val (.int zh), .val (.int zw), .val (.int zv), .val (.int y0), .val (.int y1), .val (.int y2), .unset, .unset, .unset, .unset, .unset, .unset, .unset] [])) (fun t k => XS.istore X0.here hx rfl (hb hby at_120) rfl (l' := #[.val (.int ia), .val (.int ib), .val (.int ic), .val (.int ie), .val (.long ij), .second, .val (.int ig), .val (.int zk), .val (.int zd), .val (.int za), .val (.int zb), .val (.int zc), .val (.int zg), .val (.int zh), .val (.int zw), .val (.int zv), .val (.int y0), .val (.int y1), .val (.int y2), .unset, .unset, .unset, .unset, .unset, .unset, .unset]) rfl k) ?_
        have Kc279 : ∀ (y3 : Int32), y3 = own_p zk (3 : Int32) zg zd → GoH p e below s Z own_EL (fun v h L => Q_law Z ia ib ic ie ij ig wc cc h0 n0 v h L) room_1.cells room_1.slots s₁ (mkF m 138 #[.val (.int ia), .val (.int ib), .val (.int ic), .val (.int ie), .val (.long ij), .second, .val (.int ig), .val (.int zk), .val (.int zd), .val (.int za), .val (.int zb), .val (.int zc), .val (.int zg), .val (.int zh), .val (.int zw), .val (.int zv), .val (.int y0), .val (.int y1), .val (.int y2), .unset, .unset, .unset, .unset, .unset, .unset, .unset] [(.int y3)]) := by
          intro y3 hy3
          refine GoH.step (T' := s₁) (f' := (mkF m 140 #[.val (.int ia), .val (.int ib), .val (.int ic), .val (.int ie), .val (.long ij), .second, .val (.int ig), .val (.int zk), .val (.int zd), .val (.int za), .val (.int zb), .val (.int zc), .val (.int zg), .val (.int zh), .val (.int zw), .val (.int zv), .val (.int y0), .val (.int y1), .val (.int y2), .val (.int y3), .unset, .unset, .unset, .unset, .unset, .unset] [])) (fun t k => XS.istore X0.here hx rfl (hb hby at_138) rfl (l' := #[.val (.int ia), .val (.int ib), .val (.int ic), .val (.int ie), .val (.long ij), .second, .val (.int ig), .val (.int zk), .val (.int zd), .val (.int za), .val (.int zb), .val (.int zc), .val (.int zg), .val (.int zh), .val (.int zw), .val (.int zv), .val (.int y0), .val (.int y1), .val (.int y2), .val (.int y3), .unset, .unset, .unset, .unset, .unset, .unset]) rfl k) ?_
          have Kc281 : ∀ (y4 : Int32), y4 = own_p zk (4 : Int32) zh zd → GoH p e below s Z own_EL (fun v h L => Q_law Z ia ib ic ie ij ig wc cc h0 n0 v h L) room_1.cells room_1.slots s₁ (mkF m 156 #[.val (.int ia), .val (.int ib), .val (.int ic), .val (.int ie), .val (.long ij), .second, .val (.int ig), .val (.int zk), .val (.int zd), .val (.int za), .val (.int zb), .val (.int zc), .val (.int zg), .val (.int zh), .val (.int zw), .val (.int zv), .val (.int y0), .val (.int y1), .val (.int y2), .val (.int y3), .unset, .unset, .unset, .unset, .unset, .unset] [(.int y4)]) := by
            intro y4 hy4
            refine GoH.step (T' := s₁) (f' := (mkF m 158 #[.val (.int ia), .val (.int ib), .val (.int ic), .val (.int ie), .val (.long ij), .second, .val (.int ig), .val (.int zk), .val (.int zd), .val (.int za), .val (.int zb), .val (.int zc), .val (.int zg), .val (.int zh), .val (.int zw), .val (.int zv), .val (.int y0), .val (.int y1), .val (.int y2), .val (.int y3), .val (.int y4), .unset, .unset, .unset, .unset, .unset] [])) (fun t k => XS.istore X0.here hx rfl (hb hby at_156) rfl (l' := #[.val (.int ia), .val (.int ib), .val (.int ic), .val (.int ie), .val (.long ij), .second, .val (.int ig), .val (.int zk), .val (.int zd), .val (.int za), .val (.int zb), .val (.int zc), .val (.int zg), .val (.int zh), .val (.int zw), .val (.int zv), .val (.int y0), .val (.int y1), .val (.int y2), .val (.int y3), .val (.int y4), .unset, .unset, .unset, .unset, .unset]) rfl k) ?_
            have Kc283 : ∀ (y5 : Int32), y5 = own_p zk (5 : Int32) zw zd → GoH p e below s Z own_EL (fun v h L => Q_law Z ia ib ic ie ij ig wc cc h0 n0 v h L) room_1.cells room_1.slots s₁ (mkF m 174 #[.val (.int ia), .val (.int ib), .val (.int ic), .val (.int ie), .val (.long ij), .second, .val (.int ig), .val (.int zk), .val (.int zd), .val (.int za), .val (.int zb), .val (.int zc), .val (.int zg), .val (.int zh), .val (.int zw), .val (.int zv), .val (.int y0), .val (.int y1), .val (.int y2), .val (.int y3), .val (.int y4), .unset, .unset, .unset, .unset, .unset] [(.int y5)]) := by
              intro y5 hy5
              refine GoH.step (T' := s₁) (f' := (mkF m 176 #[.val (.int ia), .val (.int ib), .val (.int ic), .val (.int ie), .val (.long ij), .second, .val (.int ig), .val (.int zk), .val (.int zd), .val (.int za), .val (.int zb), .val (.int zc), .val (.int zg), .val (.int zh), .val (.int zw), .val (.int zv), .val (.int y0), .val (.int y1), .val (.int y2), .val (.int y3), .val (.int y4), .val (.int y5), .unset, .unset, .unset, .unset] [])) (fun t k => XS.istore X0.here hx rfl (hb hby at_174) rfl (l' := #[.val (.int ia), .val (.int ib), .val (.int ic), .val (.int ie), .val (.long ij), .second, .val (.int ig), .val (.int zk), .val (.int zd), .val (.int za), .val (.int zb), .val (.int zc), .val (.int zg), .val (.int zh), .val (.int zw), .val (.int zv), .val (.int y0), .val (.int y1), .val (.int y2), .val (.int y3), .val (.int y4), .val (.int y5), .unset, .unset, .unset, .unset]) rfl k) ?_
              have Kc285 : ∀ (y6 : Int32), y6 = own_x zk (6 : Int32) zv zd → GoH p e below s Z own_EL (fun v h L => Q_law Z ia ib ic ie ij ig wc cc h0 n0 v h L) room_1.cells room_1.slots s₁ (mkF m 193 #[.val (.int ia), .val (.int ib), .val (.int ic), .val (.int ie), .val (.long ij), .second, .val (.int ig), .val (.int zk), .val (.int zd), .val (.int za), .val (.int zb), .val (.int zc), .val (.int zg), .val (.int zh), .val (.int zw), .val (.int zv), .val (.int y0), .val (.int y1), .val (.int y2), .val (.int y3), .val (.int y4), .val (.int y5), .unset, .unset, .unset, .unset] [(.int y6)]) := by
                intro y6 hy6
                refine GoH.step (T' := s₁) (f' := (mkF m 195 #[.val (.int ia), .val (.int ib), .val (.int ic), .val (.int ie), .val (.long ij), .second, .val (.int ig), .val (.int zk), .val (.int zd), .val (.int za), .val (.int zb), .val (.int zc), .val (.int zg), .val (.int zh), .val (.int zw), .val (.int zv), .val (.int y0), .val (.int y1), .val (.int y2), .val (.int y3), .val (.int y4), .val (.int y5), .val (.int y6), .unset, .unset, .unset] [])) (fun t k => XS.istore X0.here hx rfl (hb hby at_193) rfl (l' := #[.val (.int ia), .val (.int ib), .val (.int ic), .val (.int ie), .val (.long ij), .second, .val (.int ig), .val (.int zk), .val (.int zd), .val (.int za), .val (.int zb), .val (.int zc), .val (.int zg), .val (.int zh), .val (.int zw), .val (.int zv), .val (.int y0), .val (.int y1), .val (.int y2), .val (.int y3), .val (.int y4), .val (.int y5), .val (.int y6), .unset, .unset, .unset]) rfl k) ?_
                obtain ⟨T287, h287, X287, e287, E287, A287, D287, -, st287⟩ := newO X0 hx hZ hown (hw _ (List.mem_of_getElem? (i := 3) rfl)) (hw _ (List.mem_of_getElem? (i := 4) rfl)) (hw _ (List.mem_of_getElem? (i := 5) rfl)) e0 (g := (mkF m 195 #[.val (.int ia), .val (.int ib), .val (.int ic), .val (.int ie), .val (.long ij), .second, .val (.int ig), .val (.int zk), .val (.int zd), .val (.int za), .val (.int zb), .val (.int zc), .val (.int zg), .val (.int zh), .val (.int zw), .val (.int zv), .val (.int y0), .val (.int y1), .val (.int y2), .val (.int y3), .val (.int y4), .val (.int y5), .val (.int y6), .unset, .unset, .unset] [])) rfl (hb hby at_195) (by decide) (by decide)
                obtain ⟨b287, g287⟩ : ∃ z, z = h0.size := ⟨_, rfl⟩
                rw [← g287] at A287 D287 st287
                have g288 : n0 ≤ b287 := Nat.le_trans (own_old_le O0) (Nat.le_of_eq g287.symm)
                have g289 : h0.size ≤ b287 := Nat.le_trans K0.1 (Nat.le_of_eq g287.symm)
                have CR290 := CR0.trans (CHr.ext E287 CR0.1)
                have hk291 := Nat.le_trans hk0 E287.1
                have O292 := O0.ext E287
                have K293 := K0.ext E287
                have f294 : Fld Z h287 b287 "com/example/honest_search/honestsearch/index/PhraseSettings" "minDocuments" "I" (.int (0 : Int32)) := D287 (Or.inr (hw _ (List.mem_of_getElem? (i := 25) rfl))) (ty := .int) (by decide)
                have f295 : Fld Z h287 b287 "com/example/honest_search/honestsearch/index/PhraseSettings" "minInstances" "I" (.int (0 : Int32)) := D287 (Or.inr (hw _ (List.mem_of_getElem? (i := 28) rfl))) (ty := .int) (by decide)
                have f296 : Fld Z h287 b287 "com/example/honest_search/honestsearch/index/PhraseSettings" "minInteresting" "I" (.int (0 : Int32)) := D287 (Or.inr (hw _ (List.mem_of_getElem? (i := 31) rfl))) (ty := .int) (by decide)
                have f297 : Fld Z h287 b287 "com/example/honest_search/honestsearch/index/PhraseSettings" "predictGain" "D" (.double (0 : UInt64)) := D287 (Or.inr (hw _ (List.mem_of_getElem? (i := 46) rfl))) (ty := .double) (by decide)
                have f298 : Fld Z h287 b287 "com/example/honest_search/honestsearch/index/PhraseSettings" "relatedGain" "D" (.double (0 : UInt64)) := D287 (Or.inr (hw _ (List.mem_of_getElem? (i := 49) rfl))) (ty := .double) (by decide)
                have f299 : Fld Z h287 b287 "com/example/honest_search/honestsearch/index/PhraseSettings" "maxPhraseWords" "I" (.int (0 : Int32)) := D287 (Or.inr (hw _ (List.mem_of_getElem? (i := 52) rfl))) (ty := .int) (by decide)
                have f300 : Fld Z h287 b287 "com/example/honest_search/honestsearch/index/PhraseSettings" "window" "I" (.int (0 : Int32)) := D287 (Or.inr (hw _ (List.mem_of_getElem? (i := 55) rfl))) (ty := .int) (by decide)
                refine GoH.step (T' := T287) (f' := (mkF m 198 #[.val (.int ia), .val (.int ib), .val (.int ic), .val (.int ie), .val (.long ij), .second, .val (.int ig), .val (.int zk), .val (.int zd), .val (.int za), .val (.int zb), .val (.int zc), .val (.int zg), .val (.int zh), .val (.int zw), .val (.int zv), .val (.int y0), .val (.int y1), .val (.int y2), .val (.int y3), .val (.int y4), .val (.int y5), .val (.int y6), .unset, .unset, .unset] [(.ref b287)])) st287 ?_
                clear st287 X0 CR0 hk0
                refine GoH.step (T' := T287) (f' := (mkF m 199 #[.val (.int ia), .val (.int ib), .val (.int ic), .val (.int ie), .val (.long ij), .second, .val (.int ig), .val (.int zk), .val (.int zd), .val (.int za), .val (.int zb), .val (.int zc), .val (.int zg), .val (.int zh), .val (.int zw), .val (.int zv), .val (.int y0), .val (.int y1), .val (.int y2), .val (.int y3), .val (.int y4), .val (.int y5), .val (.int y6), .unset, .unset, .unset] [(.ref b287), (.ref b287)])) (fun t k => XS.dup X287.here hx rfl (hb hby at_198) rfl rfl k) ?_
                refine GoH.step (T' := T287) (f' := (mkF m 201 #[.val (.int ia), .val (.int ib), .val (.int ic), .val (.int ie), .val (.long ij), .second, .val (.int ig), .val (.int zk), .val (.int zd), .val (.int za), .val (.int zb), .val (.int zc), .val (.int zg), .val (.int zh), .val (.int zw), .val (.int zv), .val (.int y0), .val (.int y1), .val (.int y2), .val (.int y3), .val (.int y4), .val (.int y5), .val (.int y6), .unset, .unset, .unset] [(.int za), (.ref b287), (.ref b287)])) (fun t k => XS.iload X287.here hx rfl (hb hby at_199) rfl k) ?_
                refine GoH.step (T' := T287) (f' := (mkF m 203 #[.val (.int ia), .val (.int ib), .val (.int ic), .val (.int ie), .val (.long ij), .second, .val (.int ig), .val (.int zk), .val (.int zd), .val (.int za), .val (.int zb), .val (.int zc), .val (.int zg), .val (.int zh), .val (.int zw), .val (.int zv), .val (.int y0), .val (.int y1), .val (.int y2), .val (.int y3), .val (.int y4), .val (.int y5), .val (.int y6), .unset, .unset, .unset] [(.int zb), (.int za), (.ref b287), (.ref b287)])) (fun t k => XS.iload X287.here hx rfl (hb hby at_201) rfl k) ?_
                refine GoH.step (T' := T287) (f' := (mkF m 205 #[.val (.int ia), .val (.int ib), .val (.int ic), .val (.int ie), .val (.long ij), .second, .val (.int ig), .val (.int zk), .val (.int zd), .val (.int za), .val (.int zb), .val (.int zc), .val (.int zg), .val (.int zh), .val (.int zw), .val (.int zv), .val (.int y0), .val (.int y1), .val (.int y2), .val (.int y3), .val (.int y4), .val (.int y5), .val (.int y6), .unset, .unset, .unset] [(.int zc), (.int zb), (.int za), (.ref b287), (.ref b287)])) (fun t k => XS.iload X287.here hx rfl (hb hby at_203) rfl k) ?_
                refine GoH.step (T' := T287) (f' := (mkF m 207 #[.val (.int ia), .val (.int ib), .val (.int ic), .val (.int ie), .val (.long ij), .second, .val (.int ig), .val (.int zk), .val (.int zd), .val (.int za), .val (.int zb), .val (.int zc), .val (.int zg), .val (.int zh), .val (.int zw), .val (.int zv), .val (.int y0), .val (.int y1), .val (.int y2), .val (.int y3), .val (.int y4), .val (.int y5), .val (.int y6), .unset, .unset, .unset] [(.int zg), (.int zc), (.int zb), (.int za), (.ref b287), (.ref b287)])) (fun t k => XS.iload X287.here hx rfl (hb hby at_205) rfl k) ?_
                refine GoH.step (T' := T287) (f' := (mkF m 208 #[.val (.int ia), .val (.int ib), .val (.int ic), .val (.int ie), .val (.long ij), .second, .val (.int ig), .val (.int zk), .val (.int zd), .val (.int za), .val (.int zb), .val (.int zc), .val (.int zg), .val (.int zh), .val (.int zw), .val (.int zv), .val (.int y0), .val (.int y1), .val (.int y2), .val (.int y3), .val (.int y4), .val (.int y5), .val (.int y6), .unset, .unset, .unset] [(.double (FP.i2d zg)), (.int zc), (.int zb), (.int za), (.ref b287), (.ref b287)])) (fun t k => Jvm.Free.XS.i2dS X287.here hx rfl (hb hby at_207) rfl rfl k) ?_
                refine GoH.step (T' := T287) (f' := (mkF m 211 #[.val (.int ia), .val (.int ib), .val (.int ic), .val (.int ie), .val (.long ij), .second, .val (.int ig), .val (.int zk), .val (.int zd), .val (.int za), .val (.int zb), .val (.int zc), .val (.int zg), .val (.int zh), .val (.int zw), .val (.int zv), .val (.int y0), .val (.int y1), .val (.int y2), .val (.int y3), .val (.int y4), .val (.int y5), .val (.int y6), .unset, .unset, .unset] [(.double (4616189618054758400 : UInt64)), (.double (FP.i2d zg)), (.int zc), (.int zb), (.int za), (.ref b287), (.ref b287)])) (fun t k => X287.ldc2DoubleC hx hown (mvT hZ (hw _ (List.mem_of_getElem? (i := 6) rfl))) (g := (mkF m 208 #[.val (.int ia), .val (.int ib), .val (.int ic), .val (.int ie), .val (.long ij), .second, .val (.int ig), .val (.int zk), .val (.int zd), .val (.int za), .val (.int zb), .val (.int zc), .val (.int zg), .val (.int zh), .val (.int zw), .val (.int zv), .val (.int y0), .val (.int y1), .val (.int y2), .val (.int y3), .val (.int y4), .val (.int y5), .val (.int y6), .unset, .unset, .unset] [(.double (FP.i2d zg)), (.int zc), (.int zb), (.int za), (.ref b287), (.ref b287)])) rfl (hb hby at_208) t k) ?_
                refine GoH.step (T' := T287) (f' := (mkF m 212 #[.val (.int ia), .val (.int ib), .val (.int ic), .val (.int ie), .val (.long ij), .second, .val (.int ig), .val (.int zk), .val (.int zd), .val (.int za), .val (.int zb), .val (.int zc), .val (.int zg), .val (.int zh), .val (.int zw), .val (.int zv), .val (.int y0), .val (.int y1), .val (.int y2), .val (.int y3), .val (.int y4), .val (.int y5), .val (.int y6), .unset, .unset, .unset] [(.double (FP.ddiv (FP.i2d zg) (4616189618054758400 : UInt64))), (.int zc), (.int zb), (.int za), (.ref b287), (.ref b287)])) (fun t k => Jvm.Free.XS.ddivS X287.here hx rfl (hb hby at_211) rfl (own_nn _) rfl k) ?_
                refine GoH.step (T' := T287) (f' := (mkF m 214 #[.val (.int ia), .val (.int ib), .val (.int ic), .val (.int ie), .val (.long ij), .second, .val (.int ig), .val (.int zk), .val (.int zd), .val (.int za), .val (.int zb), .val (.int zc), .val (.int zg), .val (.int zh), .val (.int zw), .val (.int zv), .val (.int y0), .val (.int y1), .val (.int y2), .val (.int y3), .val (.int y4), .val (.int y5), .val (.int y6), .unset, .unset, .unset] [(.int zh), (.double (FP.ddiv (FP.i2d zg) (4616189618054758400 : UInt64))), (.int zc), (.int zb), (.int za), (.ref b287), (.ref b287)])) (fun t k => XS.iload X287.here hx rfl (hb hby at_212) rfl k) ?_
                refine GoH.step (T' := T287) (f' := (mkF m 215 #[.val (.int ia), .val (.int ib), .val (.int ic), .val (.int ie), .val (.long ij), .second, .val (.int ig), .val (.int zk), .val (.int zd), .val (.int za), .val (.int zb), .val (.int zc), .val (.int zg), .val (.int zh), .val (.int zw), .val (.int zv), .val (.int y0), .val (.int y1), .val (.int y2), .val (.int y3), .val (.int y4), .val (.int y5), .val (.int y6), .unset, .unset, .unset] [(.double (FP.i2d zh)), (.double (FP.ddiv (FP.i2d zg) (4616189618054758400 : UInt64))), (.int zc), (.int zb), (.int za), (.ref b287), (.ref b287)])) (fun t k => Jvm.Free.XS.i2dS X287.here hx rfl (hb hby at_214) rfl rfl k) ?_
                refine GoH.step (T' := T287) (f' := (mkF m 218 #[.val (.int ia), .val (.int ib), .val (.int ic), .val (.int ie), .val (.long ij), .second, .val (.int ig), .val (.int zk), .val (.int zd), .val (.int za), .val (.int zb), .val (.int zc), .val (.int zg), .val (.int zh), .val (.int zw), .val (.int zv), .val (.int y0), .val (.int y1), .val (.int y2), .val (.int y3), .val (.int y4), .val (.int y5), .val (.int y6), .unset, .unset, .unset] [(.double (4616189618054758400 : UInt64)), (.double (FP.i2d zh)), (.double (FP.ddiv (FP.i2d zg) (4616189618054758400 : UInt64))), (.int zc), (.int zb), (.int za), (.ref b287), (.ref b287)])) (fun t k => X287.ldc2DoubleC hx hown (mvT hZ (hw _ (List.mem_of_getElem? (i := 6) rfl))) (g := (mkF m 215 #[.val (.int ia), .val (.int ib), .val (.int ic), .val (.int ie), .val (.long ij), .second, .val (.int ig), .val (.int zk), .val (.int zd), .val (.int za), .val (.int zb), .val (.int zc), .val (.int zg), .val (.int zh), .val (.int zw), .val (.int zv), .val (.int y0), .val (.int y1), .val (.int y2), .val (.int y3), .val (.int y4), .val (.int y5), .val (.int y6), .unset, .unset, .unset] [(.double (FP.i2d zh)), (.double (FP.ddiv (FP.i2d zg) (4616189618054758400 : UInt64))), (.int zc), (.int zb), (.int za), (.ref b287), (.ref b287)])) rfl (hb hby at_215) t k) ?_
                refine GoH.step (T' := T287) (f' := (mkF m 219 #[.val (.int ia), .val (.int ib), .val (.int ic), .val (.int ie), .val (.long ij), .second, .val (.int ig), .val (.int zk), .val (.int zd), .val (.int za), .val (.int zb), .val (.int zc), .val (.int zg), .val (.int zh), .val (.int zw), .val (.int zv), .val (.int y0), .val (.int y1), .val (.int y2), .val (.int y3), .val (.int y4), .val (.int y5), .val (.int y6), .unset, .unset, .unset] [(.double (FP.ddiv (FP.i2d zh) (4616189618054758400 : UInt64))), (.double (FP.ddiv (FP.i2d zg) (4616189618054758400 : UInt64))), (.int zc), (.int zb), (.int za), (.ref b287), (.ref b287)])) (fun t k => Jvm.Free.XS.ddivS X287.here hx rfl (hb hby at_218) rfl (own_nn _) rfl k) ?_
                refine GoH.step (T' := T287) (f' := (mkF m 221 #[.val (.int ia), .val (.int ib), .val (.int ic), .val (.int ie), .val (.long ij), .second, .val (.int ig), .val (.int zk), .val (.int zd), .val (.int za), .val (.int zb), .val (.int zc), .val (.int zg), .val (.int zh), .val (.int zw), .val (.int zv), .val (.int y0), .val (.int y1), .val (.int y2), .val (.int y3), .val (.int y4), .val (.int y5), .val (.int y6), .unset, .unset, .unset] [(.int zw), (.double (FP.ddiv (FP.i2d zh) (4616189618054758400 : UInt64))), (.double (FP.ddiv (FP.i2d zg) (4616189618054758400 : UInt64))), (.int zc), (.int zb), (.int za), (.ref b287), (.ref b287)])) (fun t k => XS.iload X287.here hx rfl (hb hby at_219) rfl k) ?_
                refine GoH.step (T' := T287) (f' := (mkF m 223 #[.val (.int ia), .val (.int ib), .val (.int ic), .val (.int ie), .val (.long ij), .second, .val (.int ig), .val (.int zk), .val (.int zd), .val (.int za), .val (.int zb), .val (.int zc), .val (.int zg), .val (.int zh), .val (.int zw), .val (.int zv), .val (.int y0), .val (.int y1), .val (.int y2), .val (.int y3), .val (.int y4), .val (.int y5), .val (.int y6), .unset, .unset, .unset] [(.int zv), (.int zw), (.double (FP.ddiv (FP.i2d zh) (4616189618054758400 : UInt64))), (.double (FP.ddiv (FP.i2d zg) (4616189618054758400 : UInt64))), (.int zc), (.int zb), (.int za), (.ref b287), (.ref b287)])) (fun t k => XS.iload X287.here hx rfl (hb hby at_221) rfl k) ?_
                obtain ⟨_, _, ⟨T301, L301, k301, n301⟩, -, X301, hS301, hg301, ⟨Lc301, hQ301, l301, y301, z301, ch301⟩, st301⟩ := X287.specialBackS hx (y := (⟨"com/example/honest_search/honestsearch/index/PhraseSettings", "<init>", "(IIIDDII)V"⟩ : MethodName)) rfl hown (mvT hZ (hw _ (List.mem_of_getElem? (i := 7) rfl))) (mvT hZ (hw _ (List.mem_of_getElem? (i := 8) rfl))) (mvT hZ (hw _ (List.mem_of_getElem? (i := 9) rfl))) (by decide) (backOfSH (s := s) (vm0 := s.vm) (W := 1) (rm_pini l Z a0 hw [] b287 za zb zc (FP.ddiv (FP.i2d zg) (4616189618054758400 : UInt64)) (FP.ddiv (FP.i2d zh) (4616189618054758400 : UInt64)) zw zv (.int (0 : Int32)) (.int (0 : Int32)) (.int (0 : Int32)) (.double (0 : UInt64)) (.double (0 : UInt64)) (.int (0 : Int32)) (.int (0 : Int32)) h287 n0 O292 hEL A287 f294 f295 f296 f297 f298 f299 f300 g288 (hA) (hB) (hC) (own_w1 hW) (hV) (own_nn _) (own_gz (own_g0 hG)) (own_gi (own_g0 hG)) (own_nn _) (own_gz (own_g0 hH)) (own_gi (own_g0 hH))) hZ (hw _ (List.mem_of_getElem? (i := 9) rfl)) (hw _ (List.mem_of_getElem? (i := 5) rfl)) (by decide) (by decide) hEL CR290.1) (g := (mkF m 223 #[.val (.int ia), .val (.int ib), .val (.int ic), .val (.int ie), .val (.long ij), .second, .val (.int ig), .val (.int zk), .val (.int zd), .val (.int za), .val (.int zb), .val (.int zc), .val (.int zg), .val (.int zh), .val (.int zw), .val (.int zv), .val (.int y0), .val (.int y1), .val (.int y2), .val (.int y3), .val (.int y4), .val (.int y5), .val (.int y6), .unset, .unset, .unset] [(.int zv), (.int zw), (.double (FP.ddiv (FP.i2d zh) (4616189618054758400 : UInt64))), (.double (FP.ddiv (FP.i2d zg) (4616189618054758400 : UInt64))), (.int zc), (.int zb), (.int za), (.ref b287), (.ref b287)])) rfl (by rw [hml]; rfl) (Steps.refl _) (a := b287) (argsL := [(.int za), (.int zb), (.int zc), (.double (FP.ddiv (FP.i2d zg) (4616189618054758400 : UInt64))), (.double (FP.ddiv (FP.i2d zh) (4616189618054758400 : UInt64))), (.int zw), (.int zv)]) (rest := [(.ref b287)]) (lenOf pd6 rfl) rfl (by show 2 * 0 + _ ≤ _; exact Nat.le_of_eq rfl) (hb hby at_223) (fun _ _ => ⟨rfl, e287, (by decide : 1 + 14 ≤ _), (by decide : 7 + 432 ≤ _)⟩)
                dsimp only [Pt.U, Pt.locs, Pt.cells, Pt.slots] at X301 l301 y301 z301 st301 hQ301 hS301 hg301 ch301
                subst l301 y301 z301
                obtain ⟨X301, hS301, hZ, hown⟩ := rebS (s := s) (vm0 := s.vm) hS0 (show _ ≤ T287.heap.size by rw [e287]; exact hk291) X301 hS301 hg301 hZ hown
                obtain ⟨rfl, Nq301, hh301, p302, p303, p304, p305, p306, p307, p308, p309⟩ := hQ301
                have N310 := Fr.app N0 Nq301
                have CR311 := CR290.trans ch301
                have hk312 := Nat.le_refl T301.heap.size
                have f313 := A287.keep hh301
                have O314 := O292.keep hh301 (allS g288 all0)
                have K315 := K293.trans hh301 (allS (Or.inr g289) all0)
                refine GoH.via (T' := T301) (f' := (mkF m 226 #[.val (.int ia), .val (.int ib), .val (.int ic), .val (.int ie), .val (.long ij), .second, .val (.int ig), .val (.int zk), .val (.int zd), .val (.int za), .val (.int zb), .val (.int zc), .val (.int zg), .val (.int zh), .val (.int zw), .val (.int zv), .val (.int y0), .val (.int y1), .val (.int y2), .val (.int y3), .val (.int y4), .val (.int y5), .val (.int y6), .unset, .unset, .unset] [(.ref b287)])) st301 ?_
                clear st301 X287 Nq301 CR290 hk291 hS0
                refine GoH.step (T' := T301) (f' := (mkF m 228 #[.val (.int ia), .val (.int ib), .val (.int ic), .val (.int ie), .val (.long ij), .second, .val (.int ig), .val (.int zk), .val (.int zd), .val (.int za), .val (.int zb), .val (.int zc), .val (.int zg), .val (.int zh), .val (.int zw), .val (.int zv), .val (.int y0), .val (.int y1), .val (.int y2), .val (.int y3), .val (.int y4), .val (.int y5), .val (.int y6), .val (.ref b287), .unset, .unset] [])) (fun t k => XS.astore X301.here hx rfl (hb hby at_226) rfl rfl (l' := #[.val (.int ia), .val (.int ib), .val (.int ic), .val (.int ie), .val (.long ij), .second, .val (.int ig), .val (.int zk), .val (.int zd), .val (.int za), .val (.int zb), .val (.int zc), .val (.int zg), .val (.int zh), .val (.int zw), .val (.int zv), .val (.int y0), .val (.int y1), .val (.int y2), .val (.int y3), .val (.int y4), .val (.int y5), .val (.int y6), .val (.ref b287), .unset, .unset]) rfl k) ?_
                obtain ⟨T316, h316, X316, e316, E316, A316, D316, -, st316⟩ := newO X301 hx hZ hown (hw _ (List.mem_of_getElem? (i := 3) rfl)) (hw _ (List.mem_of_getElem? (i := 4) rfl)) (hw _ (List.mem_of_getElem? (i := 5) rfl)) rfl (g := (mkF m 228 #[.val (.int ia), .val (.int ib), .val (.int ic), .val (.int ie), .val (.long ij), .second, .val (.int ig), .val (.int zk), .val (.int zd), .val (.int za), .val (.int zb), .val (.int zc), .val (.int zg), .val (.int zh), .val (.int zw), .val (.int zv), .val (.int y0), .val (.int y1), .val (.int y2), .val (.int y3), .val (.int y4), .val (.int y5), .val (.int y6), .val (.ref b287), .unset, .unset] [])) rfl (hb hby at_228) (by decide) (by decide)
                obtain ⟨b316, g316⟩ : ∃ z, z = T301.heap.size := ⟨_, rfl⟩
                rw [← g316] at A316 D316 st316
                have g317 : n0 ≤ b316 := Nat.le_trans (own_old_le O314) (Nat.le_of_eq g316.symm)
                have g318 : h0.size ≤ b316 := Nat.le_trans K315.1 (Nat.le_of_eq g316.symm)
                have ne319 : b287 ≠ b316 := Nat.ne_of_lt (Nat.lt_of_lt_of_le p302.lt (Nat.le_of_eq g316.symm))
                have CR320 := CR311.trans (CHr.ext E316 CR311.1)
                have hk321 := Nat.le_trans hk312 E316.1
                have f322 := p302.ext E316
                have f323 := p303.ext E316
                have f324 := p304.ext E316
                have f325 := p305.ext E316
                have f326 := p306.ext E316
                have f327 := p307.ext E316
                have f328 := p308.ext E316
                have f329 := p309.ext E316
                have O330 := O314.ext E316
                have K331 := K315.ext E316
                have f332 : Fld Z h316 b316 "com/example/honest_search/honestsearch/index/PhraseSettings" "minDocuments" "I" (.int (0 : Int32)) := D316 (Or.inr (hw _ (List.mem_of_getElem? (i := 25) rfl))) (ty := .int) (by decide)
                have f333 : Fld Z h316 b316 "com/example/honest_search/honestsearch/index/PhraseSettings" "minInstances" "I" (.int (0 : Int32)) := D316 (Or.inr (hw _ (List.mem_of_getElem? (i := 28) rfl))) (ty := .int) (by decide)
                have f334 : Fld Z h316 b316 "com/example/honest_search/honestsearch/index/PhraseSettings" "minInteresting" "I" (.int (0 : Int32)) := D316 (Or.inr (hw _ (List.mem_of_getElem? (i := 31) rfl))) (ty := .int) (by decide)
                have f335 : Fld Z h316 b316 "com/example/honest_search/honestsearch/index/PhraseSettings" "predictGain" "D" (.double (0 : UInt64)) := D316 (Or.inr (hw _ (List.mem_of_getElem? (i := 46) rfl))) (ty := .double) (by decide)
                have f336 : Fld Z h316 b316 "com/example/honest_search/honestsearch/index/PhraseSettings" "relatedGain" "D" (.double (0 : UInt64)) := D316 (Or.inr (hw _ (List.mem_of_getElem? (i := 49) rfl))) (ty := .double) (by decide)
                have f337 : Fld Z h316 b316 "com/example/honest_search/honestsearch/index/PhraseSettings" "maxPhraseWords" "I" (.int (0 : Int32)) := D316 (Or.inr (hw _ (List.mem_of_getElem? (i := 52) rfl))) (ty := .int) (by decide)
                have f338 : Fld Z h316 b316 "com/example/honest_search/honestsearch/index/PhraseSettings" "window" "I" (.int (0 : Int32)) := D316 (Or.inr (hw _ (List.mem_of_getElem? (i := 55) rfl))) (ty := .int) (by decide)
                refine GoH.step (T' := T316) (f' := (mkF m 231 #[.val (.int ia), .val (.int ib), .val (.int ic), .val (.int ie), .val (.long ij), .second, .val (.int ig), .val (.int zk), .val (.int zd), .val (.int za), .val (.int zb), .val (.int zc), .val (.int zg), .val (.int zh), .val (.int zw), .val (.int zv), .val (.int y0), .val (.int y1), .val (.int y2), .val (.int y3), .val (.int y4), .val (.int y5), .val (.int y6), .val (.ref b287), .unset, .unset] [(.ref b316)])) st316 ?_
                clear st316 X301 CR311 hk312 p302 p303 p304 p305 p306 p307 p308 p309 O314 K315
                refine GoH.step (T' := T316) (f' := (mkF m 232 #[.val (.int ia), .val (.int ib), .val (.int ic), .val (.int ie), .val (.long ij), .second, .val (.int ig), .val (.int zk), .val (.int zd), .val (.int za), .val (.int zb), .val (.int zc), .val (.int zg), .val (.int zh), .val (.int zw), .val (.int zv), .val (.int y0), .val (.int y1), .val (.int y2), .val (.int y3), .val (.int y4), .val (.int y5), .val (.int y6), .val (.ref b287), .unset, .unset] [(.ref b316), (.ref b316)])) (fun t k => XS.dup X316.here hx rfl (hb hby at_231) rfl rfl k) ?_
                refine GoH.step (T' := T316) (f' := (mkF m 234 #[.val (.int ia), .val (.int ib), .val (.int ic), .val (.int ie), .val (.long ij), .second, .val (.int ig), .val (.int zk), .val (.int zd), .val (.int za), .val (.int zb), .val (.int zc), .val (.int zg), .val (.int zh), .val (.int zw), .val (.int zv), .val (.int y0), .val (.int y1), .val (.int y2), .val (.int y3), .val (.int y4), .val (.int y5), .val (.int y6), .val (.ref b287), .unset, .unset] [(.int y0), (.ref b316), (.ref b316)])) (fun t k => XS.iload X316.here hx rfl (hb hby at_232) rfl k) ?_
                refine GoH.step (T' := T316) (f' := (mkF m 236 #[.val (.int ia), .val (.int ib), .val (.int ic), .val (.int ie), .val (.long ij), .second, .val (.int ig), .val (.int zk), .val (.int zd), .val (.int za), .val (.int zb), .val (.int zc), .val (.int zg), .val (.int zh), .val (.int zw), .val (.int zv), .val (.int y0), .val (.int y1), .val (.int y2), .val (.int y3), .val (.int y4), .val (.int y5), .val (.int y6), .val (.ref b287), .unset, .unset] [(.int y1), (.int y0), (.ref b316), (.ref b316)])) (fun t k => XS.iload X316.here hx rfl (hb hby at_234) rfl k) ?_
                refine GoH.step (T' := T316) (f' := (mkF m 238 #[.val (.int ia), .val (.int ib), .val (.int ic), .val (.int ie), .val (.long ij), .second, .val (.int ig), .val (.int zk), .val (.int zd), .val (.int za), .val (.int zb), .val (.int zc), .val (.int zg), .val (.int zh), .val (.int zw), .val (.int zv), .val (.int y0), .val (.int y1), .val (.int y2), .val (.int y3), .val (.int y4), .val (.int y5), .val (.int y6), .val (.ref b287), .unset, .unset] [(.int y2), (.int y1), (.int y0), (.ref b316), (.ref b316)])) (fun t k => XS.iload X316.here hx rfl (hb hby at_236) rfl k) ?_
                refine GoH.step (T' := T316) (f' := (mkF m 240 #[.val (.int ia), .val (.int ib), .val (.int ic), .val (.int ie), .val (.long ij), .second, .val (.int ig), .val (.int zk), .val (.int zd), .val (.int za), .val (.int zb), .val (.int zc), .val (.int zg), .val (.int zh), .val (.int zw), .val (.int zv), .val (.int y0), .val (.int y1), .val (.int y2), .val (.int y3), .val (.int y4), .val (.int y5), .val (.int y6), .val (.ref b287), .unset, .unset] [(.int y3), (.int y2), (.int y1), (.int y0), (.ref b316), (.ref b316)])) (fun t k => XS.iload X316.here hx rfl (hb hby at_238) rfl k) ?_
                refine GoH.step (T' := T316) (f' := (mkF m 241 #[.val (.int ia), .val (.int ib), .val (.int ic), .val (.int ie), .val (.long ij), .second, .val (.int ig), .val (.int zk), .val (.int zd), .val (.int za), .val (.int zb), .val (.int zc), .val (.int zg), .val (.int zh), .val (.int zw), .val (.int zv), .val (.int y0), .val (.int y1), .val (.int y2), .val (.int y3), .val (.int y4), .val (.int y5), .val (.int y6), .val (.ref b287), .unset, .unset] [(.double (FP.i2d y3)), (.int y2), (.int y1), (.int y0), (.ref b316), (.ref b316)])) (fun t k => Jvm.Free.XS.i2dS X316.here hx rfl (hb hby at_240) rfl rfl k) ?_
                refine GoH.step (T' := T316) (f' := (mkF m 244 #[.val (.int ia), .val (.int ib), .val (.int ic), .val (.int ie), .val (.long ij), .second, .val (.int ig), .val (.int zk), .val (.int zd), .val (.int za), .val (.int zb), .val (.int zc), .val (.int zg), .val (.int zh), .val (.int zw), .val (.int zv), .val (.int y0), .val (.int y1), .val (.int y2), .val (.int y3), .val (.int y4), .val (.int y5), .val (.int y6), .val (.ref b287), .unset, .unset] [(.double (4616189618054758400 : UInt64)), (.double (FP.i2d y3)), (.int y2), (.int y1), (.int y0), (.ref b316), (.ref b316)])) (fun t k => X316.ldc2DoubleC hx hown (mvT hZ (hw _ (List.mem_of_getElem? (i := 6) rfl))) (g := (mkF m 241 #[.val (.int ia), .val (.int ib), .val (.int ic), .val (.int ie), .val (.long ij), .second, .val (.int ig), .val (.int zk), .val (.int zd), .val (.int za), .val (.int zb), .val (.int zc), .val (.int zg), .val (.int zh), .val (.int zw), .val (.int zv), .val (.int y0), .val (.int y1), .val (.int y2), .val (.int y3), .val (.int y4), .val (.int y5), .val (.int y6), .val (.ref b287), .unset, .unset] [(.double (FP.i2d y3)), (.int y2), (.int y1), (.int y0), (.ref b316), (.ref b316)])) rfl (hb hby at_241) t k) ?_
                refine GoH.step (T' := T316) (f' := (mkF m 245 #[.val (.int ia), .val (.int ib), .val (.int ic), .val (.int ie), .val (.long ij), .second, .val (.int ig), .val (.int zk), .val (.int zd), .val (.int za), .val (.int zb), .val (.int zc), .val (.int zg), .val (.int zh), .val (.int zw), .val (.int zv), .val (.int y0), .val (.int y1), .val (.int y2), .val (.int y3), .val (.int y4), .val (.int y5), .val (.int y6), .val (.ref b287), .unset, .unset] [(.double (FP.ddiv (FP.i2d y3) (4616189618054758400 : UInt64))), (.int y2), (.int y1), (.int y0), (.ref b316), (.ref b316)])) (fun t k => Jvm.Free.XS.ddivS X316.here hx rfl (hb hby at_244) rfl (own_nn _) rfl k) ?_
                refine GoH.step (T' := T316) (f' := (mkF m 247 #[.val (.int ia), .val (.int ib), .val (.int ic), .val (.int ie), .val (.long ij), .second, .val (.int ig), .val (.int zk), .val (.int zd), .val (.int za), .val (.int zb), .val (.int zc), .val (.int zg), .val (.int zh), .val (.int zw), .val (.int zv), .val (.int y0), .val (.int y1), .val (.int y2), .val (.int y3), .val (.int y4), .val (.int y5), .val (.int y6), .val (.ref b287), .unset, .unset] [(.int y4), (.double (FP.ddiv (FP.i2d y3) (4616189618054758400 : UInt64))), (.int y2), (.int y1), (.int y0), (.ref b316), (.ref b316)])) (fun t k => XS.iload X316.here hx rfl (hb hby at_245) rfl k) ?_
                refine GoH.step (T' := T316) (f' := (mkF m 248 #[.val (.int ia), .val (.int ib), .val (.int ic), .val (.int ie), .val (.long ij), .second, .val (.int ig), .val (.int zk), .val (.int zd), .val (.int za), .val (.int zb), .val (.int zc), .val (.int zg), .val (.int zh), .val (.int zw), .val (.int zv), .val (.int y0), .val (.int y1), .val (.int y2), .val (.int y3), .val (.int y4), .val (.int y5), .val (.int y6), .val (.ref b287), .unset, .unset] [(.double (FP.i2d y4)), (.double (FP.ddiv (FP.i2d y3) (4616189618054758400 : UInt64))), (.int y2), (.int y1), (.int y0), (.ref b316), (.ref b316)])) (fun t k => Jvm.Free.XS.i2dS X316.here hx rfl (hb hby at_247) rfl rfl k) ?_
                refine GoH.step (T' := T316) (f' := (mkF m 251 #[.val (.int ia), .val (.int ib), .val (.int ic), .val (.int ie), .val (.long ij), .second, .val (.int ig), .val (.int zk), .val (.int zd), .val (.int za), .val (.int zb), .val (.int zc), .val (.int zg), .val (.int zh), .val (.int zw), .val (.int zv), .val (.int y0), .val (.int y1), .val (.int y2), .val (.int y3), .val (.int y4), .val (.int y5), .val (.int y6), .val (.ref b287), .unset, .unset] [(.double (4616189618054758400 : UInt64)), (.double (FP.i2d y4)), (.double (FP.ddiv (FP.i2d y3) (4616189618054758400 : UInt64))), (.int y2), (.int y1), (.int y0), (.ref b316), (.ref b316)])) (fun t k => X316.ldc2DoubleC hx hown (mvT hZ (hw _ (List.mem_of_getElem? (i := 6) rfl))) (g := (mkF m 248 #[.val (.int ia), .val (.int ib), .val (.int ic), .val (.int ie), .val (.long ij), .second, .val (.int ig), .val (.int zk), .val (.int zd), .val (.int za), .val (.int zb), .val (.int zc), .val (.int zg), .val (.int zh), .val (.int zw), .val (.int zv), .val (.int y0), .val (.int y1), .val (.int y2), .val (.int y3), .val (.int y4), .val (.int y5), .val (.int y6), .val (.ref b287), .unset, .unset] [(.double (FP.i2d y4)), (.double (FP.ddiv (FP.i2d y3) (4616189618054758400 : UInt64))), (.int y2), (.int y1), (.int y0), (.ref b316), (.ref b316)])) rfl (hb hby at_248) t k) ?_
                refine GoH.step (T' := T316) (f' := (mkF m 252 #[.val (.int ia), .val (.int ib), .val (.int ic), .val (.int ie), .val (.long ij), .second, .val (.int ig), .val (.int zk), .val (.int zd), .val (.int za), .val (.int zb), .val (.int zc), .val (.int zg), .val (.int zh), .val (.int zw), .val (.int zv), .val (.int y0), .val (.int y1), .val (.int y2), .val (.int y3), .val (.int y4), .val (.int y5), .val (.int y6), .val (.ref b287), .unset, .unset] [(.double (FP.ddiv (FP.i2d y4) (4616189618054758400 : UInt64))), (.double (FP.ddiv (FP.i2d y3) (4616189618054758400 : UInt64))), (.int y2), (.int y1), (.int y0), (.ref b316), (.ref b316)])) (fun t k => Jvm.Free.XS.ddivS X316.here hx rfl (hb hby at_251) rfl (own_nn _) rfl k) ?_
                refine GoH.step (T' := T316) (f' := (mkF m 254 #[.val (.int ia), .val (.int ib), .val (.int ic), .val (.int ie), .val (.long ij), .second, .val (.int ig), .val (.int zk), .val (.int zd), .val (.int za), .val (.int zb), .val (.int zc), .val (.int zg), .val (.int zh), .val (.int zw), .val (.int zv), .val (.int y0), .val (.int y1), .val (.int y2), .val (.int y3), .val (.int y4), .val (.int y5), .val (.int y6), .val (.ref b287), .unset, .unset] [(.int y5), (.double (FP.ddiv (FP.i2d y4) (4616189618054758400 : UInt64))), (.double (FP.ddiv (FP.i2d y3) (4616189618054758400 : UInt64))), (.int y2), (.int y1), (.int y0), (.ref b316), (.ref b316)])) (fun t k => XS.iload X316.here hx rfl (hb hby at_252) rfl k) ?_
                refine GoH.step (T' := T316) (f' := (mkF m 256 #[.val (.int ia), .val (.int ib), .val (.int ic), .val (.int ie), .val (.long ij), .second, .val (.int ig), .val (.int zk), .val (.int zd), .val (.int za), .val (.int zb), .val (.int zc), .val (.int zg), .val (.int zh), .val (.int zw), .val (.int zv), .val (.int y0), .val (.int y1), .val (.int y2), .val (.int y3), .val (.int y4), .val (.int y5), .val (.int y6), .val (.ref b287), .unset, .unset] [(.int y6), (.int y5), (.double (FP.ddiv (FP.i2d y4) (4616189618054758400 : UInt64))), (.double (FP.ddiv (FP.i2d y3) (4616189618054758400 : UInt64))), (.int y2), (.int y1), (.int y0), (.ref b316), (.ref b316)])) (fun t k => XS.iload X316.here hx rfl (hb hby at_254) rfl k) ?_
                obtain ⟨_, _, ⟨T339, L339, k339, n339⟩, -, X339, hS339, hg339, ⟨Lc339, hQ339, l339, y339, z339, ch339⟩, st339⟩ := X316.specialBackS hx (y := (⟨"com/example/honest_search/honestsearch/index/PhraseSettings", "<init>", "(IIIDDII)V"⟩ : MethodName)) rfl hown (mvT hZ (hw _ (List.mem_of_getElem? (i := 7) rfl))) (mvT hZ (hw _ (List.mem_of_getElem? (i := 8) rfl))) (mvT hZ (hw _ (List.mem_of_getElem? (i := 9) rfl))) (by decide) (backOfSH (s := s) (vm0 := T301.vm) (W := 1) (rm_pini l Z a0 hw [] b316 y0 y1 y2 (FP.ddiv (FP.i2d y3) (4616189618054758400 : UInt64)) (FP.ddiv (FP.i2d y4) (4616189618054758400 : UInt64)) y5 y6 (.int (0 : Int32)) (.int (0 : Int32)) (.int (0 : Int32)) (.double (0 : UInt64)) (.double (0 : UInt64)) (.int (0 : Int32)) (.int (0 : Int32)) h316 n0 O330 hEL A316 f332 f333 f334 f335 f336 f337 f338 g317 ((by rw [hy0]; exact own_x0 hA hD)) ((by rw [hy1]; exact own_x0 hB hD)) ((by rw [hy2]; exact own_x0 hC hD)) ((by rw [hy5]; exact own_pw hW hD)) ((by rw [hy6]; exact own_x0 hV hD)) (own_nn _) (own_gz (by rw [hy3]; exact own_p0 hG hD)) (own_gi (by rw [hy3]; exact own_p0 hG hD)) (own_nn _) (own_gz (by rw [hy4]; exact own_p0 hH hD)) (own_gi (by rw [hy4]; exact own_p0 hH hD))) hZ (hw _ (List.mem_of_getElem? (i := 9) rfl)) (hw _ (List.mem_of_getElem? (i := 5) rfl)) (by decide) (by decide) hEL CR320.1) (g := (mkF m 256 #[.val (.int ia), .val (.int ib), .val (.int ic), .val (.int ie), .val (.long ij), .second, .val (.int ig), .val (.int zk), .val (.int zd), .val (.int za), .val (.int zb), .val (.int zc), .val (.int zg), .val (.int zh), .val (.int zw), .val (.int zv), .val (.int y0), .val (.int y1), .val (.int y2), .val (.int y3), .val (.int y4), .val (.int y5), .val (.int y6), .val (.ref b287), .unset, .unset] [(.int y6), (.int y5), (.double (FP.ddiv (FP.i2d y4) (4616189618054758400 : UInt64))), (.double (FP.ddiv (FP.i2d y3) (4616189618054758400 : UInt64))), (.int y2), (.int y1), (.int y0), (.ref b316), (.ref b316)])) rfl (by rw [hml]; rfl) (Steps.refl _) (a := b316) (argsL := [(.int y0), (.int y1), (.int y2), (.double (FP.ddiv (FP.i2d y3) (4616189618054758400 : UInt64))), (.double (FP.ddiv (FP.i2d y4) (4616189618054758400 : UInt64))), (.int y5), (.int y6)]) (rest := [(.ref b316)]) (lenOf pd6 rfl) rfl (by show 2 * 0 + _ ≤ _; exact Nat.le_of_eq rfl) (hb hby at_256) (fun _ _ => ⟨rfl, e316, (by decide : 16 + 14 ≤ _), (by decide : 446 + 432 ≤ _)⟩)
                dsimp only [Pt.U, Pt.locs, Pt.cells, Pt.slots] at X339 l339 y339 z339 st339 hQ339 hS339 hg339 ch339
                subst l339 y339 z339
                obtain ⟨X339, hS339, hZ, hown⟩ := rebS (s := s) (vm0 := T301.vm) hS301 (show _ ≤ T316.heap.size by rw [e316]; exact hk321) X339 hS339 hg339 hZ hown
                obtain ⟨rfl, Nq339, hh339, p340, p341, p342, p343, p344, p345, p346, p347⟩ := hQ339
                have N348 := Fr.app N310 Nq339
                have CR349 := CR320.trans ch339
                have hk350 := Nat.le_refl T339.heap.size
                have f351 := f322.keep hh339
                have f352 := f323.keep hh339 (ninS ne319 nin0)
                have f353 := f324.keep hh339 (ninS ne319 nin0)
                have f354 := f325.keep hh339 (ninS ne319 nin0)
                have f355 := f326.keep hh339 (ninS ne319 nin0)
                have f356 := f327.keep hh339 (ninS ne319 nin0)
                have f357 := f328.keep hh339 (ninS ne319 nin0)
                have f358 := f329.keep hh339 (ninS ne319 nin0)
                have f359 := A316.keep hh339
                have O360 := O330.keep hh339 (allS g317 all0)
                have K361 := K331.trans hh339 (allS (Or.inr g318) all0)
                refine GoH.via (T' := T339) (f' := (mkF m 259 #[.val (.int ia), .val (.int ib), .val (.int ic), .val (.int ie), .val (.long ij), .second, .val (.int ig), .val (.int zk), .val (.int zd), .val (.int za), .val (.int zb), .val (.int zc), .val (.int zg), .val (.int zh), .val (.int zw), .val (.int zv), .val (.int y0), .val (.int y1), .val (.int y2), .val (.int y3), .val (.int y4), .val (.int y5), .val (.int y6), .val (.ref b287), .unset, .unset] [(.ref b316)])) st339 ?_
                clear st339 X316 N310 Nq339 CR320 hk321 hS301 f323 f324 f325 f326 f327 f328 f329
                refine GoH.step (T' := T339) (f' := (mkF m 261 #[.val (.int ia), .val (.int ib), .val (.int ic), .val (.int ie), .val (.long ij), .second, .val (.int ig), .val (.int zk), .val (.int zd), .val (.int za), .val (.int zb), .val (.int zc), .val (.int zg), .val (.int zh), .val (.int zw), .val (.int zv), .val (.int y0), .val (.int y1), .val (.int y2), .val (.int y3), .val (.int y4), .val (.int y5), .val (.int y6), .val (.ref b287), .val (.ref b316), .unset] [])) (fun t k => XS.astore X339.here hx rfl (hb hby at_259) rfl rfl (l' := #[.val (.int ia), .val (.int ib), .val (.int ic), .val (.int ie), .val (.long ij), .second, .val (.int ig), .val (.int zk), .val (.int zd), .val (.int za), .val (.int zb), .val (.int zc), .val (.int zg), .val (.int zh), .val (.int zw), .val (.int zv), .val (.int y0), .val (.int y1), .val (.int y2), .val (.int y3), .val (.int y4), .val (.int y5), .val (.int y6), .val (.ref b287), .val (.ref b316), .unset]) rfl k) ?_
                have Kc362 : ∀ (ye : Int32), ye = (if zk = (7 : Int32) ∨ zd = (0 : Int32) then (1 : Int32) else 0) → GoH p e below s Z own_EL (fun v h L => Q_law Z ia ib ic ie ij ig wc cc h0 n0 v h L) room_1.cells room_1.slots T339 (mkF m 278 #[.val (.int ia), .val (.int ib), .val (.int ic), .val (.int ie), .val (.long ij), .second, .val (.int ig), .val (.int zk), .val (.int zd), .val (.int za), .val (.int zb), .val (.int zc), .val (.int zg), .val (.int zh), .val (.int zw), .val (.int zv), .val (.int y0), .val (.int y1), .val (.int y2), .val (.int y3), .val (.int y4), .val (.int y5), .val (.int y6), .val (.ref b287), .val (.ref b316), .unset] [(.int ye)]) := by
                  intro ye hye
                  refine GoH.step (T' := T339) (f' := (mkF m 280 #[.val (.int ia), .val (.int ib), .val (.int ic), .val (.int ie), .val (.long ij), .second, .val (.int ig), .val (.int zk), .val (.int zd), .val (.int za), .val (.int zb), .val (.int zc), .val (.int zg), .val (.int zh), .val (.int zw), .val (.int zv), .val (.int y0), .val (.int y1), .val (.int y2), .val (.int y3), .val (.int y4), .val (.int y5), .val (.int y6), .val (.ref b287), .val (.ref b316), .val (.int ye)] [])) (fun t k => XS.istore X339.here hx rfl (hb hby at_278) rfl (l' := #[.val (.int ia), .val (.int ib), .val (.int ic), .val (.int ie), .val (.long ij), .second, .val (.int ig), .val (.int zk), .val (.int zd), .val (.int za), .val (.int zb), .val (.int zc), .val (.int zg), .val (.int zh), .val (.int zw), .val (.int zv), .val (.int y0), .val (.int y1), .val (.int y2), .val (.int y3), .val (.int y4), .val (.int y5), .val (.int y6), .val (.ref b287), .val (.ref b316), .val (.int ye)]) rfl k) ?_
                  refine GoH.step (T' := T339) (f' := (mkF m 282 #[.val (.int ia), .val (.int ib), .val (.int ic), .val (.int ie), .val (.long ij), .second, .val (.int ig), .val (.int zk), .val (.int zd), .val (.int za), .val (.int zb), .val (.int zc), .val (.int zg), .val (.int zh), .val (.int zw), .val (.int zv), .val (.int y0), .val (.int y1), .val (.int y2), .val (.int y3), .val (.int y4), .val (.int y5), .val (.int y6), .val (.ref b287), .val (.ref b316), .val (.int ye)] [(.ref b287)])) (fun t k => XS.aload X339.here hx rfl (hb hby at_280) rfl rfl k) ?_
                  refine GoH.step (T' := T339) (f' := (mkF m 284 #[.val (.int ia), .val (.int ib), .val (.int ic), .val (.int ie), .val (.long ij), .second, .val (.int ig), .val (.int zk), .val (.int zd), .val (.int za), .val (.int zb), .val (.int zc), .val (.int zg), .val (.int zh), .val (.int zw), .val (.int zv), .val (.int y0), .val (.int y1), .val (.int y2), .val (.int y3), .val (.int y4), .val (.int y5), .val (.int y6), .val (.ref b287), .val (.ref b316), .val (.int ye)] [(.ref b316), (.ref b287)])) (fun t k => XS.aload X339.here hx rfl (hb hby at_282) rfl rfl k) ?_
                  obtain ⟨cq364, kq364, q364a, q364b, q364c⟩ := isOf hZ rfl f351
                  obtain ⟨_, _, ⟨T364, L364, k364, n364⟩, -, X364, ⟨Lc364, hQ364, l364, y364, z364⟩, st364⟩ := X339.virtualBack hx (y := (⟨"com/example/honest_search/honestsearch/index/PhraseSettings", "equals", "(Ljava/lang/Object;)Z"⟩ : MethodName)) (z := (⟨"com/example/honest_search/honestsearch/index/PhraseSettings", "equals", "(Ljava/lang/Object;)Z"⟩ : MethodName)) hown (mvT hZ (hw _ (List.mem_of_getElem? (i := 56) rfl))) (mvT hZ (hw _ (List.mem_of_getElem? (i := 57) rfl))) (notFace_of_selects (args := #[]) (mvT hZ (hw _ (List.mem_of_getElem? (i := 59) rfl)))) (mvT hZ (hw _ (List.mem_of_getElem? (i := 59) rfl))) (mvT hZ (hw _ (List.mem_of_getElem? (i := 58) rfl))) (by decide) (backOf (W := 0) (rm_peq l Z a0 hw [] b287 b316 za zb zc (FP.ddiv (FP.i2d zg) (4616189618054758400 : UInt64)) (FP.ddiv (FP.i2d zh) (4616189618054758400 : UInt64)) zw zv y0 y1 y2 (FP.ddiv (FP.i2d y3) (4616189618054758400 : UInt64)) (FP.ddiv (FP.i2d y4) (4616189618054758400 : UInt64)) y5 y6 T339.heap n0 O360 p340 f352 f353 f354 f355 f356 f357 f358 p341 p342 p343 p344 p345 p346 p347) hZ (hw _ (List.mem_of_getElem? (i := 60) rfl)) (hw _ (List.mem_of_getElem? (i := 5) rfl)) (by decide) (by decide)) q364a q364c (g := (mkF m 284 #[.val (.int ia), .val (.int ib), .val (.int ic), .val (.int ie), .val (.long ij), .second, .val (.int ig), .val (.int zk), .val (.int zd), .val (.int za), .val (.int zb), .val (.int zc), .val (.int zg), .val (.int zh), .val (.int zw), .val (.int zv), .val (.int y0), .val (.int y1), .val (.int y2), .val (.int y3), .val (.int y4), .val (.int y5), .val (.int y6), .val (.ref b287), .val (.ref b316), .val (.int ye)] [(.ref b316), (.ref b287)])) rfl (by rw [hml]; rfl) (Steps.refl _) (argsL := [(.ref b316)]) (rest := []) (lenOf pd7 rfl) rfl (by show 2 * 0 + _ ≤ _; exact Nat.le_of_eq rfl) (hb hby at_284) (fun _ _ => ⟨rfl, rfl, (by decide : 30 + 0 ≤ _), (by decide : 878 + 0 ≤ _)⟩)
                  dsimp only [Pt.U, Pt.locs, Pt.cells, Pt.slots] at X364 l364 y364 z364 st364 hQ364
                  subst l364 y364 z364
                  obtain ⟨rfl, Nq364, hh364⟩ := hQ364
                  have N365 := Fr.app N348 Nq364
                  refine GoH.via (T' := T364) (f' := (mkF m 287 #[.val (.int ia), .val (.int ib), .val (.int ic), .val (.int ie), .val (.long ij), .second, .val (.int ig), .val (.int zk), .val (.int zd), .val (.int za), .val (.int zb), .val (.int zc), .val (.int zg), .val (.int zh), .val (.int zw), .val (.int zv), .val (.int y0), .val (.int y1), .val (.int y2), .val (.int y3), .val (.int y4), .val (.int y5), .val (.int y6), .val (.ref b287), .val (.ref b316), .val (.int ye)] [(.int (if za = y0 ∧ zb = y1 ∧ zc = y2 ∧ (cmpValue (FP.dcmp (FP.ddiv (FP.i2d zg) (4616189618054758400 : UInt64)) (FP.ddiv (FP.i2d y3) (4616189618054758400 : UInt64))) .l) = (0 : Int32) ∧ (cmpValue (FP.dcmp (FP.ddiv (FP.i2d zh) (4616189618054758400 : UInt64)) (FP.ddiv (FP.i2d y4) (4616189618054758400 : UInt64))) .l) = (0 : Int32) ∧ zw = y5 ∧ zv = y6 then (1 : Int32) else 0))])) st364 ?_
                  clear st364 X339 N348 Nq364
                  refine GoH.step (T' := T364) (f' := (mkF m 289 #[.val (.int ia), .val (.int ib), .val (.int ic), .val (.int ie), .val (.long ij), .second, .val (.int ig), .val (.int zk), .val (.int zd), .val (.int za), .val (.int zb), .val (.int zc), .val (.int zg), .val (.int zh), .val (.int zw), .val (.int zv), .val (.int y0), .val (.int y1), .val (.int y2), .val (.int y3), .val (.int y4), .val (.int y5), .val (.int y6), .val (.ref b287), .val (.ref b316), .val (.int ye)] [(.int ye), (.int (if za = y0 ∧ zb = y1 ∧ zc = y2 ∧ (cmpValue (FP.dcmp (FP.ddiv (FP.i2d zg) (4616189618054758400 : UInt64)) (FP.ddiv (FP.i2d y3) (4616189618054758400 : UInt64))) .l) = (0 : Int32) ∧ (cmpValue (FP.dcmp (FP.ddiv (FP.i2d zh) (4616189618054758400 : UInt64)) (FP.ddiv (FP.i2d y4) (4616189618054758400 : UInt64))) .l) = (0 : Int32) ∧ zw = y5 ∧ zv = y6 then (1 : Int32) else 0))])) (fun t k => XS.iload X364.here hx rfl (hb hby at_287) rfl k) ?_
                  have hc366 : (if za = y0 ∧ zb = y1 ∧ zc = y2 ∧ (cmpValue (FP.dcmp (FP.ddiv (FP.i2d zg) (4616189618054758400 : UInt64)) (FP.ddiv (FP.i2d y3) (4616189618054758400 : UInt64))) .l) = (0 : Int32) ∧ (cmpValue (FP.dcmp (FP.ddiv (FP.i2d zh) (4616189618054758400 : UInt64)) (FP.ddiv (FP.i2d y4) (4616189618054758400 : UInt64))) .l) = (0 : Int32) ∧ zw = y5 ∧ zv = y6 then (1 : Int32) else 0) = ye := by
                    rw [hy0, hy1, hy2, hy3, hy4, hy5, hy6, hye]; exact own_fin hK hD hG hH
                  refine GoH.step (T' := T364) (f' := (mkF m 292 #[.val (.int ia), .val (.int ib), .val (.int ic), .val (.int ie), .val (.long ij), .second, .val (.int ig), .val (.int zk), .val (.int zd), .val (.int za), .val (.int zb), .val (.int zc), .val (.int zg), .val (.int zh), .val (.int zw), .val (.int zv), .val (.int y0), .val (.int y1), .val (.int y2), .val (.int y3), .val (.int y4), .val (.int y5), .val (.int y6), .val (.ref b287), .val (.ref b316), .val (.int ye)] [])) (fun t k => XS.icmpNo X364.here hx rfl (hb hby at_289) rfl (teq hc366).2 k) ?_
                  refine GoH.step (T' := T364) (f' := (mkF m 294 #[.val (.int ia), .val (.int ib), .val (.int ic), .val (.int ie), .val (.long ij), .second, .val (.int ig), .val (.int zk), .val (.int zd), .val (.int za), .val (.int zb), .val (.int zc), .val (.int zg), .val (.int zh), .val (.int zw), .val (.int zv), .val (.int y0), .val (.int y1), .val (.int y2), .val (.int y3), .val (.int y4), .val (.int y5), .val (.int y6), .val (.ref b287), .val (.ref b316), .val (.int ye)] [(.ref b316)])) (fun t k => XS.aload X364.here hx rfl (hb hby at_292) rfl rfl k) ?_
                  refine GoH.step (T' := T364) (f' := (mkF m 296 #[.val (.int ia), .val (.int ib), .val (.int ic), .val (.int ie), .val (.long ij), .second, .val (.int ig), .val (.int zk), .val (.int zd), .val (.int za), .val (.int zb), .val (.int zc), .val (.int zg), .val (.int zh), .val (.int zw), .val (.int zv), .val (.int y0), .val (.int y1), .val (.int y2), .val (.int y3), .val (.int y4), .val (.int y5), .val (.int y6), .val (.ref b287), .val (.ref b316), .val (.int ye)] [(.ref b287), (.ref b316)])) (fun t k => XS.aload X364.here hx rfl (hb hby at_294) rfl rfl k) ?_
                  obtain ⟨cq367, kq367, q367a, q367b, q367c⟩ := isOf hZ hh364 p340
                  obtain ⟨_, _, ⟨T367, L367, k367, n367⟩, -, X367, ⟨Lc367, hQ367, l367, y367, z367⟩, st367⟩ := X364.virtualBack hx (y := (⟨"com/example/honest_search/honestsearch/index/PhraseSettings", "equals", "(Ljava/lang/Object;)Z"⟩ : MethodName)) (z := (⟨"com/example/honest_search/honestsearch/index/PhraseSettings", "equals", "(Ljava/lang/Object;)Z"⟩ : MethodName)) hown (mvT hZ (hw _ (List.mem_of_getElem? (i := 56) rfl))) (mvT hZ (hw _ (List.mem_of_getElem? (i := 57) rfl))) (notFace_of_selects (args := #[]) (mvT hZ (hw _ (List.mem_of_getElem? (i := 59) rfl)))) (mvT hZ (hw _ (List.mem_of_getElem? (i := 59) rfl))) (mvT hZ (hw _ (List.mem_of_getElem? (i := 58) rfl))) (by decide) (backOf (W := 0) (rm_peq l Z a0 hw [] b316 b287 y0 y1 y2 (FP.ddiv (FP.i2d y3) (4616189618054758400 : UInt64)) (FP.ddiv (FP.i2d y4) (4616189618054758400 : UInt64)) y5 y6 za zb zc (FP.ddiv (FP.i2d zg) (4616189618054758400 : UInt64)) (FP.ddiv (FP.i2d zh) (4616189618054758400 : UInt64)) zw zv T339.heap n0 O360 f351 p341 p342 p343 p344 p345 p346 p347 f352 f353 f354 f355 f356 f357 f358) hZ (hw _ (List.mem_of_getElem? (i := 60) rfl)) (hw _ (List.mem_of_getElem? (i := 5) rfl)) (by decide) (by decide)) q367a q367c (g := (mkF m 296 #[.val (.int ia), .val (.int ib), .val (.int ic), .val (.int ie), .val (.long ij), .second, .val (.int ig), .val (.int zk), .val (.int zd), .val (.int za), .val (.int zb), .val (.int zc), .val (.int zg), .val (.int zh), .val (.int zw), .val (.int zv), .val (.int y0), .val (.int y1), .val (.int y2), .val (.int y3), .val (.int y4), .val (.int y5), .val (.int y6), .val (.ref b287), .val (.ref b316), .val (.int ye)] [(.ref b287), (.ref b316)])) rfl (by rw [hml]; rfl) (Steps.refl _) (argsL := [(.ref b287)]) (rest := []) (lenOf pd7 rfl) rfl (by show 2 * 0 + _ ≤ _; exact Nat.le_of_eq rfl) (hb hby at_296) (fun _ _ => ⟨rfl, hh364, (by decide : 30 + 0 ≤ _), (by decide : 878 + 0 ≤ _)⟩)
                  dsimp only [Pt.U, Pt.locs, Pt.cells, Pt.slots] at X367 l367 y367 z367 st367 hQ367
                  subst l367 y367 z367
                  obtain ⟨rfl, Nq367, hh367⟩ := hQ367
                  have N368 := Fr.app N365 Nq367
                  refine GoH.via (T' := T367) (f' := (mkF m 299 #[.val (.int ia), .val (.int ib), .val (.int ic), .val (.int ie), .val (.long ij), .second, .val (.int ig), .val (.int zk), .val (.int zd), .val (.int za), .val (.int zb), .val (.int zc), .val (.int zg), .val (.int zh), .val (.int zw), .val (.int zv), .val (.int y0), .val (.int y1), .val (.int y2), .val (.int y3), .val (.int y4), .val (.int y5), .val (.int y6), .val (.ref b287), .val (.ref b316), .val (.int ye)] [(.int (if y0 = za ∧ y1 = zb ∧ y2 = zc ∧ (cmpValue (FP.dcmp (FP.ddiv (FP.i2d y3) (4616189618054758400 : UInt64)) (FP.ddiv (FP.i2d zg) (4616189618054758400 : UInt64))) .l) = (0 : Int32) ∧ (cmpValue (FP.dcmp (FP.ddiv (FP.i2d y4) (4616189618054758400 : UInt64)) (FP.ddiv (FP.i2d zh) (4616189618054758400 : UInt64))) .l) = (0 : Int32) ∧ y5 = zw ∧ y6 = zv then (1 : Int32) else 0))])) st367 ?_
                  clear st367 X364 N365 Nq367
                  refine GoH.step (T' := T367) (f' := (mkF m 301 #[.val (.int ia), .val (.int ib), .val (.int ic), .val (.int ie), .val (.long ij), .second, .val (.int ig), .val (.int zk), .val (.int zd), .val (.int za), .val (.int zb), .val (.int zc), .val (.int zg), .val (.int zh), .val (.int zw), .val (.int zv), .val (.int y0), .val (.int y1), .val (.int y2), .val (.int y3), .val (.int y4), .val (.int y5), .val (.int y6), .val (.ref b287), .val (.ref b316), .val (.int ye)] [(.int ye), (.int (if y0 = za ∧ y1 = zb ∧ y2 = zc ∧ (cmpValue (FP.dcmp (FP.ddiv (FP.i2d y3) (4616189618054758400 : UInt64)) (FP.ddiv (FP.i2d zg) (4616189618054758400 : UInt64))) .l) = (0 : Int32) ∧ (cmpValue (FP.dcmp (FP.ddiv (FP.i2d y4) (4616189618054758400 : UInt64)) (FP.ddiv (FP.i2d zh) (4616189618054758400 : UInt64))) .l) = (0 : Int32) ∧ y5 = zw ∧ y6 = zv then (1 : Int32) else 0))])) (fun t k => XS.iload X367.here hx rfl (hb hby at_299) rfl k) ?_
                  have hc369 : (if y0 = za ∧ y1 = zb ∧ y2 = zc ∧ (cmpValue (FP.dcmp (FP.ddiv (FP.i2d y3) (4616189618054758400 : UInt64)) (FP.ddiv (FP.i2d zg) (4616189618054758400 : UInt64))) .l) = (0 : Int32) ∧ (cmpValue (FP.dcmp (FP.ddiv (FP.i2d y4) (4616189618054758400 : UInt64)) (FP.ddiv (FP.i2d zh) (4616189618054758400 : UInt64))) .l) = (0 : Int32) ∧ y5 = zw ∧ y6 = zv then (1 : Int32) else 0) = ye := by
                    rw [hy0, hy1, hy2, hy3, hy4, hy5, hy6, hye]; exact own_fin' hK hD hG hH
                  refine GoH.step (T' := T367) (f' := (mkF m 304 #[.val (.int ia), .val (.int ib), .val (.int ic), .val (.int ie), .val (.long ij), .second, .val (.int ig), .val (.int zk), .val (.int zd), .val (.int za), .val (.int zb), .val (.int zc), .val (.int zg), .val (.int zh), .val (.int zw), .val (.int zv), .val (.int y0), .val (.int y1), .val (.int y2), .val (.int y3), .val (.int y4), .val (.int y5), .val (.int y6), .val (.ref b287), .val (.ref b316), .val (.int ye)] [])) (fun t k => XS.icmpNo X367.here hx rfl (hb hby at_301) rfl (teq hc369).2 k) ?_
                  refine GoH.step (T' := T367) (f' := (mkF m 306 #[.val (.int ia), .val (.int ib), .val (.int ic), .val (.int ie), .val (.long ij), .second, .val (.int ig), .val (.int zk), .val (.int zd), .val (.int za), .val (.int zb), .val (.int zc), .val (.int zg), .val (.int zh), .val (.int zw), .val (.int zv), .val (.int y0), .val (.int y1), .val (.int y2), .val (.int y3), .val (.int y4), .val (.int y5), .val (.int y6), .val (.ref b287), .val (.ref b316), .val (.int ye)] [(.ref b287)])) (fun t k => XS.aload X367.here hx rfl (hb hby at_304) rfl rfl k) ?_
                  refine GoH.step (T' := T367) (f' := (mkF m 308 #[.val (.int ia), .val (.int ib), .val (.int ic), .val (.int ie), .val (.long ij), .second, .val (.int ig), .val (.int zk), .val (.int zd), .val (.int za), .val (.int zb), .val (.int zc), .val (.int zg), .val (.int zh), .val (.int zw), .val (.int zv), .val (.int y0), .val (.int y1), .val (.int y2), .val (.int y3), .val (.int y4), .val (.int y5), .val (.int y6), .val (.ref b287), .val (.ref b316), .val (.int ye)] [(.ref b287), (.ref b287)])) (fun t k => XS.aload X367.here hx rfl (hb hby at_306) rfl rfl k) ?_
                  obtain ⟨cq370, kq370, q370a, q370b, q370c⟩ := isOf hZ hh367 f351
                  obtain ⟨_, _, ⟨T370, L370, k370, n370⟩, -, X370, ⟨Lc370, hQ370, l370, y370, z370⟩, st370⟩ := X367.virtualBack hx (y := (⟨"com/example/honest_search/honestsearch/index/PhraseSettings", "equals", "(Ljava/lang/Object;)Z"⟩ : MethodName)) (z := (⟨"com/example/honest_search/honestsearch/index/PhraseSettings", "equals", "(Ljava/lang/Object;)Z"⟩ : MethodName)) hown (mvT hZ (hw _ (List.mem_of_getElem? (i := 56) rfl))) (mvT hZ (hw _ (List.mem_of_getElem? (i := 57) rfl))) (notFace_of_selects (args := #[]) (mvT hZ (hw _ (List.mem_of_getElem? (i := 59) rfl)))) (mvT hZ (hw _ (List.mem_of_getElem? (i := 59) rfl))) (mvT hZ (hw _ (List.mem_of_getElem? (i := 58) rfl))) (by decide) (backOf (W := 0) (rm_peq1 l Z a0 hw [] b287 za zb zc (FP.ddiv (FP.i2d zg) (4616189618054758400 : UInt64)) (FP.ddiv (FP.i2d zh) (4616189618054758400 : UInt64)) zw zv T339.heap n0 O360 f351 f352 f353 f354 f355 f356 f357 f358 (own_self _) (own_self _)) hZ (hw _ (List.mem_of_getElem? (i := 60) rfl)) (hw _ (List.mem_of_getElem? (i := 5) rfl)) (by decide) (by decide)) q370a q370c (g := (mkF m 308 #[.val (.int ia), .val (.int ib), .val (.int ic), .val (.int ie), .val (.long ij), .second, .val (.int ig), .val (.int zk), .val (.int zd), .val (.int za), .val (.int zb), .val (.int zc), .val (.int zg), .val (.int zh), .val (.int zw), .val (.int zv), .val (.int y0), .val (.int y1), .val (.int y2), .val (.int y3), .val (.int y4), .val (.int y5), .val (.int y6), .val (.ref b287), .val (.ref b316), .val (.int ye)] [(.ref b287), (.ref b287)])) rfl (by rw [hml]; rfl) (Steps.refl _) (argsL := [(.ref b287)]) (rest := []) (lenOf pd7 rfl) rfl (by show 2 * 0 + _ ≤ _; exact Nat.le_of_eq rfl) (hb hby at_308) (fun _ _ => ⟨rfl, hh367, (by decide : 30 + 0 ≤ _), (by decide : 878 + 0 ≤ _)⟩)
                  dsimp only [Pt.U, Pt.locs, Pt.cells, Pt.slots] at X370 l370 y370 z370 st370 hQ370
                  subst l370 y370 z370
                  obtain ⟨rfl, Nq370, hh370⟩ := hQ370
                  have N371 := Fr.app N368 Nq370
                  refine GoH.via (T' := T370) (f' := (mkF m 311 #[.val (.int ia), .val (.int ib), .val (.int ic), .val (.int ie), .val (.long ij), .second, .val (.int ig), .val (.int zk), .val (.int zd), .val (.int za), .val (.int zb), .val (.int zc), .val (.int zg), .val (.int zh), .val (.int zw), .val (.int zv), .val (.int y0), .val (.int y1), .val (.int y2), .val (.int y3), .val (.int y4), .val (.int y5), .val (.int y6), .val (.ref b287), .val (.ref b316), .val (.int ye)] [(.int (1 : Int32))])) st370 ?_
                  clear st370 X367 N368 Nq370
                  refine GoH.step (T' := T370) (f' := (mkF m 314 #[.val (.int ia), .val (.int ib), .val (.int ic), .val (.int ie), .val (.long ij), .second, .val (.int ig), .val (.int zk), .val (.int zd), .val (.int za), .val (.int zb), .val (.int zc), .val (.int zg), .val (.int zh), .val (.int zw), .val (.int zv), .val (.int y0), .val (.int y1), .val (.int y2), .val (.int y3), .val (.int y4), .val (.int y5), .val (.int y6), .val (.ref b287), .val (.ref b316), .val (.int ye)] [])) (fun t k => XS.ifNo X370.here hx rfl (hb hby at_311) rfl ((if0 _ _).trans (feq (by decide : ¬ ((1 : Int32) = (0 : Int32)))).1) k) ?_
                  refine GoH.step (T' := T370) (f' := (mkF m 316 #[.val (.int ia), .val (.int ib), .val (.int ic), .val (.int ie), .val (.long ij), .second, .val (.int ig), .val (.int zk), .val (.int zd), .val (.int za), .val (.int zb), .val (.int zc), .val (.int zg), .val (.int zh), .val (.int zw), .val (.int zv), .val (.int y0), .val (.int y1), .val (.int y2), .val (.int y3), .val (.int y4), .val (.int y5), .val (.int y6), .val (.ref b287), .val (.ref b316), .val (.int ye)] [(.ref b287)])) (fun t k => XS.aload X370.here hx rfl (hb hby at_314) rfl rfl k) ?_
                  refine GoH.step (T' := T370) (f' := (mkF m 317 #[.val (.int ia), .val (.int ib), .val (.int ic), .val (.int ie), .val (.long ij), .second, .val (.int ig), .val (.int zk), .val (.int zd), .val (.int za), .val (.int zb), .val (.int zc), .val (.int zg), .val (.int zh), .val (.int zw), .val (.int zv), .val (.int y0), .val (.int y1), .val (.int y2), .val (.int y3), .val (.int y4), .val (.int y5), .val (.int y6), .val (.ref b287), .val (.ref b316), .val (.int ye)] [.null, (.ref b287)])) (fun t k => XS.aconstNull X370.here hx rfl (hb hby at_316) k) ?_
                  obtain ⟨cq372, kq372, q372a, q372b, q372c⟩ := isOf hZ hh370 f351
                  obtain ⟨_, _, ⟨T372, L372, k372, n372⟩, -, X372, ⟨Lc372, hQ372, l372, y372, z372⟩, st372⟩ := X370.virtualBack hx (y := (⟨"com/example/honest_search/honestsearch/index/PhraseSettings", "equals", "(Ljava/lang/Object;)Z"⟩ : MethodName)) (z := (⟨"com/example/honest_search/honestsearch/index/PhraseSettings", "equals", "(Ljava/lang/Object;)Z"⟩ : MethodName)) hown (mvT hZ (hw _ (List.mem_of_getElem? (i := 56) rfl))) (mvT hZ (hw _ (List.mem_of_getElem? (i := 57) rfl))) (notFace_of_selects (args := #[]) (mvT hZ (hw _ (List.mem_of_getElem? (i := 59) rfl)))) (mvT hZ (hw _ (List.mem_of_getElem? (i := 59) rfl))) (mvT hZ (hw _ (List.mem_of_getElem? (i := 58) rfl))) (by decide) (backOf (W := 0) (rm_peqN l Z a0 hw [] b287 T339.heap n0 O360 ) hZ (hw _ (List.mem_of_getElem? (i := 60) rfl)) (hw _ (List.mem_of_getElem? (i := 5) rfl)) (by decide) (by decide)) q372a q372c (g := (mkF m 317 #[.val (.int ia), .val (.int ib), .val (.int ic), .val (.int ie), .val (.long ij), .second, .val (.int ig), .val (.int zk), .val (.int zd), .val (.int za), .val (.int zb), .val (.int zc), .val (.int zg), .val (.int zh), .val (.int zw), .val (.int zv), .val (.int y0), .val (.int y1), .val (.int y2), .val (.int y3), .val (.int y4), .val (.int y5), .val (.int y6), .val (.ref b287), .val (.ref b316), .val (.int ye)] [.null, (.ref b287)])) rfl (by rw [hml]; rfl) (Steps.refl _) (argsL := [.null]) (rest := []) (lenOf pd7 rfl) rfl (by show 2 * 0 + _ ≤ _; exact Nat.le_of_eq rfl) (hb hby at_317) (fun _ _ => ⟨rfl, hh370, (by decide : 30 + 0 ≤ _), (by decide : 878 + 0 ≤ _)⟩)
                  dsimp only [Pt.U, Pt.locs, Pt.cells, Pt.slots] at X372 l372 y372 z372 st372 hQ372
                  subst l372 y372 z372
                  obtain ⟨rfl, Nq372, hh372⟩ := hQ372
                  have N373 := Fr.app N371 Nq372
                  refine GoH.via (T' := T372) (f' := (mkF m 320 #[.val (.int ia), .val (.int ib), .val (.int ic), .val (.int ie), .val (.long ij), .second, .val (.int ig), .val (.int zk), .val (.int zd), .val (.int za), .val (.int zb), .val (.int zc), .val (.int zg), .val (.int zh), .val (.int zw), .val (.int zv), .val (.int y0), .val (.int y1), .val (.int y2), .val (.int y3), .val (.int y4), .val (.int y5), .val (.int y6), .val (.ref b287), .val (.ref b316), .val (.int ye)] [(.int (0 : Int32))])) st372 ?_
                  clear st372 X370 N371 Nq372
                  refine GoH.step (T' := T372) (f' := (mkF m 323 #[.val (.int ia), .val (.int ib), .val (.int ic), .val (.int ie), .val (.long ij), .second, .val (.int ig), .val (.int zk), .val (.int zd), .val (.int za), .val (.int zb), .val (.int zc), .val (.int zg), .val (.int zh), .val (.int zw), .val (.int zv), .val (.int y0), .val (.int y1), .val (.int y2), .val (.int y3), .val (.int y4), .val (.int y5), .val (.int y6), .val (.ref b287), .val (.ref b316), .val (.int ye)] [])) (fun t k => XS.ifNo X372.here hx rfl (hb hby at_320) rfl ((if0 _ _).trans (teq (by decide : (0 : Int32) = (0 : Int32))).2) k) ?_
                  refine GoH.step (T' := T372) (f' := (mkF m 325 #[.val (.int ia), .val (.int ib), .val (.int ic), .val (.int ie), .val (.long ij), .second, .val (.int ig), .val (.int zk), .val (.int zd), .val (.int za), .val (.int zb), .val (.int zc), .val (.int zg), .val (.int zh), .val (.int zw), .val (.int zv), .val (.int y0), .val (.int y1), .val (.int y2), .val (.int y3), .val (.int y4), .val (.int y5), .val (.int y6), .val (.ref b287), .val (.ref b316), .val (.int ye)] [(.ref b287)])) (fun t k => XS.aload X372.here hx rfl (hb hby at_323) rfl rfl k) ?_
                  refine GoH.step (T' := T372) (f' := (mkF m 327 #[.val (.int ia), .val (.int ib), .val (.int ic), .val (.int ie), .val (.long ij), .second, .val (.int ig), .val (.int zk), .val (.int zd), .val (.int za), .val (.int zb), .val (.int zc), .val (.int zg), .val (.int zh), .val (.int zw), .val (.int zv), .val (.int y0), .val (.int y1), .val (.int y2), .val (.int y3), .val (.int y4), .val (.int y5), .val (.int y6), .val (.ref b287), .val (.ref b316), .val (.int ye)] [(.int za), (.ref b287)])) (fun t k => XS.iload X372.here hx rfl (hb hby at_325) rfl k) ?_
                  obtain ⟨_, _, ⟨T374, L374, k374, n374⟩, -, X374, ⟨Lc374, hQ374, l374, y374, z374⟩, st374⟩ := Jvm.LawKit.callS X372 hx (y := (⟨"java/lang/Integer", "valueOf", "(I)Ljava/lang/Integer;"⟩ : MethodName)) hown (mvT hZ (hw _ (List.mem_of_getElem? (i := 63) rfl))) (mvT hZ (hw _ (List.mem_of_getElem? (i := 64) rfl))) (mvT hZ (hw _ (List.mem_of_getElem? (i := 65) rfl))) (mvT hZ (hw _ (List.mem_of_getElem? (i := 66) rfl))) (by decide) (backOf (W := 1) (rm_ival l Z a0 hw [] za wc cc T339.heap n0 O360 P0 P1 hbx (hA)) hZ (hw _ (List.mem_of_getElem? (i := 66) rfl)) (hw _ (List.mem_of_getElem? (i := 65) rfl)) (by decide) (by decide)) (g := (mkF m 327 #[.val (.int ia), .val (.int ib), .val (.int ic), .val (.int ie), .val (.long ij), .second, .val (.int ig), .val (.int zk), .val (.int zd), .val (.int za), .val (.int zb), .val (.int zc), .val (.int zg), .val (.int zh), .val (.int zw), .val (.int zv), .val (.int y0), .val (.int y1), .val (.int y2), .val (.int y3), .val (.int y4), .val (.int y5), .val (.int y6), .val (.ref b287), .val (.ref b316), .val (.int ye)] [(.int za), (.ref b287)])) rfl (by rw [hml]; rfl) (argsL := [(.int za)]) (rest := [(.ref b287)]) (lenOf pd8 rfl) rfl (by show 2 * 0 + _ ≤ _; exact Nat.le_of_eq rfl) (hb hby at_327) (fun _ _ => ⟨rfl, hh372, (by decide : 30 + 1 ≤ _), (by decide : 878 + 1 ≤ _)⟩)
                  dsimp only [Pt.U, Pt.locs, Pt.cells, Pt.slots] at X374 l374 y374 z374 st374 hQ374
                  subst l374 y374 z374
                  obtain ⟨u375, rfl, Nq374, hh374, p376⟩ := hQ374
                  have N377 := Fr.app N373 Nq374
                  have sz378 : ∀ x ∈ ([] : List Addr), Safe Z own_EL T339.vm T339.heap x := sf0
                  have CR379 := CR349.trans (CHr.keep hh374 sz378 CR349.1)
                  have hk380 := Nat.le_trans hk350 hh374.1
                  have f381 := f351.keep hh374
                  have f382 := f352.keep hh374 nin0
                  have f383 := f353.keep hh374 nin0
                  have f384 := f354.keep hh374 nin0
                  have f385 := f355.keep hh374 nin0
                  have f386 := f356.keep hh374 nin0
                  have f387 := f357.keep hh374 nin0
                  have f388 := f358.keep hh374 nin0
                  have f389 := p340.keep hh374
                  have f390 := p341.keep hh374 nin0
                  have f391 := p342.keep hh374 nin0
                  have f392 := p343.keep hh374 nin0
                  have f393 := p344.keep hh374 nin0
                  have f394 := p345.keep hh374 nin0
                  have f395 := p346.keep hh374 nin0
                  have f396 := p347.keep hh374 nin0
                  have O397 := O360.keep hh374 all0
                  have K398 := K361.trans hh374 all0
                  refine GoH.step (T' := T374) (f' := (mkF m 330 #[.val (.int ia), .val (.int ib), .val (.int ic), .val (.int ie), .val (.long ij), .second, .val (.int ig), .val (.int zk), .val (.int zd), .val (.int za), .val (.int zb), .val (.int zc), .val (.int zg), .val (.int zh), .val (.int zw), .val (.int zv), .val (.int y0), .val (.int y1), .val (.int y2), .val (.int y3), .val (.int y4), .val (.int y5), .val (.int y6), .val (.ref b287), .val (.ref b316), .val (.int ye)] [(.ref u375), (.ref b287)])) st374 ?_
                  clear st374 X372 N373 Nq374 CR349 hk350 sz378 f352 f353 f354 f355 f356 f357 f358 p341 p342 p343 p344 p345 p346 p347
                  obtain ⟨cq399, kq399, q399a, q399b, q399c⟩ := isOf hZ rfl f381
                  obtain ⟨_, _, ⟨T399, L399, k399, n399⟩, -, X399, ⟨Lc399, hQ399, l399, y399, z399⟩, st399⟩ := X374.virtualBack hx (y := (⟨"com/example/honest_search/honestsearch/index/PhraseSettings", "equals", "(Ljava/lang/Object;)Z"⟩ : MethodName)) (z := (⟨"com/example/honest_search/honestsearch/index/PhraseSettings", "equals", "(Ljava/lang/Object;)Z"⟩ : MethodName)) hown (mvT hZ (hw _ (List.mem_of_getElem? (i := 56) rfl))) (mvT hZ (hw _ (List.mem_of_getElem? (i := 57) rfl))) (notFace_of_selects (args := #[]) (mvT hZ (hw _ (List.mem_of_getElem? (i := 59) rfl)))) (mvT hZ (hw _ (List.mem_of_getElem? (i := 59) rfl))) (mvT hZ (hw _ (List.mem_of_getElem? (i := 58) rfl))) (by decide) (backOf (W := 0) (rm_peqI l Z a0 hw [] b287 u375 T374.heap n0 O397 p376) hZ (hw _ (List.mem_of_getElem? (i := 60) rfl)) (hw _ (List.mem_of_getElem? (i := 5) rfl)) (by decide) (by decide)) q399a q399c (g := (mkF m 330 #[.val (.int ia), .val (.int ib), .val (.int ic), .val (.int ie), .val (.long ij), .second, .val (.int ig), .val (.int zk), .val (.int zd), .val (.int za), .val (.int zb), .val (.int zc), .val (.int zg), .val (.int zh), .val (.int zw), .val (.int zv), .val (.int y0), .val (.int y1), .val (.int y2), .val (.int y3), .val (.int y4), .val (.int y5), .val (.int y6), .val (.ref b287), .val (.ref b316), .val (.int ye)] [(.ref u375), (.ref b287)])) rfl (by rw [hml]; rfl) (Steps.refl _) (argsL := [(.ref u375)]) (rest := []) (lenOf pd7 rfl) rfl (by show 2 * 0 + _ ≤ _; exact Nat.le_of_eq rfl) (hb hby at_330) (fun _ _ => ⟨rfl, rfl, (by decide : 31 + 0 ≤ _), (by decide : 879 + 0 ≤ _)⟩)
                  dsimp only [Pt.U, Pt.locs, Pt.cells, Pt.slots] at X399 l399 y399 z399 st399 hQ399
                  subst l399 y399 z399
                  obtain ⟨rfl, Nq399, hh399⟩ := hQ399
                  have N400 := Fr.app N377 Nq399
                  refine GoH.via (T' := T399) (f' := (mkF m 333 #[.val (.int ia), .val (.int ib), .val (.int ic), .val (.int ie), .val (.long ij), .second, .val (.int ig), .val (.int zk), .val (.int zd), .val (.int za), .val (.int zb), .val (.int zc), .val (.int zg), .val (.int zh), .val (.int zw), .val (.int zv), .val (.int y0), .val (.int y1), .val (.int y2), .val (.int y3), .val (.int y4), .val (.int y5), .val (.int y6), .val (.ref b287), .val (.ref b316), .val (.int ye)] [(.int (0 : Int32))])) st399 ?_
                  clear st399 X374 N377 Nq399
                  refine GoH.step (T' := T399) (f' := (mkF m 336 #[.val (.int ia), .val (.int ib), .val (.int ic), .val (.int ie), .val (.long ij), .second, .val (.int ig), .val (.int zk), .val (.int zd), .val (.int za), .val (.int zb), .val (.int zc), .val (.int zg), .val (.int zh), .val (.int zw), .val (.int zv), .val (.int y0), .val (.int y1), .val (.int y2), .val (.int y3), .val (.int y4), .val (.int y5), .val (.int y6), .val (.ref b287), .val (.ref b316), .val (.int ye)] [])) (fun t k => XS.ifNo X399.here hx rfl (hb hby at_333) rfl ((if0 _ _).trans (teq (by decide : (0 : Int32) = (0 : Int32))).2) k) ?_
                  refine GoH.step (T' := T399) (f' := (mkF m 337 #[.val (.int ia), .val (.int ib), .val (.int ic), .val (.int ie), .val (.long ij), .second, .val (.int ig), .val (.int zk), .val (.int zd), .val (.int za), .val (.int zb), .val (.int zc), .val (.int zg), .val (.int zh), .val (.int zw), .val (.int zv), .val (.int y0), .val (.int y1), .val (.int y2), .val (.int y3), .val (.int y4), .val (.int y5), .val (.int y6), .val (.ref b287), .val (.ref b316), .val (.int ye)] [(.int (1 : Int32))])) (fun t k => XS.iconst X399.here hx rfl (hb hby at_336) k) ?_
                  refine GoH.step (T' := T399) (f' := (mkF m 341 #[.val (.int ia), .val (.int ib), .val (.int ic), .val (.int ie), .val (.long ij), .second, .val (.int ig), .val (.int zk), .val (.int zd), .val (.int za), .val (.int zb), .val (.int zc), .val (.int zg), .val (.int zh), .val (.int zw), .val (.int zv), .val (.int y0), .val (.int y1), .val (.int y2), .val (.int y3), .val (.int y4), .val (.int y5), .val (.int y6), .val (.ref b287), .val (.ref b316), .val (.int ye)] [(.int (1 : Int32))])) (fun t k => XS.goto X399.here hx rfl (pc0 := 337) (pc' := 341) rfl (hb hby at_337) (by decide) (by decide) k) ?_
                  refine GoH.fin X399 hZ hEL hS339 hk380 CR379 hlk (v := some (.int (nar .boolean (1 : Int32)))) (fun h => by rw [Bd.returns] at h; cases h) (fun fs hr => retN X399 hx (t := .boolean) Bd.returns (by simp) (hb hby at_341) hr) hh399 ?_ (by decide) (by decide)
                  exact ⟨rfl, N400, K398⟩
                refine GoH.step (T' := T339) (f' := (mkF m 263 #[.val (.int ia), .val (.int ib), .val (.int ic), .val (.int ie), .val (.long ij), .second, .val (.int ig), .val (.int zk), .val (.int zd), .val (.int za), .val (.int zb), .val (.int zc), .val (.int zg), .val (.int zh), .val (.int zw), .val (.int zv), .val (.int y0), .val (.int y1), .val (.int y2), .val (.int y3), .val (.int y4), .val (.int y5), .val (.int y6), .val (.ref b287), .val (.ref b316), .unset] [(.int zk)])) (fun t k => XS.iload X339.here hx rfl (hb hby at_261) rfl k) ?_
                refine GoH.step (T' := T339) (f' := (mkF m 265 #[.val (.int ia), .val (.int ib), .val (.int ic), .val (.int ie), .val (.long ij), .second, .val (.int ig), .val (.int zk), .val (.int zd), .val (.int za), .val (.int zb), .val (.int zc), .val (.int zg), .val (.int zh), .val (.int zw), .val (.int zv), .val (.int y0), .val (.int y1), .val (.int y2), .val (.int y3), .val (.int y4), .val (.int y5), .val (.int y6), .val (.ref b287), .val (.ref b316), .unset] [(.int (7 : Int32)), (.int zk)])) (fun t k => XS.bipush X339.here hx rfl (hb hby at_263) k) ?_
                by_cases hc401 : zk = (7 : Int32)
                ·
                  refine GoH.step (T' := T339) (f' := (mkF m 273 #[.val (.int ia), .val (.int ib), .val (.int ic), .val (.int ie), .val (.long ij), .second, .val (.int ig), .val (.int zk), .val (.int zd), .val (.int za), .val (.int zb), .val (.int zc), .val (.int zg), .val (.int zh), .val (.int zw), .val (.int zv), .val (.int y0), .val (.int y1), .val (.int y2), .val (.int y3), .val (.int y4), .val (.int y5), .val (.int y6), .val (.ref b287), .val (.ref b316), .unset] [])) (fun t k => XS.icmpYes X339.here hx rfl (pc0 := 265) (pc' := 273) rfl (hb hby at_265) rfl (teq hc401).1 (by decide) (by decide) k) ?_
                  refine GoH.step (T' := T339) (f' := (mkF m 274 #[.val (.int ia), .val (.int ib), .val (.int ic), .val (.int ie), .val (.long ij), .second, .val (.int ig), .val (.int zk), .val (.int zd), .val (.int za), .val (.int zb), .val (.int zc), .val (.int zg), .val (.int zh), .val (.int zw), .val (.int zv), .val (.int y0), .val (.int y1), .val (.int y2), .val (.int y3), .val (.int y4), .val (.int y5), .val (.int y6), .val (.ref b287), .val (.ref b316), .unset] [(.int (1 : Int32))])) (fun t k => XS.iconst X339.here hx rfl (hb hby at_273) k) ?_
                  refine GoH.step (T' := T339) (f' := (mkF m 278 #[.val (.int ia), .val (.int ib), .val (.int ic), .val (.int ie), .val (.long ij), .second, .val (.int ig), .val (.int zk), .val (.int zd), .val (.int za), .val (.int zb), .val (.int zc), .val (.int zg), .val (.int zh), .val (.int zw), .val (.int zv), .val (.int y0), .val (.int y1), .val (.int y2), .val (.int y3), .val (.int y4), .val (.int y5), .val (.int y6), .val (.ref b287), .val (.ref b316), .unset] [(.int (1 : Int32))])) (fun t k => XS.goto X339.here hx rfl (pc0 := 274) (pc' := 278) rfl (hb hby at_274) (by decide) (by decide) k) ?_
                  exact Kc362 ((1 : Int32)) (by simp [hc401])
                ·
                  refine GoH.step (T' := T339) (f' := (mkF m 268 #[.val (.int ia), .val (.int ib), .val (.int ic), .val (.int ie), .val (.long ij), .second, .val (.int ig), .val (.int zk), .val (.int zd), .val (.int za), .val (.int zb), .val (.int zc), .val (.int zg), .val (.int zh), .val (.int zw), .val (.int zv), .val (.int y0), .val (.int y1), .val (.int y2), .val (.int y3), .val (.int y4), .val (.int y5), .val (.int y6), .val (.ref b287), .val (.ref b316), .unset] [])) (fun t k => XS.icmpNo X339.here hx rfl (hb hby at_265) rfl (feq hc401).1 k) ?_
                  refine GoH.step (T' := T339) (f' := (mkF m 270 #[.val (.int ia), .val (.int ib), .val (.int ic), .val (.int ie), .val (.long ij), .second, .val (.int ig), .val (.int zk), .val (.int zd), .val (.int za), .val (.int zb), .val (.int zc), .val (.int zg), .val (.int zh), .val (.int zw), .val (.int zv), .val (.int y0), .val (.int y1), .val (.int y2), .val (.int y3), .val (.int y4), .val (.int y5), .val (.int y6), .val (.ref b287), .val (.ref b316), .unset] [(.int zd)])) (fun t k => XS.iload X339.here hx rfl (hb hby at_268) rfl k) ?_
                  by_cases hc402 : zd = (0 : Int32)
                  ·
                    refine GoH.step (T' := T339) (f' := (mkF m 273 #[.val (.int ia), .val (.int ib), .val (.int ic), .val (.int ie), .val (.long ij), .second, .val (.int ig), .val (.int zk), .val (.int zd), .val (.int za), .val (.int zb), .val (.int zc), .val (.int zg), .val (.int zh), .val (.int zw), .val (.int zv), .val (.int y0), .val (.int y1), .val (.int y2), .val (.int y3), .val (.int y4), .val (.int y5), .val (.int y6), .val (.ref b287), .val (.ref b316), .unset] [])) (fun t k => XS.ifNo X339.here hx rfl (hb hby at_270) rfl ((if0 _ _).trans (teq hc402).2) k) ?_
                    refine GoH.step (T' := T339) (f' := (mkF m 274 #[.val (.int ia), .val (.int ib), .val (.int ic), .val (.int ie), .val (.long ij), .second, .val (.int ig), .val (.int zk), .val (.int zd), .val (.int za), .val (.int zb), .val (.int zc), .val (.int zg), .val (.int zh), .val (.int zw), .val (.int zv), .val (.int y0), .val (.int y1), .val (.int y2), .val (.int y3), .val (.int y4), .val (.int y5), .val (.int y6), .val (.ref b287), .val (.ref b316), .unset] [(.int (1 : Int32))])) (fun t k => XS.iconst X339.here hx rfl (hb hby at_273) k) ?_
                    refine GoH.step (T' := T339) (f' := (mkF m 278 #[.val (.int ia), .val (.int ib), .val (.int ic), .val (.int ie), .val (.long ij), .second, .val (.int ig), .val (.int zk), .val (.int zd), .val (.int za), .val (.int zb), .val (.int zc), .val (.int zg), .val (.int zh), .val (.int zw), .val (.int zv), .val (.int y0), .val (.int y1), .val (.int y2), .val (.int y3), .val (.int y4), .val (.int y5), .val (.int y6), .val (.ref b287), .val (.ref b316), .unset] [(.int (1 : Int32))])) (fun t k => XS.goto X339.here hx rfl (pc0 := 274) (pc' := 278) rfl (hb hby at_274) (by decide) (by decide) k) ?_
                    exact Kc362 ((1 : Int32)) (by simp [hc401, hc402])
                  ·
                    refine GoH.step (T' := T339) (f' := (mkF m 277 #[.val (.int ia), .val (.int ib), .val (.int ic), .val (.int ie), .val (.long ij), .second, .val (.int ig), .val (.int zk), .val (.int zd), .val (.int za), .val (.int zb), .val (.int zc), .val (.int zg), .val (.int zh), .val (.int zw), .val (.int zv), .val (.int y0), .val (.int y1), .val (.int y2), .val (.int y3), .val (.int y4), .val (.int y5), .val (.int y6), .val (.ref b287), .val (.ref b316), .unset] [])) (fun t k => XS.ifYes X339.here hx rfl (pc0 := 270) (pc' := 277) rfl (hb hby at_270) rfl ((if0 _ _).trans (feq hc402).2) (by decide) (by decide) k) ?_
                    refine GoH.step (T' := T339) (f' := (mkF m 278 #[.val (.int ia), .val (.int ib), .val (.int ic), .val (.int ie), .val (.long ij), .second, .val (.int ig), .val (.int zk), .val (.int zd), .val (.int za), .val (.int zb), .val (.int zc), .val (.int zg), .val (.int zh), .val (.int zw), .val (.int zv), .val (.int y0), .val (.int y1), .val (.int y2), .val (.int y3), .val (.int y4), .val (.int y5), .val (.int y6), .val (.ref b287), .val (.ref b316), .unset] [(.int (0 : Int32))])) (fun t k => XS.iconst X339.here hx rfl (hb hby at_277) k) ?_
                    exact Kc362 ((0 : Int32)) (by simp [hc401, hc402])
              refine GoH.step (T' := s₁) (f' := (mkF m 178 #[.val (.int ia), .val (.int ib), .val (.int ic), .val (.int ie), .val (.long ij), .second, .val (.int ig), .val (.int zk), .val (.int zd), .val (.int za), .val (.int zb), .val (.int zc), .val (.int zg), .val (.int zh), .val (.int zw), .val (.int zv), .val (.int y0), .val (.int y1), .val (.int y2), .val (.int y3), .val (.int y4), .val (.int y5), .unset, .unset, .unset, .unset] [(.int zk)])) (fun t k => XS.iload X0.here hx rfl (hb hby at_176) rfl k) ?_
              refine GoH.step (T' := s₁) (f' := (mkF m 180 #[.val (.int ia), .val (.int ib), .val (.int ic), .val (.int ie), .val (.long ij), .second, .val (.int ig), .val (.int zk), .val (.int zd), .val (.int za), .val (.int zb), .val (.int zc), .val (.int zg), .val (.int zh), .val (.int zw), .val (.int zv), .val (.int y0), .val (.int y1), .val (.int y2), .val (.int y3), .val (.int y4), .val (.int y5), .unset, .unset, .unset, .unset] [(.int (6 : Int32)), (.int zk)])) (fun t k => XS.bipush X0.here hx rfl (hb hby at_178) k) ?_
              by_cases hc403 : zk = (6 : Int32)
              ·
                refine GoH.step (T' := s₁) (f' := (mkF m 183 #[.val (.int ia), .val (.int ib), .val (.int ic), .val (.int ie), .val (.long ij), .second, .val (.int ig), .val (.int zk), .val (.int zd), .val (.int za), .val (.int zb), .val (.int zc), .val (.int zg), .val (.int zh), .val (.int zw), .val (.int zv), .val (.int y0), .val (.int y1), .val (.int y2), .val (.int y3), .val (.int y4), .val (.int y5), .unset, .unset, .unset, .unset] [])) (fun t k => XS.icmpNo X0.here hx rfl (hb hby at_180) rfl (teq hc403).2 k) ?_
                refine GoH.step (T' := s₁) (f' := (mkF m 185 #[.val (.int ia), .val (.int ib), .val (.int ic), .val (.int ie), .val (.long ij), .second, .val (.int ig), .val (.int zk), .val (.int zd), .val (.int za), .val (.int zb), .val (.int zc), .val (.int zg), .val (.int zh), .val (.int zw), .val (.int zv), .val (.int y0), .val (.int y1), .val (.int y2), .val (.int y3), .val (.int y4), .val (.int y5), .unset, .unset, .unset, .unset] [(.int zv)])) (fun t k => XS.iload X0.here hx rfl (hb hby at_183) rfl k) ?_
                refine GoH.step (T' := s₁) (f' := (mkF m 187 #[.val (.int ia), .val (.int ib), .val (.int ic), .val (.int ie), .val (.long ij), .second, .val (.int ig), .val (.int zk), .val (.int zd), .val (.int za), .val (.int zb), .val (.int zc), .val (.int zg), .val (.int zh), .val (.int zw), .val (.int zv), .val (.int y0), .val (.int y1), .val (.int y2), .val (.int y3), .val (.int y4), .val (.int y5), .unset, .unset, .unset, .unset] [(.int zd), (.int zv)])) (fun t k => XS.iload X0.here hx rfl (hb hby at_185) rfl k) ?_
                refine GoH.step (T' := s₁) (f' := (mkF m 188 #[.val (.int ia), .val (.int ib), .val (.int ic), .val (.int ie), .val (.long ij), .second, .val (.int ig), .val (.int zk), .val (.int zd), .val (.int za), .val (.int zb), .val (.int zc), .val (.int zg), .val (.int zh), .val (.int zw), .val (.int zv), .val (.int y0), .val (.int y1), .val (.int y2), .val (.int y3), .val (.int y4), .val (.int y5), .unset, .unset, .unset, .unset] [(.int (zv ^^^ zd))])) (fun t k => XS.ixor X0.here hx rfl (hb hby at_187) rfl k) ?_
                refine GoH.step (T' := s₁) (f' := (mkF m 193 #[.val (.int ia), .val (.int ib), .val (.int ic), .val (.int ie), .val (.long ij), .second, .val (.int ig), .val (.int zk), .val (.int zd), .val (.int za), .val (.int zb), .val (.int zc), .val (.int zg), .val (.int zh), .val (.int zw), .val (.int zv), .val (.int y0), .val (.int y1), .val (.int y2), .val (.int y3), .val (.int y4), .val (.int y5), .unset, .unset, .unset, .unset] [(.int (zv ^^^ zd))])) (fun t k => XS.goto X0.here hx rfl (pc0 := 188) (pc' := 193) rfl (hb hby at_188) (by decide) (by decide) k) ?_
                exact Kc285 ((zv ^^^ zd)) (by rw [own_x, if_pos hc403])
              ·
                refine GoH.step (T' := s₁) (f' := (mkF m 191 #[.val (.int ia), .val (.int ib), .val (.int ic), .val (.int ie), .val (.long ij), .second, .val (.int ig), .val (.int zk), .val (.int zd), .val (.int za), .val (.int zb), .val (.int zc), .val (.int zg), .val (.int zh), .val (.int zw), .val (.int zv), .val (.int y0), .val (.int y1), .val (.int y2), .val (.int y3), .val (.int y4), .val (.int y5), .unset, .unset, .unset, .unset] [])) (fun t k => XS.icmpYes X0.here hx rfl (pc0 := 180) (pc' := 191) rfl (hb hby at_180) rfl (feq hc403).2 (by decide) (by decide) k) ?_
                refine GoH.step (T' := s₁) (f' := (mkF m 193 #[.val (.int ia), .val (.int ib), .val (.int ic), .val (.int ie), .val (.long ij), .second, .val (.int ig), .val (.int zk), .val (.int zd), .val (.int za), .val (.int zb), .val (.int zc), .val (.int zg), .val (.int zh), .val (.int zw), .val (.int zv), .val (.int y0), .val (.int y1), .val (.int y2), .val (.int y3), .val (.int y4), .val (.int y5), .unset, .unset, .unset, .unset] [(.int zv)])) (fun t k => XS.iload X0.here hx rfl (hb hby at_191) rfl k) ?_
                exact Kc285 (zv) (by rw [own_x, if_neg hc403])
            refine GoH.step (T' := s₁) (f' := (mkF m 160 #[.val (.int ia), .val (.int ib), .val (.int ic), .val (.int ie), .val (.long ij), .second, .val (.int ig), .val (.int zk), .val (.int zd), .val (.int za), .val (.int zb), .val (.int zc), .val (.int zg), .val (.int zh), .val (.int zw), .val (.int zv), .val (.int y0), .val (.int y1), .val (.int y2), .val (.int y3), .val (.int y4), .unset, .unset, .unset, .unset, .unset] [(.int zk)])) (fun t k => XS.iload X0.here hx rfl (hb hby at_158) rfl k) ?_
            refine GoH.step (T' := s₁) (f' := (mkF m 161 #[.val (.int ia), .val (.int ib), .val (.int ic), .val (.int ie), .val (.long ij), .second, .val (.int ig), .val (.int zk), .val (.int zd), .val (.int za), .val (.int zb), .val (.int zc), .val (.int zg), .val (.int zh), .val (.int zw), .val (.int zv), .val (.int y0), .val (.int y1), .val (.int y2), .val (.int y3), .val (.int y4), .unset, .unset, .unset, .unset, .unset] [(.int (5 : Int32)), (.int zk)])) (fun t k => XS.iconst X0.here hx rfl (hb hby at_160) k) ?_
            by_cases hc404 : zk = (5 : Int32)
            ·
              refine GoH.step (T' := s₁) (f' := (mkF m 164 #[.val (.int ia), .val (.int ib), .val (.int ic), .val (.int ie), .val (.long ij), .second, .val (.int ig), .val (.int zk), .val (.int zd), .val (.int za), .val (.int zb), .val (.int zc), .val (.int zg), .val (.int zh), .val (.int zw), .val (.int zv), .val (.int y0), .val (.int y1), .val (.int y2), .val (.int y3), .val (.int y4), .unset, .unset, .unset, .unset, .unset] [])) (fun t k => XS.icmpNo X0.here hx rfl (hb hby at_161) rfl (teq hc404).2 k) ?_
              refine GoH.step (T' := s₁) (f' := (mkF m 166 #[.val (.int ia), .val (.int ib), .val (.int ic), .val (.int ie), .val (.long ij), .second, .val (.int ig), .val (.int zk), .val (.int zd), .val (.int za), .val (.int zb), .val (.int zc), .val (.int zg), .val (.int zh), .val (.int zw), .val (.int zv), .val (.int y0), .val (.int y1), .val (.int y2), .val (.int y3), .val (.int y4), .unset, .unset, .unset, .unset, .unset] [(.int zw)])) (fun t k => XS.iload X0.here hx rfl (hb hby at_164) rfl k) ?_
              refine GoH.step (T' := s₁) (f' := (mkF m 168 #[.val (.int ia), .val (.int ib), .val (.int ic), .val (.int ie), .val (.long ij), .second, .val (.int ig), .val (.int zk), .val (.int zd), .val (.int za), .val (.int zb), .val (.int zc), .val (.int zg), .val (.int zh), .val (.int zw), .val (.int zv), .val (.int y0), .val (.int y1), .val (.int y2), .val (.int y3), .val (.int y4), .unset, .unset, .unset, .unset, .unset] [(.int zd), (.int zw)])) (fun t k => XS.iload X0.here hx rfl (hb hby at_166) rfl k) ?_
              refine GoH.step (T' := s₁) (f' := (mkF m 169 #[.val (.int ia), .val (.int ib), .val (.int ic), .val (.int ie), .val (.long ij), .second, .val (.int ig), .val (.int zk), .val (.int zd), .val (.int za), .val (.int zb), .val (.int zc), .val (.int zg), .val (.int zh), .val (.int zw), .val (.int zv), .val (.int y0), .val (.int y1), .val (.int y2), .val (.int y3), .val (.int y4), .unset, .unset, .unset, .unset, .unset] [(.int (zw + zd))])) (fun t k => XS.iadd X0.here hx rfl (hb hby at_168) rfl k) ?_
              refine GoH.step (T' := s₁) (f' := (mkF m 174 #[.val (.int ia), .val (.int ib), .val (.int ic), .val (.int ie), .val (.long ij), .second, .val (.int ig), .val (.int zk), .val (.int zd), .val (.int za), .val (.int zb), .val (.int zc), .val (.int zg), .val (.int zh), .val (.int zw), .val (.int zv), .val (.int y0), .val (.int y1), .val (.int y2), .val (.int y3), .val (.int y4), .unset, .unset, .unset, .unset, .unset] [(.int (zw + zd))])) (fun t k => XS.goto X0.here hx rfl (pc0 := 169) (pc' := 174) rfl (hb hby at_169) (by decide) (by decide) k) ?_
              exact Kc283 ((zw + zd)) (by rw [own_p, if_pos hc404])
            ·
              refine GoH.step (T' := s₁) (f' := (mkF m 172 #[.val (.int ia), .val (.int ib), .val (.int ic), .val (.int ie), .val (.long ij), .second, .val (.int ig), .val (.int zk), .val (.int zd), .val (.int za), .val (.int zb), .val (.int zc), .val (.int zg), .val (.int zh), .val (.int zw), .val (.int zv), .val (.int y0), .val (.int y1), .val (.int y2), .val (.int y3), .val (.int y4), .unset, .unset, .unset, .unset, .unset] [])) (fun t k => XS.icmpYes X0.here hx rfl (pc0 := 161) (pc' := 172) rfl (hb hby at_161) rfl (feq hc404).2 (by decide) (by decide) k) ?_
              refine GoH.step (T' := s₁) (f' := (mkF m 174 #[.val (.int ia), .val (.int ib), .val (.int ic), .val (.int ie), .val (.long ij), .second, .val (.int ig), .val (.int zk), .val (.int zd), .val (.int za), .val (.int zb), .val (.int zc), .val (.int zg), .val (.int zh), .val (.int zw), .val (.int zv), .val (.int y0), .val (.int y1), .val (.int y2), .val (.int y3), .val (.int y4), .unset, .unset, .unset, .unset, .unset] [(.int zw)])) (fun t k => XS.iload X0.here hx rfl (hb hby at_172) rfl k) ?_
              exact Kc283 (zw) (by rw [own_p, if_neg hc404])
          refine GoH.step (T' := s₁) (f' := (mkF m 142 #[.val (.int ia), .val (.int ib), .val (.int ic), .val (.int ie), .val (.long ij), .second, .val (.int ig), .val (.int zk), .val (.int zd), .val (.int za), .val (.int zb), .val (.int zc), .val (.int zg), .val (.int zh), .val (.int zw), .val (.int zv), .val (.int y0), .val (.int y1), .val (.int y2), .val (.int y3), .unset, .unset, .unset, .unset, .unset, .unset] [(.int zk)])) (fun t k => XS.iload X0.here hx rfl (hb hby at_140) rfl k) ?_
          refine GoH.step (T' := s₁) (f' := (mkF m 143 #[.val (.int ia), .val (.int ib), .val (.int ic), .val (.int ie), .val (.long ij), .second, .val (.int ig), .val (.int zk), .val (.int zd), .val (.int za), .val (.int zb), .val (.int zc), .val (.int zg), .val (.int zh), .val (.int zw), .val (.int zv), .val (.int y0), .val (.int y1), .val (.int y2), .val (.int y3), .unset, .unset, .unset, .unset, .unset, .unset] [(.int (4 : Int32)), (.int zk)])) (fun t k => XS.iconst X0.here hx rfl (hb hby at_142) k) ?_
          by_cases hc405 : zk = (4 : Int32)
          ·
            refine GoH.step (T' := s₁) (f' := (mkF m 146 #[.val (.int ia), .val (.int ib), .val (.int ic), .val (.int ie), .val (.long ij), .second, .val (.int ig), .val (.int zk), .val (.int zd), .val (.int za), .val (.int zb), .val (.int zc), .val (.int zg), .val (.int zh), .val (.int zw), .val (.int zv), .val (.int y0), .val (.int y1), .val (.int y2), .val (.int y3), .unset, .unset, .unset, .unset, .unset, .unset] [])) (fun t k => XS.icmpNo X0.here hx rfl (hb hby at_143) rfl (teq hc405).2 k) ?_
            refine GoH.step (T' := s₁) (f' := (mkF m 148 #[.val (.int ia), .val (.int ib), .val (.int ic), .val (.int ie), .val (.long ij), .second, .val (.int ig), .val (.int zk), .val (.int zd), .val (.int za), .val (.int zb), .val (.int zc), .val (.int zg), .val (.int zh), .val (.int zw), .val (.int zv), .val (.int y0), .val (.int y1), .val (.int y2), .val (.int y3), .unset, .unset, .unset, .unset, .unset, .unset] [(.int zh)])) (fun t k => XS.iload X0.here hx rfl (hb hby at_146) rfl k) ?_
            refine GoH.step (T' := s₁) (f' := (mkF m 150 #[.val (.int ia), .val (.int ib), .val (.int ic), .val (.int ie), .val (.long ij), .second, .val (.int ig), .val (.int zk), .val (.int zd), .val (.int za), .val (.int zb), .val (.int zc), .val (.int zg), .val (.int zh), .val (.int zw), .val (.int zv), .val (.int y0), .val (.int y1), .val (.int y2), .val (.int y3), .unset, .unset, .unset, .unset, .unset, .unset] [(.int zd), (.int zh)])) (fun t k => XS.iload X0.here hx rfl (hb hby at_148) rfl k) ?_
            refine GoH.step (T' := s₁) (f' := (mkF m 151 #[.val (.int ia), .val (.int ib), .val (.int ic), .val (.int ie), .val (.long ij), .second, .val (.int ig), .val (.int zk), .val (.int zd), .val (.int za), .val (.int zb), .val (.int zc), .val (.int zg), .val (.int zh), .val (.int zw), .val (.int zv), .val (.int y0), .val (.int y1), .val (.int y2), .val (.int y3), .unset, .unset, .unset, .unset, .unset, .unset] [(.int (zh + zd))])) (fun t k => XS.iadd X0.here hx rfl (hb hby at_150) rfl k) ?_
            refine GoH.step (T' := s₁) (f' := (mkF m 156 #[.val (.int ia), .val (.int ib), .val (.int ic), .val (.int ie), .val (.long ij), .second, .val (.int ig), .val (.int zk), .val (.int zd), .val (.int za), .val (.int zb), .val (.int zc), .val (.int zg), .val (.int zh), .val (.int zw), .val (.int zv), .val (.int y0), .val (.int y1), .val (.int y2), .val (.int y3), .unset, .unset, .unset, .unset, .unset, .unset] [(.int (zh + zd))])) (fun t k => XS.goto X0.here hx rfl (pc0 := 151) (pc' := 156) rfl (hb hby at_151) (by decide) (by decide) k) ?_
            exact Kc281 ((zh + zd)) (by rw [own_p, if_pos hc405])
          ·
            refine GoH.step (T' := s₁) (f' := (mkF m 154 #[.val (.int ia), .val (.int ib), .val (.int ic), .val (.int ie), .val (.long ij), .second, .val (.int ig), .val (.int zk), .val (.int zd), .val (.int za), .val (.int zb), .val (.int zc), .val (.int zg), .val (.int zh), .val (.int zw), .val (.int zv), .val (.int y0), .val (.int y1), .val (.int y2), .val (.int y3), .unset, .unset, .unset, .unset, .unset, .unset] [])) (fun t k => XS.icmpYes X0.here hx rfl (pc0 := 143) (pc' := 154) rfl (hb hby at_143) rfl (feq hc405).2 (by decide) (by decide) k) ?_
            refine GoH.step (T' := s₁) (f' := (mkF m 156 #[.val (.int ia), .val (.int ib), .val (.int ic), .val (.int ie), .val (.long ij), .second, .val (.int ig), .val (.int zk), .val (.int zd), .val (.int za), .val (.int zb), .val (.int zc), .val (.int zg), .val (.int zh), .val (.int zw), .val (.int zv), .val (.int y0), .val (.int y1), .val (.int y2), .val (.int y3), .unset, .unset, .unset, .unset, .unset, .unset] [(.int zh)])) (fun t k => XS.iload X0.here hx rfl (hb hby at_154) rfl k) ?_
            exact Kc281 (zh) (by rw [own_p, if_neg hc405])
        refine GoH.step (T' := s₁) (f' := (mkF m 124 #[.val (.int ia), .val (.int ib), .val (.int ic), .val (.int ie), .val (.long ij), .second, .val (.int ig), .val (.int zk), .val (.int zd), .val (.int za), .val (.int zb), .val (.int zc), .val (.int zg), .val (.int zh), .val (.int zw), .val (.int zv), .val (.int y0), .val (.int y1), .val (.int y2), .unset, .unset, .unset, .unset, .unset, .unset, .unset] [(.int zk)])) (fun t k => XS.iload X0.here hx rfl (hb hby at_122) rfl k) ?_
        refine GoH.step (T' := s₁) (f' := (mkF m 125 #[.val (.int ia), .val (.int ib), .val (.int ic), .val (.int ie), .val (.long ij), .second, .val (.int ig), .val (.int zk), .val (.int zd), .val (.int za), .val (.int zb), .val (.int zc), .val (.int zg), .val (.int zh), .val (.int zw), .val (.int zv), .val (.int y0), .val (.int y1), .val (.int y2), .unset, .unset, .unset, .unset, .unset, .unset, .unset] [(.int (3 : Int32)), (.int zk)])) (fun t k => XS.iconst X0.here hx rfl (hb hby at_124) k) ?_
        by_cases hc406 : zk = (3 : Int32)
        ·
          refine GoH.step (T' := s₁) (f' := (mkF m 128 #[.val (.int ia), .val (.int ib), .val (.int ic), .val (.int ie), .val (.long ij), .second, .val (.int ig), .val (.int zk), .val (.int zd), .val (.int za), .val (.int zb), .val (.int zc), .val (.int zg), .val (.int zh), .val (.int zw), .val (.int zv), .val (.int y0), .val (.int y1), .val (.int y2), .unset, .unset, .unset, .unset, .unset, .unset, .unset] [])) (fun t k => XS.icmpNo X0.here hx rfl (hb hby at_125) rfl (teq hc406).2 k) ?_
          refine GoH.step (T' := s₁) (f' := (mkF m 130 #[.val (.int ia), .val (.int ib), .val (.int ic), .val (.int ie), .val (.long ij), .second, .val (.int ig), .val (.int zk), .val (.int zd), .val (.int za), .val (.int zb), .val (.int zc), .val (.int zg), .val (.int zh), .val (.int zw), .val (.int zv), .val (.int y0), .val (.int y1), .val (.int y2), .unset, .unset, .unset, .unset, .unset, .unset, .unset] [(.int zg)])) (fun t k => XS.iload X0.here hx rfl (hb hby at_128) rfl k) ?_
          refine GoH.step (T' := s₁) (f' := (mkF m 132 #[.val (.int ia), .val (.int ib), .val (.int ic), .val (.int ie), .val (.long ij), .second, .val (.int ig), .val (.int zk), .val (.int zd), .val (.int za), .val (.int zb), .val (.int zc), .val (.int zg), .val (.int zh), .val (.int zw), .val (.int zv), .val (.int y0), .val (.int y1), .val (.int y2), .unset, .unset, .unset, .unset, .unset, .unset, .unset] [(.int zd), (.int zg)])) (fun t k => XS.iload X0.here hx rfl (hb hby at_130) rfl k) ?_
          refine GoH.step (T' := s₁) (f' := (mkF m 133 #[.val (.int ia), .val (.int ib), .val (.int ic), .val (.int ie), .val (.long ij), .second, .val (.int ig), .val (.int zk), .val (.int zd), .val (.int za), .val (.int zb), .val (.int zc), .val (.int zg), .val (.int zh), .val (.int zw), .val (.int zv), .val (.int y0), .val (.int y1), .val (.int y2), .unset, .unset, .unset, .unset, .unset, .unset, .unset] [(.int (zg + zd))])) (fun t k => XS.iadd X0.here hx rfl (hb hby at_132) rfl k) ?_
          refine GoH.step (T' := s₁) (f' := (mkF m 138 #[.val (.int ia), .val (.int ib), .val (.int ic), .val (.int ie), .val (.long ij), .second, .val (.int ig), .val (.int zk), .val (.int zd), .val (.int za), .val (.int zb), .val (.int zc), .val (.int zg), .val (.int zh), .val (.int zw), .val (.int zv), .val (.int y0), .val (.int y1), .val (.int y2), .unset, .unset, .unset, .unset, .unset, .unset, .unset] [(.int (zg + zd))])) (fun t k => XS.goto X0.here hx rfl (pc0 := 133) (pc' := 138) rfl (hb hby at_133) (by decide) (by decide) k) ?_
          exact Kc279 ((zg + zd)) (by rw [own_p, if_pos hc406])
        ·
          refine GoH.step (T' := s₁) (f' := (mkF m 136 #[.val (.int ia), .val (.int ib), .val (.int ic), .val (.int ie), .val (.long ij), .second, .val (.int ig), .val (.int zk), .val (.int zd), .val (.int za), .val (.int zb), .val (.int zc), .val (.int zg), .val (.int zh), .val (.int zw), .val (.int zv), .val (.int y0), .val (.int y1), .val (.int y2), .unset, .unset, .unset, .unset, .unset, .unset, .unset] [])) (fun t k => XS.icmpYes X0.here hx rfl (pc0 := 125) (pc' := 136) rfl (hb hby at_125) rfl (feq hc406).2 (by decide) (by decide) k) ?_
          refine GoH.step (T' := s₁) (f' := (mkF m 138 #[.val (.int ia), .val (.int ib), .val (.int ic), .val (.int ie), .val (.long ij), .second, .val (.int ig), .val (.int zk), .val (.int zd), .val (.int za), .val (.int zb), .val (.int zc), .val (.int zg), .val (.int zh), .val (.int zw), .val (.int zv), .val (.int y0), .val (.int y1), .val (.int y2), .unset, .unset, .unset, .unset, .unset, .unset, .unset] [(.int zg)])) (fun t k => XS.iload X0.here hx rfl (hb hby at_136) rfl k) ?_
          exact Kc279 (zg) (by rw [own_p, if_neg hc406])
      refine GoH.step (T' := s₁) (f' := (mkF m 106 #[.val (.int ia), .val (.int ib), .val (.int ic), .val (.int ie), .val (.long ij), .second, .val (.int ig), .val (.int zk), .val (.int zd), .val (.int za), .val (.int zb), .val (.int zc), .val (.int zg), .val (.int zh), .val (.int zw), .val (.int zv), .val (.int y0), .val (.int y1), .unset, .unset, .unset, .unset, .unset, .unset, .unset, .unset] [(.int zk)])) (fun t k => XS.iload X0.here hx rfl (hb hby at_104) rfl k) ?_
      refine GoH.step (T' := s₁) (f' := (mkF m 107 #[.val (.int ia), .val (.int ib), .val (.int ic), .val (.int ie), .val (.long ij), .second, .val (.int ig), .val (.int zk), .val (.int zd), .val (.int za), .val (.int zb), .val (.int zc), .val (.int zg), .val (.int zh), .val (.int zw), .val (.int zv), .val (.int y0), .val (.int y1), .unset, .unset, .unset, .unset, .unset, .unset, .unset, .unset] [(.int (2 : Int32)), (.int zk)])) (fun t k => XS.iconst X0.here hx rfl (hb hby at_106) k) ?_
      by_cases hc407 : zk = (2 : Int32)
      ·
        refine GoH.step (T' := s₁) (f' := (mkF m 110 #[.val (.int ia), .val (.int ib), .val (.int ic), .val (.int ie), .val (.long ij), .second, .val (.int ig), .val (.int zk), .val (.int zd), .val (.int za), .val (.int zb), .val (.int zc), .val (.int zg), .val (.int zh), .val (.int zw), .val (.int zv), .val (.int y0), .val (.int y1), .unset, .unset, .unset, .unset, .unset, .unset, .unset, .unset] [])) (fun t k => XS.icmpNo X0.here hx rfl (hb hby at_107) rfl (teq hc407).2 k) ?_
        refine GoH.step (T' := s₁) (f' := (mkF m 112 #[.val (.int ia), .val (.int ib), .val (.int ic), .val (.int ie), .val (.long ij), .second, .val (.int ig), .val (.int zk), .val (.int zd), .val (.int za), .val (.int zb), .val (.int zc), .val (.int zg), .val (.int zh), .val (.int zw), .val (.int zv), .val (.int y0), .val (.int y1), .unset, .unset, .unset, .unset, .unset, .unset, .unset, .unset] [(.int zc)])) (fun t k => XS.iload X0.here hx rfl (hb hby at_110) rfl k) ?_
        refine GoH.step (T' := s₁) (f' := (mkF m 114 #[.val (.int ia), .val (.int ib), .val (.int ic), .val (.int ie), .val (.long ij), .second, .val (.int ig), .val (.int zk), .val (.int zd), .val (.int za), .val (.int zb), .val (.int zc), .val (.int zg), .val (.int zh), .val (.int zw), .val (.int zv), .val (.int y0), .val (.int y1), .unset, .unset, .unset, .unset, .unset, .unset, .unset, .unset] [(.int zd), (.int zc)])) (fun t k => XS.iload X0.here hx rfl (hb hby at_112) rfl k) ?_
        refine GoH.step (T' := s₁) (f' := (mkF m 115 #[.val (.int ia), .val (.int ib), .val (.int ic), .val (.int ie), .val (.long ij), .second, .val (.int ig), .val (.int zk), .val (.int zd), .val (.int za), .val (.int zb), .val (.int zc), .val (.int zg), .val (.int zh), .val (.int zw), .val (.int zv), .val (.int y0), .val (.int y1), .unset, .unset, .unset, .unset, .unset, .unset, .unset, .unset] [(.int (zc ^^^ zd))])) (fun t k => XS.ixor X0.here hx rfl (hb hby at_114) rfl k) ?_
        refine GoH.step (T' := s₁) (f' := (mkF m 120 #[.val (.int ia), .val (.int ib), .val (.int ic), .val (.int ie), .val (.long ij), .second, .val (.int ig), .val (.int zk), .val (.int zd), .val (.int za), .val (.int zb), .val (.int zc), .val (.int zg), .val (.int zh), .val (.int zw), .val (.int zv), .val (.int y0), .val (.int y1), .unset, .unset, .unset, .unset, .unset, .unset, .unset, .unset] [(.int (zc ^^^ zd))])) (fun t k => XS.goto X0.here hx rfl (pc0 := 115) (pc' := 120) rfl (hb hby at_115) (by decide) (by decide) k) ?_
        exact Kc277 ((zc ^^^ zd)) (by rw [own_x, if_pos hc407])
      ·
        refine GoH.step (T' := s₁) (f' := (mkF m 118 #[.val (.int ia), .val (.int ib), .val (.int ic), .val (.int ie), .val (.long ij), .second, .val (.int ig), .val (.int zk), .val (.int zd), .val (.int za), .val (.int zb), .val (.int zc), .val (.int zg), .val (.int zh), .val (.int zw), .val (.int zv), .val (.int y0), .val (.int y1), .unset, .unset, .unset, .unset, .unset, .unset, .unset, .unset] [])) (fun t k => XS.icmpYes X0.here hx rfl (pc0 := 107) (pc' := 118) rfl (hb hby at_107) rfl (feq hc407).2 (by decide) (by decide) k) ?_
        refine GoH.step (T' := s₁) (f' := (mkF m 120 #[.val (.int ia), .val (.int ib), .val (.int ic), .val (.int ie), .val (.long ij), .second, .val (.int ig), .val (.int zk), .val (.int zd), .val (.int za), .val (.int zb), .val (.int zc), .val (.int zg), .val (.int zh), .val (.int zw), .val (.int zv), .val (.int y0), .val (.int y1), .unset, .unset, .unset, .unset, .unset, .unset, .unset, .unset] [(.int zc)])) (fun t k => XS.iload X0.here hx rfl (hb hby at_118) rfl k) ?_
        exact Kc277 (zc) (by rw [own_x, if_neg hc407])
    refine GoH.step (T' := s₁) (f' := (mkF m 88 #[.val (.int ia), .val (.int ib), .val (.int ic), .val (.int ie), .val (.long ij), .second, .val (.int ig), .val (.int zk), .val (.int zd), .val (.int za), .val (.int zb), .val (.int zc), .val (.int zg), .val (.int zh), .val (.int zw), .val (.int zv), .val (.int y0), .unset, .unset, .unset, .unset, .unset, .unset, .unset, .unset, .unset] [(.int zk)])) (fun t k => XS.iload X0.here hx rfl (hb hby at_86) rfl k) ?_
    refine GoH.step (T' := s₁) (f' := (mkF m 89 #[.val (.int ia), .val (.int ib), .val (.int ic), .val (.int ie), .val (.long ij), .second, .val (.int ig), .val (.int zk), .val (.int zd), .val (.int za), .val (.int zb), .val (.int zc), .val (.int zg), .val (.int zh), .val (.int zw), .val (.int zv), .val (.int y0), .unset, .unset, .unset, .unset, .unset, .unset, .unset, .unset, .unset] [(.int (1 : Int32)), (.int zk)])) (fun t k => XS.iconst X0.here hx rfl (hb hby at_88) k) ?_
    by_cases hc408 : zk = (1 : Int32)
    ·
      refine GoH.step (T' := s₁) (f' := (mkF m 92 #[.val (.int ia), .val (.int ib), .val (.int ic), .val (.int ie), .val (.long ij), .second, .val (.int ig), .val (.int zk), .val (.int zd), .val (.int za), .val (.int zb), .val (.int zc), .val (.int zg), .val (.int zh), .val (.int zw), .val (.int zv), .val (.int y0), .unset, .unset, .unset, .unset, .unset, .unset, .unset, .unset, .unset] [])) (fun t k => XS.icmpNo X0.here hx rfl (hb hby at_89) rfl (teq hc408).2 k) ?_
      refine GoH.step (T' := s₁) (f' := (mkF m 94 #[.val (.int ia), .val (.int ib), .val (.int ic), .val (.int ie), .val (.long ij), .second, .val (.int ig), .val (.int zk), .val (.int zd), .val (.int za), .val (.int zb), .val (.int zc), .val (.int zg), .val (.int zh), .val (.int zw), .val (.int zv), .val (.int y0), .unset, .unset, .unset, .unset, .unset, .unset, .unset, .unset, .unset] [(.int zb)])) (fun t k => XS.iload X0.here hx rfl (hb hby at_92) rfl k) ?_
      refine GoH.step (T' := s₁) (f' := (mkF m 96 #[.val (.int ia), .val (.int ib), .val (.int ic), .val (.int ie), .val (.long ij), .second, .val (.int ig), .val (.int zk), .val (.int zd), .val (.int za), .val (.int zb), .val (.int zc), .val (.int zg), .val (.int zh), .val (.int zw), .val (.int zv), .val (.int y0), .unset, .unset, .unset, .unset, .unset, .unset, .unset, .unset, .unset] [(.int zd), (.int zb)])) (fun t k => XS.iload X0.here hx rfl (hb hby at_94) rfl k) ?_
      refine GoH.step (T' := s₁) (f' := (mkF m 97 #[.val (.int ia), .val (.int ib), .val (.int ic), .val (.int ie), .val (.long ij), .second, .val (.int ig), .val (.int zk), .val (.int zd), .val (.int za), .val (.int zb), .val (.int zc), .val (.int zg), .val (.int zh), .val (.int zw), .val (.int zv), .val (.int y0), .unset, .unset, .unset, .unset, .unset, .unset, .unset, .unset, .unset] [(.int (zb ^^^ zd))])) (fun t k => XS.ixor X0.here hx rfl (hb hby at_96) rfl k) ?_
      refine GoH.step (T' := s₁) (f' := (mkF m 102 #[.val (.int ia), .val (.int ib), .val (.int ic), .val (.int ie), .val (.long ij), .second, .val (.int ig), .val (.int zk), .val (.int zd), .val (.int za), .val (.int zb), .val (.int zc), .val (.int zg), .val (.int zh), .val (.int zw), .val (.int zv), .val (.int y0), .unset, .unset, .unset, .unset, .unset, .unset, .unset, .unset, .unset] [(.int (zb ^^^ zd))])) (fun t k => XS.goto X0.here hx rfl (pc0 := 97) (pc' := 102) rfl (hb hby at_97) (by decide) (by decide) k) ?_
      exact Kc275 ((zb ^^^ zd)) (by rw [own_x, if_pos hc408])
    ·
      refine GoH.step (T' := s₁) (f' := (mkF m 100 #[.val (.int ia), .val (.int ib), .val (.int ic), .val (.int ie), .val (.long ij), .second, .val (.int ig), .val (.int zk), .val (.int zd), .val (.int za), .val (.int zb), .val (.int zc), .val (.int zg), .val (.int zh), .val (.int zw), .val (.int zv), .val (.int y0), .unset, .unset, .unset, .unset, .unset, .unset, .unset, .unset, .unset] [])) (fun t k => XS.icmpYes X0.here hx rfl (pc0 := 89) (pc' := 100) rfl (hb hby at_89) rfl (feq hc408).2 (by decide) (by decide) k) ?_
      refine GoH.step (T' := s₁) (f' := (mkF m 102 #[.val (.int ia), .val (.int ib), .val (.int ic), .val (.int ie), .val (.long ij), .second, .val (.int ig), .val (.int zk), .val (.int zd), .val (.int za), .val (.int zb), .val (.int zc), .val (.int zg), .val (.int zh), .val (.int zw), .val (.int zv), .val (.int y0), .unset, .unset, .unset, .unset, .unset, .unset, .unset, .unset, .unset] [(.int zb)])) (fun t k => XS.iload X0.here hx rfl (hb hby at_100) rfl k) ?_
      exact Kc275 (zb) (by rw [own_x, if_neg hc408])
  refine GoH.step (T' := s₁) (f' := (mkF m 71 #[.val (.int ia), .val (.int ib), .val (.int ic), .val (.int ie), .val (.long ij), .second, .val (.int ig), .val (.int zk), .val (.int zd), .val (.int za), .val (.int zb), .val (.int zc), .val (.int zg), .val (.int zh), .val (.int zw), .val (.int zv), .unset, .unset, .unset, .unset, .unset, .unset, .unset, .unset, .unset, .unset] [(.int zk)])) (fun t k => XS.iload X0.here hx rfl (hb hby at_69) rfl k) ?_
  by_cases hc409 : zk = (0 : Int32)
  ·
    refine GoH.step (T' := s₁) (f' := (mkF m 74 #[.val (.int ia), .val (.int ib), .val (.int ic), .val (.int ie), .val (.long ij), .second, .val (.int ig), .val (.int zk), .val (.int zd), .val (.int za), .val (.int zb), .val (.int zc), .val (.int zg), .val (.int zh), .val (.int zw), .val (.int zv), .unset, .unset, .unset, .unset, .unset, .unset, .unset, .unset, .unset, .unset] [])) (fun t k => XS.ifNo X0.here hx rfl (hb hby at_71) rfl ((if0 _ _).trans (teq hc409).2) k) ?_
    refine GoH.step (T' := s₁) (f' := (mkF m 76 #[.val (.int ia), .val (.int ib), .val (.int ic), .val (.int ie), .val (.long ij), .second, .val (.int ig), .val (.int zk), .val (.int zd), .val (.int za), .val (.int zb), .val (.int zc), .val (.int zg), .val (.int zh), .val (.int zw), .val (.int zv), .unset, .unset, .unset, .unset, .unset, .unset, .unset, .unset, .unset, .unset] [(.int za)])) (fun t k => XS.iload X0.here hx rfl (hb hby at_74) rfl k) ?_
    refine GoH.step (T' := s₁) (f' := (mkF m 78 #[.val (.int ia), .val (.int ib), .val (.int ic), .val (.int ie), .val (.long ij), .second, .val (.int ig), .val (.int zk), .val (.int zd), .val (.int za), .val (.int zb), .val (.int zc), .val (.int zg), .val (.int zh), .val (.int zw), .val (.int zv), .unset, .unset, .unset, .unset, .unset, .unset, .unset, .unset, .unset, .unset] [(.int zd), (.int za)])) (fun t k => XS.iload X0.here hx rfl (hb hby at_76) rfl k) ?_
    refine GoH.step (T' := s₁) (f' := (mkF m 79 #[.val (.int ia), .val (.int ib), .val (.int ic), .val (.int ie), .val (.long ij), .second, .val (.int ig), .val (.int zk), .val (.int zd), .val (.int za), .val (.int zb), .val (.int zc), .val (.int zg), .val (.int zh), .val (.int zw), .val (.int zv), .unset, .unset, .unset, .unset, .unset, .unset, .unset, .unset, .unset, .unset] [(.int (za ^^^ zd))])) (fun t k => XS.ixor X0.here hx rfl (hb hby at_78) rfl k) ?_
    refine GoH.step (T' := s₁) (f' := (mkF m 84 #[.val (.int ia), .val (.int ib), .val (.int ic), .val (.int ie), .val (.long ij), .second, .val (.int ig), .val (.int zk), .val (.int zd), .val (.int za), .val (.int zb), .val (.int zc), .val (.int zg), .val (.int zh), .val (.int zw), .val (.int zv), .unset, .unset, .unset, .unset, .unset, .unset, .unset, .unset, .unset, .unset] [(.int (za ^^^ zd))])) (fun t k => XS.goto X0.here hx rfl (pc0 := 79) (pc' := 84) rfl (hb hby at_79) (by decide) (by decide) k) ?_
    exact Kc273 ((za ^^^ zd)) (by rw [own_x, if_pos hc409])
  ·
    refine GoH.step (T' := s₁) (f' := (mkF m 82 #[.val (.int ia), .val (.int ib), .val (.int ic), .val (.int ie), .val (.long ij), .second, .val (.int ig), .val (.int zk), .val (.int zd), .val (.int za), .val (.int zb), .val (.int zc), .val (.int zg), .val (.int zh), .val (.int zw), .val (.int zv), .unset, .unset, .unset, .unset, .unset, .unset, .unset, .unset, .unset, .unset] [])) (fun t k => XS.ifYes X0.here hx rfl (pc0 := 71) (pc' := 82) rfl (hb hby at_71) rfl ((if0 _ _).trans (feq hc409).2) (by decide) (by decide) k) ?_
    refine GoH.step (T' := s₁) (f' := (mkF m 84 #[.val (.int ia), .val (.int ib), .val (.int ic), .val (.int ie), .val (.long ij), .second, .val (.int ig), .val (.int zk), .val (.int zd), .val (.int za), .val (.int zb), .val (.int zc), .val (.int zg), .val (.int zh), .val (.int zw), .val (.int zv), .unset, .unset, .unset, .unset, .unset, .unset, .unset, .unset, .unset, .unset] [(.int za)])) (fun t k => XS.iload X0.here hx rfl (hb hby at_82) rfl k) ?_
    exact Kc273 (za) (by rw [own_x, if_neg hc409])
set_option maxRecDepth 65536 in
set_option maxHeartbeats 40000000 in
theorem comes_1 {Post : Tables → Env → Array Value → State → Outcome → State → Prop} (hpost : ∀ tb e args s v u, (limb_1_1.after args s (.returned v) u = true ∧ limb_1_2.after args s (.returned v) u = true ∧ True) → ReturnedEndW s (.returned v) u (Jvm.fieldLocs frame_1_writes args s ++ Jvm.arrayLocs frame_1_arrays args s ++ Jvm.staticLocs frame_1_statics s) 32 7296 → Post tb e args s (.returned v) u) :
    ArmFor flags0 classFile x code maxLocals ret World_1 tables_1 room_1 Calls_1 rest_1 Pre_1 Post := by
  intro l hfl _ _ p e ha hc hk s m args below hf hA hF happ hP
  obtain ⟨hcalls, hrest, hpre⟩ := hP
  obtain ⟨-, -, -, hnamed, -, -, -, hat⟩ := (Spec.applies_iff hf).mp happ
  obtain ⟨hg, hn⟩ := and_e (Cond.before_iff.mp (show (Jvm.Cond.and given_1 narrow_1).before args s = true from hpre))
  obtain ⟨c1, c2⟩ := and_e hg
  obtain ⟨c3, c4⟩ := and_e c2
  obtain ⟨c5, c6⟩ := and_e c4
  obtain ⟨c7, c8⟩ := and_e c6
  obtain ⟨c9, c10⟩ := and_e c8
  obtain ⟨c11, c12⟩ := and_e c10
  obtain ⟨w0, w1, w2, w3, w4, w5, rfl⟩ : ∃ w0 w1 w2 w3 w4 w5 : Value, args = #[w0, w1, w2, w3, w4, w5] := by
    have hs : args.size = 6 := by simpa [Cond.value, given_1] using c1
    obtain ⟨L⟩ := args
    match L, hs with
    | [w0, w1, w2, w3, w4, w5], _ => exact ⟨w0, w1, w2, w3, w4, w5, rfl⟩
  have hw := fun d (hd : d ∈ tables_1) => atoms_spec (ws := Jvm.Cond.code x code maxLocals ret :: tables_1) hat d (List.mem_cons_of_mem _ hd)
  have hfit : Fit s := fun {y c} hc i hi => by
    obtain ⟨ha, rfl⟩ := Array.getElem?_eq_some_iff.mp hc
    have q := List.all_eq_true.mp ((Array.all_eq_true_iff_forall_mem.mp hF) _ (Array.getElem_mem ha)) i (List.mem_range.mpr hi)
    simpa [Array.getElem?_eq_getElem hi] using q
  obtain ⟨i0, ei0⟩ := is_v c3
  obtain rfl : w0 = (.int i0) := Option.some.inj ei0
  obtain ⟨i1, ei1⟩ := is_v c5
  obtain rfl : w1 = (.int i1) := Option.some.inj ei1
  obtain ⟨i2, ei2⟩ := is_v c7
  obtain rfl : w2 = (.int i2) := Option.some.inj ei2
  obtain ⟨i3, ei3⟩ := is_v c9
  obtain rfl : w3 = (.int i3) := Option.some.inj ei3
  obtain ⟨i4, ei4⟩ := isL_v c11
  obtain rfl : w4 = (.long i4) := Option.some.inj ei4
  obtain ⟨i5, ei5⟩ := is_v c12
  obtain rfl : w5 = (.int i5) := Option.some.inj ei5
  obtain ⟨hsets, hown0⟩ := atoms_of _ (rest_1_c_eq ▸ (show rest_1_c.before _ s = true from hrest))
  have hEL : EW s #[.int i0, .int i1, .int i2, .int i3, .long i4, .int i5] own_EL := EW.nil
  have hCH : CHv s own_EL s.vm s.heap := fun p hp => by cases hp
  have evh := eqv_i (Term.int_eval (127)) (Cond.before_iff.mp (hsets _ (List.mem_of_getElem? (i := 3) rfl)))
  have Shi := Sta.start evh (Or.inl (hsets _ (List.mem_of_getElem? (i := 1) rfl)))
  obtain ⟨zca, evc⟩ := arr_v (Cond.before_iff.mp (hsets _ (List.mem_of_getElem? (i := 4) rfl)))
  have Sca := Sta.start evc (Or.inr ⟨(hw _ (List.mem_of_getElem? (i := 68) rfl)), (hsets _ (List.mem_of_getElem? (i := 2) rfl))⟩)
  obtain ⟨zcc, Aca⟩ := Arr.start evc (Cond.before_iff.mp (hsets _ (List.mem_of_getElem? (i := 4) rfl)))
  have hln := own_len evc (Aca.fin (Vm.Alike.refl _)) (eqv_i (Term.int_eval (256)) (Cond.before_iff.mp (hsets _ (List.mem_of_getElem? (i := 6) rfl))))
  have hbx : Bxs s zca zcc "java/lang/Integer" "I" (256 : Int32) own_val := Bxs.start (fun idx => evc) Aca hln.1 hln.2 (by decide) (Cond.before_iff.mp (hsets _ (List.mem_of_getElem? (i := 7) rfl))) (fun X j nj hq => eqv_i (by simp [Term.eval, idx_at nj, (back32 nj).1]) hq)
  obtain ⟨n, o, h1, h2, h3, _, L, rfl, ⟨rfl, N, -⟩, -, hq⟩ := rm_law l s _ hw tables_1 i0 i1 i2 i3 i4 i5 zca zcc s.heap s.heap.size (Old.start s) hEL Shi Sca hbx p e ha hc hk s m _ below hf ((Spec.applies_iff_loose hf).mp happ).1 ⟨rfl, State.Warmed39.refl s, rfl, hCH⟩ trivial
  refine ⟨n, _, h1, h2, h3, hpost _ _ _ _ _ _ ⟨Cond.after_iff.mpr rfl, Cond.after_iff.mpr (eq_i res_at (Term.int_eval (1)) rfl), trivial⟩ ⟨hq.1, hq.2.1, hq.2.2.1, (hq.2.2.2.sift fun y hy => Or.inr (N y hy)).mono (by decide) (by decide)⟩⟩
theorem main_1_1 : Claimed_1_1 := comes_1 fun _ _ _ _ _ _ h hF => ⟨h.1, hF⟩
theorem main_1_2 : Claimed_1_2 := comes_1 fun _ _ _ _ _ _ h hF => ⟨h.2.1, hF⟩
end Jvm.Pilot.@@N@@
namespace Jvm.Pilot.@@N@@
open Jvm Jvm.ClassFile Sem Op Lib Jvm.Free Jvm.Stand Jvm.Pilot.@@N@@.Jvm.D
/-! MADE BY PROGRAM (witnessworld.py) out of the Statement's table words and the real class files: 20 classes; the members and pool entries that the words name. The judged class is class 1, her method 1. -/
namespace start1
open Jvm.ClassFile
def u (s : String) : CpInfo := .utf8 (stringToUtf16 s)
/-- a pool by its gaps: so many unusable entries, then the entry; so many at the end -/
def gap : Nat → List CpInfo → List CpInfo
  | 0, r => r
  | n + 1, r => .unusable :: gap n r
def poolList (es : List (Nat × CpInfo)) (last : Nat) : List CpInfo := es.foldr (fun e r => gap e.1 (e.2 :: r)) (gap last [])
def pool (es : List (Nat × CpInfo)) (last : Nat) : Array CpInfo := ⟨poolList es last⟩
def fileOf (pool : Array CpInfo) (this : Nat) (attrs : Array Attribute := #[]) (ms : Array MethodInfo := #[]) (fl : Nat := 33) (sup : Nat := 0) (ifs : Array Nat := #[]) (fds : Array FieldInfo := #[]) : ClassFile where
  minorVersion := 0
  majorVersion := 65
  constantPool := pool
  accessFlags := fl
  thisClass := this
  superClass := sup
  interfaces := ifs
  fields := fds
  methods := ms
  attributes := attrs
def plain (name : String) (sup : Option ClassId) : Class where
  name := name
  kind := .ordinary
  loader := none
  accessFlags := 33
  super := sup
  interfaces := #[]
  cf := none
  fields := #[]
  methods := #[]
  instanceTypes := #[]
  staticTypes := #[]
  resolved := #[]
  callSites := []
  init := .initialized
  statics := none
  mirror := none

def pool0 : Array CpInfo := pool [(5, u "<init>"), (0, u "()V"), (1, .class_ 10), (1, u "java/lang/Object")] 113

def k0c0 : Code := { maxStack := 0, maxLocals := 1, code := object_method_1_code, exceptionTable := #[], attributes := #[] }
def k0m0 : Method := { name := "<init>", desc := "()V", sig := { parameters := [], returnType := none }, accessFlags := 1, code := some k0c0 }
/-- java/lang/Object -/
def k0 : Class := { plain "java/lang/Object" none with
  accessFlags := 33
  interfaces := #[]
  cf := some (fileOf pool0 8 #[] #[{ accessFlags := 1, nameIndex := 5, descriptorIndex := 6, attributes := #[] }] 33 0 #[] #[])
  fields := #[]
  methods := #[k0m0]
  instanceTypes := #[]
  staticTypes := #[]
  resolved := Array.replicate 124 none
  statics := none }

def pool1 : Array CpInfo := pool [(2, .class_ 4), (1, u "java/lang/Object"), (0, u "<init>"), (0, u "()V"), (0, .integer 2147483647), (0, .integer 65535), (0, .integer 1073741823), (0, .class_ 11), (0, u "com/example/honest_search/honestsearch/index/PhraseSettings"), (0, .double 4616189618054758400), (1, .methodref 10 15), (0, .nameAndType 5 16), (0, u "(IIIDDII)V"), (0, .methodref 10 18), (0, .nameAndType 19 20), (0, u "equals"), (0, u "(Ljava/lang/Object;)Z"), (0, .methodref 22 23), (0, .class_ 24), (0, .nameAndType 25 26), (0, u "java/lang/Integer"), (0, u "valueOf"), (0, u "(I)Ljava/lang/Integer;"), (0, .class_ 28), (0, u "com/example/honest_search/honestsearch/index/PhraseSettingsEqualsPinLaw"), (2, u "law"), (0, u "(IIIIJI)Z")] 3

def k1m0 : Method := { name := "<init>", desc := "()V", sig := { parameters := [], returnType := none }, accessFlags := 1, code := none }
def k1c1 : Code := { maxStack := 11, maxLocals := 26, code := code, exceptionTable := #[], attributes := #[] }
def k1m1 : Method := { name := "law", desc := "(IIIIJI)Z", sig := { parameters := [.int, .int, .int, .int, .long, .int], returnType := some .boolean }, accessFlags := 9, code := some k1c1 }
/-- com/example/honest_search/honestsearch/index/PhraseSettingsEqualsPinLaw -/
def k1 : Class := { plain "com/example/honest_search/honestsearch/index/PhraseSettingsEqualsPinLaw" (some 0) with
  accessFlags := 49
  interfaces := #[]
  cf := some (fileOf pool1 27 #[] #[{ accessFlags := 1, nameIndex := 5, descriptorIndex := 6, attributes := #[] }, { accessFlags := 9, nameIndex := 31, descriptorIndex := 32, attributes := #[] }] 49 2 #[] #[])
  fields := #[]
  methods := #[k1m0, k1m1]
  instanceTypes := #[]
  staticTypes := #[]
  resolved := Array.replicate 36 none
  statics := none }

def pool2 : Array CpInfo := pool [(1, .methodref 2 3), (0, .class_ 4), (0, .nameAndType 5 6), (0, u "java/lang/Object"), (0, u "<init>"), (0, u "()V"), (0, .string 8), (0, u "--min-documents"), (0, .methodref 10 11), (0, .class_ 12), (0, .nameAndType 13 14), (0, u "com/example/honest_search/honestsearch/index/PhraseSettings"), (0, u "atLeast"), (0, u "(IILjava/lang/String;)I"), (0, .fieldref 10 16), (0, .nameAndType 17 18), (0, u "minDocuments"), (0, u "I"), (0, .string 20), (0, u "--min-instances"), (0, .fieldref 10 22), (0, .nameAndType 23 18), (0, u "minInstances"), (0, .string 25), (0, u "--min-interesting"), (0, .fieldref 10 27), (0, .nameAndType 28 18), (0, u "minInteresting"), (0, .string 30), (0, u "--predict-gain"), (0, .methodref 10 32), (0, .nameAndType 33 34), (0, u "gain"), (0, u "(DLjava/lang/String;)D"), (0, .fieldref 10 36), (0, .nameAndType 37 38), (0, u "predictGain"), (0, u "D"), (0, .string 40), (0, u "--related-gain"), (0, .fieldref 10 42), (0, .nameAndType 43 38), (0, u "relatedGain"), (0, .string 45), (0, u "--max-phrase-words"), (0, .fieldref 10 47), (0, .nameAndType 48 18), (0, u "maxPhraseWords"), (0, .string 50), (0, u "--window"), (0, .fieldref 10 52), (0, .nameAndType 53 18), (0, u "window"), (7, .class_ 63), (1, u "java/lang/Double"), (16, .methodref 61 81), (0, .nameAndType 82 83), (0, u "isInfinite"), (0, u "(D)Z"), (9, u "(IIIDDII)V"), (2, u "DEFAULTS"), (0, u "Lcom/example/honest_search/honestsearch/index/PhraseSettings;"), (11, u "equals"), (0, u "(Ljava/lang/Object;)Z")] 22

def k2c0 : Code := { maxStack := 4, maxLocals := 10, code := prog_21_method_1_code, exceptionTable := #[], attributes := #[] }
def k2m0 : Method := { name := "<init>", desc := "(IIIDDII)V", sig := { parameters := [.int, .int, .int, .double, .double, .int, .int], returnType := none }, accessFlags := 1, code := some k2c0 }
def k2c1 : Code := { maxStack := 4, maxLocals := 3, code := prog_21_method_9_code, exceptionTable := #[], attributes := #[] }
def k2m1 : Method := { name := "equals", desc := "(Ljava/lang/Object;)Z", sig := { parameters := [(.object "java/lang/Object")], returnType := some .boolean }, accessFlags := 1, code := some k2c1 }
def k2c2 : Code := { maxStack := 5, maxLocals := 3, code := prog_21_method_11_code, exceptionTable := #[], attributes := #[] }
def k2m2 : Method := { name := "atLeast", desc := "(IILjava/lang/String;)I", sig := { parameters := [.int, .int, (.object "java/lang/String")], returnType := some .int }, accessFlags := 10, code := some k2c2 }
def k2c3 : Code := { maxStack := 5, maxLocals := 3, code := prog_21_method_12_code, exceptionTable := #[], attributes := #[] }
def k2m3 : Method := { name := "gain", desc := "(DLjava/lang/String;)D", sig := { parameters := [.double, (.object "java/lang/String")], returnType := some .double }, accessFlags := 10, code := some k2c3 }
/-- com/example/honest_search/honestsearch/index/PhraseSettings -/
def k2 : Class := { plain "com/example/honest_search/honestsearch/index/PhraseSettings" (some 0) with
  accessFlags := 33
  interfaces := #[]
  cf := some (fileOf pool2 10 #[] #[{ accessFlags := 1, nameIndex := 5, descriptorIndex := 93, attributes := #[] }, { accessFlags := 1, nameIndex := 109, descriptorIndex := 110, attributes := #[] }, { accessFlags := 10, nameIndex := 13, descriptorIndex := 14, attributes := #[] }, { accessFlags := 10, nameIndex := 33, descriptorIndex := 34, attributes := #[] }] 33 2 #[] #[{ accessFlags := 25, nameIndex := 96, descriptorIndex := 97, attributes := #[] }, { accessFlags := 18, nameIndex := 17, descriptorIndex := 18, attributes := #[] }, { accessFlags := 18, nameIndex := 23, descriptorIndex := 18, attributes := #[] }, { accessFlags := 18, nameIndex := 28, descriptorIndex := 18, attributes := #[] }, { accessFlags := 18, nameIndex := 37, descriptorIndex := 38, attributes := #[] }, { accessFlags := 18, nameIndex := 43, descriptorIndex := 38, attributes := #[] }, { accessFlags := 18, nameIndex := 48, descriptorIndex := 18, attributes := #[] }, { accessFlags := 18, nameIndex := 53, descriptorIndex := 18, attributes := #[] }])
  fields := #[{ name := "DEFAULTS", type := (.object "com/example/honest_search/honestsearch/index/PhraseSettings"), accessFlags := 25, slot := 0, constantValue := 0 }, { name := "minDocuments", type := .int, accessFlags := 18, slot := 0, constantValue := 0 }, { name := "minInstances", type := .int, accessFlags := 18, slot := 1, constantValue := 0 }, { name := "minInteresting", type := .int, accessFlags := 18, slot := 2, constantValue := 0 }, { name := "predictGain", type := .double, accessFlags := 18, slot := 3, constantValue := 0 }, { name := "relatedGain", type := .double, accessFlags := 18, slot := 4, constantValue := 0 }, { name := "maxPhraseWords", type := .int, accessFlags := 18, slot := 5, constantValue := 0 }, { name := "window", type := .int, accessFlags := 18, slot := 6, constantValue := 0 }]
  methods := #[k2m0, k2m1, k2m2, k2m3]
  instanceTypes := #[.int, .int, .int, .double, .double, .int, .int]
  staticTypes := #[(.object "com/example/honest_search/honestsearch/index/PhraseSettings")]
  resolved := Array.replicate 133 none
  statics := none }

def pool3 : Array CpInfo := pool [(1, .class_ 2), (0, u "java/io/Serializable"), (0, .class_ 4), (0, u "java/lang/Object")] 2

/-- java/io/Serializable -/
def k3 : Class := { plain "java/io/Serializable" (some 0) with
  accessFlags := 1537
  interfaces := #[]
  cf := some (fileOf pool3 1 #[] #[] 1537 3 #[] #[])
  fields := #[]
  methods := #[]
  instanceTypes := #[]
  staticTypes := #[]
  resolved := Array.replicate 7 none
  statics := none }

def pool4 : Array CpInfo := pool [(1, .class_ 2), (0, u "java/lang/Comparable"), (0, .class_ 4), (0, u "java/lang/Object")] 7

/-- java/lang/Comparable -/
def k4 : Class := { plain "java/lang/Comparable" (some 0) with
  accessFlags := 1537
  interfaces := #[]
  cf := some (fileOf pool4 1 #[] #[] 1537 3 #[] #[])
  fields := #[]
  methods := #[]
  instanceTypes := #[]
  staticTypes := #[]
  resolved := Array.replicate 12 none
  statics := none }

def pool5 : Array CpInfo := pool [(2, .class_ 4), (1, u "java/lang/CharSequence"), (42, .class_ 48), (0, u "java/lang/CharSequence$1CodePointIterator"), (10, .class_ 60), (0, u "java/lang/CharSequence$1CharIterator"), (5, .class_ 67), (0, u "java/lang/Object")] 63

/-- java/lang/CharSequence -/
def k5 : Class := { plain "java/lang/CharSequence" (some 0) with
  accessFlags := 1537
  interfaces := #[]
  cf := some (fileOf pool5 2 #[.nestMembers #[47, 59]] #[] 1537 66 #[] #[])
  fields := #[]
  methods := #[]
  instanceTypes := #[]
  staticTypes := #[]
  resolved := Array.replicate 131 none
  statics := none }

def pool6 : Array CpInfo := pool [(1, .class_ 2), (0, u "java/lang/constant/Constable"), (0, .class_ 4), (0, u "java/lang/Object")] 6

/-- java/lang/constant/Constable -/
def k6 : Class := { plain "java/lang/constant/Constable" (some 0) with
  accessFlags := 1537
  interfaces := #[]
  cf := some (fileOf pool6 1 #[] #[] 1537 3 #[] #[])
  fields := #[]
  methods := #[]
  instanceTypes := #[]
  staticTypes := #[]
  resolved := Array.replicate 11 none
  statics := none }

def pool7 : Array CpInfo := pool [(1, .class_ 2), (0, u "java/lang/constant/ConstantDesc"), (0, .class_ 4), (0, u "java/lang/Object")] 32

/-- java/lang/constant/ConstantDesc -/
def k7 : Class := { plain "java/lang/constant/ConstantDesc" (some 0) with
  accessFlags := 1537
  interfaces := #[]
  cf := some (fileOf pool7 1 #[] #[] 1537 3 #[] #[])
  fields := #[]
  methods := #[]
  instanceTypes := #[]
  staticTypes := #[]
  resolved := Array.replicate 37 none
  statics := none }

def pool8 : Array CpInfo := pool [(2, .class_ 4), (1, u "java/lang/Object"), (0, u "<init>"), (0, u "()V"), (3, .class_ 12), (1, u "java/lang/String"), (0, u "value"), (0, u "[B"), (2, u "coder"), (0, u "B"), (2, u "hash"), (0, u "I"), (2, u "hashIsZero"), (0, u "Z"), (13, u "COMPACT_STRINGS"), (534, .class_ 576), (0, u "java/lang/CharSequence"), (22, u "CASE_INSENSITIVE_ORDER"), (0, u "Ljava/util/Comparator;"), (500, u "serialPersistentFields"), (0, u "[Ljava/io/ObjectStreamField;"), (0, .class_ 1104), (0, u "java/lang/String$CaseInsensitiveComparator"), (1, .class_ 1107), (0, u "java/io/Serializable"), (0, .class_ 1109), (0, u "java/lang/Comparable"), (0, .class_ 1111), (0, u "java/lang/constant/Constable"), (0, .class_ 1113), (0, u "java/lang/constant/ConstantDesc"), (2, u "serialVersionUID"), (0, u "J"), (3, u "REPL"), (0, u "C"), (2, u "LATIN1"), (1, u "UTF16")] 323

def k8m0 : Method := { name := "<init>", desc := "()V", sig := { parameters := [], returnType := none }, accessFlags := 1, code := none }
/-- java/lang/String -/
def k8 : Class := { plain "java/lang/String" (some 0) with
  accessFlags := 49
  interfaces := #[3, 4, 5, 6, 7]
  cf := some (fileOf pool8 10 #[.nestMembers #[1103]] #[{ accessFlags := 1, nameIndex := 5, descriptorIndex := 6, attributes := #[] }] 49 2 #[1106, 1108, 575, 1110, 1112] #[{ accessFlags := 18, nameIndex := 13, descriptorIndex := 14, attributes := #[] }, { accessFlags := 18, nameIndex := 17, descriptorIndex := 18, attributes := #[] }, { accessFlags := 2, nameIndex := 21, descriptorIndex := 22, attributes := #[] }, { accessFlags := 2, nameIndex := 25, descriptorIndex := 26, attributes := #[] }, { accessFlags := 26, nameIndex := 1116, descriptorIndex := 1117, attributes := #[] }, { accessFlags := 24, nameIndex := 40, descriptorIndex := 26, attributes := #[] }, { accessFlags := 26, nameIndex := 1101, descriptorIndex := 1102, attributes := #[] }, { accessFlags := 26, nameIndex := 1121, descriptorIndex := 1122, attributes := #[] }, { accessFlags := 25, nameIndex := 599, descriptorIndex := 600, attributes := #[] }, { accessFlags := 24, nameIndex := 1125, descriptorIndex := 18, attributes := #[] }, { accessFlags := 24, nameIndex := 1127, descriptorIndex := 18, attributes := #[] }])
  fields := #[{ name := "value", type := (.array .byte), accessFlags := 18, slot := 0, constantValue := 0 }, { name := "coder", type := .byte, accessFlags := 18, slot := 1, constantValue := 0 }, { name := "hash", type := .int, accessFlags := 2, slot := 2, constantValue := 0 }, { name := "hashIsZero", type := .boolean, accessFlags := 2, slot := 3, constantValue := 0 }, { name := "serialVersionUID", type := .long, accessFlags := 26, slot := 0, constantValue := 0 }, { name := "COMPACT_STRINGS", type := .boolean, accessFlags := 24, slot := 1, constantValue := 0 }, { name := "serialPersistentFields", type := (.array (.object "java/io/ObjectStreamField")), accessFlags := 26, slot := 2, constantValue := 0 }, { name := "REPL", type := .char, accessFlags := 26, slot := 3, constantValue := 0 }, { name := "CASE_INSENSITIVE_ORDER", type := (.object "java/util/Comparator"), accessFlags := 25, slot := 4, constantValue := 0 }, { name := "LATIN1", type := .byte, accessFlags := 24, slot := 5, constantValue := 0 }, { name := "UTF16", type := .byte, accessFlags := 24, slot := 6, constantValue := 0 }]
  methods := #[k8m0]
  instanceTypes := #[(.array .byte), .byte, .int, .boolean]
  staticTypes := #[.long, .boolean, (.array (.object "java/io/ObjectStreamField")), .char, (.object "java/util/Comparator"), .byte, .byte]
  resolved := Array.replicate 1451 none
  statics := none }

def pool9 : Array CpInfo := pool [(1, .methodref 2 3), (0, .class_ 4), (0, .nameAndType 5 6), (0, u "java/lang/Object"), (0, u "<init>"), (0, u "()V"), (1, .class_ 10), (1, u "java/lang/Number"), (2, .class_ 14), (0, u "java/io/Serializable"), (0, u "serialVersionUID"), (0, u "J")] 20

def k9c0 : Code := { maxStack := 1, maxLocals := 1, code := jdk_18_method_1_code, exceptionTable := #[], attributes := #[] }
def k9m0 : Method := { name := "<init>", desc := "()V", sig := { parameters := [], returnType := none }, accessFlags := 1, code := some k9c0 }
/-- java/lang/Number -/
def k9 : Class := { plain "java/lang/Number" (some 0) with
  accessFlags := 1057
  interfaces := #[3]
  cf := some (fileOf pool9 8 #[] #[{ accessFlags := 1, nameIndex := 5, descriptorIndex := 6, attributes := #[] }] 1057 2 #[13] #[{ accessFlags := 26, nameIndex := 15, descriptorIndex := 16, attributes := #[] }])
  fields := #[{ name := "serialVersionUID", type := .long, accessFlags := 26, slot := 0, constantValue := 0 }]
  methods := #[k9m0]
  instanceTypes := #[]
  staticTypes := #[.long]
  resolved := Array.replicate 37 none
  statics := none }

def pool10 : Array CpInfo := pool [(1, .class_ 2), (0, u "java/lang/Double"), (11, u "(D)Z"), (8, .class_ 25), (1, u "java/lang/Math"), (12, .methodref 23 39), (0, .nameAndType 40 41), (0, u "abs"), (0, u "(D)D"), (69, .double 9218868437227405311), (2, .class_ 116), (1, u "java/lang/Number"), (3, u "value"), (0, u "D"), (5, u "isInfinite"), (45, u "TYPE"), (0, u "Ljava/lang/Class;"), (0, .class_ 176), (0, u "java/lang/Comparable"), (0, .class_ 178), (0, u "java/lang/constant/Constable"), (0, .class_ 180), (0, u "java/lang/constant/ConstantDesc"), (0, u "POSITIVE_INFINITY"), (3, u "NEGATIVE_INFINITY"), (2, u "NaN"), (2, u "MAX_VALUE"), (0, u "MIN_NORMAL"), (0, u "MIN_VALUE"), (2, u "SIZE"), (0, u "I"), (1, u "PRECISION"), (1, u "MAX_EXPONENT"), (1, u "MIN_EXPONENT"), (1, u "BYTES"), (3, u "serialVersionUID"), (0, u "J")] 79

def k10c0 : Code := { maxStack := 4, maxLocals := 2, code := jdk_117_method_7_code, exceptionTable := #[], attributes := #[] }
def k10m0 : Method := { name := "isInfinite", desc := "(D)Z", sig := { parameters := [.double], returnType := some .boolean }, accessFlags := 9, code := some k10c0 }
/-- java/lang/Double -/
def k10 : Class := { plain "java/lang/Double" (some 9) with
  accessFlags := 49
  interfaces := #[4, 6, 7]
  cf := some (fileOf pool10 1 #[] #[{ accessFlags := 9, nameIndex := 127, descriptorIndex := 14, attributes := #[] }] 49 114 #[175, 177, 179] #[{ accessFlags := 25, nameIndex := 181, descriptorIndex := 121, attributes := #[] }, { accessFlags := 25, nameIndex := 185, descriptorIndex := 121, attributes := #[] }, { accessFlags := 25, nameIndex := 188, descriptorIndex := 121, attributes := #[] }, { accessFlags := 25, nameIndex := 191, descriptorIndex := 121, attributes := #[] }, { accessFlags := 25, nameIndex := 192, descriptorIndex := 121, attributes := #[] }, { accessFlags := 25, nameIndex := 193, descriptorIndex := 121, attributes := #[] }, { accessFlags := 25, nameIndex := 196, descriptorIndex := 197, attributes := #[] }, { accessFlags := 25, nameIndex := 199, descriptorIndex := 197, attributes := #[] }, { accessFlags := 25, nameIndex := 201, descriptorIndex := 197, attributes := #[] }, { accessFlags := 25, nameIndex := 203, descriptorIndex := 197, attributes := #[] }, { accessFlags := 25, nameIndex := 205, descriptorIndex := 197, attributes := #[] }, { accessFlags := 25, nameIndex := 173, descriptorIndex := 174, attributes := #[] }, { accessFlags := 18, nameIndex := 120, descriptorIndex := 121, attributes := #[] }, { accessFlags := 26, nameIndex := 209, descriptorIndex := 210, attributes := #[] }])
  fields := #[{ name := "POSITIVE_INFINITY", type := .double, accessFlags := 25, slot := 0, constantValue := 0 }, { name := "NEGATIVE_INFINITY", type := .double, accessFlags := 25, slot := 1, constantValue := 0 }, { name := "NaN", type := .double, accessFlags := 25, slot := 2, constantValue := 0 }, { name := "MAX_VALUE", type := .double, accessFlags := 25, slot := 3, constantValue := 0 }, { name := "MIN_NORMAL", type := .double, accessFlags := 25, slot := 4, constantValue := 0 }, { name := "MIN_VALUE", type := .double, accessFlags := 25, slot := 5, constantValue := 0 }, { name := "SIZE", type := .int, accessFlags := 25, slot := 6, constantValue := 0 }, { name := "PRECISION", type := .int, accessFlags := 25, slot := 7, constantValue := 0 }, { name := "MAX_EXPONENT", type := .int, accessFlags := 25, slot := 8, constantValue := 0 }, { name := "MIN_EXPONENT", type := .int, accessFlags := 25, slot := 9, constantValue := 0 }, { name := "BYTES", type := .int, accessFlags := 25, slot := 10, constantValue := 0 }, { name := "TYPE", type := (.object "java/lang/Class"), accessFlags := 25, slot := 11, constantValue := 0 }, { name := "value", type := .double, accessFlags := 18, slot := 0, constantValue := 0 }, { name := "serialVersionUID", type := .long, accessFlags := 26, slot := 12, constantValue := 0 }]
  methods := #[k10m0]
  instanceTypes := #[.double]
  staticTypes := #[.double, .double, .double, .double, .double, .double, .int, .int, .int, .int, .int, (.object "java/lang/Class"), .long]
  resolved := Array.replicate 290 none
  statics := none }

def pool11 : Array CpInfo := pool [(1, .class_ 2), (0, u "java/lang/Math"), (1, .class_ 6), (1, u "java/lang/Object"), (0, u "<init>"), (0, u "()V"), (5, u "(D)D"), (83, .class_ 100), (1, u "java/lang/Math$RandomNumberGeneratorHolder"), (23, u "abs"), (47, u "negativeZeroFloatBits"), (0, u "J"), (2, u "negativeZeroDoubleBits"), (68, u "$assertionsDisabled"), (0, u "Z"), (91, u "twoToTheDoubleScaleDown"), (0, u "D"), (4, u "twoToTheDoubleScaleUp"), (9, u "E"), (3, u "PI"), (2, u "TAU"), (2, u "DEGREES_TO_RADIANS"), (0, u "RADIANS_TO_DEGREES")] 94

def k11m0 : Method := { name := "<init>", desc := "()V", sig := { parameters := [], returnType := none }, accessFlags := 2, code := none }
def k11c1 : Code := { maxStack := 4, maxLocals := 2, code := jdk_29_method_64_code, exceptionTable := #[], attributes := #[] }
def k11m1 : Method := { name := "abs", desc := "(D)D", sig := { parameters := [.double], returnType := some .double }, accessFlags := 9, code := some k11c1 }
/-- java/lang/Math -/
def k11 : Class := { plain "java/lang/Math" (some 0) with
  accessFlags := 49
  interfaces := #[]
  cf := some (fileOf pool11 1 #[.nestMembers #[98]] #[{ accessFlags := 2, nameIndex := 7, descriptorIndex := 8, attributes := #[] }, { accessFlags := 9, nameIndex := 124, descriptorIndex := 14, attributes := #[] }] 49 4 #[] #[{ accessFlags := 25, nameIndex := 354, descriptorIndex := 339, attributes := #[] }, { accessFlags := 25, nameIndex := 358, descriptorIndex := 339, attributes := #[] }, { accessFlags := 25, nameIndex := 361, descriptorIndex := 339, attributes := #[] }, { accessFlags := 26, nameIndex := 364, descriptorIndex := 339, attributes := #[] }, { accessFlags := 26, nameIndex := 365, descriptorIndex := 339, attributes := #[] }, { accessFlags := 26, nameIndex := 172, descriptorIndex := 173, attributes := #[] }, { accessFlags := 26, nameIndex := 176, descriptorIndex := 173, attributes := #[] }, { accessFlags := 8, nameIndex := 344, descriptorIndex := 339, attributes := #[] }, { accessFlags := 8, nameIndex := 338, descriptorIndex := 339, attributes := #[] }, { accessFlags := 4120, nameIndex := 245, descriptorIndex := 246, attributes := #[] }])
  fields := #[{ name := "E", type := .double, accessFlags := 25, slot := 0, constantValue := 0 }, { name := "PI", type := .double, accessFlags := 25, slot := 1, constantValue := 0 }, { name := "TAU", type := .double, accessFlags := 25, slot := 2, constantValue := 0 }, { name := "DEGREES_TO_RADIANS", type := .double, accessFlags := 26, slot := 3, constantValue := 0 }, { name := "RADIANS_TO_DEGREES", type := .double, accessFlags := 26, slot := 4, constantValue := 0 }, { name := "negativeZeroFloatBits", type := .long, accessFlags := 26, slot := 5, constantValue := 0 }, { name := "negativeZeroDoubleBits", type := .long, accessFlags := 26, slot := 6, constantValue := 0 }, { name := "twoToTheDoubleScaleUp", type := .double, accessFlags := 8, slot := 7, constantValue := 0 }, { name := "twoToTheDoubleScaleDown", type := .double, accessFlags := 8, slot := 8, constantValue := 0 }, { name := "$assertionsDisabled", type := .boolean, accessFlags := 4120, slot := 9, constantValue := 0 }]
  methods := #[k11m0, k11m1]
  instanceTypes := #[]
  staticTypes := #[.double, .double, .double, .double, .double, .long, .long, .double, .double, .boolean]
  resolved := Array.replicate 460 none
  statics := none }

def pool12 : Array CpInfo := pool [(1, .class_ 2), (0, u "java/lang/Integer"), (16, u "digits"), (0, u "[C"), (46, u "<init>"), (17, u "DigitOnes"), (0, u "[B"), (2, u "DigitTens"), (10, .nameAndType 67 101), (0, u "()V"), (85, u "valueOf"), (0, u "(I)Ljava/lang/Integer;"), (0, .class_ 190), (0, u "java/lang/Integer$IntegerCache"), (0, .fieldref 189 192), (0, .nameAndType 193 194), (0, u "high"), (0, u "I"), (0, .fieldref 189 196), (0, .nameAndType 197 198), (0, u "cache"), (0, u "[Ljava/lang/Integer;"), (0, .methodref 1 200), (0, .nameAndType 67 201), (0, u "(I)V"), (0, .methodref 203 100), (0, .class_ 204), (0, u "java/lang/Number"), (0, .fieldref 1 206), (0, .nameAndType 207 194), (0, u "value"), (94, u "TYPE"), (0, u "Ljava/lang/Class;"), (0, .class_ 305), (0, u "java/lang/Comparable"), (0, .class_ 307), (0, u "java/lang/constant/Constable"), (0, .class_ 309), (0, u "java/lang/constant/ConstantDesc"), (0, u "MIN_VALUE"), (1, u "MAX_VALUE"), (3, u "SIZE"), (1, u "BYTES"), (1, u "serialVersionUID"), (0, u "J")] 131

def k12c0 : Code := { maxStack := 3, maxLocals := 1, code := jdk_33_method_22_code, exceptionTable := #[], attributes := #[] }
def k12m0 : Method := { name := "valueOf", desc := "(I)Ljava/lang/Integer;", sig := { parameters := [.int], returnType := some (.object "java/lang/Integer") }, accessFlags := 9, code := some k12c0 }
def k12c1 : Code := { maxStack := 2, maxLocals := 2, code := jdk_33_method_23_code, exceptionTable := #[], attributes := #[] }
def k12m1 : Method := { name := "<init>", desc := "(I)V", sig := { parameters := [.int], returnType := none }, accessFlags := 1, code := some k12c1 }
/-- java/lang/Integer -/
def k12 : Class := { plain "java/lang/Integer" (some 9) with
  accessFlags := 49
  interfaces := #[4, 6, 7]
  cf := some (fileOf pool12 1 #[.nestMembers #[189]] #[{ accessFlags := 9, nameIndex := 187, descriptorIndex := 188, attributes := #[] }, { accessFlags := 1, nameIndex := 67, descriptorIndex := 201, attributes := #[] }] 49 203 #[304, 306, 308] #[{ accessFlags := 25, nameIndex := 310, descriptorIndex := 194, attributes := #[] }, { accessFlags := 25, nameIndex := 312, descriptorIndex := 194, attributes := #[] }, { accessFlags := 25, nameIndex := 302, descriptorIndex := 303, attributes := #[] }, { accessFlags := 24, nameIndex := 19, descriptorIndex := 20, attributes := #[] }, { accessFlags := 24, nameIndex := 89, descriptorIndex := 86, attributes := #[] }, { accessFlags := 24, nameIndex := 85, descriptorIndex := 86, attributes := #[] }, { accessFlags := 18, nameIndex := 207, descriptorIndex := 194, attributes := #[] }, { accessFlags := 25, nameIndex := 316, descriptorIndex := 194, attributes := #[] }, { accessFlags := 25, nameIndex := 318, descriptorIndex := 194, attributes := #[] }, { accessFlags := 26, nameIndex := 320, descriptorIndex := 321, attributes := #[] }])
  fields := #[{ name := "MIN_VALUE", type := .int, accessFlags := 25, slot := 0, constantValue := 0 }, { name := "MAX_VALUE", type := .int, accessFlags := 25, slot := 1, constantValue := 0 }, { name := "TYPE", type := (.object "java/lang/Class"), accessFlags := 25, slot := 2, constantValue := 0 }, { name := "digits", type := (.array .char), accessFlags := 24, slot := 3, constantValue := 0 }, { name := "DigitTens", type := (.array .byte), accessFlags := 24, slot := 4, constantValue := 0 }, { name := "DigitOnes", type := (.array .byte), accessFlags := 24, slot := 5, constantValue := 0 }, { name := "value", type := .int, accessFlags := 18, slot := 0, constantValue := 0 }, { name := "SIZE", type := .int, accessFlags := 25, slot := 6, constantValue := 0 }, { name := "BYTES", type := .int, accessFlags := 25, slot := 7, constantValue := 0 }, { name := "serialVersionUID", type := .long, accessFlags := 26, slot := 8, constantValue := 0 }]
  methods := #[k12m0, k12m1]
  instanceTypes := #[.int]
  staticTypes := #[.int, .int, (.object "java/lang/Class"), (.array .char), (.array .byte), (.array .byte), .int, .int, .long]
  resolved := Array.replicate 453 none
  statics := none }

def pool13 : Array CpInfo := pool [(2, .class_ 4), (1, u "java/lang/Object"), (0, u "<init>"), (0, u "()V"), (0, .class_ 8), (0, u "java/lang/Integer"), (7, .class_ 18), (1, u "java/lang/Integer$IntegerCache"), (0, u "$assertionsDisabled"), (0, u "Z"), (26, u "high"), (0, u "I"), (8, u "archivedCache"), (0, u "[Ljava/lang/Integer;"), (12, u "cache"), (0, u "low")] 27

def k13m0 : Method := { name := "<init>", desc := "()V", sig := { parameters := [], returnType := none }, accessFlags := 2, code := none }
/-- java/lang/Integer$IntegerCache -/
def k13 : Class := { plain "java/lang/Integer$IntegerCache" (some 0) with
  accessFlags := 48
  interfaces := #[]
  cf := some (fileOf pool13 16 #[.nestHost 7] #[{ accessFlags := 2, nameIndex := 5, descriptorIndex := 6, attributes := #[] }] 48 2 #[] #[{ accessFlags := 24, nameIndex := 72, descriptorIndex := 48, attributes := #[] }, { accessFlags := 24, nameIndex := 47, descriptorIndex := 48, attributes := #[] }, { accessFlags := 24, nameIndex := 71, descriptorIndex := 58, attributes := #[] }, { accessFlags := 8, nameIndex := 57, descriptorIndex := 58, attributes := #[] }, { accessFlags := 4120, nameIndex := 19, descriptorIndex := 20, attributes := #[] }])
  fields := #[{ name := "low", type := .int, accessFlags := 24, slot := 0, constantValue := 0 }, { name := "high", type := .int, accessFlags := 24, slot := 1, constantValue := 0 }, { name := "cache", type := (.array (.object "java/lang/Integer")), accessFlags := 24, slot := 2, constantValue := 0 }, { name := "archivedCache", type := (.array (.object "java/lang/Integer")), accessFlags := 8, slot := 3, constantValue := 0 }, { name := "$assertionsDisabled", type := .boolean, accessFlags := 4120, slot := 4, constantValue := 0 }]
  methods := #[k13m0]
  instanceTypes := #[]
  staticTypes := #[.int, .int, (.array (.object "java/lang/Integer")), (.array (.object "java/lang/Integer")), .boolean]
  resolved := Array.replicate 100 none
  statics := some 0 }

def pool14 : Array CpInfo := pool [(1, u "java/lang/Cloneable"), (0, .class_ 1), (0, u "java/lang/Object"), (0, .class_ 3)] 3

/-- java/lang/Cloneable -/
def k14 : Class := { plain "java/lang/Cloneable" (some 0) with
  accessFlags := 1537
  interfaces := #[]
  cf := some (fileOf pool14 2 #[] #[] 1537 4 #[] #[])
  fields := #[]
  methods := #[]
  instanceTypes := #[]
  staticTypes := #[]
  resolved := Array.replicate 8 none
  statics := none }

/-- the primitive byte -/
def k15 : Class := { plain "byte" none with kind := .primitive 'B', accessFlags := 0x411 }
/-- [B -/
def k16 : Class := { plain "[B" (some 0) with kind := .array 15 .byte, interfaces := #[14, 3], accessFlags := 1041 }

/-- the primitive int -/
def k17 : Class := { plain "int" none with kind := .primitive 'I', accessFlags := 0x411 }
/-- [I -/
def k18 : Class := { plain "[I" (some 0) with kind := .array 17 .int, interfaces := #[14, 3], accessFlags := 1041 }

/-- [Ljava/lang/Integer; -/
def k19 : Class := { plain "[Ljava/lang/Integer;" (some 0) with kind := .array 12 (.object "java/lang/Integer"), interfaces := #[14, 3], accessFlags := 1041 }

def heap : Heap := #[{ cls := 13, slots := #[.int 0, .int 127, .ref 1, .null, .int 0], vm := .statics 13 },
  { cls := 19, slots := #[.ref 2, .ref 3, .ref 4, .ref 5, .ref 6, .ref 7, .ref 8, .ref 9, .ref 10, .ref 11, .ref 12, .ref 13, .ref 14, .ref 15, .ref 16, .ref 17, .ref 18, .ref 19, .ref 20, .ref 21, .ref 22, .ref 23, .ref 24, .ref 25, .ref 26, .ref 27, .ref 28, .ref 29, .ref 30, .ref 31, .ref 32, .ref 33, .ref 34, .ref 35, .ref 36, .ref 37, .ref 38, .ref 39, .ref 40, .ref 41, .ref 42, .ref 43, .ref 44, .ref 45, .ref 46, .ref 47, .ref 48, .ref 49, .ref 50, .ref 51, .ref 52, .ref 53, .ref 54, .ref 55, .ref 56, .ref 57, .ref 58, .ref 59, .ref 60, .ref 61, .ref 62, .ref 63, .ref 64, .ref 65, .ref 66, .ref 67, .ref 68, .ref 69, .ref 70, .ref 71, .ref 72, .ref 73, .ref 74, .ref 75, .ref 76, .ref 77, .ref 78, .ref 79, .ref 80, .ref 81, .ref 82, .ref 83, .ref 84, .ref 85, .ref 86, .ref 87, .ref 88, .ref 89, .ref 90, .ref 91, .ref 92, .ref 93, .ref 94, .ref 95, .ref 96, .ref 97, .ref 98, .ref 99, .ref 100, .ref 101, .ref 102, .ref 103, .ref 104, .ref 105, .ref 106, .ref 107, .ref 108, .ref 109, .ref 110, .ref 111, .ref 112, .ref 113, .ref 114, .ref 115, .ref 116, .ref 117, .ref 118, .ref 119, .ref 120, .ref 121, .ref 122, .ref 123, .ref 124, .ref 125, .ref 126, .ref 127, .ref 128, .ref 129, .ref 130, .ref 131, .ref 132, .ref 133, .ref 134, .ref 135, .ref 136, .ref 137, .ref 138, .ref 139, .ref 140, .ref 141, .ref 142, .ref 143, .ref 144, .ref 145, .ref 146, .ref 147, .ref 148, .ref 149, .ref 150, .ref 151, .ref 152, .ref 153, .ref 154, .ref 155, .ref 156, .ref 157, .ref 158, .ref 159, .ref 160, .ref 161, .ref 162, .ref 163, .ref 164, .ref 165, .ref 166, .ref 167, .ref 168, .ref 169, .ref 170, .ref 171, .ref 172, .ref 173, .ref 174, .ref 175, .ref 176, .ref 177, .ref 178, .ref 179, .ref 180, .ref 181, .ref 182, .ref 183, .ref 184, .ref 185, .ref 186, .ref 187, .ref 188, .ref 189, .ref 190, .ref 191, .ref 192, .ref 193, .ref 194, .ref 195, .ref 196, .ref 197, .ref 198, .ref 199, .ref 200, .ref 201, .ref 202, .ref 203, .ref 204, .ref 205, .ref 206, .ref 207, .ref 208, .ref 209, .ref 210, .ref 211, .ref 212, .ref 213, .ref 214, .ref 215, .ref 216, .ref 217, .ref 218, .ref 219, .ref 220, .ref 221, .ref 222, .ref 223, .ref 224, .ref 225, .ref 226, .ref 227, .ref 228, .ref 229, .ref 230, .ref 231, .ref 232, .ref 233, .ref 234, .ref 235, .ref 236, .ref 237, .ref 238, .ref 239, .ref 240, .ref 241, .ref 242, .ref 243, .ref 244, .ref 245, .ref 246, .ref 247, .ref 248, .ref 249, .ref 250, .ref 251, .ref 252, .ref 253, .ref 254, .ref 255, .ref 256, .ref 257], vm := .none },
  { cls := 12, slots := #[.int (-128)], vm := .none },
  { cls := 12, slots := #[.int (-127)], vm := .none },
  { cls := 12, slots := #[.int (-126)], vm := .none },
  { cls := 12, slots := #[.int (-125)], vm := .none },
  { cls := 12, slots := #[.int (-124)], vm := .none },
  { cls := 12, slots := #[.int (-123)], vm := .none },
  { cls := 12, slots := #[.int (-122)], vm := .none },
  { cls := 12, slots := #[.int (-121)], vm := .none },
  { cls := 12, slots := #[.int (-120)], vm := .none },
  { cls := 12, slots := #[.int (-119)], vm := .none },
  { cls := 12, slots := #[.int (-118)], vm := .none },
  { cls := 12, slots := #[.int (-117)], vm := .none },
  { cls := 12, slots := #[.int (-116)], vm := .none },
  { cls := 12, slots := #[.int (-115)], vm := .none },
  { cls := 12, slots := #[.int (-114)], vm := .none },
  { cls := 12, slots := #[.int (-113)], vm := .none },
  { cls := 12, slots := #[.int (-112)], vm := .none },
  { cls := 12, slots := #[.int (-111)], vm := .none },
  { cls := 12, slots := #[.int (-110)], vm := .none },
  { cls := 12, slots := #[.int (-109)], vm := .none },
  { cls := 12, slots := #[.int (-108)], vm := .none },
  { cls := 12, slots := #[.int (-107)], vm := .none },
  { cls := 12, slots := #[.int (-106)], vm := .none },
  { cls := 12, slots := #[.int (-105)], vm := .none },
  { cls := 12, slots := #[.int (-104)], vm := .none },
  { cls := 12, slots := #[.int (-103)], vm := .none },
  { cls := 12, slots := #[.int (-102)], vm := .none },
  { cls := 12, slots := #[.int (-101)], vm := .none },
  { cls := 12, slots := #[.int (-100)], vm := .none },
  { cls := 12, slots := #[.int (-99)], vm := .none },
  { cls := 12, slots := #[.int (-98)], vm := .none },
  { cls := 12, slots := #[.int (-97)], vm := .none },
  { cls := 12, slots := #[.int (-96)], vm := .none },
  { cls := 12, slots := #[.int (-95)], vm := .none },
  { cls := 12, slots := #[.int (-94)], vm := .none },
  { cls := 12, slots := #[.int (-93)], vm := .none },
  { cls := 12, slots := #[.int (-92)], vm := .none },
  { cls := 12, slots := #[.int (-91)], vm := .none },
  { cls := 12, slots := #[.int (-90)], vm := .none },
  { cls := 12, slots := #[.int (-89)], vm := .none },
  { cls := 12, slots := #[.int (-88)], vm := .none },
  { cls := 12, slots := #[.int (-87)], vm := .none },
  { cls := 12, slots := #[.int (-86)], vm := .none },
  { cls := 12, slots := #[.int (-85)], vm := .none },
  { cls := 12, slots := #[.int (-84)], vm := .none },
  { cls := 12, slots := #[.int (-83)], vm := .none },
  { cls := 12, slots := #[.int (-82)], vm := .none },
  { cls := 12, slots := #[.int (-81)], vm := .none },
  { cls := 12, slots := #[.int (-80)], vm := .none },
  { cls := 12, slots := #[.int (-79)], vm := .none },
  { cls := 12, slots := #[.int (-78)], vm := .none },
  { cls := 12, slots := #[.int (-77)], vm := .none },
  { cls := 12, slots := #[.int (-76)], vm := .none },
  { cls := 12, slots := #[.int (-75)], vm := .none },
  { cls := 12, slots := #[.int (-74)], vm := .none },
  { cls := 12, slots := #[.int (-73)], vm := .none },
  { cls := 12, slots := #[.int (-72)], vm := .none },
  { cls := 12, slots := #[.int (-71)], vm := .none },
  { cls := 12, slots := #[.int (-70)], vm := .none },
  { cls := 12, slots := #[.int (-69)], vm := .none },
  { cls := 12, slots := #[.int (-68)], vm := .none },
  { cls := 12, slots := #[.int (-67)], vm := .none },
  { cls := 12, slots := #[.int (-66)], vm := .none },
  { cls := 12, slots := #[.int (-65)], vm := .none },
  { cls := 12, slots := #[.int (-64)], vm := .none },
  { cls := 12, slots := #[.int (-63)], vm := .none },
  { cls := 12, slots := #[.int (-62)], vm := .none },
  { cls := 12, slots := #[.int (-61)], vm := .none },
  { cls := 12, slots := #[.int (-60)], vm := .none },
  { cls := 12, slots := #[.int (-59)], vm := .none },
  { cls := 12, slots := #[.int (-58)], vm := .none },
  { cls := 12, slots := #[.int (-57)], vm := .none },
  { cls := 12, slots := #[.int (-56)], vm := .none },
  { cls := 12, slots := #[.int (-55)], vm := .none },
  { cls := 12, slots := #[.int (-54)], vm := .none },
  { cls := 12, slots := #[.int (-53)], vm := .none },
  { cls := 12, slots := #[.int (-52)], vm := .none },
  { cls := 12, slots := #[.int (-51)], vm := .none },
  { cls := 12, slots := #[.int (-50)], vm := .none },
  { cls := 12, slots := #[.int (-49)], vm := .none },
  { cls := 12, slots := #[.int (-48)], vm := .none },
  { cls := 12, slots := #[.int (-47)], vm := .none },
  { cls := 12, slots := #[.int (-46)], vm := .none },
  { cls := 12, slots := #[.int (-45)], vm := .none },
  { cls := 12, slots := #[.int (-44)], vm := .none },
  { cls := 12, slots := #[.int (-43)], vm := .none },
  { cls := 12, slots := #[.int (-42)], vm := .none },
  { cls := 12, slots := #[.int (-41)], vm := .none },
  { cls := 12, slots := #[.int (-40)], vm := .none },
  { cls := 12, slots := #[.int (-39)], vm := .none },
  { cls := 12, slots := #[.int (-38)], vm := .none },
  { cls := 12, slots := #[.int (-37)], vm := .none },
  { cls := 12, slots := #[.int (-36)], vm := .none },
  { cls := 12, slots := #[.int (-35)], vm := .none },
  { cls := 12, slots := #[.int (-34)], vm := .none },
  { cls := 12, slots := #[.int (-33)], vm := .none },
  { cls := 12, slots := #[.int (-32)], vm := .none },
  { cls := 12, slots := #[.int (-31)], vm := .none },
  { cls := 12, slots := #[.int (-30)], vm := .none },
  { cls := 12, slots := #[.int (-29)], vm := .none },
  { cls := 12, slots := #[.int (-28)], vm := .none },
  { cls := 12, slots := #[.int (-27)], vm := .none },
  { cls := 12, slots := #[.int (-26)], vm := .none },
  { cls := 12, slots := #[.int (-25)], vm := .none },
  { cls := 12, slots := #[.int (-24)], vm := .none },
  { cls := 12, slots := #[.int (-23)], vm := .none },
  { cls := 12, slots := #[.int (-22)], vm := .none },
  { cls := 12, slots := #[.int (-21)], vm := .none },
  { cls := 12, slots := #[.int (-20)], vm := .none },
  { cls := 12, slots := #[.int (-19)], vm := .none },
  { cls := 12, slots := #[.int (-18)], vm := .none },
  { cls := 12, slots := #[.int (-17)], vm := .none },
  { cls := 12, slots := #[.int (-16)], vm := .none },
  { cls := 12, slots := #[.int (-15)], vm := .none },
  { cls := 12, slots := #[.int (-14)], vm := .none },
  { cls := 12, slots := #[.int (-13)], vm := .none },
  { cls := 12, slots := #[.int (-12)], vm := .none },
  { cls := 12, slots := #[.int (-11)], vm := .none },
  { cls := 12, slots := #[.int (-10)], vm := .none },
  { cls := 12, slots := #[.int (-9)], vm := .none },
  { cls := 12, slots := #[.int (-8)], vm := .none },
  { cls := 12, slots := #[.int (-7)], vm := .none },
  { cls := 12, slots := #[.int (-6)], vm := .none },
  { cls := 12, slots := #[.int (-5)], vm := .none },
  { cls := 12, slots := #[.int (-4)], vm := .none },
  { cls := 12, slots := #[.int (-3)], vm := .none },
  { cls := 12, slots := #[.int (-2)], vm := .none },
  { cls := 12, slots := #[.int (-1)], vm := .none },
  { cls := 12, slots := #[.int 0], vm := .none },
  { cls := 12, slots := #[.int 1], vm := .none },
  { cls := 12, slots := #[.int 2], vm := .none },
  { cls := 12, slots := #[.int 3], vm := .none },
  { cls := 12, slots := #[.int 4], vm := .none },
  { cls := 12, slots := #[.int 5], vm := .none },
  { cls := 12, slots := #[.int 6], vm := .none },
  { cls := 12, slots := #[.int 7], vm := .none },
  { cls := 12, slots := #[.int 8], vm := .none },
  { cls := 12, slots := #[.int 9], vm := .none },
  { cls := 12, slots := #[.int 10], vm := .none },
  { cls := 12, slots := #[.int 11], vm := .none },
  { cls := 12, slots := #[.int 12], vm := .none },
  { cls := 12, slots := #[.int 13], vm := .none },
  { cls := 12, slots := #[.int 14], vm := .none },
  { cls := 12, slots := #[.int 15], vm := .none },
  { cls := 12, slots := #[.int 16], vm := .none },
  { cls := 12, slots := #[.int 17], vm := .none },
  { cls := 12, slots := #[.int 18], vm := .none },
  { cls := 12, slots := #[.int 19], vm := .none },
  { cls := 12, slots := #[.int 20], vm := .none },
  { cls := 12, slots := #[.int 21], vm := .none },
  { cls := 12, slots := #[.int 22], vm := .none },
  { cls := 12, slots := #[.int 23], vm := .none },
  { cls := 12, slots := #[.int 24], vm := .none },
  { cls := 12, slots := #[.int 25], vm := .none },
  { cls := 12, slots := #[.int 26], vm := .none },
  { cls := 12, slots := #[.int 27], vm := .none },
  { cls := 12, slots := #[.int 28], vm := .none },
  { cls := 12, slots := #[.int 29], vm := .none },
  { cls := 12, slots := #[.int 30], vm := .none },
  { cls := 12, slots := #[.int 31], vm := .none },
  { cls := 12, slots := #[.int 32], vm := .none },
  { cls := 12, slots := #[.int 33], vm := .none },
  { cls := 12, slots := #[.int 34], vm := .none },
  { cls := 12, slots := #[.int 35], vm := .none },
  { cls := 12, slots := #[.int 36], vm := .none },
  { cls := 12, slots := #[.int 37], vm := .none },
  { cls := 12, slots := #[.int 38], vm := .none },
  { cls := 12, slots := #[.int 39], vm := .none },
  { cls := 12, slots := #[.int 40], vm := .none },
  { cls := 12, slots := #[.int 41], vm := .none },
  { cls := 12, slots := #[.int 42], vm := .none },
  { cls := 12, slots := #[.int 43], vm := .none },
  { cls := 12, slots := #[.int 44], vm := .none },
  { cls := 12, slots := #[.int 45], vm := .none },
  { cls := 12, slots := #[.int 46], vm := .none },
  { cls := 12, slots := #[.int 47], vm := .none },
  { cls := 12, slots := #[.int 48], vm := .none },
  { cls := 12, slots := #[.int 49], vm := .none },
  { cls := 12, slots := #[.int 50], vm := .none },
  { cls := 12, slots := #[.int 51], vm := .none },
  { cls := 12, slots := #[.int 52], vm := .none },
  { cls := 12, slots := #[.int 53], vm := .none },
  { cls := 12, slots := #[.int 54], vm := .none },
  { cls := 12, slots := #[.int 55], vm := .none },
  { cls := 12, slots := #[.int 56], vm := .none },
  { cls := 12, slots := #[.int 57], vm := .none },
  { cls := 12, slots := #[.int 58], vm := .none },
  { cls := 12, slots := #[.int 59], vm := .none },
  { cls := 12, slots := #[.int 60], vm := .none },
  { cls := 12, slots := #[.int 61], vm := .none },
  { cls := 12, slots := #[.int 62], vm := .none },
  { cls := 12, slots := #[.int 63], vm := .none },
  { cls := 12, slots := #[.int 64], vm := .none },
  { cls := 12, slots := #[.int 65], vm := .none },
  { cls := 12, slots := #[.int 66], vm := .none },
  { cls := 12, slots := #[.int 67], vm := .none },
  { cls := 12, slots := #[.int 68], vm := .none },
  { cls := 12, slots := #[.int 69], vm := .none },
  { cls := 12, slots := #[.int 70], vm := .none },
  { cls := 12, slots := #[.int 71], vm := .none },
  { cls := 12, slots := #[.int 72], vm := .none },
  { cls := 12, slots := #[.int 73], vm := .none },
  { cls := 12, slots := #[.int 74], vm := .none },
  { cls := 12, slots := #[.int 75], vm := .none },
  { cls := 12, slots := #[.int 76], vm := .none },
  { cls := 12, slots := #[.int 77], vm := .none },
  { cls := 12, slots := #[.int 78], vm := .none },
  { cls := 12, slots := #[.int 79], vm := .none },
  { cls := 12, slots := #[.int 80], vm := .none },
  { cls := 12, slots := #[.int 81], vm := .none },
  { cls := 12, slots := #[.int 82], vm := .none },
  { cls := 12, slots := #[.int 83], vm := .none },
  { cls := 12, slots := #[.int 84], vm := .none },
  { cls := 12, slots := #[.int 85], vm := .none },
  { cls := 12, slots := #[.int 86], vm := .none },
  { cls := 12, slots := #[.int 87], vm := .none },
  { cls := 12, slots := #[.int 88], vm := .none },
  { cls := 12, slots := #[.int 89], vm := .none },
  { cls := 12, slots := #[.int 90], vm := .none },
  { cls := 12, slots := #[.int 91], vm := .none },
  { cls := 12, slots := #[.int 92], vm := .none },
  { cls := 12, slots := #[.int 93], vm := .none },
  { cls := 12, slots := #[.int 94], vm := .none },
  { cls := 12, slots := #[.int 95], vm := .none },
  { cls := 12, slots := #[.int 96], vm := .none },
  { cls := 12, slots := #[.int 97], vm := .none },
  { cls := 12, slots := #[.int 98], vm := .none },
  { cls := 12, slots := #[.int 99], vm := .none },
  { cls := 12, slots := #[.int 100], vm := .none },
  { cls := 12, slots := #[.int 101], vm := .none },
  { cls := 12, slots := #[.int 102], vm := .none },
  { cls := 12, slots := #[.int 103], vm := .none },
  { cls := 12, slots := #[.int 104], vm := .none },
  { cls := 12, slots := #[.int 105], vm := .none },
  { cls := 12, slots := #[.int 106], vm := .none },
  { cls := 12, slots := #[.int 107], vm := .none },
  { cls := 12, slots := #[.int 108], vm := .none },
  { cls := 12, slots := #[.int 109], vm := .none },
  { cls := 12, slots := #[.int 110], vm := .none },
  { cls := 12, slots := #[.int 111], vm := .none },
  { cls := 12, slots := #[.int 112], vm := .none },
  { cls := 12, slots := #[.int 113], vm := .none },
  { cls := 12, slots := #[.int 114], vm := .none },
  { cls := 12, slots := #[.int 115], vm := .none },
  { cls := 12, slots := #[.int 116], vm := .none },
  { cls := 12, slots := #[.int 117], vm := .none },
  { cls := 12, slots := #[.int 118], vm := .none },
  { cls := 12, slots := #[.int 119], vm := .none },
  { cls := 12, slots := #[.int 120], vm := .none },
  { cls := 12, slots := #[.int 121], vm := .none },
  { cls := 12, slots := #[.int 122], vm := .none },
  { cls := 12, slots := #[.int 123], vm := .none },
  { cls := 12, slots := #[.int 124], vm := .none },
  { cls := 12, slots := #[.int 125], vm := .none },
  { cls := 12, slots := #[.int 126], vm := .none },
  { cls := 12, slots := #[.int 127], vm := .none }]
def classes : Array Class := #[k0, k1, k2, k3, k4, k5, k6, k7, k8, k9, k10, k11, k12, k13, k14, k15, k16, k17, k18, k19]
def interned : List (Array UInt16 × Addr) := []
def slotsUsed : Nat := 517
def theMethod : MethodId := ⟨1, 1⟩
def args0 : Array Value := #[.int 5, .int 5, .int 5, .int 5, .long 5, .int 5]
def aboutOver (below : List Frame) : State where
  vm := { classes := classes, interned := interned.toArray }
  heap := heap
  slotsUsed := slotsUsed
  threads := #[{ frames := .invoking theMethod args0 :: below }]
def below0 : List Frame := [.native { method := ⟨0, 0⟩, args := #[] }]
def about1 : State := aboutOver below0
def p0 : Program := .bare "" "" ""
def e0 : Env := launch0.env 0 0 0
theorem w_frames : about1.frames = Frame.invoking theMethod args0 :: below0 := rfl
set_option maxRecDepth 65536 in
theorem w_args : argsFit about1.vm theMethod args0 = true := by decide +kernel
set_option maxRecDepth 65536 in
theorem w_heap : heapFits about1 = true := by decide +kernel
set_option maxRecDepth 65536 in
theorem w_runnable : about1.curStatus? = some .runnable := by decide +kernel
set_option maxRecDepth 65536 in
theorem w_alone : about1.alone = true := by decide +kernel
set_option maxRecDepth 65536 in
theorem w_named : about1.methodNamed? x = some theMethod := by decide +kernel
set_option maxRecDepth 65536 in
theorem w_hears : about1.hears theMethod below0 = true := by decide +kernel
set_option maxRecDepth 65536 in
theorem w_ripe : about1.ripe theMethod args0 below0 = true := by decide +kernel
theorem w_running : about1.status = .running := rfl
set_option maxRecDepth 65536 in
theorem w_room : about1.hasRoom e0.platform room_1 = true :=
  launch0.hasRoom_least _ room_1 (by decide +kernel) (by decide +kernel) (by decide +kernel) (by decide +kernel) (by decide +kernel) (by decide +kernel)
theorem allAtoms_all (ts : List Jvm.Cond) (a : Array Jvm.Value) (st : Jvm.State) : (allAtoms ts).before a st = ts.all (fun c => c.before a st) := by
  induction ts with
  | nil => rfl
  | cons c t ih =>
    show (Jvm.Cond.and c (allAtoms t)).before a st = _
    rw [Jvm.Cond.before_and, ih, List.all_cons]
def words1 : List Jvm.Cond := Jvm.Cond.code x code maxLocals ret :: tables_1
/-- a 'code' word, met by the world's own term for the bytes: nothing is compared byte by byte -/
theorem code_word {y : MethodName} {bytes : ByteArray} {mx : Nat} {rt : Option FieldType} {a : Array Value} {s : State} {m : MethodId} {meth : Method} {c : Code} (h1 : s.methodNamed? y = some m) (h2 : s.vm.method? m = some meth) (h3 : meth.code = some c) (h4 : c.code = bytes)
    (h5 : (c.maxLocals == mx && c.exceptionTable.isEmpty && decide (c.maxStack ≤ mostOperands) && decide (meth.sig.returnType = rt) && !meth.locks && decide (parseMethodDescriptor y.desc = some meth.sig)) = true) : (Jvm.Cond.code y bytes mx rt).before a s = true := by
  simp only [Bool.and_eq_true, beq_iff_eq, Bool.not_eq_true', decide_eq_true_eq] at h5
  obtain ⟨⟨⟨⟨⟨g1, g2⟩, g3⟩, g4⟩, g5⟩, g6⟩ := h5
  simp [Cond.before, Cond.holds, Cond.value, h1, h2, h3, h4, g1, g2, g3, g4, g5, g6]
def isCode : Jvm.Cond → Bool
  | .code _ _ _ _ => true
  | _ => false
theorem all_split {L : List Jvm.Cond} {P : Jvm.Cond → Bool} (h1 : L.all (fun c => isCode c || P c) = true) (h2 : ∀ c ∈ L.filter isCode, P c = true) : L.all P = true := by
  refine List.all_eq_true.mpr fun c hc => ?_
  have h := List.all_eq_true.mp h1 c hc
  rcases Bool.eq_false_or_eq_true (isCode c) with hi | hi
  · exact h2 c (List.mem_filter.mpr ⟨hc, hi⟩)
  · simpa [hi] using h
set_option maxRecDepth 65536 in
theorem w_c0 : (Jvm.Cond.code x code maxLocals ret).before args0 about1 = true := code_word (m := ⟨1, 1⟩) (meth := k1m1) (c := k1c1) (by decide +kernel) rfl rfl rfl (by decide +kernel)
set_option maxRecDepth 65536 in
theorem w_c1 : (Jvm.Cond.code ({ cls := "com/example/honest_search/honestsearch/index/PhraseSettings", name := "<init>", desc := "(IIIDDII)V" } : Jvm.MethodName) prog_21_method_1_code (10 : Nat) (Option.none : Option Jvm.ClassFile.FieldType)).before args0 about1 = true := code_word (m := ⟨2, 0⟩) (meth := k2m0) (c := k2c0) (by decide +kernel) rfl rfl rfl (by decide +kernel)
set_option maxRecDepth 65536 in
theorem w_c2 : (Jvm.Cond.code ({ cls := "java/lang/Object", name := "<init>", desc := "()V" } : Jvm.MethodName) object_method_1_code (1 : Nat) (Option.none : Option Jvm.ClassFile.FieldType)).before args0 about1 = true := code_word (m := ⟨0, 0⟩) (meth := k0m0) (c := k0c0) (by decide +kernel) rfl rfl rfl (by decide +kernel)
set_option maxRecDepth 65536 in
theorem w_c3 : (Jvm.Cond.code ({ cls := "com/example/honest_search/honestsearch/index/PhraseSettings", name := "atLeast", desc := "(IILjava/lang/String;)I" } : Jvm.MethodName) prog_21_method_11_code (3 : Nat) (Option.some Jvm.ClassFile.FieldType.int)).before args0 about1 = true := code_word (m := ⟨2, 2⟩) (meth := k2m2) (c := k2c2) (by decide +kernel) rfl rfl rfl (by decide +kernel)
set_option maxRecDepth 65536 in
theorem w_c4 : (Jvm.Cond.code ({ cls := "com/example/honest_search/honestsearch/index/PhraseSettings", name := "gain", desc := "(DLjava/lang/String;)D" } : Jvm.MethodName) prog_21_method_12_code (3 : Nat) (Option.some Jvm.ClassFile.FieldType.double)).before args0 about1 = true := code_word (m := ⟨2, 3⟩) (meth := k2m3) (c := k2c3) (by decide +kernel) rfl rfl rfl (by decide +kernel)
set_option maxRecDepth 65536 in
theorem w_c5 : (Jvm.Cond.code ({ cls := "java/lang/Double", name := "isInfinite", desc := "(D)Z" } : Jvm.MethodName) jdk_117_method_7_code (2 : Nat) (Option.some Jvm.ClassFile.FieldType.boolean)).before args0 about1 = true := code_word (m := ⟨10, 0⟩) (meth := k10m0) (c := k10c0) (by decide +kernel) rfl rfl rfl (by decide +kernel)
set_option maxRecDepth 65536 in
theorem w_c6 : (Jvm.Cond.code ({ cls := "java/lang/Math", name := "abs", desc := "(D)D" } : Jvm.MethodName) jdk_29_method_64_code (2 : Nat) (Option.some Jvm.ClassFile.FieldType.double)).before args0 about1 = true := code_word (m := ⟨11, 1⟩) (meth := k11m1) (c := k11c1) (by decide +kernel) rfl rfl rfl (by decide +kernel)
set_option maxRecDepth 65536 in
theorem w_c7 : (Jvm.Cond.code ({ cls := "com/example/honest_search/honestsearch/index/PhraseSettings", name := "equals", desc := "(Ljava/lang/Object;)Z" } : Jvm.MethodName) prog_21_method_9_code (3 : Nat) (Option.some Jvm.ClassFile.FieldType.boolean)).before args0 about1 = true := code_word (m := ⟨2, 1⟩) (meth := k2m1) (c := k2c1) (by decide +kernel) rfl rfl rfl (by decide +kernel)
set_option maxRecDepth 65536 in
theorem w_c8 : (Jvm.Cond.code ({ cls := "java/lang/Integer", name := "valueOf", desc := "(I)Ljava/lang/Integer;" } : Jvm.MethodName) jdk_33_method_22_code (1 : Nat) (Option.some (Jvm.ClassFile.FieldType.object "java/lang/Integer"))).before args0 about1 = true := code_word (m := ⟨12, 0⟩) (meth := k12m0) (c := k12c0) (by decide +kernel) rfl rfl rfl (by decide +kernel)
set_option maxRecDepth 65536 in
theorem w_c9 : (Jvm.Cond.code ({ cls := "java/lang/Integer", name := "<init>", desc := "(I)V" } : Jvm.MethodName) jdk_33_method_23_code (2 : Nat) (Option.none : Option Jvm.ClassFile.FieldType)).before args0 about1 = true := code_word (m := ⟨12, 1⟩) (meth := k12m1) (c := k12c1) (by decide +kernel) rfl rfl rfl (by decide +kernel)
set_option maxRecDepth 65536 in
theorem w_c10 : (Jvm.Cond.code ({ cls := "java/lang/Number", name := "<init>", desc := "()V" } : Jvm.MethodName) jdk_18_method_1_code (1 : Nat) (Option.none : Option Jvm.ClassFile.FieldType)).before args0 about1 = true := code_word (m := ⟨9, 0⟩) (meth := k9m0) (c := k9c0) (by decide +kernel) rfl rfl rfl (by decide +kernel)
def codes1 : List Jvm.Cond := [Jvm.Cond.code x code maxLocals ret, Jvm.Cond.code ({ cls := "com/example/honest_search/honestsearch/index/PhraseSettings", name := "<init>", desc := "(IIIDDII)V" } : Jvm.MethodName) prog_21_method_1_code (10 : Nat) (Option.none : Option Jvm.ClassFile.FieldType), Jvm.Cond.code ({ cls := "java/lang/Object", name := "<init>", desc := "()V" } : Jvm.MethodName) object_method_1_code (1 : Nat) (Option.none : Option Jvm.ClassFile.FieldType), Jvm.Cond.code ({ cls := "com/example/honest_search/honestsearch/index/PhraseSettings", name := "atLeast", desc := "(IILjava/lang/String;)I" } : Jvm.MethodName) prog_21_method_11_code (3 : Nat) (Option.some Jvm.ClassFile.FieldType.int), Jvm.Cond.code ({ cls := "com/example/honest_search/honestsearch/index/PhraseSettings", name := "gain", desc := "(DLjava/lang/String;)D" } : Jvm.MethodName) prog_21_method_12_code (3 : Nat) (Option.some Jvm.ClassFile.FieldType.double), Jvm.Cond.code ({ cls := "java/lang/Double", name := "isInfinite", desc := "(D)Z" } : Jvm.MethodName) jdk_117_method_7_code (2 : Nat) (Option.some Jvm.ClassFile.FieldType.boolean), Jvm.Cond.code ({ cls := "java/lang/Math", name := "abs", desc := "(D)D" } : Jvm.MethodName) jdk_29_method_64_code (2 : Nat) (Option.some Jvm.ClassFile.FieldType.double), Jvm.Cond.code ({ cls := "com/example/honest_search/honestsearch/index/PhraseSettings", name := "equals", desc := "(Ljava/lang/Object;)Z" } : Jvm.MethodName) prog_21_method_9_code (3 : Nat) (Option.some Jvm.ClassFile.FieldType.boolean), Jvm.Cond.code ({ cls := "java/lang/Integer", name := "valueOf", desc := "(I)Ljava/lang/Integer;" } : Jvm.MethodName) jdk_33_method_22_code (1 : Nat) (Option.some (Jvm.ClassFile.FieldType.object "java/lang/Integer")), Jvm.Cond.code ({ cls := "java/lang/Integer", name := "<init>", desc := "(I)V" } : Jvm.MethodName) jdk_33_method_23_code (2 : Nat) (Option.none : Option Jvm.ClassFile.FieldType), Jvm.Cond.code ({ cls := "java/lang/Number", name := "<init>", desc := "()V" } : Jvm.MethodName) jdk_18_method_1_code (1 : Nat) (Option.none : Option Jvm.ClassFile.FieldType)]
set_option maxRecDepth 65536 in
theorem codes_eq : words1.filter isCode = codes1 := rfl
theorem w_codes : ∀ c ∈ words1.filter isCode, c.before args0 about1 = true := by
  rw [codes_eq]
  intro c hc
  simp only [codes1, List.mem_cons, List.not_mem_nil, or_false] at hc
  rcases hc with rfl | rfl | rfl | rfl | rfl | rfl | rfl | rfl | rfl | rfl | rfl
  · exact w_c0
  · exact w_c1
  · exact w_c2
  · exact w_c3
  · exact w_c4
  · exact w_c5
  · exact w_c6
  · exact w_c7
  · exact w_c8
  · exact w_c9
  · exact w_c10
set_option maxRecDepth 65536 in
theorem w_t1 : (words1.take 24).all (fun c => isCode c || c.before args0 about1) = true := by decide +kernel
set_option maxRecDepth 65536 in
theorem w_t2 : ((words1.drop 24).take 24).all (fun c => isCode c || c.before args0 about1) = true := by decide +kernel
set_option maxRecDepth 65536 in
theorem w_t3 : (((words1.drop 24).drop 24).take 24).all (fun c => isCode c || c.before args0 about1) = true := by decide +kernel
set_option maxRecDepth 65536 in
theorem w_t4 : (((words1.drop 24).drop 24).drop 24).all (fun c => isCode c || c.before args0 about1) = true := by decide +kernel
theorem w_tables : (allAtoms (Jvm.Cond.code x code maxLocals ret :: tables_1)).before args0 about1 = true := by
  rw [allAtoms_all]
  show words1.all (fun c => c.before args0 about1) = true
  refine all_split ?_ w_codes
  rw [← List.take_append_drop 24 words1, List.all_append, w_t1, ← List.take_append_drop 24 (words1.drop 24), List.all_append, w_t2, ← List.take_append_drop 24 ((words1.drop 24).drop 24), List.all_append, w_t3, w_t4]
  rfl
set_option maxRecDepth 65536 in
theorem w_rest : rest_1_c.before args0 about1 = true := by decide +kernel
set_option maxRecDepth 65536 in
theorem w_case : (Jvm.Cond.and given_1 narrow_1).before args0 about1 = true := by decide +kernel
theorem w_applies : (headSpec (Jvm.Cond.code x code maxLocals ret :: tables_1) room_1).applies x e0.platform about1 = true :=
  (Spec.applies_iff w_frames).mpr ⟨w_running, w_runnable, w_alone, w_named, w_hears, w_ripe, w_room, w_tables⟩
theorem atStart : AtStart classFile x code maxLocals ret World_1 tables_1 room_1 Calls_1 rest_1 Pre_1 launch0 p0 e0 about1 theMethod args0 below0 :=
  ⟨lists_1, trivial, launch0.admits_env _ _ _, launch0.least_env, fairChoices_fair.cas, fairChoices_fair.clock, w_frames, w_args, w_heap, w_applies, trivial, w_rest, w_case⟩
end start1
theorem witness_1 : WitnessClaimed_1 := ⟨start1.p0, start1.e0, start1.about1, start1.theMethod, start1.args0, start1.below0, start1.atStart⟩
end Jvm.Pilot.@@N@@
