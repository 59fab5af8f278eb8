import JvmDerived
import JvmDerived.Pilot.@@N@@Statement
import JvmDerived.Pilot.@@N@@Code
set_option linter.unusedVariables false
set_option linter.unusedSimpArgs false
namespace Jvm.RoadKit
open Sem ClassFile Op Lib Jvm.Stand Jvm.Free Jvm.LawKit
section New
variable {p : Program} {l : Launch} {e : Env} {R : Room} {s : State} {m : MethodId} {args : Array Value} {below : List Frame} {meth : Method} {c : Code} {T : State} {locs : List Loc} {cells slots : Nat}
theorem retI (X : Stand p l e R s m args below meth c T locs cells slots) (hx : p.tables.exec = Jvm.exec) {pc : Nat} {Ls : Array Slot} {z : Int32} {rest : List Value} (hret : meth.sig.returnType = some .int) (hd : decode c.code pc = .ok (.ireturn, 1)) {fs : List Frame}
    (hl : ∀ (f : JFrame) (acts : List Action), f.method = m → f.locked = none → f.entered = [] → (doReturn e (T.setTop f) acts (some (.int z))).1 = T.setFrames fs) : Steps p.tables e below (T.setTop (mkF m pc Ls (.int z :: rest))) (T.setFrames fs) := by
  have hm' : T.vm.method? m = some meth := X.method'
  have hn : narrow .int (.int z) = .int z := rfl
  show Steps p.tables e below (T.setTop { method := m, pc := pc, locals := Ls, stack := _ :: rest, locked := none }) _
  jvm_step X.here [X.here.top, hx, hd, hm', hret, hn]
  first | (intro acts; rw [hl _ acts rfl rfl rfl]) | rw [hl _ _ rfl rfl rfl]
  exact Steps.refl _
end New
end Jvm.RoadKit
namespace Jvm.Pilot.@@N@@
open Jvm Jvm.ClassFile Sem Op Lib Jvm.Free Jvm.Stand Jvm.LawKit Jvm.RoadKit Bundle Jvm.Pilot.@@N@@.Jvm.D
section Own
variable {p : Program} {l : Launch} {e : Env} {R : Room} {s : State} {m : MethodId} {args : Array Value} {below : List Frame} {meth : Method} {c : Code} {T T' : State} {locs : List Loc} {cells slots : Nat} {f f' : JFrame} {Q : Option Value → Heap → List Loc → Prop} {ck sk : Nat} {h : Heap} {Z : State}
/-- from here the run comes to its end, and leaves what Q says -/
def Go (p : Program) (e : Env) (below : List Frame) (s : State) (Q : Option Value → Heap → List Loc → Prop) (ck sk : Nat) (T : State) (f : JFrame) : Prop :=
  ∃ s₂ o, Steps p.tables e below (T.setTop f) s₂ ∧ s₂.status = .running ∧ Ended s₂ below o ∧ ∃ v L, o = .returned v ∧ Q v s₂.heap L ∧ FrameEnd s o s₂ L ck sk
theorem Go.step (st : ∀ t, Steps p.tables e below (T'.setTop f') t → Steps p.tables e below (T.setTop f) t) (k : Go p e below s Q ck sk T' f') : Go p e below s Q ck sk T f := by
  obtain ⟨s₂, o, h1, r⟩ := k; exact ⟨s₂, o, st _ h1, r⟩
theorem Go.via (st : Steps p.tables e below (T.setTop f) (T'.setTop f')) (k : Go p e below s Q ck sk T' f') : Go p e below s Q ck sk T f := by
  obtain ⟨s₂, o, h1, r⟩ := k; exact ⟨s₂, o, st.trans h1, r⟩
theorem Go.retI (X : Stand p l e R s m args below meth c T locs cells slots) (hx : p.tables.exec = Jvm.exec) (hlk : meth.locks = false) {pc : Nat} {Ls : Array Slot} {z : Int32} {rest : List Value} (hret : meth.sig.returnType = some .int) (hd : decode c.code pc = .ok (.ireturn, 1)) (eT : T.heap = h) (hq : Q (some (.int z)) h locs) (hck : cells ≤ ck) (hsk : slots ≤ sk) : Go p e below s Q ck sk T (mkF m pc Ls (.int z :: rest)) := by
  subst eT
  obtain ⟨fs, hr, hrun, hended, hW, hsame⟩ := X.leave (v := some (.int z)) (fun h => by rw [hret] at h; cases h) hlk
  exact ⟨_, _, Jvm.RoadKit.retI X hx hret hd hr, hrun, hended, _, _, rfl, hq, ⟨_, rfl⟩, hW, hsame.mono hck hsk⟩
theorem Go.retZ (X : Stand p l e R s m args below meth c T locs cells slots) (hx : p.tables.exec = Jvm.exec) (hlk : meth.locks = false) {pc : Nat} {Ls : Array Slot} {z : Int32} {rest : List Value} {t : FieldType} (hret : meth.sig.returnType = some t) (ht : t = .boolean ∨ t = .byte ∨ t = .char ∨ t = .short) (hd : decode c.code pc = .ok (.ireturn, 1)) (eT : T.heap = h) (hq : Q (some (.int (nar t z))) h locs) (hck : cells ≤ ck) (hsk : slots ≤ sk) : Go p e below s Q ck sk T (mkF m pc Ls (.int z :: rest)) := by
  subst eT
  obtain ⟨fs, hr, hrun, hended, hW, hsame⟩ := X.leave (v := some (.int (nar t z))) (fun h => by rw [hret] at h; cases h) hlk
  exact ⟨_, _, retN X hx hret ht hd hr, hrun, hended, _, _, rfl, hq, ⟨_, rfl⟩, hW, hsame.mono hck hsk⟩
theorem Go.retV (X : Stand p l e R s m args below meth c T locs cells slots) (hx : p.tables.exec = Jvm.exec) (hlk : meth.locks = false) {pc : Nat} {Ls : Array Slot} (hret : meth.sig.returnType = none) (hd : decode c.code pc = .ok (.return_, 1)) (eT : T.heap = h) (hq : Q none h locs) (hck : cells ≤ ck) (hsk : slots ≤ sk) : Go p e below s Q ck sk T (mkF m pc Ls []) := by
  subst eT
  obtain ⟨fs, hr, hrun, hended, hW, hsame⟩ := X.leave (v := none) (fun _ => rfl) hlk
  exact ⟨_, _, X.returnOut hx hret hd hr, hrun, hended, _, _, rfl, hq, ⟨_, rfl⟩, hW, hsame.mono hck hsk⟩
theorem Go.retJ (X : Stand p l e R s m args below meth c T locs cells slots) (hx : p.tables.exec = Jvm.exec) (hlk : meth.locks = false) {pc : Nat} {Ls : Array Slot} {z : Int64} {rest : List Value} (hret : meth.sig.returnType = some .long) (hd : decode c.code pc = .ok (.lreturn, 1)) (eT : T.heap = h) (hq : Q (some (.long z)) h locs) (hck : cells ≤ ck) (hsk : slots ≤ sk) : Go p e below s Q ck sk T (mkF m pc Ls (.long z :: rest)) := by
  subst eT
  obtain ⟨fs, hr, hrun, hended, hW, hsame⟩ := X.leave (v := some (.long z)) (fun h => by rw [hret] at h; cases h) hlk
  exact ⟨_, _, retOut X hx hret rfl (Or.inr (Or.inl ⟨rfl, rfl, _, rfl⟩)) hd hr, hrun, hended, _, _, rfl, hq, ⟨_, rfl⟩, hW, hsame.mono hck hsk⟩
theorem own_nar_ref {t : FieldType} {w : Value} (h1 : t.isReference = true) (h2 : w.isRef = true) : narrow t w = w := by
  cases t <;> first | (cases h1; done) | (cases w <;> first | rfl | (cases h2; done))
theorem Go.retA (X : Stand p l e R s m args below meth c T locs cells slots) (hx : p.tables.exec = Jvm.exec) (hlk : meth.locks = false) {pc : Nat} {Ls : Array Slot} {w : Value} {rest : List Value} {t : FieldType} (hret : meth.sig.returnType = some t) (ht : t.isReference = true) (hw : w.isRef = true) (hd : decode c.code pc = .ok (.areturn, 1)) (eT : T.heap = h) (hq : Q (some w) h locs) (hck : cells ≤ ck) (hsk : slots ≤ sk) : Go p e below s Q ck sk T (mkF m pc Ls (w :: rest)) := by
  subst eT
  obtain ⟨fs, hr, hrun, hended, hW, hsame⟩ := X.leave (v := some w) (fun h => by rw [hret] at h; cases h) hlk
  exact ⟨_, _, retOut X hx hret (own_nar_ref ht hw) (Or.inr (Or.inr (Or.inr (Or.inr ⟨rfl, ht, hw⟩)))) hd hr, hrun, hended, _, _, rfl, hq, ⟨_, rfl⟩, hW, hsame.mono hck hsk⟩
theorem own_old_le {n0 : Nat} (o : Old Z n0 h) : n0 ≤ h.size := o.1 ▸ o.2.1
theorem own_alen (X : Stand p l e R s m args below meth c T locs cells slots) (hx : p.tables.exec = Jvm.exec) (hZ : Z.Warmed39 s.vm) (eT : T.heap = h) {a : Addr} {cl : Cell} {ty : FieldType} (A : Arr Z h a cl ty) {z : Int32} (S : cl.slots.size = z.toNatClampNeg) (N : ¬ z < 0) {g : JFrame} (hg : g.method = m) {rest : List Value} (hs : g.stack = .ref a :: rest) (hd : decode c.code g.pc = .ok (.arraylength, 1)) {t : State}
    (k : Steps p.tables e below (T.setTop { g with pc := g.pc + 1, stack := .int z :: rest }) t) : Steps p.tables e below (T.setTop g) t :=
  X.arraylength hx (by rw [eT]; exact A.1) (State.isArrayOf_alike hZ.alike A.2.1) hg hs hd _ (by rw [len_of S N]; exact k)
theorem own_fld_start {args : Array Value} {s : State} {t : Term} {a : Addr} {C n d : String} {k : Int32} (ev : t.eval args s none [] s = some (.ref a)) (h : (Jvm.Cond.eq (.field t C n d) (.int k)).value args s none s [] = some true) : Fld s s.heap a C n d (.int k) := by
  refine Fld.start ?_
  rw [← fld_at ev]
  obtain ⟨x, y, h1, h2, h3, h4⟩ := cmp_v (Or.inl h)
  have h2' : (Value.int k) = y := Option.some.inj h2
  subst h2'
  obtain ⟨z, rfl⟩ := h4
  have q := gotT (Jvm.Cond.eq_ints h1 h2) h
  rw [h1, q]
theorem own_nar8 (z : Int32) : z.toInt8.toInt32.toInt8.toInt32 = z.toInt8.toInt32 := by simp
end Own
section OwnH
variable {p : Program} {l : Launch} {e : Env} {R : Room} {s : State} {m : MethodId} {args : Array Value} {below : List Frame} {meth : Method} {c : Code} {T T' : State} {locs : List Loc} {cells slots : Nat} {f f' : JFrame} {Q : Option Value → Heap → List Loc → Prop} {ck sk : Nat} {h : Heap} {Z : State} {EL : List (String × Nat)} {a0 : Array Value} {vm0 : Vm} {k0 : Nat}
/-- as Go, where String constants may be loaded on the way -/
def GoH (p : Program) (e : Env) (below : List Frame) (s : State) (Z : State) (EL : List (String × Nat)) (Q : Option Value → Heap → List Loc → Prop) (ck sk : Nat) (T : State) (f : JFrame) : Prop :=
  ∃ s₂ o, Steps p.tables e below (T.setTop f) s₂ ∧ s₂.status = .running ∧ Ended s₂ below o ∧ ∃ v L, o = .returned v ∧ Q v s₂.heap L ∧ CHr Z EL s.vm s.heap s₂.vm s₂.heap ∧ ReturnedEndW s o s₂ L ck sk
theorem GoH.step (st : ∀ t, Steps p.tables e below (T'.setTop f') t → Steps p.tables e below (T.setTop f) t) (k : GoH p e below s Z EL Q ck sk T' f') : GoH p e below s Z EL Q ck sk T f := by
  obtain ⟨s₂, o, h1, r⟩ := k; exact ⟨s₂, o, st _ h1, r⟩
theorem GoH.via (st : Steps p.tables e below (T.setTop f) (T'.setTop f')) (k : GoH p e below s Z EL Q ck sk T' f') : GoH p e below s Z EL Q ck sk T f := by
  obtain ⟨s₂, o, h1, r⟩ := k; exact ⟨s₂, o, st.trans h1, r⟩
theorem GoH.fin (X : Stand p l e R (s.setVm vm0) m args below meth c T locs cells slots) (hZ : Z.Warmed39 vm0) (hEL : EW Z a0 EL) (hS : s.Since vm0 k0) (hk : k0 ≤ h.size) (hC : CHr Z EL s.vm s.heap vm0 h) (hlk : meth.locks = false) {v : Option Value} (hv : meth.sig.returnType = none → v = none)
    (hst : ∀ fs, (∀ (f : JFrame) (acts : List Action), f.method = m → f.locked = none → f.entered = [] → (doReturn e (T.setTop f) acts v).1 = T.setFrames fs) → Steps p.tables e below (T.setTop f) (T.setFrames fs)) (eT : T.heap = h) (hq : Q v h locs) (hck : cells ≤ ck) (hsk : slots ≤ sk) : GoH p e below s Z EL Q ck sk T f := by
  subst eT
  obtain ⟨fs, hr, hrun, hended, hE⟩ := X.leaveW hS hk hv hlk
  exact ⟨_, _, hst fs hr, hrun, hended, _, _, rfl, hq, (show CHr Z EL s.vm s.heap (T.setFrames fs).vm (T.setFrames fs).heap from (hC.trans (CHv.at X hZ hEL hC.1) : CHr Z EL s.vm s.heap T.vm T.heap)), hE.1, hE.2.1, hE.2.2.1, hE.2.2.2.mono hck hsk⟩
theorem own_wS (hw : ∀ d ∈ tables_1, d.before a0 Z = true) : ∀ a ∈ Bundle.stringAtoms, a.before a0 Z = true := fun d hd => hw d ((by decide +kernel : ∀ w ∈ Bundle.stringAtoms, w ∈ tables_1) d hd)
theorem own_fcast {a : Addr} {C n d : String} {v w : Value} (e : v = w) (F : Fld Z h a C n d v) : Fld Z h a C n d w := e ▸ F
end OwnH
def own_EL : List (String × Nat) := []
def own_sa (c : Int32) (a b d e : Addr) : Addr := if c = 0 then a else if c = 1 then b else if c = 2 then d else e
def own_sb (c : Int32) (a b : Addr) : Addr := if c = 4 then a else b
def own_val (j : Int32) : Value := .int (j - 128)
theorem own_ns_root {Z : State} {a0 : Array Value} {O K : String} {n : Nat} (w : (Jvm.Cond.noSuperclass O).before a0 Z = true) (wi : (Jvm.Cond.instantiable K n).before a0 Z = true) (hn : O ≠ K) : NS Z O K := by
  obtain ⟨c, k, h1, h2, h3, -, -⟩ := Cond.noSuperclass_spec w
  obtain ⟨t, kt, g1, -⟩ := Cond.instantiable_spec wi
  have ne := ids_ne h1 g1 hn
  refine ⟨c, t, h1, g1, fun fuel => ?_⟩
  cases fuel with
  | zero => rfl
  | succ f => simp [Vm.isSubclassAux, ne, h2, h3]
theorem own_ns_no {Z : State} {a0 : Array Value} {C S K : String} {n : Nat} (w : (Jvm.Cond.superclass C S).before a0 Z = true) (wi : (Jvm.Cond.instantiable K n).before a0 Z = true) (m : NS Z C K) (hn : C ≠ K) : ∃ c t, Z.vm.findClass C = some c ∧ Z.vm.findClass K = some t ∧ Z.vm.assignable c t = false := by
  obtain ⟨c, t, h0, g0, n3⟩ := m
  obtain ⟨p, k, kp, h1, h2, h3, h4, h5, -, h7⟩ := Cond.superclass_spec h0 w
  obtain ⟨t', kt, g1, g2, g3, g4, -⟩ := Cond.instantiable_spec wi
  cases g0.symm.trans g1
  have ne := ids_ne h0 g0 hn
  have g5 : kt.isInterface = false := by cases hq : kt.isInterface <;> simp [hq] at g4 ⊢
  refine ⟨c, t, h0, g0, ?_⟩
  show Z.vm.assignableAux (255 + 1) c t = false
  simp [Vm.assignableAux, ne, h2, g2, h5, g3, g5, Vm.isSubclass, n3]
/-- Integer is no subclass of Position -/
theorem own_notsub {Z : State} {a0 : Array Value} (hw : ∀ d ∈ tables_1, d.before a0 Z = true) : ∃ c t, Z.vm.findClass "java/lang/Integer" = some c ∧ Z.vm.findClass "com/example/unwind/unwind/saga/Position" = some t ∧ Z.vm.assignable c t = false :=
  own_ns_no (hw _ (List.mem_of_getElem? (i := 58) rfl)) (hw _ (List.mem_of_getElem? (i := 6) rfl)) (NS.step (hw _ (List.mem_of_getElem? (i := 58) rfl)) (NS.step (hw _ (List.mem_of_getElem? (i := 59) rfl)) (own_ns_root (hw _ (List.mem_of_getElem? (i := 60) rfl)) (hw _ (List.mem_of_getElem? (i := 6) rfl)) (by decide)) (by decide)) (by decide)) (by decide)
theorem own_cidx {i : Int32} (h0 : ¬ i < (0 : Int32)) (h1 : ¬ (127 : Int32) < i) : ¬ (i + (128 : Int32)) < 0 ∧ (i + (128 : Int32)) < (256 : Int32) := by
  have e0 : (0 : Int32).toInt = 0 := rfl
  have e1 : (127 : Int32).toInt = 127 := by decide
  have e2 : (128 : Int32).toInt = 128 := by decide
  have e3 : (256 : Int32).toInt = 256 := by decide
  have q := c_iadd i 128; have r := rng32 (i + 128)
  simp only [Int32.lt_iff_toInt_lt] at *
  omega
theorem own_nonneg (x : Int32) : ¬ (x &&& (2147483647 : Int32)) < (0 : Int32) := by
  have h := c_and x 2147483647 (by decide)
  have e0 : (0 : Int32).toInt = 0 := rfl
  rw [Int32.lt_iff_toInt_lt]; omega
theorem own_not128 {i : Int32} (h0 : ¬ i < (0 : Int32)) : ¬ i < (-128 : Int32) := by
  have e0 : (0 : Int32).toInt = 0 := rfl
  have e1 : (-128 : Int32).toInt = -128 := by decide
  simp only [Int32.lt_iff_toInt_lt] at *
  omega
def own_six (c : Int32) : Prop := c = 0 ∨ c = 1 ∨ c = 2 ∨ c = 3 ∨ c = 4 ∨ c = 5
theorem own_split {c : Int32} (h : own_six c) : (c = 0 ∨ c = 1 ∨ c = 2 ∨ c = 3) ∨ (c = 4 ∨ c = 5) := by
  rcases h with h | h | h | h | h | h <;> simp [h]
theorem own_saI {c c' : Int32} {a b d e : Addr} (h : c = 0 ∨ c = 1 ∨ c = 2 ∨ c = 3) (h' : c' = 0 ∨ c' = 1 ∨ c' = 2 ∨ c' = 3) (n1 : a ≠ b) (n2 : a ≠ d) (n3 : a ≠ e) (n4 : b ≠ d) (n5 : b ≠ e) (n6 : d ≠ e) : own_sa c a b d e = own_sa c' a b d e ↔ c = c' := by
  rcases h with rfl | rfl | rfl | rfl <;> rcases h' with rfl | rfl | rfl | rfl <;> simp [own_sa, n1, n2, n3, n4, n5, n6, n1.symm, n2.symm, n3.symm, n4.symm, n5.symm, n6.symm]
theorem own_sbI {c c' : Int32} {a b : Addr} (h : c = 4 ∨ c = 5) (h' : c' = 4 ∨ c' = 5) (n1 : a ≠ b) : own_sb c a b = own_sb c' a b ↔ c = c' := by
  rcases h with rfl | rfl <;> rcases h' with rfl | rfl <;> simp [own_sb, n1, n1.symm]
theorem own_apart {c c' : Int32} (h : c = 0 ∨ c = 1 ∨ c = 2 ∨ c = 3) (h' : c' = 4 ∨ c' = 5) : ¬ c = c' := by
  rcases h with rfl | rfl | rfl | rfl <;> rcases h' with rfl | rfl <;> decide
theorem own_len {args : Array Value} {s : State} {t : Term} {a : Addr} {c : Cell} {z : Int32} (ev : t.eval args s none [] s = some (.ref a)) (A : s.arrayAt? a = some c) (h : (Term.length t).eval args s none [] s = some (.int z)) : c.slots.size < 2 ^ 31 ∧ c.slots.size.toInt32 = z := by
  by_cases q : c.slots.size < 2 ^ 31
  · rw [len_f ev A q] at h; exact ⟨q, by simpa using h⟩
  · simp [Term.eval, ev, A, q] at h
theorem own_m6 (x : Int32) : ((x &&& (2147483647 : Int32)) % (6 : Int32)) = (0 : Int32) ∨ ((x &&& (2147483647 : Int32)) % (6 : Int32)) = (1 : Int32) ∨ ((x &&& (2147483647 : Int32)) % (6 : Int32)) = (2 : Int32) ∨ ((x &&& (2147483647 : Int32)) % (6 : Int32)) = (3 : Int32) ∨ ((x &&& (2147483647 : Int32)) % (6 : Int32)) = (4 : Int32) ∨ ((x &&& (2147483647 : Int32)) % (6 : Int32)) = (5 : Int32) := by
  have h1 := c_and x (2147483647 : Int32) (by decide)
  have h2 := (c_irem (x &&& (2147483647 : Int32)) (6 : Int32) 6 (by decide)).1 h1.1
  have e0 : (0 : Int32).toInt = 0 := by decide
  have e1 : (1 : Int32).toInt = 1 := by decide
  have e2 : (2 : Int32).toInt = 2 := by decide
  have e3 : (3 : Int32).toInt = 3 := by decide
  have e4 : (4 : Int32).toInt = 4 := by decide
  have e5 : (5 : Int32).toInt = 5 := by decide
  simp only [← Int32.toInt_inj]
  omega
theorem d5_0 : decode jdk_31_method_11_code 0 = .ok (.aload_n 0, 1) := by decide +kernel
theorem d5_1 : decode jdk_31_method_11_code 1 = .ok (.ifnonnull 12, 3) := by decide +kernel
theorem d5_13 : decode jdk_31_method_11_code 13 = .ok (.aload_n 0, 1) := by decide +kernel
theorem d5_14 : decode jdk_31_method_11_code 14 = .ok (.areturn, 1) := by decide +kernel
theorem pn_java_util_Objects : plainName "java/util/Objects" = true := by first | (simp [plainName, overriddenIn]; done) | decide +kernel
theorem ef_rnn (m : MethodId) (bo : Addr) (bm : Addr) : entryFrame m #[(.ref bo), (.ref bm)] 2 = mkF m 0 #[.val (.ref bo), .val (.ref bm)] [] := by first | (simp [entryFrame, mkF, argsToLocals, Value.category]; done) | rfl
def Q_rnn (Z : State) (bo : Addr) (bm : Addr) (h0 : Heap) (n0 : Nat) (v : Option Value) (h : Heap) (L : List Loc) : Prop := v = some (.ref bo) ∧ Fr n0 L ∧ h = h0
set_option maxRecDepth 65536 in
set_option maxHeartbeats 40000000 in
theorem rm_rnn (l : Launch) (Z : State) (a0 : Array Value) (hw : ∀ d ∈ tables_1, d.before a0 Z = true) (ws : List Jvm.Cond) (bo : Addr) (bm : Addr) (h0 : Heap) (n0 : Nat) (O0 : Old Z n0 h0) :
    MetFree l (⟨"java/util/Objects", "requireNonNull", "(Ljava/lang/Object;Ljava/lang/String;)Ljava/lang/Object;"⟩ : MethodName) (head1 (Jvm.Cond.code (⟨"java/util/Objects", "requireNonNull", "(Ljava/lang/Object;Ljava/lang/String;)Ljava/lang/Object;"⟩ : MethodName) jdk_31_method_11_code 2 (some (.object "java/lang/Object")) :: ws) ({ frames := 0, cells := 0, slots := 0, locals := 0 } : Room)) (fun a U => a = #[(.ref bo), (.ref bm)] ∧ Z.Warmed39 U.vm ∧ U.heap = h0) (fun _ _ _ _ _ => True) (fun _ U o U' => ∃ v L, o = .returned v ∧ Q_rnn Z bo bm h0 n0 v U'.heap L ∧ FrameEnd U o U' L ({ frames := 0, cells := 0, slots := 0, locals := 0 } : Room).cells ({ frames := 0, cells := 0, slots := 0, locals := 0 } : Room).slots) := by
  refine MetFree.of_bodySF (plainFor_of_name pn_java_util_Objects) hisR ?_
  intro p e s m args below meth c s₁ Bd hml0 hP hK
  obtain ⟨rfl, hZ, hh⟩ := hP
  have hx := Bd.exec
  have hby := Bd.bytes
  have hml : c.maxLocals = 2 := hml0
  have hown : s.vm.findClass "java/util/Objects" = some m.cls := findClass_of_methodNamed Bd.named
  have hnm := (name_of_methodNamed Bd.named Bd.method).1
  have hlk : meth.locks = false := BodyLoose.notSynchronized Bd
  have X0 : Stand p l e ({ frames := 0, cells := 0, slots := 0, locals := 0 } : Room) s m #[(.ref bo), (.ref bm)] below meth c s₁ [] 0 0 := Stand.of_body Bd
  have e0 : s₁.heap = h0 := by rw [← hh, Bd.state]; rfl
  have N0 := Fr.nil n0
  rw [ef_rnn m bo bm]
  show Go p e below s (fun v h L => Q_rnn Z bo bm h0 n0 v h L) ({ frames := 0, cells := 0, slots := 0, locals := 0 } : Room).cells ({ frames := 0, cells := 0, slots := 0, locals := 0 } : Room).slots s₁ (mkF m 0 #[.val (.ref bo), .val (.ref bm)] [])
  refine Go.step (T' := s₁) (f' := (mkF m 1 #[.val (.ref bo), .val (.ref bm)] [(.ref bo)])) (fun t k => XS.aloadN X0.here hx rfl (hb hby d5_0) rfl rfl k) ?_
  refine Go.step (T' := s₁) (f' := (mkF m 13 #[.val (.ref bo), .val (.ref bm)] [])) (fun t k => XS.ifnonnullYes X0.here hx rfl (pc0 := 1) (pc' := 13) rfl (hb hby d5_1) rfl (by decide) (by decide) k) ?_
  refine Go.step (T' := s₁) (f' := (mkF m 14 #[.val (.ref bo), .val (.ref bm)] [(.ref bo)])) (fun t k => XS.aloadN X0.here hx rfl (hb hby d5_13) rfl rfl k) ?_
  refine Go.retA X0 hx hlk Bd.returns rfl rfl (hb hby d5_14) e0 ?_ (by decide) (by decide)
  exact ⟨rfl, N0, rfl⟩
theorem d3_0 : decode prog_14_method_2_code 0 = .ok (.aload_n 0, 1) := by decide +kernel
theorem d3_1 : decode prog_14_method_2_code 1 = .ok (.invokespecial 20, 3) := by decide +kernel
theorem d3_4 : decode prog_14_method_2_code 4 = .ok (.aload_n 0, 1) := by decide +kernel
theorem d3_5 : decode prog_14_method_2_code 5 = .ok (.aload_n 1, 1) := by decide +kernel
theorem d3_6 : decode prog_14_method_2_code 6 = .ok (.ldc 25, 2) := by decide +kernel
theorem d3_8 : decode prog_14_method_2_code 8 = .ok (.invokestatic 27, 3) := by decide +kernel
theorem d3_11 : decode prog_14_method_2_code 11 = .ok (.checkcast 8, 3) := by decide +kernel
theorem d3_14 : decode prog_14_method_2_code 14 = .ok (.putfield 33, 3) := by decide +kernel
theorem d3_17 : decode prog_14_method_2_code 17 = .ok (.iload_n 2, 1) := by decide +kernel
theorem d3_18 : decode prog_14_method_2_code 18 = .ok (.ifCond .ge 17, 3) := by decide +kernel
theorem d3_35 : decode prog_14_method_2_code 35 = .ok (.aload_n 0, 1) := by decide +kernel
theorem d3_36 : decode prog_14_method_2_code 36 = .ok (.iload_n 2, 1) := by decide +kernel
theorem d3_37 : decode prog_14_method_2_code 37 = .ok (.putfield 39, 3) := by decide +kernel
theorem d3_40 : decode prog_14_method_2_code 40 = .ok (.aload_n 0, 1) := by decide +kernel
theorem d3_41 : decode prog_14_method_2_code 41 = .ok (.aload_n 3, 1) := by decide +kernel
theorem d3_42 : decode prog_14_method_2_code 42 = .ok (.putfield 43, 3) := by decide +kernel
theorem d3_45 : decode prog_14_method_2_code 45 = .ok (.return_, 1) := by decide +kernel
theorem pn_com_example_unwind_unwind_saga_Position : plainName "com/example/unwind/unwind/saga/Position" = true := by first | (simp [plainName, overriddenIn]; done) | decide +kernel
theorem pd0 : parseMethodDescriptor "(Ljava/lang/Object;Ljava/lang/String;)Ljava/lang/Object;" = some ⟨[(.object "java/lang/Object"), (.object "java/lang/String")], some (.object "java/lang/Object")⟩ := by decide +kernel
theorem ef_init3n (m : MethodId) (ba : Addr) (bs : Addr) (ia : Int32) : entryFrame m #[(.ref ba), (.ref bs), (.int ia), .null] 4 = mkF m 0 #[.val (.ref ba), .val (.ref bs), .val (.int ia), .val .null] [] := by first | (simp [entryFrame, mkF, argsToLocals, Value.category]; done) | rfl
def Q_init3n (Z : State) (ba : Addr) (bs : Addr) (ia : Int32) (u0 : Value) (u1 : Value) (u2 : Value) (h0 : Heap) (n0 : Nat) (v : Option Value) (h : Heap) (L : List Loc) : Prop := v = none ∧ Fr n0 L ∧ Keep h0 h [ba] ∧ Exa Z h ba "com/example/unwind/unwind/saga/Position" ∧ Fld Z h ba "com/example/unwind/unwind/saga/Position" "state" "Lcom/example/unwind/unwind/saga/SagaState;" (.ref bs) ∧ Fld Z h ba "com/example/unwind/unwind/saga/Position" "step" "I" (.int ia) ∧ Fld Z h ba "com/example/unwind/unwind/saga/Position" "stuckIn" "Lcom/example/unwind/unwind/saga/SagaState;" .null
set_option maxRecDepth 65536 in
set_option maxHeartbeats 40000000 in
theorem rm_init3n (l : Launch) (Z : State) (a0 : Array Value) (hw : ∀ d ∈ tables_1, d.before a0 Z = true) (ws : List Jvm.Cond) (ba : Addr) (bs : Addr) (ia : Int32) (u0 : Value) (u1 : Value) (u2 : Value) (h0 : Heap) (n0 : Nat) (O0 : Old Z n0 h0) (hEL : EW Z a0 own_EL) (P0 : Exa Z h0 ba "com/example/unwind/unwind/saga/Position") (P1 : Fld Z h0 ba "com/example/unwind/unwind/saga/Position" "state" "Lcom/example/unwind/unwind/saga/SagaState;" u0) (P2 : Fld Z h0 ba "com/example/unwind/unwind/saga/Position" "step" "I" u1) (P3 : Fld Z h0 ba "com/example/unwind/unwind/saga/Position" "stuckIn" "Lcom/example/unwind/unwind/saga/SagaState;" u2) (P4 : n0 ≤ ba) (P5 : Exa Z Z.heap bs "com/example/unwind/unwind/saga/SagaState") (hia : ¬ (ia < (0 : Int32))) :
    MetFree l (⟨"com/example/unwind/unwind/saga/Position", "<init>", "(Lcom/example/unwind/unwind/saga/SagaState;ILcom/example/unwind/unwind/saga/SagaState;)V"⟩ : MethodName) (head1 (Jvm.Cond.code (⟨"com/example/unwind/unwind/saga/Position", "<init>", "(Lcom/example/unwind/unwind/saga/SagaState;ILcom/example/unwind/unwind/saga/SagaState;)V"⟩ : MethodName) prog_14_method_2_code 4 none :: ws) ({ frames := 1, cells := 2, slots := 24, locals := 14 } : Room)) (fun a U => a = #[(.ref ba), (.ref bs), (.int ia), .null] ∧ Z.Warmed39 U.vm ∧ U.heap = h0 ∧ CHv Z own_EL U.vm h0) (fun _ _ _ _ _ => True) (fun _ U o U' => ∃ v L, o = .returned v ∧ Q_init3n Z ba bs ia u0 u1 u2 h0 n0 v U'.heap L ∧ CHr Z own_EL U.vm U.heap U'.vm U'.heap ∧ ReturnedEndW U o U' L ({ frames := 1, cells := 2, slots := 24, locals := 14 } : Room).cells ({ frames := 1, cells := 2, slots := 24, locals := 14 } : Room).slots) := by
  refine MetFree.of_bodySF (plainFor_of_name pn_com_example_unwind_unwind_saga_Position) hisR ?_
  intro p e s m args below meth c s₁ Bd hml0 hP hK
  obtain ⟨rfl, hZ, hh, hC0⟩ := hP
  have hx := Bd.exec
  have hby := Bd.bytes
  have hml : c.maxLocals = 4 := hml0
  have hown : (s.setVm s.vm).vm.findClass "com/example/unwind/unwind/saga/Position" = some m.cls := findClass_of_methodNamed Bd.named
  have hnm := (name_of_methodNamed Bd.named Bd.method).1
  have hlk : meth.locks = false := BodyLoose.notSynchronized Bd
  have X0 : Stand p l e ({ frames := 1, cells := 2, slots := 24, locals := 14 } : Room) (s.setVm s.vm) m #[(.ref ba), (.ref bs), (.int ia), .null] below meth c s₁ [] 0 0 := Stand.of_body Bd
  have e0 : s₁.heap = h0 := by rw [← hh, Bd.state]; rfl
  have N0 := Fr.nil n0
  have hZ : Z.Warmed39 (s.setVm s.vm).vm := hZ
  have hS0 : s.Since s.vm 0 := (State.WarmedH.refl s).since 0
  have hk0 : 0 ≤ h0.size := Nat.zero_le _
  have CR0 : CHr Z own_EL s.vm s.heap s.vm h0 := by rw [hh]; exact CHr.refl hC0
  have K0 := Keep.refl h0 [ba]
  rw [ef_init3n m ba bs ia]
  show GoH p e below s Z own_EL (fun v h L => Q_init3n Z ba bs ia u0 u1 u2 h0 n0 v h L) ({ frames := 1, cells := 2, slots := 24, locals := 14 } : Room).cells ({ frames := 1, cells := 2, slots := 24, locals := 14 } : Room).slots s₁ (mkF m 0 #[.val (.ref ba), .val (.ref bs), .val (.int ia), .val .null] [])
  refine GoH.step (T' := s₁) (f' := (mkF m 1 #[.val (.ref ba), .val (.ref bs), .val (.int ia), .val .null] [(.ref ba)])) (fun t k => XS.aloadN X0.here hx rfl (hb hby d3_0) rfl rfl k) ?_
  obtain ⟨T1, X1, e1, st1⟩ := initO X0 hx hZ hown (hw _ (List.mem_of_getElem? (i := 17) rfl)) (hw _ (List.mem_of_getElem? (i := 18) rfl)) (hw _ (List.mem_of_getElem? (i := 19) rfl)) e0 (g := (mkF m 1 #[.val (.ref ba), .val (.ref bs), .val (.int ia), .val .null] [(.ref ba)])) rfl (by rw [hml]; rfl) rfl (hb hby d3_1) (by decide) (W := 0) (by show 2 * 0 + _ ≤ _; exact Nat.le_of_eq rfl) (by decide)
  refine GoH.step (T' := T1) (f' := (mkF m 4 #[.val (.ref ba), .val (.ref bs), .val (.int ia), .val .null] [])) st1 ?_
  clear st1 X0
  refine GoH.step (T' := T1) (f' := (mkF m 5 #[.val (.ref ba), .val (.ref bs), .val (.int ia), .val .null] [(.ref ba)])) (fun t k => XS.aloadN X1.here hx rfl (hb hby d3_4) rfl rfl k) ?_
  refine GoH.step (T' := T1) (f' := (mkF m 6 #[.val (.ref ba), .val (.ref bs), .val (.int ia), .val .null] [(.ref bs), (.ref ba)])) (fun t k => XS.aloadN X1.here hx rfl (hb hby d3_5) rfl rfl k) ?_
  obtain ⟨a2, T2, h2, kk2, X2, e2, E2, hS2, hk2, hZ, hown, ch2, Li2, st2⟩ := ldcOH (s := s) (vm0 := s.vm) X1 hx hZ hown (hw _ (List.mem_of_getElem? (i := 20) rfl)) (own_wS hw) e1 hS0 hk0 hEL CR0.1 (g := (mkF m 6 #[.val (.ref ba), .val (.ref bs), .val (.int ia), .val .null] [(.ref bs), (.ref ba)])) rfl (hb hby d3_6) (n := 20) (by decide) (by decide) (by decide) (by decide)
  have CR3 := CR0.trans ch2
  have f4 := P0.ext E2
  have f5 := P1.ext E2
  have f6 := P2.ext E2
  have f7 := P3.ext E2
  have O8 := O0.ext E2
  have K9 := K0.ext E2
  refine GoH.step (T' := T2) (f' := (mkF m 8 #[.val (.ref ba), .val (.ref bs), .val (.int ia), .val .null] [(.ref a2), (.ref bs), (.ref ba)])) st2 ?_
  clear st2 X1 CR0 hS0 hk0
  obtain ⟨_, _, ⟨T10, L10, k10, n10⟩, -, X10, ⟨Lc10, hQ10, l10, y10, z10⟩, st10⟩ := Jvm.LawKit.callS X2 hx (y := (⟨"java/util/Objects", "requireNonNull", "(Ljava/lang/Object;Ljava/lang/String;)Ljava/lang/Object;"⟩ : MethodName)) hown (mvT hZ (hw _ (List.mem_of_getElem? (i := 28) rfl))) (mvT hZ (hw _ (List.mem_of_getElem? (i := 29) rfl))) (mvT hZ (hw _ (List.mem_of_getElem? (i := 30) rfl))) (mvT hZ (hw _ (List.mem_of_getElem? (i := 31) rfl))) (by decide) (backOf (W := 1) (rm_rnn l Z a0 hw [] bs a2 h2 n0 O8 ) hZ (hw _ (List.mem_of_getElem? (i := 31) rfl)) (hw _ (List.mem_of_getElem? (i := 30) rfl)) (by decide) (by decide)) (g := (mkF m 8 #[.val (.ref ba), .val (.ref bs), .val (.int ia), .val .null] [(.ref a2), (.ref bs), (.ref ba)])) rfl (by rw [hml]; rfl) (argsL := [(.ref bs), (.ref a2)]) (rest := [(.ref ba)]) (lenOf pd0 rfl) rfl (by show 2 * 0 + _ ≤ _; exact Nat.le_of_eq rfl) (hb hby d3_8) (fun _ _ => ⟨rfl, e2, (by decide : 2 + 0 ≤ _), (by decide : 24 + 0 ≤ _)⟩)
  dsimp only [Pt.U, Pt.locs, Pt.cells, Pt.slots] at X10 l10 y10 z10 st10 hQ10
  subst l10 y10 z10
  obtain ⟨rfl, Nq10, hh10⟩ := hQ10
  have N11 := Fr.app N0 Nq10
  refine GoH.step (T' := T10) (f' := (mkF m 11 #[.val (.ref ba), .val (.ref bs), .val (.int ia), .val .null] [(.ref bs), (.ref ba)])) st10 ?_
  clear st10 X2 Nq10
  obtain ⟨T12, X12, e12, st12⟩ := castY X10 hx hZ hown (hw _ (List.mem_of_getElem? (i := 32) rfl)) hh10 (Ins.self (P5.ext O8.2)) (g := (mkF m 11 #[.val (.ref ba), .val (.ref bs), .val (.int ia), .val .null] [(.ref bs), (.ref ba)])) rfl rfl (hb hby d3_11)
  refine GoH.step (T' := T12) (f' := (mkF m 14 #[.val (.ref ba), .val (.ref bs), .val (.int ia), .val .null] [(.ref bs), (.ref ba)])) st12 ?_
  clear st12 X10
  obtain ⟨T13, h13, X13, e13, W13, st13⟩ := putF X12 hx hZ hown (host := "") (Or.inl (hw _ (List.mem_of_getElem? (i := 34) rfl))) Via.refl e12 f5 f4 (Or.inr ⟨(hw _ (List.mem_of_getElem? (i := 35) rfl)), rfl, hnm⟩) (hw _ (List.mem_of_getElem? (i := 6) rfl)) (ty := (.object "com/example/unwind/unwind/saga/SagaState")) (by decide) rfl rfl (g := (mkF m 14 #[.val (.ref ba), .val (.ref bs), .val (.int ia), .val .null] [(.ref bs), (.ref ba)])) rfl rfl (hb hby d3_14)
  have f14 := f5.same W13
  have sa15 : Safe Z own_EL T2.vm h2 ba := (Safe.exa (EL := own_EL) hZ.alike f4 (by decide) (by decide))
  have CR16 := CR3.trans (CHr.wr W13 sa15 CR3.1)
  have hk17 := (by rw [W13.size]; exact hk2 : _ ≤ h13.size)
  have f18 := f4.wr W13
  have f19 := f6.other W13 (Or.inr (slot_ne (Or.inr (hw _ (List.mem_of_getElem? (i := 37) rfl))) (Or.inr (hw _ (List.mem_of_getElem? (i := 35) rfl))) (by decide) (t := .int) (t' := (.object "com/example/unwind/unwind/saga/SagaState")) (by decide) (by decide)))
  have f20 := f7.other W13 (Or.inr (slot_ne (Or.inr (hw _ (List.mem_of_getElem? (i := 39) rfl))) (Or.inr (hw _ (List.mem_of_getElem? (i := 35) rfl))) (by decide) (t := (.object "com/example/unwind/unwind/saga/SagaState")) (t' := (.object "com/example/unwind/unwind/saga/SagaState")) (by decide) (by decide)))
  have O21 := O8.wr W13 P4
  have K22 := K9.wr W13 (Or.inl (List.mem_of_getElem? (i := 0) rfl))
  have N23 := Fr.snoc X13 N11 P4
  refine GoH.step (T' := T13) (f' := (mkF m 17 #[.val (.ref ba), .val (.ref bs), .val (.int ia), .val .null] [])) st13 ?_
  clear st13 X12 CR3 hk2 sa15 f4 f6 f7 O8 K9 N11
  refine GoH.step (T' := T13) (f' := (mkF m 18 #[.val (.ref ba), .val (.ref bs), .val (.int ia), .val .null] [(.int ia)])) (fun t k => XS.iloadN X13.here hx rfl (hb hby d3_17) rfl k) ?_
  refine GoH.step (T' := T13) (f' := (mkF m 35 #[.val (.ref ba), .val (.ref bs), .val (.int ia), .val .null] [])) (fun t k => XS.ifYes X13.here hx rfl (pc0 := 18) (pc' := 35) rfl (hb hby d3_18) rfl ((if0 _ _).trans (flt hia).2.1) (by decide) (by decide) k) ?_
  refine GoH.step (T' := T13) (f' := (mkF m 36 #[.val (.ref ba), .val (.ref bs), .val (.int ia), .val .null] [(.ref ba)])) (fun t k => XS.aloadN X13.here hx rfl (hb hby d3_35) rfl rfl k) ?_
  refine GoH.step (T' := T13) (f' := (mkF m 37 #[.val (.ref ba), .val (.ref bs), .val (.int ia), .val .null] [(.int ia), (.ref ba)])) (fun t k => XS.iloadN X13.here hx rfl (hb hby d3_36) rfl k) ?_
  obtain ⟨T24, h24, X24, e24, W24, st24⟩ := putF X13 hx hZ hown (host := "") (Or.inl (hw _ (List.mem_of_getElem? (i := 36) rfl))) Via.refl e13 f19 f18 (Or.inr ⟨(hw _ (List.mem_of_getElem? (i := 37) rfl)), rfl, hnm⟩) (hw _ (List.mem_of_getElem? (i := 6) rfl)) (ty := .int) (by decide) rfl rfl (g := (mkF m 37 #[.val (.ref ba), .val (.ref bs), .val (.int ia), .val .null] [(.int ia), (.ref ba)])) rfl rfl (hb hby d3_37)
  have f25 := f19.same W24
  have sa26 : Safe Z own_EL T2.vm h13 ba := (Safe.exa (EL := own_EL) hZ.alike f18 (by decide) (by decide))
  have CR27 := CR16.trans (CHr.wr W24 sa26 CR16.1)
  have hk28 := (by rw [W24.size]; exact hk17 : _ ≤ h24.size)
  have f29 := f18.wr W24
  have f30 := f20.other W24 (Or.inr (slot_ne (Or.inr (hw _ (List.mem_of_getElem? (i := 39) rfl))) (Or.inr (hw _ (List.mem_of_getElem? (i := 37) rfl))) (by decide) (t := (.object "com/example/unwind/unwind/saga/SagaState")) (t' := .int) (by decide) (by decide)))
  have f31 := f14.other W24 (Or.inr (slot_ne (Or.inr (hw _ (List.mem_of_getElem? (i := 35) rfl))) (Or.inr (hw _ (List.mem_of_getElem? (i := 37) rfl))) (by decide) (t := (.object "com/example/unwind/unwind/saga/SagaState")) (t' := .int) (by decide) (by decide)))
  have O32 := O21.wr W24 P4
  have K33 := K22.wr W24 (Or.inl (List.mem_of_getElem? (i := 0) rfl))
  have N34 := Fr.snoc X24 N23 P4
  refine GoH.step (T' := T24) (f' := (mkF m 40 #[.val (.ref ba), .val (.ref bs), .val (.int ia), .val .null] [])) st24 ?_
  clear st24 X13 CR16 hk17 sa26 f18 f20 f14 O21 K22 N23
  refine GoH.step (T' := T24) (f' := (mkF m 41 #[.val (.ref ba), .val (.ref bs), .val (.int ia), .val .null] [(.ref ba)])) (fun t k => XS.aloadN X24.here hx rfl (hb hby d3_40) rfl rfl k) ?_
  refine GoH.step (T' := T24) (f' := (mkF m 42 #[.val (.ref ba), .val (.ref bs), .val (.int ia), .val .null] [.null, (.ref ba)])) (fun t k => XS.aloadN X24.here hx rfl (hb hby d3_41) rfl rfl k) ?_
  obtain ⟨T35, h35, X35, e35, W35, st35⟩ := putF X24 hx hZ hown (host := "") (Or.inl (hw _ (List.mem_of_getElem? (i := 38) rfl))) Via.refl e24 f30 f29 (Or.inr ⟨(hw _ (List.mem_of_getElem? (i := 39) rfl)), rfl, hnm⟩) (hw _ (List.mem_of_getElem? (i := 6) rfl)) (ty := (.object "com/example/unwind/unwind/saga/SagaState")) (by decide) rfl rfl (g := (mkF m 42 #[.val (.ref ba), .val (.ref bs), .val (.int ia), .val .null] [.null, (.ref ba)])) rfl rfl (hb hby d3_42)
  have f36 := f30.same W35
  have sa37 : Safe Z own_EL T2.vm h24 ba := (Safe.exa (EL := own_EL) hZ.alike f29 (by decide) (by decide))
  have CR38 := CR27.trans (CHr.wr W35 sa37 CR27.1)
  have hk39 := (by rw [W35.size]; exact hk28 : _ ≤ h35.size)
  have f40 := f29.wr W35
  have f41 := f31.other W35 (Or.inr (slot_ne (Or.inr (hw _ (List.mem_of_getElem? (i := 35) rfl))) (Or.inr (hw _ (List.mem_of_getElem? (i := 39) rfl))) (by decide) (t := (.object "com/example/unwind/unwind/saga/SagaState")) (t' := (.object "com/example/unwind/unwind/saga/SagaState")) (by decide) (by decide)))
  have f42 := f25.other W35 (Or.inr (slot_ne (Or.inr (hw _ (List.mem_of_getElem? (i := 37) rfl))) (Or.inr (hw _ (List.mem_of_getElem? (i := 39) rfl))) (by decide) (t := .int) (t' := (.object "com/example/unwind/unwind/saga/SagaState")) (by decide) (by decide)))
  have O43 := O32.wr W35 P4
  have K44 := K33.wr W35 (Or.inl (List.mem_of_getElem? (i := 0) rfl))
  have N45 := Fr.snoc X35 N34 P4
  refine GoH.step (T' := T35) (f' := (mkF m 45 #[.val (.ref ba), .val (.ref bs), .val (.int ia), .val .null] [])) st35 ?_
  clear st35 X24 CR27 hk28 sa37 f29 f31 f25 O32 K33 N34
  refine GoH.fin X35 hZ hEL hS2 hk39 CR38 hlk (v := none) (fun _ => rfl) (fun fs hr => X35.returnOut hx Bd.returns (hb hby d3_45) hr) e35 ?_ (by decide) (by decide)
  exact ⟨rfl, N45, K44, f40, f41, f42, f36⟩
theorem ef_init3r (m : MethodId) (ba : Addr) (bs : Addr) (ia : Int32) (bt : Addr) : entryFrame m #[(.ref ba), (.ref bs), (.int ia), (.ref bt)] 4 = mkF m 0 #[.val (.ref ba), .val (.ref bs), .val (.int ia), .val (.ref bt)] [] := by first | (simp [entryFrame, mkF, argsToLocals, Value.category]; done) | rfl
def Q_init3r (Z : State) (ba : Addr) (bs : Addr) (ia : Int32) (bt : Addr) (u0 : Value) (u1 : Value) (u2 : Value) (h0 : Heap) (n0 : Nat) (v : Option Value) (h : Heap) (L : List Loc) : Prop := v = none ∧ Fr n0 L ∧ Keep h0 h [ba] ∧ Exa Z h ba "com/example/unwind/unwind/saga/Position" ∧ Fld Z h ba "com/example/unwind/unwind/saga/Position" "state" "Lcom/example/unwind/unwind/saga/SagaState;" (.ref bs) ∧ Fld Z h ba "com/example/unwind/unwind/saga/Position" "step" "I" (.int ia) ∧ Fld Z h ba "com/example/unwind/unwind/saga/Position" "stuckIn" "Lcom/example/unwind/unwind/saga/SagaState;" (.ref bt)
set_option maxRecDepth 65536 in
set_option maxHeartbeats 40000000 in
theorem rm_init3r (l : Launch) (Z : State) (a0 : Array Value) (hw : ∀ d ∈ tables_1, d.before a0 Z = true) (ws : List Jvm.Cond) (ba : Addr) (bs : Addr) (ia : Int32) (bt : Addr) (u0 : Value) (u1 : Value) (u2 : Value) (h0 : Heap) (n0 : Nat) (O0 : Old Z n0 h0) (hEL : EW Z a0 own_EL) (P0 : Exa Z h0 ba "com/example/unwind/unwind/saga/Position") (P1 : Fld Z h0 ba "com/example/unwind/unwind/saga/Position" "state" "Lcom/example/unwind/unwind/saga/SagaState;" u0) (P2 : Fld Z h0 ba "com/example/unwind/unwind/saga/Position" "step" "I" u1) (P3 : Fld Z h0 ba "com/example/unwind/unwind/saga/Position" "stuckIn" "Lcom/example/unwind/unwind/saga/SagaState;" u2) (P4 : n0 ≤ ba) (P5 : Exa Z Z.heap bs "com/example/unwind/unwind/saga/SagaState") (hia : ¬ (ia < (0 : Int32))) :
    MetFree l (⟨"com/example/unwind/unwind/saga/Position", "<init>", "(Lcom/example/unwind/unwind/saga/SagaState;ILcom/example/unwind/unwind/saga/SagaState;)V"⟩ : MethodName) (head1 (Jvm.Cond.code (⟨"com/example/unwind/unwind/saga/Position", "<init>", "(Lcom/example/unwind/unwind/saga/SagaState;ILcom/example/unwind/unwind/saga/SagaState;)V"⟩ : MethodName) prog_14_method_2_code 4 none :: ws) ({ frames := 1, cells := 2, slots := 24, locals := 14 } : Room)) (fun a U => a = #[(.ref ba), (.ref bs), (.int ia), (.ref bt)] ∧ Z.Warmed39 U.vm ∧ U.heap = h0 ∧ CHv Z own_EL U.vm h0) (fun _ _ _ _ _ => True) (fun _ U o U' => ∃ v L, o = .returned v ∧ Q_init3r Z ba bs ia bt u0 u1 u2 h0 n0 v U'.heap L ∧ CHr Z own_EL U.vm U.heap U'.vm U'.heap ∧ ReturnedEndW U o U' L ({ frames := 1, cells := 2, slots := 24, locals := 14 } : Room).cells ({ frames := 1, cells := 2, slots := 24, locals := 14 } : Room).slots) := by
  refine MetFree.of_bodySF (plainFor_of_name pn_com_example_unwind_unwind_saga_Position) hisR ?_
  intro p e s m args below meth c s₁ Bd hml0 hP hK
  obtain ⟨rfl, hZ, hh, hC0⟩ := hP
  have hx := Bd.exec
  have hby := Bd.bytes
  have hml : c.maxLocals = 4 := hml0
  have hown : (s.setVm s.vm).vm.findClass "com/example/unwind/unwind/saga/Position" = some m.cls := findClass_of_methodNamed Bd.named
  have hnm := (name_of_methodNamed Bd.named Bd.method).1
  have hlk : meth.locks = false := BodyLoose.notSynchronized Bd
  have X0 : Stand p l e ({ frames := 1, cells := 2, slots := 24, locals := 14 } : Room) (s.setVm s.vm) m #[(.ref ba), (.ref bs), (.int ia), (.ref bt)] below meth c s₁ [] 0 0 := Stand.of_body Bd
  have e0 : s₁.heap = h0 := by rw [← hh, Bd.state]; rfl
  have N0 := Fr.nil n0
  have hZ : Z.Warmed39 (s.setVm s.vm).vm := hZ
  have hS0 : s.Since s.vm 0 := (State.WarmedH.refl s).since 0
  have hk0 : 0 ≤ h0.size := Nat.zero_le _
  have CR0 : CHr Z own_EL s.vm s.heap s.vm h0 := by rw [hh]; exact CHr.refl hC0
  have K0 := Keep.refl h0 [ba]
  rw [ef_init3r m ba bs ia bt]
  show GoH p e below s Z own_EL (fun v h L => Q_init3r Z ba bs ia bt u0 u1 u2 h0 n0 v h L) ({ frames := 1, cells := 2, slots := 24, locals := 14 } : Room).cells ({ frames := 1, cells := 2, slots := 24, locals := 14 } : Room).slots s₁ (mkF m 0 #[.val (.ref ba), .val (.ref bs), .val (.int ia), .val (.ref bt)] [])
  refine GoH.step (T' := s₁) (f' := (mkF m 1 #[.val (.ref ba), .val (.ref bs), .val (.int ia), .val (.ref bt)] [(.ref ba)])) (fun t k => XS.aloadN X0.here hx rfl (hb hby d3_0) rfl rfl k) ?_
  obtain ⟨T46, X46, e46, st46⟩ := initO X0 hx hZ hown (hw _ (List.mem_of_getElem? (i := 17) rfl)) (hw _ (List.mem_of_getElem? (i := 18) rfl)) (hw _ (List.mem_of_getElem? (i := 19) rfl)) e0 (g := (mkF m 1 #[.val (.ref ba), .val (.ref bs), .val (.int ia), .val (.ref bt)] [(.ref ba)])) rfl (by rw [hml]; rfl) rfl (hb hby d3_1) (by decide) (W := 0) (by show 2 * 0 + _ ≤ _; exact Nat.le_of_eq rfl) (by decide)
  refine GoH.step (T' := T46) (f' := (mkF m 4 #[.val (.ref ba), .val (.ref bs), .val (.int ia), .val (.ref bt)] [])) st46 ?_
  clear st46 X0
  refine GoH.step (T' := T46) (f' := (mkF m 5 #[.val (.ref ba), .val (.ref bs), .val (.int ia), .val (.ref bt)] [(.ref ba)])) (fun t k => XS.aloadN X46.here hx rfl (hb hby d3_4) rfl rfl k) ?_
  refine GoH.step (T' := T46) (f' := (mkF m 6 #[.val (.ref ba), .val (.ref bs), .val (.int ia), .val (.ref bt)] [(.ref bs), (.ref ba)])) (fun t k => XS.aloadN X46.here hx rfl (hb hby d3_5) rfl rfl k) ?_
  obtain ⟨a47, T47, h47, kk47, X47, e47, E47, hS47, hk47, hZ, hown, ch47, Li47, st47⟩ := ldcOH (s := s) (vm0 := s.vm) X46 hx hZ hown (hw _ (List.mem_of_getElem? (i := 20) rfl)) (own_wS hw) e46 hS0 hk0 hEL CR0.1 (g := (mkF m 6 #[.val (.ref ba), .val (.ref bs), .val (.int ia), .val (.ref bt)] [(.ref bs), (.ref ba)])) rfl (hb hby d3_6) (n := 20) (by decide) (by decide) (by decide) (by decide)
  have CR48 := CR0.trans ch47
  have f49 := P0.ext E47
  have f50 := P1.ext E47
  have f51 := P2.ext E47
  have f52 := P3.ext E47
  have O53 := O0.ext E47
  have K54 := K0.ext E47
  refine GoH.step (T' := T47) (f' := (mkF m 8 #[.val (.ref ba), .val (.ref bs), .val (.int ia), .val (.ref bt)] [(.ref a47), (.ref bs), (.ref ba)])) st47 ?_
  clear st47 X46 CR0 hS0 hk0
  obtain ⟨_, _, ⟨T55, L55, k55, n55⟩, -, X55, ⟨Lc55, hQ55, l55, y55, z55⟩, st55⟩ := Jvm.LawKit.callS X47 hx (y := (⟨"java/util/Objects", "requireNonNull", "(Ljava/lang/Object;Ljava/lang/String;)Ljava/lang/Object;"⟩ : MethodName)) hown (mvT hZ (hw _ (List.mem_of_getElem? (i := 28) rfl))) (mvT hZ (hw _ (List.mem_of_getElem? (i := 29) rfl))) (mvT hZ (hw _ (List.mem_of_getElem? (i := 30) rfl))) (mvT hZ (hw _ (List.mem_of_getElem? (i := 31) rfl))) (by decide) (backOf (W := 1) (rm_rnn l Z a0 hw [] bs a47 h47 n0 O53 ) hZ (hw _ (List.mem_of_getElem? (i := 31) rfl)) (hw _ (List.mem_of_getElem? (i := 30) rfl)) (by decide) (by decide)) (g := (mkF m 8 #[.val (.ref ba), .val (.ref bs), .val (.int ia), .val (.ref bt)] [(.ref a47), (.ref bs), (.ref ba)])) rfl (by rw [hml]; rfl) (argsL := [(.ref bs), (.ref a47)]) (rest := [(.ref ba)]) (lenOf pd0 rfl) rfl (by show 2 * 0 + _ ≤ _; exact Nat.le_of_eq rfl) (hb hby d3_8) (fun _ _ => ⟨rfl, e47, (by decide : 2 + 0 ≤ _), (by decide : 24 + 0 ≤ _)⟩)
  dsimp only [Pt.U, Pt.locs, Pt.cells, Pt.slots] at X55 l55 y55 z55 st55 hQ55
  subst l55 y55 z55
  obtain ⟨rfl, Nq55, hh55⟩ := hQ55
  have N56 := Fr.app N0 Nq55
  refine GoH.step (T' := T55) (f' := (mkF m 11 #[.val (.ref ba), .val (.ref bs), .val (.int ia), .val (.ref bt)] [(.ref bs), (.ref ba)])) st55 ?_
  clear st55 X47 Nq55
  obtain ⟨T57, X57, e57, st57⟩ := castY X55 hx hZ hown (hw _ (List.mem_of_getElem? (i := 32) rfl)) hh55 (Ins.self (P5.ext O53.2)) (g := (mkF m 11 #[.val (.ref ba), .val (.ref bs), .val (.int ia), .val (.ref bt)] [(.ref bs), (.ref ba)])) rfl rfl (hb hby d3_11)
  refine GoH.step (T' := T57) (f' := (mkF m 14 #[.val (.ref ba), .val (.ref bs), .val (.int ia), .val (.ref bt)] [(.ref bs), (.ref ba)])) st57 ?_
  clear st57 X55
  obtain ⟨T58, h58, X58, e58, W58, st58⟩ := putF X57 hx hZ hown (host := "") (Or.inl (hw _ (List.mem_of_getElem? (i := 34) rfl))) Via.refl e57 f50 f49 (Or.inr ⟨(hw _ (List.mem_of_getElem? (i := 35) rfl)), rfl, hnm⟩) (hw _ (List.mem_of_getElem? (i := 6) rfl)) (ty := (.object "com/example/unwind/unwind/saga/SagaState")) (by decide) rfl rfl (g := (mkF m 14 #[.val (.ref ba), .val (.ref bs), .val (.int ia), .val (.ref bt)] [(.ref bs), (.ref ba)])) rfl rfl (hb hby d3_14)
  have f59 := f50.same W58
  have sa60 : Safe Z own_EL T47.vm h47 ba := (Safe.exa (EL := own_EL) hZ.alike f49 (by decide) (by decide))
  have CR61 := CR48.trans (CHr.wr W58 sa60 CR48.1)
  have hk62 := (by rw [W58.size]; exact hk47 : _ ≤ h58.size)
  have f63 := f49.wr W58
  have f64 := f51.other W58 (Or.inr (slot_ne (Or.inr (hw _ (List.mem_of_getElem? (i := 37) rfl))) (Or.inr (hw _ (List.mem_of_getElem? (i := 35) rfl))) (by decide) (t := .int) (t' := (.object "com/example/unwind/unwind/saga/SagaState")) (by decide) (by decide)))
  have f65 := f52.other W58 (Or.inr (slot_ne (Or.inr (hw _ (List.mem_of_getElem? (i := 39) rfl))) (Or.inr (hw _ (List.mem_of_getElem? (i := 35) rfl))) (by decide) (t := (.object "com/example/unwind/unwind/saga/SagaState")) (t' := (.object "com/example/unwind/unwind/saga/SagaState")) (by decide) (by decide)))
  have O66 := O53.wr W58 P4
  have K67 := K54.wr W58 (Or.inl (List.mem_of_getElem? (i := 0) rfl))
  have N68 := Fr.snoc X58 N56 P4
  refine GoH.step (T' := T58) (f' := (mkF m 17 #[.val (.ref ba), .val (.ref bs), .val (.int ia), .val (.ref bt)] [])) st58 ?_
  clear st58 X57 CR48 hk47 sa60 f49 f51 f52 O53 K54 N56
  refine GoH.step (T' := T58) (f' := (mkF m 18 #[.val (.ref ba), .val (.ref bs), .val (.int ia), .val (.ref bt)] [(.int ia)])) (fun t k => XS.iloadN X58.here hx rfl (hb hby d3_17) rfl k) ?_
  refine GoH.step (T' := T58) (f' := (mkF m 35 #[.val (.ref ba), .val (.ref bs), .val (.int ia), .val (.ref bt)] [])) (fun t k => XS.ifYes X58.here hx rfl (pc0 := 18) (pc' := 35) rfl (hb hby d3_18) rfl ((if0 _ _).trans (flt hia).2.1) (by decide) (by decide) k) ?_
  refine GoH.step (T' := T58) (f' := (mkF m 36 #[.val (.ref ba), .val (.ref bs), .val (.int ia), .val (.ref bt)] [(.ref ba)])) (fun t k => XS.aloadN X58.here hx rfl (hb hby d3_35) rfl rfl k) ?_
  refine GoH.step (T' := T58) (f' := (mkF m 37 #[.val (.ref ba), .val (.ref bs), .val (.int ia), .val (.ref bt)] [(.int ia), (.ref ba)])) (fun t k => XS.iloadN X58.here hx rfl (hb hby d3_36) rfl k) ?_
  obtain ⟨T69, h69, X69, e69, W69, st69⟩ := putF X58 hx hZ hown (host := "") (Or.inl (hw _ (List.mem_of_getElem? (i := 36) rfl))) Via.refl e58 f64 f63 (Or.inr ⟨(hw _ (List.mem_of_getElem? (i := 37) rfl)), rfl, hnm⟩) (hw _ (List.mem_of_getElem? (i := 6) rfl)) (ty := .int) (by decide) rfl rfl (g := (mkF m 37 #[.val (.ref ba), .val (.ref bs), .val (.int ia), .val (.ref bt)] [(.int ia), (.ref ba)])) rfl rfl (hb hby d3_37)
  have f70 := f64.same W69
  have sa71 : Safe Z own_EL T47.vm h58 ba := (Safe.exa (EL := own_EL) hZ.alike f63 (by decide) (by decide))
  have CR72 := CR61.trans (CHr.wr W69 sa71 CR61.1)
  have hk73 := (by rw [W69.size]; exact hk62 : _ ≤ h69.size)
  have f74 := f63.wr W69
  have f75 := f65.other W69 (Or.inr (slot_ne (Or.inr (hw _ (List.mem_of_getElem? (i := 39) rfl))) (Or.inr (hw _ (List.mem_of_getElem? (i := 37) rfl))) (by decide) (t := (.object "com/example/unwind/unwind/saga/SagaState")) (t' := .int) (by decide) (by decide)))
  have f76 := f59.other W69 (Or.inr (slot_ne (Or.inr (hw _ (List.mem_of_getElem? (i := 35) rfl))) (Or.inr (hw _ (List.mem_of_getElem? (i := 37) rfl))) (by decide) (t := (.object "com/example/unwind/unwind/saga/SagaState")) (t' := .int) (by decide) (by decide)))
  have O77 := O66.wr W69 P4
  have K78 := K67.wr W69 (Or.inl (List.mem_of_getElem? (i := 0) rfl))
  have N79 := Fr.snoc X69 N68 P4
  refine GoH.step (T' := T69) (f' := (mkF m 40 #[.val (.ref ba), .val (.ref bs), .val (.int ia), .val (.ref bt)] [])) st69 ?_
  clear st69 X58 CR61 hk62 sa71 f63 f65 f59 O66 K67 N68
  refine GoH.step (T' := T69) (f' := (mkF m 41 #[.val (.ref ba), .val (.ref bs), .val (.int ia), .val (.ref bt)] [(.ref ba)])) (fun t k => XS.aloadN X69.here hx rfl (hb hby d3_40) rfl rfl k) ?_
  refine GoH.step (T' := T69) (f' := (mkF m 42 #[.val (.ref ba), .val (.ref bs), .val (.int ia), .val (.ref bt)] [(.ref bt), (.ref ba)])) (fun t k => XS.aloadN X69.here hx rfl (hb hby d3_41) rfl rfl k) ?_
  obtain ⟨T80, h80, X80, e80, W80, st80⟩ := putF X69 hx hZ hown (host := "") (Or.inl (hw _ (List.mem_of_getElem? (i := 38) rfl))) Via.refl e69 f75 f74 (Or.inr ⟨(hw _ (List.mem_of_getElem? (i := 39) rfl)), rfl, hnm⟩) (hw _ (List.mem_of_getElem? (i := 6) rfl)) (ty := (.object "com/example/unwind/unwind/saga/SagaState")) (by decide) rfl rfl (g := (mkF m 42 #[.val (.ref ba), .val (.ref bs), .val (.int ia), .val (.ref bt)] [(.ref bt), (.ref ba)])) rfl rfl (hb hby d3_42)
  have f81 := f75.same W80
  have sa82 : Safe Z own_EL T47.vm h69 ba := (Safe.exa (EL := own_EL) hZ.alike f74 (by decide) (by decide))
  have CR83 := CR72.trans (CHr.wr W80 sa82 CR72.1)
  have hk84 := (by rw [W80.size]; exact hk73 : _ ≤ h80.size)
  have f85 := f74.wr W80
  have f86 := f76.other W80 (Or.inr (slot_ne (Or.inr (hw _ (List.mem_of_getElem? (i := 35) rfl))) (Or.inr (hw _ (List.mem_of_getElem? (i := 39) rfl))) (by decide) (t := (.object "com/example/unwind/unwind/saga/SagaState")) (t' := (.object "com/example/unwind/unwind/saga/SagaState")) (by decide) (by decide)))
  have f87 := f70.other W80 (Or.inr (slot_ne (Or.inr (hw _ (List.mem_of_getElem? (i := 37) rfl))) (Or.inr (hw _ (List.mem_of_getElem? (i := 39) rfl))) (by decide) (t := .int) (t' := (.object "com/example/unwind/unwind/saga/SagaState")) (by decide) (by decide)))
  have O88 := O77.wr W80 P4
  have K89 := K78.wr W80 (Or.inl (List.mem_of_getElem? (i := 0) rfl))
  have N90 := Fr.snoc X80 N79 P4
  refine GoH.step (T' := T80) (f' := (mkF m 45 #[.val (.ref ba), .val (.ref bs), .val (.int ia), .val (.ref bt)] [])) st80 ?_
  clear st80 X69 CR72 hk73 sa82 f74 f76 f70 O77 K78 N79
  refine GoH.fin X80 hZ hEL hS47 hk84 CR83 hlk (v := none) (fun _ => rfl) (fun fs hr => X80.returnOut hx Bd.returns (hb hby d3_45) hr) e80 ?_ (by decide) (by decide)
  exact ⟨rfl, N90, K89, f85, f86, f87, f81⟩
theorem d2_0 : decode prog_14_method_1_code 0 = .ok (.aload_n 0, 1) := by decide +kernel
theorem d2_1 : decode prog_14_method_1_code 1 = .ok (.aload_n 1, 1) := by decide +kernel
theorem d2_2 : decode prog_14_method_1_code 2 = .ok (.iload_n 2, 1) := by decide +kernel
theorem d2_3 : decode prog_14_method_1_code 3 = .ok (.aconst_null, 1) := by decide +kernel
theorem d2_4 : decode prog_14_method_1_code 4 = .ok (.invokespecial 1, 3) := by decide +kernel
theorem d2_7 : decode prog_14_method_1_code 7 = .ok (.aload_n 1, 1) := by decide +kernel
theorem d2_8 : decode prog_14_method_1_code 8 = .ok (.getstatic 7, 3) := by decide +kernel
theorem d2_11 : decode prog_14_method_1_code 11 = .ok (.if_acmp .ne 13, 3) := by decide +kernel
theorem d2_24 : decode prog_14_method_1_code 24 = .ok (.return_, 1) := by decide +kernel
theorem pd1 : parseMethodDescriptor "(Lcom/example/unwind/unwind/saga/SagaState;ILcom/example/unwind/unwind/saga/SagaState;)V" = some ⟨[(.object "com/example/unwind/unwind/saga/SagaState"), .int, (.object "com/example/unwind/unwind/saga/SagaState")], none⟩ := by decide +kernel
theorem ef_init2 (m : MethodId) (ba : Addr) (bs : Addr) (ia : Int32) : entryFrame m #[(.ref ba), (.ref bs), (.int ia)] 3 = mkF m 0 #[.val (.ref ba), .val (.ref bs), .val (.int ia)] [] := by first | (simp [entryFrame, mkF, argsToLocals, Value.category]; done) | rfl
def Q_init2 (Z : State) (ba : Addr) (bs : Addr) (ia : Int32) (u0 : Value) (u1 : Value) (u2 : Value) (z_STUCK : Addr) (h0 : Heap) (n0 : Nat) (v : Option Value) (h : Heap) (L : List Loc) : Prop := v = none ∧ Fr n0 L ∧ Keep h0 h [ba] ∧ Exa Z h ba "com/example/unwind/unwind/saga/Position" ∧ Fld Z h ba "com/example/unwind/unwind/saga/Position" "state" "Lcom/example/unwind/unwind/saga/SagaState;" (.ref bs) ∧ Fld Z h ba "com/example/unwind/unwind/saga/Position" "step" "I" (.int ia) ∧ Fld Z h ba "com/example/unwind/unwind/saga/Position" "stuckIn" "Lcom/example/unwind/unwind/saga/SagaState;" .null
set_option maxRecDepth 65536 in
set_option maxHeartbeats 40000000 in
theorem rm_init2 (l : Launch) (Z : State) (a0 : Array Value) (hw : ∀ d ∈ tables_1, d.before a0 Z = true) (ws : List Jvm.Cond) (ba : Addr) (bs : Addr) (ia : Int32) (u0 : Value) (u1 : Value) (u2 : Value) (z_STUCK : Addr) (h0 : Heap) (n0 : Nat) (O0 : Old Z n0 h0) (hEL : EW Z a0 own_EL) (P0 : Exa Z h0 ba "com/example/unwind/unwind/saga/Position") (P1 : Fld Z h0 ba "com/example/unwind/unwind/saga/Position" "state" "Lcom/example/unwind/unwind/saga/SagaState;" u0) (P2 : Fld Z h0 ba "com/example/unwind/unwind/saga/Position" "step" "I" u1) (P3 : Fld Z h0 ba "com/example/unwind/unwind/saga/Position" "stuckIn" "Lcom/example/unwind/unwind/saga/SagaState;" u2) (P4 : n0 ≤ ba) (P5 : Exa Z Z.heap bs "com/example/unwind/unwind/saga/SagaState") (hia : ¬ (ia < (0 : Int32))) (P7 : Sta Z Z.heap "com/example/unwind/unwind/saga/SagaState" "STUCK" "Lcom/example/unwind/unwind/saga/SagaState;" (.ref z_STUCK)) (P8 : bs ≠ z_STUCK) :
    MetFree l (⟨"com/example/unwind/unwind/saga/Position", "<init>", "(Lcom/example/unwind/unwind/saga/SagaState;I)V"⟩ : MethodName) (head1 (Jvm.Cond.code (⟨"com/example/unwind/unwind/saga/Position", "<init>", "(Lcom/example/unwind/unwind/saga/SagaState;I)V"⟩ : MethodName) prog_14_method_1_code 3 none :: ws) ({ frames := 2, cells := 2, slots := 24, locals := 29 } : Room)) (fun a U => a = #[(.ref ba), (.ref bs), (.int ia)] ∧ Z.Warmed39 U.vm ∧ U.heap = h0 ∧ CHv Z own_EL U.vm h0) (fun _ _ _ _ _ => True) (fun _ U o U' => ∃ v L, o = .returned v ∧ Q_init2 Z ba bs ia u0 u1 u2 z_STUCK h0 n0 v U'.heap L ∧ CHr Z own_EL U.vm U.heap U'.vm U'.heap ∧ ReturnedEndW U o U' L ({ frames := 2, cells := 2, slots := 24, locals := 29 } : Room).cells ({ frames := 2, cells := 2, slots := 24, locals := 29 } : Room).slots) := by
  refine MetFree.of_bodySF (plainFor_of_name pn_com_example_unwind_unwind_saga_Position) hisR ?_
  intro p e s m args below meth c s₁ Bd hml0 hP hK
  obtain ⟨rfl, hZ, hh, hC0⟩ := hP
  have hx := Bd.exec
  have hby := Bd.bytes
  have hml : c.maxLocals = 3 := hml0
  have hown : (s.setVm s.vm).vm.findClass "com/example/unwind/unwind/saga/Position" = some m.cls := findClass_of_methodNamed Bd.named
  have hnm := (name_of_methodNamed Bd.named Bd.method).1
  have hlk : meth.locks = false := BodyLoose.notSynchronized Bd
  have X0 : Stand p l e ({ frames := 2, cells := 2, slots := 24, locals := 29 } : Room) (s.setVm s.vm) m #[(.ref ba), (.ref bs), (.int ia)] below meth c s₁ [] 0 0 := Stand.of_body Bd
  have e0 : s₁.heap = h0 := by rw [← hh, Bd.state]; rfl
  have N0 := Fr.nil n0
  have hZ : Z.Warmed39 (s.setVm s.vm).vm := hZ
  have hS0 : s.Since s.vm 0 := (State.WarmedH.refl s).since 0
  have hk0 : 0 ≤ h0.size := Nat.zero_le _
  have CR0 : CHr Z own_EL s.vm s.heap s.vm h0 := by rw [hh]; exact CHr.refl hC0
  have K0 := Keep.refl h0 [ba]
  rw [ef_init2 m ba bs ia]
  show GoH p e below s Z own_EL (fun v h L => Q_init2 Z ba bs ia u0 u1 u2 z_STUCK h0 n0 v h L) ({ frames := 2, cells := 2, slots := 24, locals := 29 } : Room).cells ({ frames := 2, cells := 2, slots := 24, locals := 29 } : Room).slots s₁ (mkF m 0 #[.val (.ref ba), .val (.ref bs), .val (.int ia)] [])
  refine GoH.step (T' := s₁) (f' := (mkF m 1 #[.val (.ref ba), .val (.ref bs), .val (.int ia)] [(.ref ba)])) (fun t k => XS.aloadN X0.here hx rfl (hb hby d2_0) rfl rfl k) ?_
  refine GoH.step (T' := s₁) (f' := (mkF m 2 #[.val (.ref ba), .val (.ref bs), .val (.int ia)] [(.ref bs), (.ref ba)])) (fun t k => XS.aloadN X0.here hx rfl (hb hby d2_1) rfl rfl k) ?_
  refine GoH.step (T' := s₁) (f' := (mkF m 3 #[.val (.ref ba), .val (.ref bs), .val (.int ia)] [(.int ia), (.ref bs), (.ref ba)])) (fun t k => XS.iloadN X0.here hx rfl (hb hby d2_2) rfl k) ?_
  refine GoH.step (T' := s₁) (f' := (mkF m 4 #[.val (.ref ba), .val (.ref bs), .val (.int ia)] [.null, (.int ia), (.ref bs), (.ref ba)])) (fun t k => XS.aconstNull X0.here hx rfl (hb hby d2_3) k) ?_
  obtain ⟨_, _, ⟨T91, L91, k91, n91⟩, -, X91, hS91, hg91, ⟨Lc91, hQ91, l91, y91, z91, ch91⟩, st91⟩ := X0.specialBackS hx (y := (⟨"com/example/unwind/unwind/saga/Position", "<init>", "(Lcom/example/unwind/unwind/saga/SagaState;ILcom/example/unwind/unwind/saga/SagaState;)V"⟩ : MethodName)) rfl hown (mvT hZ (hw _ (List.mem_of_getElem? (i := 14) rfl))) (mvT hZ (hw _ (List.mem_of_getElem? (i := 15) rfl))) (mvT hZ (hw _ (List.mem_of_getElem? (i := 16) rfl))) (by decide) (backOfSH (s := s) (vm0 := s.vm) (W := 0) (rm_init3n l Z a0 hw [] ba bs ia u0 u1 u2 h0 n0 O0 hEL P0 P1 P2 P3 P4 P5 hia) hZ (hw _ (List.mem_of_getElem? (i := 16) rfl)) (hw _ (List.mem_of_getElem? (i := 7) rfl)) (by decide) (by decide) hEL CR0.1) (g := (mkF m 4 #[.val (.ref ba), .val (.ref bs), .val (.int ia)] [.null, (.int ia), (.ref bs), (.ref ba)])) rfl (by rw [hml]; rfl) (Steps.refl _) (a := ba) (argsL := [(.ref bs), (.int ia), .null]) (rest := []) (lenOf pd1 rfl) rfl (by show 2 * 0 + _ ≤ _; exact Nat.le_of_eq rfl) (hb hby d2_4) (fun _ _ => ⟨rfl, e0, (by decide : 0 + 2 ≤ _), (by decide : 0 + 24 ≤ _)⟩)
  dsimp only [Pt.U, Pt.locs, Pt.cells, Pt.slots] at X91 l91 y91 z91 st91 hQ91 hS91 hg91 ch91
  subst l91 y91 z91
  obtain ⟨X91, hS91, hZ, hown⟩ := rebS (s := s) (vm0 := s.vm) hS0 (show _ ≤ s₁.heap.size by rw [e0]; exact hk0) X91 hS91 hg91 hZ hown
  obtain ⟨rfl, Nq91, hh91, p92, p93, p94, p95⟩ := hQ91
  have N96 := Fr.app N0 Nq91
  have CR97 := CR0.trans ch91
  have hk98 := Nat.le_refl T91.heap.size
  have f99 := P0.keep hh91
  have O100 := O0.keep hh91 (allS P4 all0)
  have K101 := K0.trans hh91 (allS (Or.inl (List.mem_of_getElem? (i := 0) rfl)) all0)
  refine GoH.via (T' := T91) (f' := (mkF m 7 #[.val (.ref ba), .val (.ref bs), .val (.int ia)] [])) st91 ?_
  clear st91 X0 Nq91 CR0 hk0 hS0
  refine GoH.step (T' := T91) (f' := (mkF m 8 #[.val (.ref ba), .val (.ref bs), .val (.int ia)] [(.ref bs)])) (fun t k => XS.aloadN X91.here hx rfl (hb hby d2_7) rfl rfl k) ?_
  obtain ⟨T102, X102, e102, st102⟩ := getS2 X91 hx hZ hown (host := "") (Or.inl (hw _ (List.mem_of_getElem? (i := 40) rfl))) Via.refl rfl (P7.ext O100.2) (g := (mkF m 8 #[.val (.ref ba), .val (.ref bs), .val (.int ia)] [(.ref bs)])) rfl (hb hby d2_8)
  refine GoH.step (T' := T102) (f' := (mkF m 11 #[.val (.ref ba), .val (.ref bs), .val (.int ia)] [(.ref z_STUCK), (.ref bs)])) st102 ?_
  clear st102 X91
  refine GoH.step (T' := T102) (f' := (mkF m 24 #[.val (.ref ba), .val (.ref bs), .val (.int ia)] [])) (fun t k => Jvm.RoadKit.acmp (g := (mkF m 11 #[.val (.ref ba), .val (.ref bs), .val (.int ia)] [(.ref z_STUCK), (.ref bs)])) X102 hx rfl rfl rfl (pc0 := 11) (pc' := 24) (same := false) rfl (hb hby d2_11) rfl (decide_eq_false fun q => P8 (Value.ref.inj q)) (by decide) (by decide) k) ?_
  refine GoH.fin X102 hZ hEL hS91 hk98 CR97 hlk (v := none) (fun _ => rfl) (fun fs hr => X102.returnOut hx Bd.returns (hb hby d2_24) hr) e102 ?_ (by decide) (by decide)
  exact ⟨rfl, N96, K101, p92, p93, p94, p95⟩
theorem d8_0 : decode prog_14_method_3_code 0 = .ok (.aload_n 1, 1) := by decide +kernel
theorem d8_1 : decode prog_14_method_3_code 1 = .ok (.getstatic 46, 3) := by decide +kernel
theorem d8_4 : decode prog_14_method_3_code 4 = .ok (.if_acmp .eq 27, 3) := by decide +kernel
theorem d8_31 : decode prog_14_method_3_code 31 = .ok (.new 2, 3) := by decide +kernel
theorem d8_34 : decode prog_14_method_3_code 34 = .ok (.dup, 1) := by decide +kernel
theorem d8_35 : decode prog_14_method_3_code 35 = .ok (.getstatic 7, 3) := by decide +kernel
theorem d8_38 : decode prog_14_method_3_code 38 = .ok (.iload_n 0, 1) := by decide +kernel
theorem d8_39 : decode prog_14_method_3_code 39 = .ok (.aload_n 1, 1) := by decide +kernel
theorem d8_40 : decode prog_14_method_3_code 40 = .ok (.invokespecial 1, 3) := by decide +kernel
theorem d8_43 : decode prog_14_method_3_code 43 = .ok (.areturn, 1) := by decide +kernel
theorem ef_stuckR (m : MethodId) (ia : Int32) : entryFrame m #[(.int ia), (.ref z_RUNNING)] 2 = mkF m 0 #[.val (.int ia), .val (.ref z_RUNNING)] [] := by first | (simp [entryFrame, mkF, argsToLocals, Value.category]; done) | rfl
def Q_stuckR (Z : State) (ia : Int32) (z_RUNNING : Addr) (z_ROLLING_BACK : Addr) (z_STUCK : Addr) (h0 : Heap) (n0 : Nat) (v : Option Value) (h : Heap) (L : List Loc) : Prop := ∃ bp : Addr, v = some (.ref bp) ∧ Fr n0 L ∧ Keep h0 h [] ∧ h0.size ≤ bp ∧ Exa Z h bp "com/example/unwind/unwind/saga/Position" ∧ Fld Z h bp "com/example/unwind/unwind/saga/Position" "state" "Lcom/example/unwind/unwind/saga/SagaState;" (.ref z_STUCK) ∧ Fld Z h bp "com/example/unwind/unwind/saga/Position" "step" "I" (.int ia) ∧ Fld Z h bp "com/example/unwind/unwind/saga/Position" "stuckIn" "Lcom/example/unwind/unwind/saga/SagaState;" (.ref z_RUNNING)
set_option maxRecDepth 65536 in
set_option maxHeartbeats 40000000 in
theorem rm_stuckR (l : Launch) (Z : State) (a0 : Array Value) (hw : ∀ d ∈ tables_1, d.before a0 Z = true) (ws : List Jvm.Cond) (ia : Int32) (z_RUNNING : Addr) (z_ROLLING_BACK : Addr) (z_STUCK : Addr) (h0 : Heap) (n0 : Nat) (O0 : Old Z n0 h0) (hEL : EW Z a0 own_EL) (P0 : Sta Z Z.heap "com/example/unwind/unwind/saga/SagaState" "RUNNING" "Lcom/example/unwind/unwind/saga/SagaState;" (.ref z_RUNNING)) (P1 : Sta Z Z.heap "com/example/unwind/unwind/saga/SagaState" "ROLLING_BACK" "Lcom/example/unwind/unwind/saga/SagaState;" (.ref z_ROLLING_BACK)) (P2 : Sta Z Z.heap "com/example/unwind/unwind/saga/SagaState" "STUCK" "Lcom/example/unwind/unwind/saga/SagaState;" (.ref z_STUCK)) (P3 : Exa Z Z.heap z_STUCK "com/example/unwind/unwind/saga/SagaState") (hia : ¬ (ia < (0 : Int32))) (P5 : z_RUNNING ≠ z_ROLLING_BACK) :
    MetFree l (⟨"com/example/unwind/unwind/saga/Position", "stuck", "(ILcom/example/unwind/unwind/saga/SagaState;)Lcom/example/unwind/unwind/saga/Position;"⟩ : MethodName) (head1 (Jvm.Cond.code (⟨"com/example/unwind/unwind/saga/Position", "stuck", "(ILcom/example/unwind/unwind/saga/SagaState;)Lcom/example/unwind/unwind/saga/Position;"⟩ : MethodName) prog_14_method_3_code 2 (some (.object "com/example/unwind/unwind/saga/Position")) :: ws) ({ frames := 2, cells := 3, slots := 27, locals := 30 } : Room)) (fun a U => a = #[(.int ia), (.ref z_RUNNING)] ∧ Z.Warmed39 U.vm ∧ U.heap = h0 ∧ CHv Z own_EL U.vm h0) (fun _ _ _ _ _ => True) (fun _ U o U' => ∃ v L, o = .returned v ∧ Q_stuckR Z ia z_RUNNING z_ROLLING_BACK z_STUCK h0 n0 v U'.heap L ∧ CHr Z own_EL U.vm U.heap U'.vm U'.heap ∧ ReturnedEndW U o U' L ({ frames := 2, cells := 3, slots := 27, locals := 30 } : Room).cells ({ frames := 2, cells := 3, slots := 27, locals := 30 } : Room).slots) := by
  refine MetFree.of_bodySF (plainFor_of_name pn_com_example_unwind_unwind_saga_Position) hisR ?_
  intro p e s m args below meth c s₁ Bd hml0 hP hK
  obtain ⟨rfl, hZ, hh, hC0⟩ := hP
  have hx := Bd.exec
  have hby := Bd.bytes
  have hml : c.maxLocals = 2 := hml0
  have hown : (s.setVm s.vm).vm.findClass "com/example/unwind/unwind/saga/Position" = some m.cls := findClass_of_methodNamed Bd.named
  have hnm := (name_of_methodNamed Bd.named Bd.method).1
  have hlk : meth.locks = false := BodyLoose.notSynchronized Bd
  have X0 : Stand p l e ({ frames := 2, cells := 3, slots := 27, locals := 30 } : Room) (s.setVm s.vm) m #[(.int ia), (.ref z_RUNNING)] below meth c s₁ [] 0 0 := Stand.of_body Bd
  have e0 : s₁.heap = h0 := by rw [← hh, Bd.state]; rfl
  have N0 := Fr.nil n0
  have hZ : Z.Warmed39 (s.setVm s.vm).vm := hZ
  have hS0 : s.Since s.vm 0 := (State.WarmedH.refl s).since 0
  have hk0 : 0 ≤ h0.size := Nat.zero_le _
  have CR0 : CHr Z own_EL s.vm s.heap s.vm h0 := by rw [hh]; exact CHr.refl hC0
  have K0 := Keep.refl h0 []
  rw [ef_stuckR m ia]
  show GoH p e below s Z own_EL (fun v h L => Q_stuckR Z ia z_RUNNING z_ROLLING_BACK z_STUCK h0 n0 v h L) ({ frames := 2, cells := 3, slots := 27, locals := 30 } : Room).cells ({ frames := 2, cells := 3, slots := 27, locals := 30 } : Room).slots s₁ (mkF m 0 #[.val (.int ia), .val (.ref z_RUNNING)] [])
  refine GoH.step (T' := s₁) (f' := (mkF m 1 #[.val (.int ia), .val (.ref z_RUNNING)] [(.ref z_RUNNING)])) (fun t k => XS.aloadN X0.here hx rfl (hb hby d8_0) rfl rfl k) ?_
  obtain ⟨T103, X103, e103, st103⟩ := getS2 X0 hx hZ hown (host := "") (Or.inl (hw _ (List.mem_of_getElem? (i := 66) rfl))) Via.refl e0 (P0.ext O0.2) (g := (mkF m 1 #[.val (.int ia), .val (.ref z_RUNNING)] [(.ref z_RUNNING)])) rfl (hb hby d8_1)
  refine GoH.step (T' := T103) (f' := (mkF m 4 #[.val (.int ia), .val (.ref z_RUNNING)] [(.ref z_RUNNING), (.ref z_RUNNING)])) st103 ?_
  clear st103 X0
  refine GoH.step (T' := T103) (f' := (mkF m 31 #[.val (.int ia), .val (.ref z_RUNNING)] [])) (fun t k => Jvm.RoadKit.acmp (g := (mkF m 4 #[.val (.int ia), .val (.ref z_RUNNING)] [(.ref z_RUNNING), (.ref z_RUNNING)])) X103 hx rfl rfl rfl (pc0 := 4) (pc' := 31) (same := true) rfl (hb hby d8_4) rfl (decide_eq_true rfl) (by decide) (by decide) k) ?_
  obtain ⟨T104, h104, X104, e104, E104, A104, D104, -, st104⟩ := newO X103 hx hZ hown (hw _ (List.mem_of_getElem? (i := 49) rfl)) (hw _ (List.mem_of_getElem? (i := 6) rfl)) (hw _ (List.mem_of_getElem? (i := 7) rfl)) e103 (g := (mkF m 31 #[.val (.int ia), .val (.ref z_RUNNING)] [])) rfl (hb hby d8_31) (by decide) (by decide)
  obtain ⟨b104, g104⟩ : ∃ z, z = h0.size := ⟨_, rfl⟩
  rw [← g104] at A104 D104 st104
  have g105 : n0 ≤ b104 := Nat.le_trans (own_old_le O0) (Nat.le_of_eq g104.symm)
  have g106 : h0.size ≤ b104 := Nat.le_trans K0.1 (Nat.le_of_eq g104.symm)
  have CR107 := CR0.trans (CHr.ext E104 CR0.1)
  have hk108 := Nat.le_trans hk0 E104.1
  have O109 := O0.ext E104
  have K110 := K0.ext E104
  have f111 : Fld Z h104 b104 "com/example/unwind/unwind/saga/Position" "state" "Lcom/example/unwind/unwind/saga/SagaState;" .null := D104 (Or.inr (hw _ (List.mem_of_getElem? (i := 35) rfl))) (ty := (.object "com/example/unwind/unwind/saga/SagaState")) (by decide)
  have f112 : Fld Z h104 b104 "com/example/unwind/unwind/saga/Position" "step" "I" (.int (0 : Int32)) := D104 (Or.inr (hw _ (List.mem_of_getElem? (i := 37) rfl))) (ty := .int) (by decide)
  have f113 : Fld Z h104 b104 "com/example/unwind/unwind/saga/Position" "stuckIn" "Lcom/example/unwind/unwind/saga/SagaState;" .null := D104 (Or.inr (hw _ (List.mem_of_getElem? (i := 39) rfl))) (ty := (.object "com/example/unwind/unwind/saga/SagaState")) (by decide)
  refine GoH.step (T' := T104) (f' := (mkF m 34 #[.val (.int ia), .val (.ref z_RUNNING)] [(.ref b104)])) st104 ?_
  clear st104 X103 CR0 hk0
  refine GoH.step (T' := T104) (f' := (mkF m 35 #[.val (.int ia), .val (.ref z_RUNNING)] [(.ref b104), (.ref b104)])) (fun t k => XS.dup X104.here hx rfl (hb hby d8_34) rfl rfl k) ?_
  obtain ⟨T114, X114, e114, st114⟩ := getS2 X104 hx hZ hown (host := "") (Or.inl (hw _ (List.mem_of_getElem? (i := 40) rfl))) Via.refl e104 (P2.ext O109.2) (g := (mkF m 35 #[.val (.int ia), .val (.ref z_RUNNING)] [(.ref b104), (.ref b104)])) rfl (hb hby d8_35)
  refine GoH.step (T' := T114) (f' := (mkF m 38 #[.val (.int ia), .val (.ref z_RUNNING)] [(.ref z_STUCK), (.ref b104), (.ref b104)])) st114 ?_
  clear st114 X104
  refine GoH.step (T' := T114) (f' := (mkF m 39 #[.val (.int ia), .val (.ref z_RUNNING)] [(.int ia), (.ref z_STUCK), (.ref b104), (.ref b104)])) (fun t k => XS.iloadN X114.here hx rfl (hb hby d8_38) rfl k) ?_
  refine GoH.step (T' := T114) (f' := (mkF m 40 #[.val (.int ia), .val (.ref z_RUNNING)] [(.ref z_RUNNING), (.int ia), (.ref z_STUCK), (.ref b104), (.ref b104)])) (fun t k => XS.aloadN X114.here hx rfl (hb hby d8_39) rfl rfl k) ?_
  obtain ⟨_, _, ⟨T115, L115, k115, n115⟩, -, X115, hS115, hg115, ⟨Lc115, hQ115, l115, y115, z115, ch115⟩, st115⟩ := X114.specialBackS hx (y := (⟨"com/example/unwind/unwind/saga/Position", "<init>", "(Lcom/example/unwind/unwind/saga/SagaState;ILcom/example/unwind/unwind/saga/SagaState;)V"⟩ : MethodName)) rfl hown (mvT hZ (hw _ (List.mem_of_getElem? (i := 14) rfl))) (mvT hZ (hw _ (List.mem_of_getElem? (i := 15) rfl))) (mvT hZ (hw _ (List.mem_of_getElem? (i := 16) rfl))) (by decide) (backOfSH (s := s) (vm0 := s.vm) (W := 1) (rm_init3r l Z a0 hw [] b104 z_STUCK ia z_RUNNING .null (.int (0 : Int32)) .null h104 n0 O109 hEL A104 f111 f112 f113 g105 P3 hia) hZ (hw _ (List.mem_of_getElem? (i := 16) rfl)) (hw _ (List.mem_of_getElem? (i := 7) rfl)) (by decide) (by decide) hEL CR107.1) (g := (mkF m 40 #[.val (.int ia), .val (.ref z_RUNNING)] [(.ref z_RUNNING), (.int ia), (.ref z_STUCK), (.ref b104), (.ref b104)])) rfl (by rw [hml]; rfl) (Steps.refl _) (a := b104) (argsL := [(.ref z_STUCK), (.int ia), (.ref z_RUNNING)]) (rest := [(.ref b104)]) (lenOf pd1 rfl) rfl (by show 2 * 0 + _ ≤ _; exact Nat.le_of_eq rfl) (hb hby d8_40) (fun _ _ => ⟨rfl, e114, (by decide : 1 + 2 ≤ _), (by decide : 3 + 24 ≤ _)⟩)
  dsimp only [Pt.U, Pt.locs, Pt.cells, Pt.slots] at X115 l115 y115 z115 st115 hQ115 hS115 hg115 ch115
  subst l115 y115 z115
  obtain ⟨X115, hS115, hZ, hown⟩ := rebS (s := s) (vm0 := s.vm) hS0 (show _ ≤ T114.heap.size by rw [e114]; exact hk108) X115 hS115 hg115 hZ hown
  obtain ⟨rfl, Nq115, hh115, p116, p117, p118, p119⟩ := hQ115
  have N120 := Fr.app N0 Nq115
  have CR121 := CR107.trans ch115
  have hk122 := Nat.le_refl T115.heap.size
  have f123 := A104.keep hh115
  have O124 := O109.keep hh115 (allS g105 all0)
  have K125 := K110.trans hh115 (allS (Or.inr g106) all0)
  refine GoH.via (T' := T115) (f' := (mkF m 43 #[.val (.int ia), .val (.ref z_RUNNING)] [(.ref b104)])) st115 ?_
  clear st115 X114 Nq115 CR107 hk108 hS0
  refine GoH.fin X115 hZ hEL hS115 hk122 CR121 hlk (v := some (.ref b104)) (fun h => by rw [Bd.returns] at h; cases h) (fun fs hr => retOut X115 hx Bd.returns (own_nar_ref rfl rfl) (Or.inr (Or.inr (Or.inr (Or.inr ⟨rfl, rfl, rfl⟩)))) (hb hby d8_43) hr) rfl ?_ (by decide) (by decide)
  exact ⟨b104, rfl, N120, K125, g106, p116, p117, p118, p119⟩
theorem d8_7 : decode prog_14_method_3_code 7 = .ok (.aload_n 1, 1) := by decide +kernel
theorem d8_8 : decode prog_14_method_3_code 8 = .ok (.getstatic 49, 3) := by decide +kernel
theorem d8_11 : decode prog_14_method_3_code 11 = .ok (.if_acmp .eq 20, 3) := by decide +kernel
theorem ef_stuckB (m : MethodId) (ia : Int32) : entryFrame m #[(.int ia), (.ref z_ROLLING_BACK)] 2 = mkF m 0 #[.val (.int ia), .val (.ref z_ROLLING_BACK)] [] := by first | (simp [entryFrame, mkF, argsToLocals, Value.category]; done) | rfl
def Q_stuckB (Z : State) (ia : Int32) (z_RUNNING : Addr) (z_ROLLING_BACK : Addr) (z_STUCK : Addr) (h0 : Heap) (n0 : Nat) (v : Option Value) (h : Heap) (L : List Loc) : Prop := ∃ bp : Addr, v = some (.ref bp) ∧ Fr n0 L ∧ Keep h0 h [] ∧ h0.size ≤ bp ∧ Exa Z h bp "com/example/unwind/unwind/saga/Position" ∧ Fld Z h bp "com/example/unwind/unwind/saga/Position" "state" "Lcom/example/unwind/unwind/saga/SagaState;" (.ref z_STUCK) ∧ Fld Z h bp "com/example/unwind/unwind/saga/Position" "step" "I" (.int ia) ∧ Fld Z h bp "com/example/unwind/unwind/saga/Position" "stuckIn" "Lcom/example/unwind/unwind/saga/SagaState;" (.ref z_ROLLING_BACK)
set_option maxRecDepth 65536 in
set_option maxHeartbeats 40000000 in
theorem rm_stuckB (l : Launch) (Z : State) (a0 : Array Value) (hw : ∀ d ∈ tables_1, d.before a0 Z = true) (ws : List Jvm.Cond) (ia : Int32) (z_RUNNING : Addr) (z_ROLLING_BACK : Addr) (z_STUCK : Addr) (h0 : Heap) (n0 : Nat) (O0 : Old Z n0 h0) (hEL : EW Z a0 own_EL) (P0 : Sta Z Z.heap "com/example/unwind/unwind/saga/SagaState" "RUNNING" "Lcom/example/unwind/unwind/saga/SagaState;" (.ref z_RUNNING)) (P1 : Sta Z Z.heap "com/example/unwind/unwind/saga/SagaState" "ROLLING_BACK" "Lcom/example/unwind/unwind/saga/SagaState;" (.ref z_ROLLING_BACK)) (P2 : Sta Z Z.heap "com/example/unwind/unwind/saga/SagaState" "STUCK" "Lcom/example/unwind/unwind/saga/SagaState;" (.ref z_STUCK)) (P3 : Exa Z Z.heap z_STUCK "com/example/unwind/unwind/saga/SagaState") (hia : ¬ (ia < (0 : Int32))) (P5 : z_RUNNING ≠ z_ROLLING_BACK) :
    MetFree l (⟨"com/example/unwind/unwind/saga/Position", "stuck", "(ILcom/example/unwind/unwind/saga/SagaState;)Lcom/example/unwind/unwind/saga/Position;"⟩ : MethodName) (head1 (Jvm.Cond.code (⟨"com/example/unwind/unwind/saga/Position", "stuck", "(ILcom/example/unwind/unwind/saga/SagaState;)Lcom/example/unwind/unwind/saga/Position;"⟩ : MethodName) prog_14_method_3_code 2 (some (.object "com/example/unwind/unwind/saga/Position")) :: ws) ({ frames := 2, cells := 3, slots := 27, locals := 30 } : Room)) (fun a U => a = #[(.int ia), (.ref z_ROLLING_BACK)] ∧ Z.Warmed39 U.vm ∧ U.heap = h0 ∧ CHv Z own_EL U.vm h0) (fun _ _ _ _ _ => True) (fun _ U o U' => ∃ v L, o = .returned v ∧ Q_stuckB Z ia z_RUNNING z_ROLLING_BACK z_STUCK h0 n0 v U'.heap L ∧ CHr Z own_EL U.vm U.heap U'.vm U'.heap ∧ ReturnedEndW U o U' L ({ frames := 2, cells := 3, slots := 27, locals := 30 } : Room).cells ({ frames := 2, cells := 3, slots := 27, locals := 30 } : Room).slots) := by
  refine MetFree.of_bodySF (plainFor_of_name pn_com_example_unwind_unwind_saga_Position) hisR ?_
  intro p e s m args below meth c s₁ Bd hml0 hP hK
  obtain ⟨rfl, hZ, hh, hC0⟩ := hP
  have hx := Bd.exec
  have hby := Bd.bytes
  have hml : c.maxLocals = 2 := hml0
  have hown : (s.setVm s.vm).vm.findClass "com/example/unwind/unwind/saga/Position" = some m.cls := findClass_of_methodNamed Bd.named
  have hnm := (name_of_methodNamed Bd.named Bd.method).1
  have hlk : meth.locks = false := BodyLoose.notSynchronized Bd
  have X0 : Stand p l e ({ frames := 2, cells := 3, slots := 27, locals := 30 } : Room) (s.setVm s.vm) m #[(.int ia), (.ref z_ROLLING_BACK)] below meth c s₁ [] 0 0 := Stand.of_body Bd
  have e0 : s₁.heap = h0 := by rw [← hh, Bd.state]; rfl
  have N0 := Fr.nil n0
  have hZ : Z.Warmed39 (s.setVm s.vm).vm := hZ
  have hS0 : s.Since s.vm 0 := (State.WarmedH.refl s).since 0
  have hk0 : 0 ≤ h0.size := Nat.zero_le _
  have CR0 : CHr Z own_EL s.vm s.heap s.vm h0 := by rw [hh]; exact CHr.refl hC0
  have K0 := Keep.refl h0 []
  rw [ef_stuckB m ia]
  show GoH p e below s Z own_EL (fun v h L => Q_stuckB Z ia z_RUNNING z_ROLLING_BACK z_STUCK h0 n0 v h L) ({ frames := 2, cells := 3, slots := 27, locals := 30 } : Room).cells ({ frames := 2, cells := 3, slots := 27, locals := 30 } : Room).slots s₁ (mkF m 0 #[.val (.int ia), .val (.ref z_ROLLING_BACK)] [])
  refine GoH.step (T' := s₁) (f' := (mkF m 1 #[.val (.int ia), .val (.ref z_ROLLING_BACK)] [(.ref z_ROLLING_BACK)])) (fun t k => XS.aloadN X0.here hx rfl (hb hby d8_0) rfl rfl k) ?_
  obtain ⟨T126, X126, e126, st126⟩ := getS2 X0 hx hZ hown (host := "") (Or.inl (hw _ (List.mem_of_getElem? (i := 66) rfl))) Via.refl e0 (P0.ext O0.2) (g := (mkF m 1 #[.val (.int ia), .val (.ref z_ROLLING_BACK)] [(.ref z_ROLLING_BACK)])) rfl (hb hby d8_1)
  refine GoH.step (T' := T126) (f' := (mkF m 4 #[.val (.int ia), .val (.ref z_ROLLING_BACK)] [(.ref z_RUNNING), (.ref z_ROLLING_BACK)])) st126 ?_
  clear st126 X0
  refine GoH.step (T' := T126) (f' := (mkF m 7 #[.val (.int ia), .val (.ref z_ROLLING_BACK)] [])) (fun t k => Jvm.RoadKit.acmp (g := (mkF m 4 #[.val (.int ia), .val (.ref z_ROLLING_BACK)] [(.ref z_RUNNING), (.ref z_ROLLING_BACK)])) X126 hx rfl rfl rfl (pc0 := 4) (pc' := 7) (same := false) rfl (hb hby d8_4) rfl (decide_eq_false fun q => (Ne.symm P5) (Value.ref.inj q)) (by decide) (by decide) k) ?_
  refine GoH.step (T' := T126) (f' := (mkF m 8 #[.val (.int ia), .val (.ref z_ROLLING_BACK)] [(.ref z_ROLLING_BACK)])) (fun t k => XS.aloadN X126.here hx rfl (hb hby d8_7) rfl rfl k) ?_
  obtain ⟨T127, X127, e127, st127⟩ := getS2 X126 hx hZ hown (host := "") (Or.inl (hw _ (List.mem_of_getElem? (i := 84) rfl))) Via.refl e126 (P1.ext O0.2) (g := (mkF m 8 #[.val (.int ia), .val (.ref z_ROLLING_BACK)] [(.ref z_ROLLING_BACK)])) rfl (hb hby d8_8)
  refine GoH.step (T' := T127) (f' := (mkF m 11 #[.val (.int ia), .val (.ref z_ROLLING_BACK)] [(.ref z_ROLLING_BACK), (.ref z_ROLLING_BACK)])) st127 ?_
  clear st127 X126
  refine GoH.step (T' := T127) (f' := (mkF m 31 #[.val (.int ia), .val (.ref z_ROLLING_BACK)] [])) (fun t k => Jvm.RoadKit.acmp (g := (mkF m 11 #[.val (.int ia), .val (.ref z_ROLLING_BACK)] [(.ref z_ROLLING_BACK), (.ref z_ROLLING_BACK)])) X127 hx rfl rfl rfl (pc0 := 11) (pc' := 31) (same := true) rfl (hb hby d8_11) rfl (decide_eq_true rfl) (by decide) (by decide) k) ?_
  obtain ⟨T128, h128, X128, e128, E128, A128, D128, -, st128⟩ := newO X127 hx hZ hown (hw _ (List.mem_of_getElem? (i := 49) rfl)) (hw _ (List.mem_of_getElem? (i := 6) rfl)) (hw _ (List.mem_of_getElem? (i := 7) rfl)) e127 (g := (mkF m 31 #[.val (.int ia), .val (.ref z_ROLLING_BACK)] [])) rfl (hb hby d8_31) (by decide) (by decide)
  obtain ⟨b128, g128⟩ : ∃ z, z = h0.size := ⟨_, rfl⟩
  rw [← g128] at A128 D128 st128
  have g129 : n0 ≤ b128 := Nat.le_trans (own_old_le O0) (Nat.le_of_eq g128.symm)
  have g130 : h0.size ≤ b128 := Nat.le_trans K0.1 (Nat.le_of_eq g128.symm)
  have CR131 := CR0.trans (CHr.ext E128 CR0.1)
  have hk132 := Nat.le_trans hk0 E128.1
  have O133 := O0.ext E128
  have K134 := K0.ext E128
  have f135 : Fld Z h128 b128 "com/example/unwind/unwind/saga/Position" "state" "Lcom/example/unwind/unwind/saga/SagaState;" .null := D128 (Or.inr (hw _ (List.mem_of_getElem? (i := 35) rfl))) (ty := (.object "com/example/unwind/unwind/saga/SagaState")) (by decide)
  have f136 : Fld Z h128 b128 "com/example/unwind/unwind/saga/Position" "step" "I" (.int (0 : Int32)) := D128 (Or.inr (hw _ (List.mem_of_getElem? (i := 37) rfl))) (ty := .int) (by decide)
  have f137 : Fld Z h128 b128 "com/example/unwind/unwind/saga/Position" "stuckIn" "Lcom/example/unwind/unwind/saga/SagaState;" .null := D128 (Or.inr (hw _ (List.mem_of_getElem? (i := 39) rfl))) (ty := (.object "com/example/unwind/unwind/saga/SagaState")) (by decide)
  refine GoH.step (T' := T128) (f' := (mkF m 34 #[.val (.int ia), .val (.ref z_ROLLING_BACK)] [(.ref b128)])) st128 ?_
  clear st128 X127 CR0 hk0
  refine GoH.step (T' := T128) (f' := (mkF m 35 #[.val (.int ia), .val (.ref z_ROLLING_BACK)] [(.ref b128), (.ref b128)])) (fun t k => XS.dup X128.here hx rfl (hb hby d8_34) rfl rfl k) ?_
  obtain ⟨T138, X138, e138, st138⟩ := getS2 X128 hx hZ hown (host := "") (Or.inl (hw _ (List.mem_of_getElem? (i := 40) rfl))) Via.refl e128 (P2.ext O133.2) (g := (mkF m 35 #[.val (.int ia), .val (.ref z_ROLLING_BACK)] [(.ref b128), (.ref b128)])) rfl (hb hby d8_35)
  refine GoH.step (T' := T138) (f' := (mkF m 38 #[.val (.int ia), .val (.ref z_ROLLING_BACK)] [(.ref z_STUCK), (.ref b128), (.ref b128)])) st138 ?_
  clear st138 X128
  refine GoH.step (T' := T138) (f' := (mkF m 39 #[.val (.int ia), .val (.ref z_ROLLING_BACK)] [(.int ia), (.ref z_STUCK), (.ref b128), (.ref b128)])) (fun t k => XS.iloadN X138.here hx rfl (hb hby d8_38) rfl k) ?_
  refine GoH.step (T' := T138) (f' := (mkF m 40 #[.val (.int ia), .val (.ref z_ROLLING_BACK)] [(.ref z_ROLLING_BACK), (.int ia), (.ref z_STUCK), (.ref b128), (.ref b128)])) (fun t k => XS.aloadN X138.here hx rfl (hb hby d8_39) rfl rfl k) ?_
  obtain ⟨_, _, ⟨T139, L139, k139, n139⟩, -, X139, hS139, hg139, ⟨Lc139, hQ139, l139, y139, z139, ch139⟩, st139⟩ := X138.specialBackS hx (y := (⟨"com/example/unwind/unwind/saga/Position", "<init>", "(Lcom/example/unwind/unwind/saga/SagaState;ILcom/example/unwind/unwind/saga/SagaState;)V"⟩ : MethodName)) rfl hown (mvT hZ (hw _ (List.mem_of_getElem? (i := 14) rfl))) (mvT hZ (hw _ (List.mem_of_getElem? (i := 15) rfl))) (mvT hZ (hw _ (List.mem_of_getElem? (i := 16) rfl))) (by decide) (backOfSH (s := s) (vm0 := s.vm) (W := 1) (rm_init3r l Z a0 hw [] b128 z_STUCK ia z_ROLLING_BACK .null (.int (0 : Int32)) .null h128 n0 O133 hEL A128 f135 f136 f137 g129 P3 hia) hZ (hw _ (List.mem_of_getElem? (i := 16) rfl)) (hw _ (List.mem_of_getElem? (i := 7) rfl)) (by decide) (by decide) hEL CR131.1) (g := (mkF m 40 #[.val (.int ia), .val (.ref z_ROLLING_BACK)] [(.ref z_ROLLING_BACK), (.int ia), (.ref z_STUCK), (.ref b128), (.ref b128)])) rfl (by rw [hml]; rfl) (Steps.refl _) (a := b128) (argsL := [(.ref z_STUCK), (.int ia), (.ref z_ROLLING_BACK)]) (rest := [(.ref b128)]) (lenOf pd1 rfl) rfl (by show 2 * 0 + _ ≤ _; exact Nat.le_of_eq rfl) (hb hby d8_40) (fun _ _ => ⟨rfl, e138, (by decide : 1 + 2 ≤ _), (by decide : 3 + 24 ≤ _)⟩)
  dsimp only [Pt.U, Pt.locs, Pt.cells, Pt.slots] at X139 l139 y139 z139 st139 hQ139 hS139 hg139 ch139
  subst l139 y139 z139
  obtain ⟨X139, hS139, hZ, hown⟩ := rebS (s := s) (vm0 := s.vm) hS0 (show _ ≤ T138.heap.size by rw [e138]; exact hk132) X139 hS139 hg139 hZ hown
  obtain ⟨rfl, Nq139, hh139, p140, p141, p142, p143⟩ := hQ139
  have N144 := Fr.app N0 Nq139
  have CR145 := CR131.trans ch139
  have hk146 := Nat.le_refl T139.heap.size
  have f147 := A128.keep hh139
  have O148 := O133.keep hh139 (allS g129 all0)
  have K149 := K134.trans hh139 (allS (Or.inr g130) all0)
  refine GoH.via (T' := T139) (f' := (mkF m 43 #[.val (.int ia), .val (.ref z_ROLLING_BACK)] [(.ref b128)])) st139 ?_
  clear st139 X138 Nq139 CR131 hk132 hS0
  refine GoH.fin X139 hZ hEL hS139 hk146 CR145 hlk (v := some (.ref b128)) (fun h => by rw [Bd.returns] at h; cases h) (fun fs hr => retOut X139 hx Bd.returns (own_nar_ref rfl rfl) (Or.inr (Or.inr (Or.inr (Or.inr ⟨rfl, rfl, rfl⟩)))) (hb hby d8_43) hr) rfl ?_ (by decide) (by decide)
  exact ⟨b128, rfl, N144, K149, g130, p140, p141, p142, p143⟩
theorem d1_0 : decode method_2_code 0 = .ok (.iload_n 0, 1) := by decide +kernel
theorem d1_1 : decode method_2_code 1 = .ok (.ifCond .ne 15, 3) := by decide +kernel
theorem d1_4 : decode method_2_code 4 = .ok (.new 7, 3) := by decide +kernel
theorem d1_7 : decode method_2_code 7 = .ok (.dup, 1) := by decide +kernel
theorem d1_8 : decode method_2_code 8 = .ok (.getstatic 9, 3) := by decide +kernel
theorem d1_11 : decode method_2_code 11 = .ok (.iload_n 1, 1) := by decide +kernel
theorem d1_12 : decode method_2_code 12 = .ok (.invokespecial 15, 3) := by decide +kernel
theorem d1_15 : decode method_2_code 15 = .ok (.areturn, 1) := by decide +kernel
theorem d1_16 : decode method_2_code 16 = .ok (.iload_n 0, 1) := by decide +kernel
theorem d1_17 : decode method_2_code 17 = .ok (.iconst 1, 1) := by decide +kernel
theorem d1_18 : decode method_2_code 18 = .ok (.if_icmp .ne 15, 3) := by decide +kernel
theorem d1_21 : decode method_2_code 21 = .ok (.new 7, 3) := by decide +kernel
theorem d1_24 : decode method_2_code 24 = .ok (.dup, 1) := by decide +kernel
theorem d1_25 : decode method_2_code 25 = .ok (.getstatic 18, 3) := by decide +kernel
theorem d1_28 : decode method_2_code 28 = .ok (.iload_n 1, 1) := by decide +kernel
theorem d1_29 : decode method_2_code 29 = .ok (.invokespecial 15, 3) := by decide +kernel
theorem d1_32 : decode method_2_code 32 = .ok (.areturn, 1) := by decide +kernel
theorem d1_33 : decode method_2_code 33 = .ok (.iload_n 0, 1) := by decide +kernel
theorem d1_34 : decode method_2_code 34 = .ok (.iconst 2, 1) := by decide +kernel
theorem d1_35 : decode method_2_code 35 = .ok (.if_icmp .ne 15, 3) := by decide +kernel
theorem d1_38 : decode method_2_code 38 = .ok (.new 7, 3) := by decide +kernel
theorem d1_41 : decode method_2_code 41 = .ok (.dup, 1) := by decide +kernel
theorem d1_42 : decode method_2_code 42 = .ok (.getstatic 21, 3) := by decide +kernel
theorem d1_45 : decode method_2_code 45 = .ok (.iload_n 1, 1) := by decide +kernel
theorem d1_46 : decode method_2_code 46 = .ok (.invokespecial 15, 3) := by decide +kernel
theorem d1_49 : decode method_2_code 49 = .ok (.areturn, 1) := by decide +kernel
theorem d1_50 : decode method_2_code 50 = .ok (.iload_n 0, 1) := by decide +kernel
theorem d1_51 : decode method_2_code 51 = .ok (.iconst 3, 1) := by decide +kernel
theorem d1_52 : decode method_2_code 52 = .ok (.if_icmp .ne 15, 3) := by decide +kernel
theorem d1_55 : decode method_2_code 55 = .ok (.new 7, 3) := by decide +kernel
theorem d1_58 : decode method_2_code 58 = .ok (.dup, 1) := by decide +kernel
theorem d1_59 : decode method_2_code 59 = .ok (.getstatic 24, 3) := by decide +kernel
theorem d1_62 : decode method_2_code 62 = .ok (.iload_n 1, 1) := by decide +kernel
theorem d1_63 : decode method_2_code 63 = .ok (.invokespecial 15, 3) := by decide +kernel
theorem d1_66 : decode method_2_code 66 = .ok (.areturn, 1) := by decide +kernel
theorem pn_com_example_unwind_unwind_saga_PositionEqualsPinLaw : plainName "com/example/unwind/unwind/saga/PositionEqualsPinLaw" = true := by first | (simp [plainName, overriddenIn]; done) | decide +kernel
theorem pd2 : parseMethodDescriptor "(Lcom/example/unwind/unwind/saga/SagaState;I)V" = some ⟨[(.object "com/example/unwind/unwind/saga/SagaState"), .int], none⟩ := by decide +kernel
theorem ef_makeP (m : MethodId) (ic : Int32) (ia : Int32) : entryFrame m #[(.int ic), (.int ia)] 2 = mkF m 0 #[.val (.int ic), .val (.int ia)] [] := by first | (simp [entryFrame, mkF, argsToLocals, Value.category]; done) | rfl
def Q_makeP (Z : State) (ic : Int32) (ia : Int32) (z_RUNNING : Addr) (z_ROLLING_BACK : Addr) (z_STUCK : Addr) (z_COMPLETED : Addr) (z_ROLLED_BACK : Addr) (h0 : Heap) (n0 : Nat) (v : Option Value) (h : Heap) (L : List Loc) : Prop := ∃ bp : Addr, v = some (.ref bp) ∧ Fr n0 L ∧ Keep h0 h [] ∧ h0.size ≤ bp ∧ Exa Z h bp "com/example/unwind/unwind/saga/Position" ∧ Fld Z h bp "com/example/unwind/unwind/saga/Position" "state" "Lcom/example/unwind/unwind/saga/SagaState;" (.ref (own_sa ic z_RUNNING z_ROLLING_BACK z_COMPLETED z_ROLLED_BACK)) ∧ Fld Z h bp "com/example/unwind/unwind/saga/Position" "step" "I" (.int ia) ∧ Fld Z h bp "com/example/unwind/unwind/saga/Position" "stuckIn" "Lcom/example/unwind/unwind/saga/SagaState;" .null
set_option maxRecDepth 65536 in
set_option maxHeartbeats 40000000 in
theorem rm_makeP (l : Launch) (Z : State) (a0 : Array Value) (hw : ∀ d ∈ tables_1, d.before a0 Z = true) (ws : List Jvm.Cond) (ic : Int32) (ia : Int32) (z_RUNNING : Addr) (z_ROLLING_BACK : Addr) (z_STUCK : Addr) (z_COMPLETED : Addr) (z_ROLLED_BACK : Addr) (h0 : Heap) (n0 : Nat) (O0 : Old Z n0 h0) (hEL : EW Z a0 own_EL) (P0 : Sta Z Z.heap "com/example/unwind/unwind/saga/SagaState" "RUNNING" "Lcom/example/unwind/unwind/saga/SagaState;" (.ref z_RUNNING)) (P1 : Sta Z Z.heap "com/example/unwind/unwind/saga/SagaState" "ROLLING_BACK" "Lcom/example/unwind/unwind/saga/SagaState;" (.ref z_ROLLING_BACK)) (P2 : Sta Z Z.heap "com/example/unwind/unwind/saga/SagaState" "STUCK" "Lcom/example/unwind/unwind/saga/SagaState;" (.ref z_STUCK)) (P3 : Sta Z Z.heap "com/example/unwind/unwind/saga/SagaState" "COMPLETED" "Lcom/example/unwind/unwind/saga/SagaState;" (.ref z_COMPLETED)) (P4 : Sta Z Z.heap "com/example/unwind/unwind/saga/SagaState" "ROLLED_BACK" "Lcom/example/unwind/unwind/saga/SagaState;" (.ref z_ROLLED_BACK)) (P5 : Exa Z Z.heap z_RUNNING "com/example/unwind/unwind/saga/SagaState") (P6 : Exa Z Z.heap z_ROLLING_BACK "com/example/unwind/unwind/saga/SagaState") (P7 : Exa Z Z.heap z_STUCK "com/example/unwind/unwind/saga/SagaState") (P8 : Exa Z Z.heap z_COMPLETED "com/example/unwind/unwind/saga/SagaState") (P9 : Exa Z Z.heap z_ROLLED_BACK "com/example/unwind/unwind/saga/SagaState") (P10 : z_RUNNING ≠ z_ROLLING_BACK) (P11 : z_RUNNING ≠ z_STUCK) (P12 : z_RUNNING ≠ z_COMPLETED) (P13 : z_RUNNING ≠ z_ROLLED_BACK) (P14 : z_ROLLING_BACK ≠ z_STUCK) (P15 : z_ROLLING_BACK ≠ z_COMPLETED) (P16 : z_ROLLING_BACK ≠ z_ROLLED_BACK) (P17 : z_STUCK ≠ z_COMPLETED) (P18 : z_STUCK ≠ z_ROLLED_BACK) (P19 : z_COMPLETED ≠ z_ROLLED_BACK) (hia : ¬ (ia < (0 : Int32))) (hcp : (ic = 0 ∨ ic = 1 ∨ ic = 2 ∨ ic = 3)) :
    MetFree l (⟨"com/example/unwind/unwind/saga/PositionEqualsPinLaw", "make", "(II)Lcom/example/unwind/unwind/saga/Position;"⟩ : MethodName) (head1 (Jvm.Cond.code (⟨"com/example/unwind/unwind/saga/PositionEqualsPinLaw", "make", "(II)Lcom/example/unwind/unwind/saga/Position;"⟩ : MethodName) method_2_code 2 (some (.object "com/example/unwind/unwind/saga/Position")) :: ws) ({ frames := 3, cells := 3, slots := 27, locals := 44 } : Room)) (fun a U => a = #[(.int ic), (.int ia)] ∧ Z.Warmed39 U.vm ∧ U.heap = h0 ∧ CHv Z own_EL U.vm h0) (fun _ _ _ _ _ => True) (fun _ U o U' => ∃ v L, o = .returned v ∧ Q_makeP Z ic ia z_RUNNING z_ROLLING_BACK z_STUCK z_COMPLETED z_ROLLED_BACK h0 n0 v U'.heap L ∧ CHr Z own_EL U.vm U.heap U'.vm U'.heap ∧ ReturnedEndW U o U' L ({ frames := 3, cells := 3, slots := 27, locals := 44 } : Room).cells ({ frames := 3, cells := 3, slots := 27, locals := 44 } : Room).slots) := by
  refine MetFree.of_bodySF (plainFor_of_name pn_com_example_unwind_unwind_saga_PositionEqualsPinLaw) hisR ?_
  intro p e s m args below meth c s₁ Bd hml0 hP hK
  obtain ⟨rfl, hZ, hh, hC0⟩ := hP
  have hx := Bd.exec
  have hby := Bd.bytes
  have hml : c.maxLocals = 2 := hml0
  have hown : (s.setVm s.vm).vm.findClass "com/example/unwind/unwind/saga/PositionEqualsPinLaw" = some m.cls := findClass_of_methodNamed Bd.named
  have hnm := (name_of_methodNamed Bd.named Bd.method).1
  have hlk : meth.locks = false := BodyLoose.notSynchronized Bd
  have X0 : Stand p l e ({ frames := 3, cells := 3, slots := 27, locals := 44 } : Room) (s.setVm s.vm) m #[(.int ic), (.int ia)] below meth c s₁ [] 0 0 := Stand.of_body Bd
  have e0 : s₁.heap = h0 := by rw [← hh, Bd.state]; rfl
  have N0 := Fr.nil n0
  have hZ : Z.Warmed39 (s.setVm s.vm).vm := hZ
  have hS0 : s.Since s.vm 0 := (State.WarmedH.refl s).since 0
  have hk0 : 0 ≤ h0.size := Nat.zero_le _
  have CR0 : CHr Z own_EL s.vm s.heap s.vm h0 := by rw [hh]; exact CHr.refl hC0
  have K0 := Keep.refl h0 []
  rw [ef_makeP m ic ia]
  show GoH p e below s Z own_EL (fun v h L => Q_makeP Z ic ia z_RUNNING z_ROLLING_BACK z_STUCK z_COMPLETED z_ROLLED_BACK h0 n0 v h L) ({ frames := 3, cells := 3, slots := 27, locals := 44 } : Room).cells ({ frames := 3, cells := 3, slots := 27, locals := 44 } : Room).slots s₁ (mkF m 0 #[.val (.int ic), .val (.int ia)] [])
  refine GoH.step (T' := s₁) (f' := (mkF m 1 #[.val (.int ic), .val (.int ia)] [(.int ic)])) (fun t k => XS.iloadN X0.here hx rfl (hb hby d1_0) rfl k) ?_
  by_cases hc150 : ic = (0 : Int32)
  ·
    refine GoH.step (T' := s₁) (f' := (mkF m 4 #[.val (.int ic), .val (.int ia)] [])) (fun t k => XS.ifNo X0.here hx rfl (hb hby d1_1) rfl ((if0 _ _).trans (teq hc150).2) k) ?_
    obtain ⟨T151, h151, X151, e151, E151, A151, D151, -, st151⟩ := newO X0 hx hZ hown (hw _ (List.mem_of_getElem? (i := 5) rfl)) (hw _ (List.mem_of_getElem? (i := 6) rfl)) (hw _ (List.mem_of_getElem? (i := 7) rfl)) e0 (g := (mkF m 4 #[.val (.int ic), .val (.int ia)] [])) rfl (hb hby d1_4) (by decide) (by decide)
    obtain ⟨b151, g151⟩ : ∃ z, z = h0.size := ⟨_, rfl⟩
    rw [← g151] at A151 D151 st151
    have g152 : n0 ≤ b151 := Nat.le_trans (own_old_le O0) (Nat.le_of_eq g151.symm)
    have g153 : h0.size ≤ b151 := Nat.le_trans K0.1 (Nat.le_of_eq g151.symm)
    have CR154 := CR0.trans (CHr.ext E151 CR0.1)
    have hk155 := Nat.le_trans hk0 E151.1
    have O156 := O0.ext E151
    have K157 := K0.ext E151
    have f158 : Fld Z h151 b151 "com/example/unwind/unwind/saga/Position" "state" "Lcom/example/unwind/unwind/saga/SagaState;" .null := D151 (Or.inr (hw _ (List.mem_of_getElem? (i := 35) rfl))) (ty := (.object "com/example/unwind/unwind/saga/SagaState")) (by decide)
    have f159 : Fld Z h151 b151 "com/example/unwind/unwind/saga/Position" "step" "I" (.int (0 : Int32)) := D151 (Or.inr (hw _ (List.mem_of_getElem? (i := 37) rfl))) (ty := .int) (by decide)
    have f160 : Fld Z h151 b151 "com/example/unwind/unwind/saga/Position" "stuckIn" "Lcom/example/unwind/unwind/saga/SagaState;" .null := D151 (Or.inr (hw _ (List.mem_of_getElem? (i := 39) rfl))) (ty := (.object "com/example/unwind/unwind/saga/SagaState")) (by decide)
    refine GoH.step (T' := T151) (f' := (mkF m 7 #[.val (.int ic), .val (.int ia)] [(.ref b151)])) st151 ?_
    clear st151 X0 CR0 hk0
    refine GoH.step (T' := T151) (f' := (mkF m 8 #[.val (.int ic), .val (.int ia)] [(.ref b151), (.ref b151)])) (fun t k => XS.dup X151.here hx rfl (hb hby d1_7) rfl rfl k) ?_
    obtain ⟨T161, X161, e161, st161⟩ := getS2 X151 hx hZ hown (host := "") (Or.inl (hw _ (List.mem_of_getElem? (i := 8) rfl))) Via.refl e151 (P0.ext O156.2) (g := (mkF m 8 #[.val (.int ic), .val (.int ia)] [(.ref b151), (.ref b151)])) rfl (hb hby d1_8)
    refine GoH.step (T' := T161) (f' := (mkF m 11 #[.val (.int ic), .val (.int ia)] [(.ref z_RUNNING), (.ref b151), (.ref b151)])) st161 ?_
    clear st161 X151
    refine GoH.step (T' := T161) (f' := (mkF m 12 #[.val (.int ic), .val (.int ia)] [(.int ia), (.ref z_RUNNING), (.ref b151), (.ref b151)])) (fun t k => XS.iloadN X161.here hx rfl (hb hby d1_11) rfl k) ?_
    obtain ⟨_, _, ⟨T162, L162, k162, n162⟩, -, X162, hS162, hg162, ⟨Lc162, hQ162, l162, y162, z162, ch162⟩, st162⟩ := X161.specialBackS hx (y := (⟨"com/example/unwind/unwind/saga/Position", "<init>", "(Lcom/example/unwind/unwind/saga/SagaState;I)V"⟩ : MethodName)) rfl hown (mvT hZ (hw _ (List.mem_of_getElem? (i := 11) rfl))) (mvT hZ (hw _ (List.mem_of_getElem? (i := 12) rfl))) (mvT hZ (hw _ (List.mem_of_getElem? (i := 13) rfl))) (by decide) (backOfSH (s := s) (vm0 := s.vm) (W := 1) (rm_init2 l Z a0 hw [] b151 z_RUNNING ia .null (.int (0 : Int32)) .null z_STUCK h151 n0 O156 hEL A151 f158 f159 f160 g152 P5 hia P2 P11) hZ (hw _ (List.mem_of_getElem? (i := 13) rfl)) (hw _ (List.mem_of_getElem? (i := 7) rfl)) (by decide) (by decide) hEL CR154.1) (g := (mkF m 12 #[.val (.int ic), .val (.int ia)] [(.int ia), (.ref z_RUNNING), (.ref b151), (.ref b151)])) rfl (by rw [hml]; rfl) (Steps.refl _) (a := b151) (argsL := [(.ref z_RUNNING), (.int ia)]) (rest := [(.ref b151)]) (lenOf pd2 rfl) rfl (by show 2 * 0 + _ ≤ _; exact Nat.le_of_eq rfl) (hb hby d1_12) (fun _ _ => ⟨rfl, e161, (by decide : 1 + 2 ≤ _), (by decide : 3 + 24 ≤ _)⟩)
    dsimp only [Pt.U, Pt.locs, Pt.cells, Pt.slots] at X162 l162 y162 z162 st162 hQ162 hS162 hg162 ch162
    subst l162 y162 z162
    obtain ⟨X162, hS162, hZ, hown⟩ := rebS (s := s) (vm0 := s.vm) hS0 (show _ ≤ T161.heap.size by rw [e161]; exact hk155) X162 hS162 hg162 hZ hown
    obtain ⟨rfl, Nq162, hh162, p163, p164, p165, p166⟩ := hQ162
    have N167 := Fr.app N0 Nq162
    have CR168 := CR154.trans ch162
    have hk169 := Nat.le_refl T162.heap.size
    have f170 := A151.keep hh162
    have O171 := O156.keep hh162 (allS g152 all0)
    have K172 := K157.trans hh162 (allS (Or.inr g153) all0)
    refine GoH.via (T' := T162) (f' := (mkF m 15 #[.val (.int ic), .val (.int ia)] [(.ref b151)])) st162 ?_
    clear st162 X161 Nq162 CR154 hk155 hS0
    refine GoH.fin X162 hZ hEL hS162 hk169 CR168 hlk (v := some (.ref b151)) (fun h => by rw [Bd.returns] at h; cases h) (fun fs hr => retOut X162 hx Bd.returns (own_nar_ref rfl rfl) (Or.inr (Or.inr (Or.inr (Or.inr ⟨rfl, rfl, rfl⟩)))) (hb hby d1_15) hr) rfl ?_ (by decide) (by decide)
    exact ⟨b151, rfl, N167, K172, g153, p163, (own_fcast (by simp [own_sa, hc150]) p164), p165, p166⟩
  ·
    refine GoH.step (T' := s₁) (f' := (mkF m 16 #[.val (.int ic), .val (.int ia)] [])) (fun t k => XS.ifYes X0.here hx rfl (pc0 := 1) (pc' := 16) rfl (hb hby d1_1) rfl ((if0 _ _).trans (feq hc150).2) (by decide) (by decide) k) ?_
    refine GoH.step (T' := s₁) (f' := (mkF m 17 #[.val (.int ic), .val (.int ia)] [(.int ic)])) (fun t k => XS.iloadN X0.here hx rfl (hb hby d1_16) rfl k) ?_
    refine GoH.step (T' := s₁) (f' := (mkF m 18 #[.val (.int ic), .val (.int ia)] [(.int (1 : Int32)), (.int ic)])) (fun t k => XS.iconst X0.here hx rfl (hb hby d1_17) k) ?_
    by_cases hc173 : ic = (1 : Int32)
    ·
      refine GoH.step (T' := s₁) (f' := (mkF m 21 #[.val (.int ic), .val (.int ia)] [])) (fun t k => XS.icmpNo X0.here hx rfl (hb hby d1_18) rfl (teq hc173).2 k) ?_
      obtain ⟨T174, h174, X174, e174, E174, A174, D174, -, st174⟩ := newO X0 hx hZ hown (hw _ (List.mem_of_getElem? (i := 5) rfl)) (hw _ (List.mem_of_getElem? (i := 6) rfl)) (hw _ (List.mem_of_getElem? (i := 7) rfl)) e0 (g := (mkF m 21 #[.val (.int ic), .val (.int ia)] [])) rfl (hb hby d1_21) (by decide) (by decide)
      obtain ⟨b174, g174⟩ : ∃ z, z = h0.size := ⟨_, rfl⟩
      rw [← g174] at A174 D174 st174
      have g175 : n0 ≤ b174 := Nat.le_trans (own_old_le O0) (Nat.le_of_eq g174.symm)
      have g176 : h0.size ≤ b174 := Nat.le_trans K0.1 (Nat.le_of_eq g174.symm)
      have CR177 := CR0.trans (CHr.ext E174 CR0.1)
      have hk178 := Nat.le_trans hk0 E174.1
      have O179 := O0.ext E174
      have K180 := K0.ext E174
      have f181 : Fld Z h174 b174 "com/example/unwind/unwind/saga/Position" "state" "Lcom/example/unwind/unwind/saga/SagaState;" .null := D174 (Or.inr (hw _ (List.mem_of_getElem? (i := 35) rfl))) (ty := (.object "com/example/unwind/unwind/saga/SagaState")) (by decide)
      have f182 : Fld Z h174 b174 "com/example/unwind/unwind/saga/Position" "step" "I" (.int (0 : Int32)) := D174 (Or.inr (hw _ (List.mem_of_getElem? (i := 37) rfl))) (ty := .int) (by decide)
      have f183 : Fld Z h174 b174 "com/example/unwind/unwind/saga/Position" "stuckIn" "Lcom/example/unwind/unwind/saga/SagaState;" .null := D174 (Or.inr (hw _ (List.mem_of_getElem? (i := 39) rfl))) (ty := (.object "com/example/unwind/unwind/saga/SagaState")) (by decide)
      refine GoH.step (T' := T174) (f' := (mkF m 24 #[.val (.int ic), .val (.int ia)] [(.ref b174)])) st174 ?_
      clear st174 X0 CR0 hk0
      refine GoH.step (T' := T174) (f' := (mkF m 25 #[.val (.int ic), .val (.int ia)] [(.ref b174), (.ref b174)])) (fun t k => XS.dup X174.here hx rfl (hb hby d1_24) rfl rfl k) ?_
      obtain ⟨T184, X184, e184, st184⟩ := getS2 X174 hx hZ hown (host := "") (Or.inl (hw _ (List.mem_of_getElem? (i := 82) rfl))) Via.refl e174 (P1.ext O179.2) (g := (mkF m 25 #[.val (.int ic), .val (.int ia)] [(.ref b174), (.ref b174)])) rfl (hb hby d1_25)
      refine GoH.step (T' := T184) (f' := (mkF m 28 #[.val (.int ic), .val (.int ia)] [(.ref z_ROLLING_BACK), (.ref b174), (.ref b174)])) st184 ?_
      clear st184 X174
      refine GoH.step (T' := T184) (f' := (mkF m 29 #[.val (.int ic), .val (.int ia)] [(.int ia), (.ref z_ROLLING_BACK), (.ref b174), (.ref b174)])) (fun t k => XS.iloadN X184.here hx rfl (hb hby d1_28) rfl k) ?_
      obtain ⟨_, _, ⟨T185, L185, k185, n185⟩, -, X185, hS185, hg185, ⟨Lc185, hQ185, l185, y185, z185, ch185⟩, st185⟩ := X184.specialBackS hx (y := (⟨"com/example/unwind/unwind/saga/Position", "<init>", "(Lcom/example/unwind/unwind/saga/SagaState;I)V"⟩ : MethodName)) rfl hown (mvT hZ (hw _ (List.mem_of_getElem? (i := 11) rfl))) (mvT hZ (hw _ (List.mem_of_getElem? (i := 12) rfl))) (mvT hZ (hw _ (List.mem_of_getElem? (i := 13) rfl))) (by decide) (backOfSH (s := s) (vm0 := s.vm) (W := 1) (rm_init2 l Z a0 hw [] b174 z_ROLLING_BACK ia .null (.int (0 : Int32)) .null z_STUCK h174 n0 O179 hEL A174 f181 f182 f183 g175 P6 hia P2 P14) hZ (hw _ (List.mem_of_getElem? (i := 13) rfl)) (hw _ (List.mem_of_getElem? (i := 7) rfl)) (by decide) (by decide) hEL CR177.1) (g := (mkF m 29 #[.val (.int ic), .val (.int ia)] [(.int ia), (.ref z_ROLLING_BACK), (.ref b174), (.ref b174)])) rfl (by rw [hml]; rfl) (Steps.refl _) (a := b174) (argsL := [(.ref z_ROLLING_BACK), (.int ia)]) (rest := [(.ref b174)]) (lenOf pd2 rfl) rfl (by show 2 * 0 + _ ≤ _; exact Nat.le_of_eq rfl) (hb hby d1_29) (fun _ _ => ⟨rfl, e184, (by decide : 1 + 2 ≤ _), (by decide : 3 + 24 ≤ _)⟩)
      dsimp only [Pt.U, Pt.locs, Pt.cells, Pt.slots] at X185 l185 y185 z185 st185 hQ185 hS185 hg185 ch185
      subst l185 y185 z185
      obtain ⟨X185, hS185, hZ, hown⟩ := rebS (s := s) (vm0 := s.vm) hS0 (show _ ≤ T184.heap.size by rw [e184]; exact hk178) X185 hS185 hg185 hZ hown
      obtain ⟨rfl, Nq185, hh185, p186, p187, p188, p189⟩ := hQ185
      have N190 := Fr.app N0 Nq185
      have CR191 := CR177.trans ch185
      have hk192 := Nat.le_refl T185.heap.size
      have f193 := A174.keep hh185
      have O194 := O179.keep hh185 (allS g175 all0)
      have K195 := K180.trans hh185 (allS (Or.inr g176) all0)
      refine GoH.via (T' := T185) (f' := (mkF m 32 #[.val (.int ic), .val (.int ia)] [(.ref b174)])) st185 ?_
      clear st185 X184 Nq185 CR177 hk178 hS0
      refine GoH.fin X185 hZ hEL hS185 hk192 CR191 hlk (v := some (.ref b174)) (fun h => by rw [Bd.returns] at h; cases h) (fun fs hr => retOut X185 hx Bd.returns (own_nar_ref rfl rfl) (Or.inr (Or.inr (Or.inr (Or.inr ⟨rfl, rfl, rfl⟩)))) (hb hby d1_32) hr) rfl ?_ (by decide) (by decide)
      exact ⟨b174, rfl, N190, K195, g176, p186, (own_fcast (by simp [own_sa, hc150, hc173]) p187), p188, p189⟩
    ·
      refine GoH.step (T' := s₁) (f' := (mkF m 33 #[.val (.int ic), .val (.int ia)] [])) (fun t k => XS.icmpYes X0.here hx rfl (pc0 := 18) (pc' := 33) rfl (hb hby d1_18) rfl (feq hc173).2 (by decide) (by decide) k) ?_
      refine GoH.step (T' := s₁) (f' := (mkF m 34 #[.val (.int ic), .val (.int ia)] [(.int ic)])) (fun t k => XS.iloadN X0.here hx rfl (hb hby d1_33) rfl k) ?_
      refine GoH.step (T' := s₁) (f' := (mkF m 35 #[.val (.int ic), .val (.int ia)] [(.int (2 : Int32)), (.int ic)])) (fun t k => XS.iconst X0.here hx rfl (hb hby d1_34) k) ?_
      by_cases hc196 : ic = (2 : Int32)
      ·
        refine GoH.step (T' := s₁) (f' := (mkF m 38 #[.val (.int ic), .val (.int ia)] [])) (fun t k => XS.icmpNo X0.here hx rfl (hb hby d1_35) rfl (teq hc196).2 k) ?_
        obtain ⟨T197, h197, X197, e197, E197, A197, D197, -, st197⟩ := newO X0 hx hZ hown (hw _ (List.mem_of_getElem? (i := 5) rfl)) (hw _ (List.mem_of_getElem? (i := 6) rfl)) (hw _ (List.mem_of_getElem? (i := 7) rfl)) e0 (g := (mkF m 38 #[.val (.int ic), .val (.int ia)] [])) rfl (hb hby d1_38) (by decide) (by decide)
        obtain ⟨b197, g197⟩ : ∃ z, z = h0.size := ⟨_, rfl⟩
        rw [← g197] at A197 D197 st197
        have g198 : n0 ≤ b197 := Nat.le_trans (own_old_le O0) (Nat.le_of_eq g197.symm)
        have g199 : h0.size ≤ b197 := Nat.le_trans K0.1 (Nat.le_of_eq g197.symm)
        have CR200 := CR0.trans (CHr.ext E197 CR0.1)
        have hk201 := Nat.le_trans hk0 E197.1
        have O202 := O0.ext E197
        have K203 := K0.ext E197
        have f204 : Fld Z h197 b197 "com/example/unwind/unwind/saga/Position" "state" "Lcom/example/unwind/unwind/saga/SagaState;" .null := D197 (Or.inr (hw _ (List.mem_of_getElem? (i := 35) rfl))) (ty := (.object "com/example/unwind/unwind/saga/SagaState")) (by decide)
        have f205 : Fld Z h197 b197 "com/example/unwind/unwind/saga/Position" "step" "I" (.int (0 : Int32)) := D197 (Or.inr (hw _ (List.mem_of_getElem? (i := 37) rfl))) (ty := .int) (by decide)
        have f206 : Fld Z h197 b197 "com/example/unwind/unwind/saga/Position" "stuckIn" "Lcom/example/unwind/unwind/saga/SagaState;" .null := D197 (Or.inr (hw _ (List.mem_of_getElem? (i := 39) rfl))) (ty := (.object "com/example/unwind/unwind/saga/SagaState")) (by decide)
        refine GoH.step (T' := T197) (f' := (mkF m 41 #[.val (.int ic), .val (.int ia)] [(.ref b197)])) st197 ?_
        clear st197 X0 CR0 hk0
        refine GoH.step (T' := T197) (f' := (mkF m 42 #[.val (.int ic), .val (.int ia)] [(.ref b197), (.ref b197)])) (fun t k => XS.dup X197.here hx rfl (hb hby d1_41) rfl rfl k) ?_
        obtain ⟨T207, X207, e207, st207⟩ := getS2 X197 hx hZ hown (host := "") (Or.inl (hw _ (List.mem_of_getElem? (i := 61) rfl))) Via.refl e197 (P3.ext O202.2) (g := (mkF m 42 #[.val (.int ic), .val (.int ia)] [(.ref b197), (.ref b197)])) rfl (hb hby d1_42)
        refine GoH.step (T' := T207) (f' := (mkF m 45 #[.val (.int ic), .val (.int ia)] [(.ref z_COMPLETED), (.ref b197), (.ref b197)])) st207 ?_
        clear st207 X197
        refine GoH.step (T' := T207) (f' := (mkF m 46 #[.val (.int ic), .val (.int ia)] [(.int ia), (.ref z_COMPLETED), (.ref b197), (.ref b197)])) (fun t k => XS.iloadN X207.here hx rfl (hb hby d1_45) rfl k) ?_
        obtain ⟨_, _, ⟨T208, L208, k208, n208⟩, -, X208, hS208, hg208, ⟨Lc208, hQ208, l208, y208, z208, ch208⟩, st208⟩ := X207.specialBackS hx (y := (⟨"com/example/unwind/unwind/saga/Position", "<init>", "(Lcom/example/unwind/unwind/saga/SagaState;I)V"⟩ : MethodName)) rfl hown (mvT hZ (hw _ (List.mem_of_getElem? (i := 11) rfl))) (mvT hZ (hw _ (List.mem_of_getElem? (i := 12) rfl))) (mvT hZ (hw _ (List.mem_of_getElem? (i := 13) rfl))) (by decide) (backOfSH (s := s) (vm0 := s.vm) (W := 1) (rm_init2 l Z a0 hw [] b197 z_COMPLETED ia .null (.int (0 : Int32)) .null z_STUCK h197 n0 O202 hEL A197 f204 f205 f206 g198 P8 hia P2 (Ne.symm P17)) hZ (hw _ (List.mem_of_getElem? (i := 13) rfl)) (hw _ (List.mem_of_getElem? (i := 7) rfl)) (by decide) (by decide) hEL CR200.1) (g := (mkF m 46 #[.val (.int ic), .val (.int ia)] [(.int ia), (.ref z_COMPLETED), (.ref b197), (.ref b197)])) rfl (by rw [hml]; rfl) (Steps.refl _) (a := b197) (argsL := [(.ref z_COMPLETED), (.int ia)]) (rest := [(.ref b197)]) (lenOf pd2 rfl) rfl (by show 2 * 0 + _ ≤ _; exact Nat.le_of_eq rfl) (hb hby d1_46) (fun _ _ => ⟨rfl, e207, (by decide : 1 + 2 ≤ _), (by decide : 3 + 24 ≤ _)⟩)
        dsimp only [Pt.U, Pt.locs, Pt.cells, Pt.slots] at X208 l208 y208 z208 st208 hQ208 hS208 hg208 ch208
        subst l208 y208 z208
        obtain ⟨X208, hS208, hZ, hown⟩ := rebS (s := s) (vm0 := s.vm) hS0 (show _ ≤ T207.heap.size by rw [e207]; exact hk201) X208 hS208 hg208 hZ hown
        obtain ⟨rfl, Nq208, hh208, p209, p210, p211, p212⟩ := hQ208
        have N213 := Fr.app N0 Nq208
        have CR214 := CR200.trans ch208
        have hk215 := Nat.le_refl T208.heap.size
        have f216 := A197.keep hh208
        have O217 := O202.keep hh208 (allS g198 all0)
        have K218 := K203.trans hh208 (allS (Or.inr g199) all0)
        refine GoH.via (T' := T208) (f' := (mkF m 49 #[.val (.int ic), .val (.int ia)] [(.ref b197)])) st208 ?_
        clear st208 X207 Nq208 CR200 hk201 hS0
        refine GoH.fin X208 hZ hEL hS208 hk215 CR214 hlk (v := some (.ref b197)) (fun h => by rw [Bd.returns] at h; cases h) (fun fs hr => retOut X208 hx Bd.returns (own_nar_ref rfl rfl) (Or.inr (Or.inr (Or.inr (Or.inr ⟨rfl, rfl, rfl⟩)))) (hb hby d1_49) hr) rfl ?_ (by decide) (by decide)
        exact ⟨b197, rfl, N213, K218, g199, p209, (own_fcast (by simp [own_sa, hc150, hc173, hc196]) p210), p211, p212⟩
      ·
        refine GoH.step (T' := s₁) (f' := (mkF m 50 #[.val (.int ic), .val (.int ia)] [])) (fun t k => XS.icmpYes X0.here hx rfl (pc0 := 35) (pc' := 50) rfl (hb hby d1_35) rfl (feq hc196).2 (by decide) (by decide) k) ?_
        refine GoH.step (T' := s₁) (f' := (mkF m 51 #[.val (.int ic), .val (.int ia)] [(.int ic)])) (fun t k => XS.iloadN X0.here hx rfl (hb hby d1_50) rfl k) ?_
        refine GoH.step (T' := s₁) (f' := (mkF m 52 #[.val (.int ic), .val (.int ia)] [(.int (3 : Int32)), (.int ic)])) (fun t k => XS.iconst X0.here hx rfl (hb hby d1_51) k) ?_
        have hc219 : ic = (3 : Int32) := by
          simp_all
        refine GoH.step (T' := s₁) (f' := (mkF m 55 #[.val (.int ic), .val (.int ia)] [])) (fun t k => XS.icmpNo X0.here hx rfl (hb hby d1_52) rfl (teq hc219).2 k) ?_
        obtain ⟨T220, h220, X220, e220, E220, A220, D220, -, st220⟩ := newO X0 hx hZ hown (hw _ (List.mem_of_getElem? (i := 5) rfl)) (hw _ (List.mem_of_getElem? (i := 6) rfl)) (hw _ (List.mem_of_getElem? (i := 7) rfl)) e0 (g := (mkF m 55 #[.val (.int ic), .val (.int ia)] [])) rfl (hb hby d1_55) (by decide) (by decide)
        obtain ⟨b220, g220⟩ : ∃ z, z = h0.size := ⟨_, rfl⟩
        rw [← g220] at A220 D220 st220
        have g221 : n0 ≤ b220 := Nat.le_trans (own_old_le O0) (Nat.le_of_eq g220.symm)
        have g222 : h0.size ≤ b220 := Nat.le_trans K0.1 (Nat.le_of_eq g220.symm)
        have CR223 := CR0.trans (CHr.ext E220 CR0.1)
        have hk224 := Nat.le_trans hk0 E220.1
        have O225 := O0.ext E220
        have K226 := K0.ext E220
        have f227 : Fld Z h220 b220 "com/example/unwind/unwind/saga/Position" "state" "Lcom/example/unwind/unwind/saga/SagaState;" .null := D220 (Or.inr (hw _ (List.mem_of_getElem? (i := 35) rfl))) (ty := (.object "com/example/unwind/unwind/saga/SagaState")) (by decide)
        have f228 : Fld Z h220 b220 "com/example/unwind/unwind/saga/Position" "step" "I" (.int (0 : Int32)) := D220 (Or.inr (hw _ (List.mem_of_getElem? (i := 37) rfl))) (ty := .int) (by decide)
        have f229 : Fld Z h220 b220 "com/example/unwind/unwind/saga/Position" "stuckIn" "Lcom/example/unwind/unwind/saga/SagaState;" .null := D220 (Or.inr (hw _ (List.mem_of_getElem? (i := 39) rfl))) (ty := (.object "com/example/unwind/unwind/saga/SagaState")) (by decide)
        refine GoH.step (T' := T220) (f' := (mkF m 58 #[.val (.int ic), .val (.int ia)] [(.ref b220)])) st220 ?_
        clear st220 X0 CR0 hk0
        refine GoH.step (T' := T220) (f' := (mkF m 59 #[.val (.int ic), .val (.int ia)] [(.ref b220), (.ref b220)])) (fun t k => XS.dup X220.here hx rfl (hb hby d1_58) rfl rfl k) ?_
        obtain ⟨T230, X230, e230, st230⟩ := getS2 X220 hx hZ hown (host := "") (Or.inl (hw _ (List.mem_of_getElem? (i := 42) rfl))) Via.refl e220 (P4.ext O225.2) (g := (mkF m 59 #[.val (.int ic), .val (.int ia)] [(.ref b220), (.ref b220)])) rfl (hb hby d1_59)
        refine GoH.step (T' := T230) (f' := (mkF m 62 #[.val (.int ic), .val (.int ia)] [(.ref z_ROLLED_BACK), (.ref b220), (.ref b220)])) st230 ?_
        clear st230 X220
        refine GoH.step (T' := T230) (f' := (mkF m 63 #[.val (.int ic), .val (.int ia)] [(.int ia), (.ref z_ROLLED_BACK), (.ref b220), (.ref b220)])) (fun t k => XS.iloadN X230.here hx rfl (hb hby d1_62) rfl k) ?_
        obtain ⟨_, _, ⟨T231, L231, k231, n231⟩, -, X231, hS231, hg231, ⟨Lc231, hQ231, l231, y231, z231, ch231⟩, st231⟩ := X230.specialBackS hx (y := (⟨"com/example/unwind/unwind/saga/Position", "<init>", "(Lcom/example/unwind/unwind/saga/SagaState;I)V"⟩ : MethodName)) rfl hown (mvT hZ (hw _ (List.mem_of_getElem? (i := 11) rfl))) (mvT hZ (hw _ (List.mem_of_getElem? (i := 12) rfl))) (mvT hZ (hw _ (List.mem_of_getElem? (i := 13) rfl))) (by decide) (backOfSH (s := s) (vm0 := s.vm) (W := 1) (rm_init2 l Z a0 hw [] b220 z_ROLLED_BACK ia .null (.int (0 : Int32)) .null z_STUCK h220 n0 O225 hEL A220 f227 f228 f229 g221 P9 hia P2 (Ne.symm P18)) hZ (hw _ (List.mem_of_getElem? (i := 13) rfl)) (hw _ (List.mem_of_getElem? (i := 7) rfl)) (by decide) (by decide) hEL CR223.1) (g := (mkF m 63 #[.val (.int ic), .val (.int ia)] [(.int ia), (.ref z_ROLLED_BACK), (.ref b220), (.ref b220)])) rfl (by rw [hml]; rfl) (Steps.refl _) (a := b220) (argsL := [(.ref z_ROLLED_BACK), (.int ia)]) (rest := [(.ref b220)]) (lenOf pd2 rfl) rfl (by show 2 * 0 + _ ≤ _; exact Nat.le_of_eq rfl) (hb hby d1_63) (fun _ _ => ⟨rfl, e230, (by decide : 1 + 2 ≤ _), (by decide : 3 + 24 ≤ _)⟩)
        dsimp only [Pt.U, Pt.locs, Pt.cells, Pt.slots] at X231 l231 y231 z231 st231 hQ231 hS231 hg231 ch231
        subst l231 y231 z231
        obtain ⟨X231, hS231, hZ, hown⟩ := rebS (s := s) (vm0 := s.vm) hS0 (show _ ≤ T230.heap.size by rw [e230]; exact hk224) X231 hS231 hg231 hZ hown
        obtain ⟨rfl, Nq231, hh231, p232, p233, p234, p235⟩ := hQ231
        have N236 := Fr.app N0 Nq231
        have CR237 := CR223.trans ch231
        have hk238 := Nat.le_refl T231.heap.size
        have f239 := A220.keep hh231
        have O240 := O225.keep hh231 (allS g221 all0)
        have K241 := K226.trans hh231 (allS (Or.inr g222) all0)
        refine GoH.via (T' := T231) (f' := (mkF m 66 #[.val (.int ic), .val (.int ia)] [(.ref b220)])) st231 ?_
        clear st231 X230 Nq231 CR223 hk224 hS0
        refine GoH.fin X231 hZ hEL hS231 hk238 CR237 hlk (v := some (.ref b220)) (fun h => by rw [Bd.returns] at h; cases h) (fun fs hr => retOut X231 hx Bd.returns (own_nar_ref rfl rfl) (Or.inr (Or.inr (Or.inr (Or.inr ⟨rfl, rfl, rfl⟩)))) (hb hby d1_66) hr) rfl ?_ (by decide) (by decide)
        exact ⟨b220, rfl, N236, K241, g222, p232, (own_fcast (by simp [own_sa, hc150, hc173, hc196, hc219]) p233), p234, p235⟩
theorem d1_67 : decode method_2_code 67 = .ok (.iload_n 0, 1) := by decide +kernel
theorem d1_68 : decode method_2_code 68 = .ok (.iconst 4, 1) := by decide +kernel
theorem d1_69 : decode method_2_code 69 = .ok (.if_icmp .ne 11, 3) := by decide +kernel
theorem d1_72 : decode method_2_code 72 = .ok (.iload_n 1, 1) := by decide +kernel
theorem d1_73 : decode method_2_code 73 = .ok (.getstatic 9, 3) := by decide +kernel
theorem d1_76 : decode method_2_code 76 = .ok (.invokestatic 27, 3) := by decide +kernel
theorem d1_79 : decode method_2_code 79 = .ok (.areturn, 1) := by decide +kernel
theorem d1_80 : decode method_2_code 80 = .ok (.iload_n 1, 1) := by decide +kernel
theorem d1_81 : decode method_2_code 81 = .ok (.getstatic 18, 3) := by decide +kernel
theorem d1_84 : decode method_2_code 84 = .ok (.invokestatic 27, 3) := by decide +kernel
theorem d1_87 : decode method_2_code 87 = .ok (.areturn, 1) := by decide +kernel
theorem pd3 : parseMethodDescriptor "(ILcom/example/unwind/unwind/saga/SagaState;)Lcom/example/unwind/unwind/saga/Position;" = some ⟨[.int, (.object "com/example/unwind/unwind/saga/SagaState")], some (.object "com/example/unwind/unwind/saga/Position")⟩ := by decide +kernel
theorem ef_makeS (m : MethodId) (ic : Int32) (ia : Int32) : entryFrame m #[(.int ic), (.int ia)] 2 = mkF m 0 #[.val (.int ic), .val (.int ia)] [] := by first | (simp [entryFrame, mkF, argsToLocals, Value.category]; done) | rfl
def Q_makeS (Z : State) (ic : Int32) (ia : Int32) (z_RUNNING : Addr) (z_ROLLING_BACK : Addr) (z_STUCK : Addr) (z_COMPLETED : Addr) (z_ROLLED_BACK : Addr) (h0 : Heap) (n0 : Nat) (v : Option Value) (h : Heap) (L : List Loc) : Prop := ∃ bp : Addr, v = some (.ref bp) ∧ Fr n0 L ∧ Keep h0 h [] ∧ h0.size ≤ bp ∧ Exa Z h bp "com/example/unwind/unwind/saga/Position" ∧ Fld Z h bp "com/example/unwind/unwind/saga/Position" "state" "Lcom/example/unwind/unwind/saga/SagaState;" (.ref z_STUCK) ∧ Fld Z h bp "com/example/unwind/unwind/saga/Position" "step" "I" (.int ia) ∧ Fld Z h bp "com/example/unwind/unwind/saga/Position" "stuckIn" "Lcom/example/unwind/unwind/saga/SagaState;" (.ref (own_sb ic z_RUNNING z_ROLLING_BACK))
set_option maxRecDepth 65536 in
set_option maxHeartbeats 40000000 in
theorem rm_makeS (l : Launch) (Z : State) (a0 : Array Value) (hw : ∀ d ∈ tables_1, d.before a0 Z = true) (ws : List Jvm.Cond) (ic : Int32) (ia : Int32) (z_RUNNING : Addr) (z_ROLLING_BACK : Addr) (z_STUCK : Addr) (z_COMPLETED : Addr) (z_ROLLED_BACK : Addr) (h0 : Heap) (n0 : Nat) (O0 : Old Z n0 h0) (hEL : EW Z a0 own_EL) (P0 : Sta Z Z.heap "com/example/unwind/unwind/saga/SagaState" "RUNNING" "Lcom/example/unwind/unwind/saga/SagaState;" (.ref z_RUNNING)) (P1 : Sta Z Z.heap "com/example/unwind/unwind/saga/SagaState" "ROLLING_BACK" "Lcom/example/unwind/unwind/saga/SagaState;" (.ref z_ROLLING_BACK)) (P2 : Sta Z Z.heap "com/example/unwind/unwind/saga/SagaState" "STUCK" "Lcom/example/unwind/unwind/saga/SagaState;" (.ref z_STUCK)) (P3 : Sta Z Z.heap "com/example/unwind/unwind/saga/SagaState" "COMPLETED" "Lcom/example/unwind/unwind/saga/SagaState;" (.ref z_COMPLETED)) (P4 : Sta Z Z.heap "com/example/unwind/unwind/saga/SagaState" "ROLLED_BACK" "Lcom/example/unwind/unwind/saga/SagaState;" (.ref z_ROLLED_BACK)) (P5 : Exa Z Z.heap z_RUNNING "com/example/unwind/unwind/saga/SagaState") (P6 : Exa Z Z.heap z_ROLLING_BACK "com/example/unwind/unwind/saga/SagaState") (P7 : Exa Z Z.heap z_STUCK "com/example/unwind/unwind/saga/SagaState") (P8 : Exa Z Z.heap z_COMPLETED "com/example/unwind/unwind/saga/SagaState") (P9 : Exa Z Z.heap z_ROLLED_BACK "com/example/unwind/unwind/saga/SagaState") (P10 : z_RUNNING ≠ z_ROLLING_BACK) (P11 : z_RUNNING ≠ z_STUCK) (P12 : z_RUNNING ≠ z_COMPLETED) (P13 : z_RUNNING ≠ z_ROLLED_BACK) (P14 : z_ROLLING_BACK ≠ z_STUCK) (P15 : z_ROLLING_BACK ≠ z_COMPLETED) (P16 : z_ROLLING_BACK ≠ z_ROLLED_BACK) (P17 : z_STUCK ≠ z_COMPLETED) (P18 : z_STUCK ≠ z_ROLLED_BACK) (P19 : z_COMPLETED ≠ z_ROLLED_BACK) (hia : ¬ (ia < (0 : Int32))) (hcs : (ic = 4 ∨ ic = 5)) :
    MetFree l (⟨"com/example/unwind/unwind/saga/PositionEqualsPinLaw", "make", "(II)Lcom/example/unwind/unwind/saga/Position;"⟩ : MethodName) (head1 (Jvm.Cond.code (⟨"com/example/unwind/unwind/saga/PositionEqualsPinLaw", "make", "(II)Lcom/example/unwind/unwind/saga/Position;"⟩ : MethodName) method_2_code 2 (some (.object "com/example/unwind/unwind/saga/Position")) :: ws) ({ frames := 3, cells := 3, slots := 27, locals := 43 } : Room)) (fun a U => a = #[(.int ic), (.int ia)] ∧ Z.Warmed39 U.vm ∧ U.heap = h0 ∧ CHv Z own_EL U.vm h0) (fun _ _ _ _ _ => True) (fun _ U o U' => ∃ v L, o = .returned v ∧ Q_makeS Z ic ia z_RUNNING z_ROLLING_BACK z_STUCK z_COMPLETED z_ROLLED_BACK h0 n0 v U'.heap L ∧ CHr Z own_EL U.vm U.heap U'.vm U'.heap ∧ ReturnedEndW U o U' L ({ frames := 3, cells := 3, slots := 27, locals := 43 } : Room).cells ({ frames := 3, cells := 3, slots := 27, locals := 43 } : Room).slots) := by
  refine MetFree.of_bodySF (plainFor_of_name pn_com_example_unwind_unwind_saga_PositionEqualsPinLaw) hisR ?_
  intro p e s m args below meth c s₁ Bd hml0 hP hK
  obtain ⟨rfl, hZ, hh, hC0⟩ := hP
  have hx := Bd.exec
  have hby := Bd.bytes
  have hml : c.maxLocals = 2 := hml0
  have hown : (s.setVm s.vm).vm.findClass "com/example/unwind/unwind/saga/PositionEqualsPinLaw" = some m.cls := findClass_of_methodNamed Bd.named
  have hnm := (name_of_methodNamed Bd.named Bd.method).1
  have hlk : meth.locks = false := BodyLoose.notSynchronized Bd
  have X0 : Stand p l e ({ frames := 3, cells := 3, slots := 27, locals := 43 } : Room) (s.setVm s.vm) m #[(.int ic), (.int ia)] below meth c s₁ [] 0 0 := Stand.of_body Bd
  have e0 : s₁.heap = h0 := by rw [← hh, Bd.state]; rfl
  have N0 := Fr.nil n0
  have hZ : Z.Warmed39 (s.setVm s.vm).vm := hZ
  have hS0 : s.Since s.vm 0 := (State.WarmedH.refl s).since 0
  have hk0 : 0 ≤ h0.size := Nat.zero_le _
  have CR0 : CHr Z own_EL s.vm s.heap s.vm h0 := by rw [hh]; exact CHr.refl hC0
  have K0 := Keep.refl h0 []
  rw [ef_makeS m ic ia]
  show GoH p e below s Z own_EL (fun v h L => Q_makeS Z ic ia z_RUNNING z_ROLLING_BACK z_STUCK z_COMPLETED z_ROLLED_BACK h0 n0 v h L) ({ frames := 3, cells := 3, slots := 27, locals := 43 } : Room).cells ({ frames := 3, cells := 3, slots := 27, locals := 43 } : Room).slots s₁ (mkF m 0 #[.val (.int ic), .val (.int ia)] [])
  refine GoH.step (T' := s₁) (f' := (mkF m 1 #[.val (.int ic), .val (.int ia)] [(.int ic)])) (fun t k => XS.iloadN X0.here hx rfl (hb hby d1_0) rfl k) ?_
  have hc242 : ¬ (ic = (0 : Int32)) := by
    rcases hcs with rfl | rfl <;> decide
  refine GoH.step (T' := s₁) (f' := (mkF m 16 #[.val (.int ic), .val (.int ia)] [])) (fun t k => XS.ifYes X0.here hx rfl (pc0 := 1) (pc' := 16) rfl (hb hby d1_1) rfl ((if0 _ _).trans (feq hc242).2) (by decide) (by decide) k) ?_
  refine GoH.step (T' := s₁) (f' := (mkF m 17 #[.val (.int ic), .val (.int ia)] [(.int ic)])) (fun t k => XS.iloadN X0.here hx rfl (hb hby d1_16) rfl k) ?_
  refine GoH.step (T' := s₁) (f' := (mkF m 18 #[.val (.int ic), .val (.int ia)] [(.int (1 : Int32)), (.int ic)])) (fun t k => XS.iconst X0.here hx rfl (hb hby d1_17) k) ?_
  have hc243 : ¬ (ic = (1 : Int32)) := by
    rcases hcs with rfl | rfl <;> decide
  refine GoH.step (T' := s₁) (f' := (mkF m 33 #[.val (.int ic), .val (.int ia)] [])) (fun t k => XS.icmpYes X0.here hx rfl (pc0 := 18) (pc' := 33) rfl (hb hby d1_18) rfl (feq hc243).2 (by decide) (by decide) k) ?_
  refine GoH.step (T' := s₁) (f' := (mkF m 34 #[.val (.int ic), .val (.int ia)] [(.int ic)])) (fun t k => XS.iloadN X0.here hx rfl (hb hby d1_33) rfl k) ?_
  refine GoH.step (T' := s₁) (f' := (mkF m 35 #[.val (.int ic), .val (.int ia)] [(.int (2 : Int32)), (.int ic)])) (fun t k => XS.iconst X0.here hx rfl (hb hby d1_34) k) ?_
  have hc244 : ¬ (ic = (2 : Int32)) := by
    rcases hcs with rfl | rfl <;> decide
  refine GoH.step (T' := s₁) (f' := (mkF m 50 #[.val (.int ic), .val (.int ia)] [])) (fun t k => XS.icmpYes X0.here hx rfl (pc0 := 35) (pc' := 50) rfl (hb hby d1_35) rfl (feq hc244).2 (by decide) (by decide) k) ?_
  refine GoH.step (T' := s₁) (f' := (mkF m 51 #[.val (.int ic), .val (.int ia)] [(.int ic)])) (fun t k => XS.iloadN X0.here hx rfl (hb hby d1_50) rfl k) ?_
  refine GoH.step (T' := s₁) (f' := (mkF m 52 #[.val (.int ic), .val (.int ia)] [(.int (3 : Int32)), (.int ic)])) (fun t k => XS.iconst X0.here hx rfl (hb hby d1_51) k) ?_
  have hc245 : ¬ (ic = (3 : Int32)) := by
    rcases hcs with rfl | rfl <;> decide
  refine GoH.step (T' := s₁) (f' := (mkF m 67 #[.val (.int ic), .val (.int ia)] [])) (fun t k => XS.icmpYes X0.here hx rfl (pc0 := 52) (pc' := 67) rfl (hb hby d1_52) rfl (feq hc245).2 (by decide) (by decide) k) ?_
  refine GoH.step (T' := s₁) (f' := (mkF m 68 #[.val (.int ic), .val (.int ia)] [(.int ic)])) (fun t k => XS.iloadN X0.here hx rfl (hb hby d1_67) rfl k) ?_
  refine GoH.step (T' := s₁) (f' := (mkF m 69 #[.val (.int ic), .val (.int ia)] [(.int (4 : Int32)), (.int ic)])) (fun t k => XS.iconst X0.here hx rfl (hb hby d1_68) k) ?_
  by_cases hc246 : ic = (4 : Int32)
  ·
    refine GoH.step (T' := s₁) (f' := (mkF m 72 #[.val (.int ic), .val (.int ia)] [])) (fun t k => XS.icmpNo X0.here hx rfl (hb hby d1_69) rfl (teq hc246).2 k) ?_
    refine GoH.step (T' := s₁) (f' := (mkF m 73 #[.val (.int ic), .val (.int ia)] [(.int ia)])) (fun t k => XS.iloadN X0.here hx rfl (hb hby d1_72) rfl k) ?_
    obtain ⟨T247, X247, e247, st247⟩ := getS2 X0 hx hZ hown (host := "") (Or.inl (hw _ (List.mem_of_getElem? (i := 8) rfl))) Via.refl e0 (P0.ext O0.2) (g := (mkF m 73 #[.val (.int ic), .val (.int ia)] [(.int ia)])) rfl (hb hby d1_73)
    refine GoH.step (T' := T247) (f' := (mkF m 76 #[.val (.int ic), .val (.int ia)] [(.ref z_RUNNING), (.int ia)])) st247 ?_
    clear st247 X0
    obtain ⟨_, _, ⟨T248, L248, k248, n248⟩, -, X248, hS248, hg248, ⟨Lc248, hQ248, l248, y248, z248, ch248⟩, st248⟩ := callSS X247 hx (y := (⟨"com/example/unwind/unwind/saga/Position", "stuck", "(ILcom/example/unwind/unwind/saga/SagaState;)Lcom/example/unwind/unwind/saga/Position;"⟩ : MethodName)) hown (mvT hZ (hw _ (List.mem_of_getElem? (i := 63) rfl))) (mvT hZ (hw _ (List.mem_of_getElem? (i := 64) rfl))) (mvT hZ (hw _ (List.mem_of_getElem? (i := 7) rfl))) (mvT hZ (hw _ (List.mem_of_getElem? (i := 65) rfl))) (by decide) (backOfSH (s := s) (vm0 := s.vm) (W := 0) (rm_stuckR l Z a0 hw [] ia z_RUNNING z_ROLLING_BACK z_STUCK h0 n0 O0 hEL P0 P1 P2 P7 hia P10) hZ (hw _ (List.mem_of_getElem? (i := 65) rfl)) (hw _ (List.mem_of_getElem? (i := 7) rfl)) (by decide) (by decide) hEL CR0.1) (g := (mkF m 76 #[.val (.int ic), .val (.int ia)] [(.ref z_RUNNING), (.int ia)])) rfl (by rw [hml]; rfl) (argsL := [(.int ia), (.ref z_RUNNING)]) (rest := []) (lenOf pd3 rfl) rfl (by show 2 * 0 + _ ≤ _; exact Nat.le_of_eq rfl) (hb hby d1_76) (fun _ _ => ⟨rfl, e247, (by decide : 0 + 3 ≤ _), (by decide : 0 + 27 ≤ _)⟩)
    dsimp only [Pt.U, Pt.locs, Pt.cells, Pt.slots] at X248 l248 y248 z248 st248 hQ248 hS248 hg248 ch248
    subst l248 y248 z248
    obtain ⟨X248, hS248, hZ, hown⟩ := rebS (s := s) (vm0 := s.vm) hS0 (show _ ≤ T247.heap.size by rw [e247]; exact hk0) X248 hS248 hg248 hZ hown
    obtain ⟨u249, rfl, Nq248, hh248, p250, p251, p252, p253, p254⟩ := hQ248
    have N255 := Fr.app N0 Nq248
    have CR256 := CR0.trans ch248
    have hk257 := Nat.le_refl T248.heap.size
    have O258 := O0.keep hh248 all0
    have K259 := K0.trans hh248 all0
    have g260 : n0 ≤ u249 := Nat.le_trans (own_old_le O0) p250
    have g261 : h0.size ≤ u249 := Nat.le_trans K0.1 p250
    refine GoH.via (T' := T248) (f' := (mkF m 79 #[.val (.int ic), .val (.int ia)] [(.ref u249)])) st248 ?_
    clear st248 X247 Nq248 CR0 hk0 hS0
    refine GoH.fin X248 hZ hEL hS248 hk257 CR256 hlk (v := some (.ref u249)) (fun h => by rw [Bd.returns] at h; cases h) (fun fs hr => retOut X248 hx Bd.returns (own_nar_ref rfl rfl) (Or.inr (Or.inr (Or.inr (Or.inr ⟨rfl, rfl, rfl⟩)))) (hb hby d1_79) hr) rfl ?_ (by decide) (by decide)
    exact ⟨u249, rfl, N255, K259, g261, p251, p252, p253, (own_fcast (by simp [own_sb, hc242, hc243, hc244, hc245, hc246]) p254)⟩
  ·
    refine GoH.step (T' := s₁) (f' := (mkF m 80 #[.val (.int ic), .val (.int ia)] [])) (fun t k => XS.icmpYes X0.here hx rfl (pc0 := 69) (pc' := 80) rfl (hb hby d1_69) rfl (feq hc246).2 (by decide) (by decide) k) ?_
    refine GoH.step (T' := s₁) (f' := (mkF m 81 #[.val (.int ic), .val (.int ia)] [(.int ia)])) (fun t k => XS.iloadN X0.here hx rfl (hb hby d1_80) rfl k) ?_
    obtain ⟨T262, X262, e262, st262⟩ := getS2 X0 hx hZ hown (host := "") (Or.inl (hw _ (List.mem_of_getElem? (i := 82) rfl))) Via.refl e0 (P1.ext O0.2) (g := (mkF m 81 #[.val (.int ic), .val (.int ia)] [(.int ia)])) rfl (hb hby d1_81)
    refine GoH.step (T' := T262) (f' := (mkF m 84 #[.val (.int ic), .val (.int ia)] [(.ref z_ROLLING_BACK), (.int ia)])) st262 ?_
    clear st262 X0
    obtain ⟨_, _, ⟨T263, L263, k263, n263⟩, -, X263, hS263, hg263, ⟨Lc263, hQ263, l263, y263, z263, ch263⟩, st263⟩ := callSS X262 hx (y := (⟨"com/example/unwind/unwind/saga/Position", "stuck", "(ILcom/example/unwind/unwind/saga/SagaState;)Lcom/example/unwind/unwind/saga/Position;"⟩ : MethodName)) hown (mvT hZ (hw _ (List.mem_of_getElem? (i := 63) rfl))) (mvT hZ (hw _ (List.mem_of_getElem? (i := 64) rfl))) (mvT hZ (hw _ (List.mem_of_getElem? (i := 7) rfl))) (mvT hZ (hw _ (List.mem_of_getElem? (i := 65) rfl))) (by decide) (backOfSH (s := s) (vm0 := s.vm) (W := 0) (rm_stuckB l Z a0 hw [] ia z_RUNNING z_ROLLING_BACK z_STUCK h0 n0 O0 hEL P0 P1 P2 P7 hia P10) hZ (hw _ (List.mem_of_getElem? (i := 65) rfl)) (hw _ (List.mem_of_getElem? (i := 7) rfl)) (by decide) (by decide) hEL CR0.1) (g := (mkF m 84 #[.val (.int ic), .val (.int ia)] [(.ref z_ROLLING_BACK), (.int ia)])) rfl (by rw [hml]; rfl) (argsL := [(.int ia), (.ref z_ROLLING_BACK)]) (rest := []) (lenOf pd3 rfl) rfl (by show 2 * 0 + _ ≤ _; exact Nat.le_of_eq rfl) (hb hby d1_84) (fun _ _ => ⟨rfl, e262, (by decide : 0 + 3 ≤ _), (by decide : 0 + 27 ≤ _)⟩)
    dsimp only [Pt.U, Pt.locs, Pt.cells, Pt.slots] at X263 l263 y263 z263 st263 hQ263 hS263 hg263 ch263
    subst l263 y263 z263
    obtain ⟨X263, hS263, hZ, hown⟩ := rebS (s := s) (vm0 := s.vm) hS0 (show _ ≤ T262.heap.size by rw [e262]; exact hk0) X263 hS263 hg263 hZ hown
    obtain ⟨u264, rfl, Nq263, hh263, p265, p266, p267, p268, p269⟩ := hQ263
    have N270 := Fr.app N0 Nq263
    have CR271 := CR0.trans ch263
    have hk272 := Nat.le_refl T263.heap.size
    have O273 := O0.keep hh263 all0
    have K274 := K0.trans hh263 all0
    have g275 : n0 ≤ u264 := Nat.le_trans (own_old_le O0) p265
    have g276 : h0.size ≤ u264 := Nat.le_trans K0.1 p265
    refine GoH.via (T' := T263) (f' := (mkF m 87 #[.val (.int ic), .val (.int ia)] [(.ref u264)])) st263 ?_
    clear st263 X262 Nq263 CR0 hk0 hS0
    refine GoH.fin X263 hZ hEL hS263 hk272 CR271 hlk (v := some (.ref u264)) (fun h => by rw [Bd.returns] at h; cases h) (fun fs hr => retOut X263 hx Bd.returns (own_nar_ref rfl rfl) (Or.inr (Or.inr (Or.inr (Or.inr ⟨rfl, rfl, rfl⟩)))) (hb hby d1_87) hr) rfl ?_ (by decide) (by decide)
    exact ⟨u264, rfl, N270, K274, g276, p266, p267, p268, (own_fcast (by simp [own_sb, hc242, hc243, hc244, hc245, hc246]) p269)⟩
theorem d6_0 : decode prog_14_method_7_code 0 = .ok (.aload_n 1, 1) := by decide +kernel
theorem d6_1 : decode prog_14_method_7_code 1 = .ok (.instanceof 2, 3) := by decide +kernel
theorem d6_4 : decode prog_14_method_7_code 4 = .ok (.ifCond .ne 5, 3) := by decide +kernel
theorem d6_9 : decode prog_14_method_7_code 9 = .ok (.aload_n 1, 1) := by decide +kernel
theorem d6_10 : decode prog_14_method_7_code 10 = .ok (.checkcast 2, 3) := by decide +kernel
theorem d6_13 : decode prog_14_method_7_code 13 = .ok (.astore_n 2, 1) := by decide +kernel
theorem d6_14 : decode prog_14_method_7_code 14 = .ok (.aload_n 0, 1) := by decide +kernel
theorem d6_15 : decode prog_14_method_7_code 15 = .ok (.getfield 33, 3) := by decide +kernel
theorem d6_18 : decode prog_14_method_7_code 18 = .ok (.aload_n 2, 1) := by decide +kernel
theorem d6_19 : decode prog_14_method_7_code 19 = .ok (.getfield 33, 3) := by decide +kernel
theorem d6_22 : decode prog_14_method_7_code 22 = .ok (.if_acmp .ne 29, 3) := by decide +kernel
theorem d6_25 : decode prog_14_method_7_code 25 = .ok (.aload_n 0, 1) := by decide +kernel
theorem d6_26 : decode prog_14_method_7_code 26 = .ok (.getfield 39, 3) := by decide +kernel
theorem d6_29 : decode prog_14_method_7_code 29 = .ok (.aload_n 2, 1) := by decide +kernel
theorem d6_30 : decode prog_14_method_7_code 30 = .ok (.getfield 39, 3) := by decide +kernel
theorem d6_33 : decode prog_14_method_7_code 33 = .ok (.if_icmp .ne 18, 3) := by decide +kernel
theorem d6_36 : decode prog_14_method_7_code 36 = .ok (.aload_n 0, 1) := by decide +kernel
theorem d6_37 : decode prog_14_method_7_code 37 = .ok (.getfield 43, 3) := by decide +kernel
theorem d6_40 : decode prog_14_method_7_code 40 = .ok (.aload_n 2, 1) := by decide +kernel
theorem d6_41 : decode prog_14_method_7_code 41 = .ok (.getfield 43, 3) := by decide +kernel
theorem d6_44 : decode prog_14_method_7_code 44 = .ok (.if_acmp .ne 7, 3) := by decide +kernel
theorem d6_47 : decode prog_14_method_7_code 47 = .ok (.iconst 1, 1) := by decide +kernel
theorem d6_48 : decode prog_14_method_7_code 48 = .ok (.goto 4, 3) := by decide +kernel
theorem d6_51 : decode prog_14_method_7_code 51 = .ok (.iconst 0, 1) := by decide +kernel
theorem d6_52 : decode prog_14_method_7_code 52 = .ok (.ireturn, 1) := by decide +kernel
theorem ef_eqPP (m : MethodId) (ba : Addr) (bb : Addr) : entryFrame m #[(.ref ba), (.ref bb)] 3 = mkF m 0 #[.val (.ref ba), .val (.ref bb), .unset] [] := by first | (simp [entryFrame, mkF, argsToLocals, Value.category]; done) | rfl
def Q_eqPP (Z : State) (ba : Addr) (bb : Addr) (sa : Addr) (ia : Int32) (sb : Addr) (ib : Int32) (h0 : Heap) (n0 : Nat) (v : Option Value) (h : Heap) (L : List Loc) : Prop := v = some (.int (if sa = sb ∧ ia = ib then (1 : Int32) else 0)) ∧ Fr n0 L ∧ h = h0
set_option maxRecDepth 65536 in
set_option maxHeartbeats 40000000 in
theorem rm_eqPP (l : Launch) (Z : State) (a0 : Array Value) (hw : ∀ d ∈ tables_1, d.before a0 Z = true) (ws : List Jvm.Cond) (ba : Addr) (bb : Addr) (sa : Addr) (ia : Int32) (sb : Addr) (ib : Int32) (h0 : Heap) (n0 : Nat) (O0 : Old Z n0 h0) (P0 : Exa Z h0 bb "com/example/unwind/unwind/saga/Position") (P1 : Fld Z h0 ba "com/example/unwind/unwind/saga/Position" "state" "Lcom/example/unwind/unwind/saga/SagaState;" (.ref sa)) (P2 : Fld Z h0 ba "com/example/unwind/unwind/saga/Position" "step" "I" (.int ia)) (P3 : Fld Z h0 ba "com/example/unwind/unwind/saga/Position" "stuckIn" "Lcom/example/unwind/unwind/saga/SagaState;" .null) (P4 : Fld Z h0 bb "com/example/unwind/unwind/saga/Position" "state" "Lcom/example/unwind/unwind/saga/SagaState;" (.ref sb)) (P5 : Fld Z h0 bb "com/example/unwind/unwind/saga/Position" "step" "I" (.int ib)) (P6 : Fld Z h0 bb "com/example/unwind/unwind/saga/Position" "stuckIn" "Lcom/example/unwind/unwind/saga/SagaState;" .null) :
    MetFree l (⟨"com/example/unwind/unwind/saga/Position", "equals", "(Ljava/lang/Object;)Z"⟩ : MethodName) (head1 (Jvm.Cond.code (⟨"com/example/unwind/unwind/saga/Position", "equals", "(Ljava/lang/Object;)Z"⟩ : MethodName) prog_14_method_7_code 3 (some .boolean) :: ws) ({ frames := 0, cells := 0, slots := 0, locals := 0 } : Room)) (fun a U => a = #[(.ref ba), (.ref bb)] ∧ Z.Warmed39 U.vm ∧ U.heap = h0) (fun _ _ _ _ _ => True) (fun _ U o U' => ∃ v L, o = .returned v ∧ Q_eqPP Z ba bb sa ia sb ib h0 n0 v U'.heap L ∧ FrameEnd U o U' L ({ frames := 0, cells := 0, slots := 0, locals := 0 } : Room).cells ({ frames := 0, cells := 0, slots := 0, locals := 0 } : Room).slots) := by
  refine MetFree.of_bodySF (plainFor_of_name pn_com_example_unwind_unwind_saga_Position) hisR ?_
  intro p e s m args below meth c s₁ Bd hml0 hP hK
  obtain ⟨rfl, hZ, hh⟩ := hP
  have hx := Bd.exec
  have hby := Bd.bytes
  have hml : c.maxLocals = 3 := hml0
  have hown : s.vm.findClass "com/example/unwind/unwind/saga/Position" = some m.cls := findClass_of_methodNamed Bd.named
  have hnm := (name_of_methodNamed Bd.named Bd.method).1
  have hlk : meth.locks = false := BodyLoose.notSynchronized Bd
  have X0 : Stand p l e ({ frames := 0, cells := 0, slots := 0, locals := 0 } : Room) s m #[(.ref ba), (.ref bb)] below meth c s₁ [] 0 0 := Stand.of_body Bd
  have e0 : s₁.heap = h0 := by rw [← hh, Bd.state]; rfl
  have N0 := Fr.nil n0
  rw [ef_eqPP m ba bb]
  show Go p e below s (fun v h L => Q_eqPP Z ba bb sa ia sb ib h0 n0 v h L) ({ frames := 0, cells := 0, slots := 0, locals := 0 } : Room).cells ({ frames := 0, cells := 0, slots := 0, locals := 0 } : Room).slots s₁ (mkF m 0 #[.val (.ref ba), .val (.ref bb), .unset] [])
  refine Go.step (T' := s₁) (f' := (mkF m 1 #[.val (.ref ba), .val (.ref bb), .unset] [(.ref bb)])) (fun t k => XS.aloadN X0.here hx rfl (hb hby d6_0) rfl rfl k) ?_
  obtain ⟨T277, X277, e277, st277⟩ := instY X0 hx hZ hown (hw _ (List.mem_of_getElem? (i := 49) rfl)) e0 (Ins.self P0) (g := (mkF m 1 #[.val (.ref ba), .val (.ref bb), .unset] [(.ref bb)])) rfl rfl (hb hby d6_1)
  refine Go.step (T' := T277) (f' := (mkF m 4 #[.val (.ref ba), .val (.ref bb), .unset] [(.int (1 : Int32))])) st277 ?_
  clear st277 X0
  refine Go.step (T' := T277) (f' := (mkF m 9 #[.val (.ref ba), .val (.ref bb), .unset] [])) (fun t k => XS.ifYes X277.here hx rfl (pc0 := 4) (pc' := 9) rfl (hb hby d6_4) rfl ((if0 _ _).trans (feq (by decide : ¬ ((1 : Int32) = (0 : Int32)))).2) (by decide) (by decide) k) ?_
  refine Go.step (T' := T277) (f' := (mkF m 10 #[.val (.ref ba), .val (.ref bb), .unset] [(.ref bb)])) (fun t k => XS.aloadN X277.here hx rfl (hb hby d6_9) rfl rfl k) ?_
  obtain ⟨T278, X278, e278, st278⟩ := castY X277 hx hZ hown (hw _ (List.mem_of_getElem? (i := 49) rfl)) e277 (Ins.self P0) (g := (mkF m 10 #[.val (.ref ba), .val (.ref bb), .unset] [(.ref bb)])) rfl rfl (hb hby d6_10)
  refine Go.step (T' := T278) (f' := (mkF m 13 #[.val (.ref ba), .val (.ref bb), .unset] [(.ref bb)])) st278 ?_
  clear st278 X277
  refine Go.step (T' := T278) (f' := (mkF m 14 #[.val (.ref ba), .val (.ref bb), .val (.ref bb)] [])) (fun t k => XS.astoreN X278.here hx rfl (hb hby d6_13) rfl rfl (l' := #[.val (.ref ba), .val (.ref bb), .val (.ref bb)]) rfl k) ?_
  refine Go.step (T' := T278) (f' := (mkF m 15 #[.val (.ref ba), .val (.ref bb), .val (.ref bb)] [(.ref ba)])) (fun t k => XS.aloadN X278.here hx rfl (hb hby d6_14) rfl rfl k) ?_
  obtain ⟨T279, X279, e279, st279⟩ := getF X278 hx hZ hown (host := "") (Or.inl (hw _ (List.mem_of_getElem? (i := 34) rfl))) Via.refl e278 P1 (g := (mkF m 15 #[.val (.ref ba), .val (.ref bb), .val (.ref bb)] [(.ref ba)])) rfl rfl (hb hby d6_15)
  refine Go.step (T' := T279) (f' := (mkF m 18 #[.val (.ref ba), .val (.ref bb), .val (.ref bb)] [(.ref sa)])) st279 ?_
  clear st279 X278
  refine Go.step (T' := T279) (f' := (mkF m 19 #[.val (.ref ba), .val (.ref bb), .val (.ref bb)] [(.ref bb), (.ref sa)])) (fun t k => XS.aloadN X279.here hx rfl (hb hby d6_18) rfl rfl k) ?_
  obtain ⟨T280, X280, e280, st280⟩ := getF X279 hx hZ hown (host := "") (Or.inl (hw _ (List.mem_of_getElem? (i := 34) rfl))) Via.refl e279 P4 (g := (mkF m 19 #[.val (.ref ba), .val (.ref bb), .val (.ref bb)] [(.ref bb), (.ref sa)])) rfl rfl (hb hby d6_19)
  refine Go.step (T' := T280) (f' := (mkF m 22 #[.val (.ref ba), .val (.ref bb), .val (.ref bb)] [(.ref sb), (.ref sa)])) st280 ?_
  clear st280 X279
  by_cases ha281 : sa = sb
  ·
    refine Go.step (T' := T280) (f' := (mkF m 25 #[.val (.ref ba), .val (.ref bb), .val (.ref bb)] [])) (fun t k => Jvm.RoadKit.acmp (g := (mkF m 22 #[.val (.ref ba), .val (.ref bb), .val (.ref bb)] [(.ref sb), (.ref sa)])) X280 hx rfl rfl rfl (pc0 := 22) (pc' := 25) (same := true) rfl (hb hby d6_22) rfl (decide_eq_true (congrArg Value.ref ha281)) (by decide) (by decide) k) ?_
    refine Go.step (T' := T280) (f' := (mkF m 26 #[.val (.ref ba), .val (.ref bb), .val (.ref bb)] [(.ref ba)])) (fun t k => XS.aloadN X280.here hx rfl (hb hby d6_25) rfl rfl k) ?_
    obtain ⟨T282, X282, e282, st282⟩ := getF X280 hx hZ hown (host := "") (Or.inl (hw _ (List.mem_of_getElem? (i := 36) rfl))) Via.refl e280 P2 (g := (mkF m 26 #[.val (.ref ba), .val (.ref bb), .val (.ref bb)] [(.ref ba)])) rfl rfl (hb hby d6_26)
    refine Go.step (T' := T282) (f' := (mkF m 29 #[.val (.ref ba), .val (.ref bb), .val (.ref bb)] [(.int ia)])) st282 ?_
    clear st282 X280
    refine Go.step (T' := T282) (f' := (mkF m 30 #[.val (.ref ba), .val (.ref bb), .val (.ref bb)] [(.ref bb), (.int ia)])) (fun t k => XS.aloadN X282.here hx rfl (hb hby d6_29) rfl rfl k) ?_
    obtain ⟨T283, X283, e283, st283⟩ := getF X282 hx hZ hown (host := "") (Or.inl (hw _ (List.mem_of_getElem? (i := 36) rfl))) Via.refl e282 P5 (g := (mkF m 30 #[.val (.ref ba), .val (.ref bb), .val (.ref bb)] [(.ref bb), (.int ia)])) rfl rfl (hb hby d6_30)
    refine Go.step (T' := T283) (f' := (mkF m 33 #[.val (.ref ba), .val (.ref bb), .val (.ref bb)] [(.int ib), (.int ia)])) st283 ?_
    clear st283 X282
    by_cases hc284 : ia = ib
    ·
      refine Go.step (T' := T283) (f' := (mkF m 36 #[.val (.ref ba), .val (.ref bb), .val (.ref bb)] [])) (fun t k => XS.icmpNo X283.here hx rfl (hb hby d6_33) rfl (teq hc284).2 k) ?_
      refine Go.step (T' := T283) (f' := (mkF m 37 #[.val (.ref ba), .val (.ref bb), .val (.ref bb)] [(.ref ba)])) (fun t k => XS.aloadN X283.here hx rfl (hb hby d6_36) rfl rfl k) ?_
      obtain ⟨T285, X285, e285, st285⟩ := getF X283 hx hZ hown (host := "") (Or.inl (hw _ (List.mem_of_getElem? (i := 38) rfl))) Via.refl e283 P3 (g := (mkF m 37 #[.val (.ref ba), .val (.ref bb), .val (.ref bb)] [(.ref ba)])) rfl rfl (hb hby d6_37)
      refine Go.step (T' := T285) (f' := (mkF m 40 #[.val (.ref ba), .val (.ref bb), .val (.ref bb)] [.null])) st285 ?_
      clear st285 X283
      refine Go.step (T' := T285) (f' := (mkF m 41 #[.val (.ref ba), .val (.ref bb), .val (.ref bb)] [(.ref bb), .null])) (fun t k => XS.aloadN X285.here hx rfl (hb hby d6_40) rfl rfl k) ?_
      obtain ⟨T286, X286, e286, st286⟩ := getF X285 hx hZ hown (host := "") (Or.inl (hw _ (List.mem_of_getElem? (i := 38) rfl))) Via.refl e285 P6 (g := (mkF m 41 #[.val (.ref ba), .val (.ref bb), .val (.ref bb)] [(.ref bb), .null])) rfl rfl (hb hby d6_41)
      refine Go.step (T' := T286) (f' := (mkF m 44 #[.val (.ref ba), .val (.ref bb), .val (.ref bb)] [.null, .null])) st286 ?_
      clear st286 X285
      refine Go.step (T' := T286) (f' := (mkF m 47 #[.val (.ref ba), .val (.ref bb), .val (.ref bb)] [])) (fun t k => Jvm.RoadKit.acmp (g := (mkF m 44 #[.val (.ref ba), .val (.ref bb), .val (.ref bb)] [.null, .null])) X286 hx rfl rfl rfl (pc0 := 44) (pc' := 47) (same := true) rfl (hb hby d6_44) rfl (decide_eq_true rfl) (by decide) (by decide) k) ?_
      refine Go.step (T' := T286) (f' := (mkF m 48 #[.val (.ref ba), .val (.ref bb), .val (.ref bb)] [(.int (1 : Int32))])) (fun t k => XS.iconst X286.here hx rfl (hb hby d6_47) k) ?_
      refine Go.step (T' := T286) (f' := (mkF m 52 #[.val (.ref ba), .val (.ref bb), .val (.ref bb)] [(.int (1 : Int32))])) (fun t k => XS.goto X286.here hx rfl (pc0 := 48) (pc' := 52) rfl (hb hby d6_48) (by decide) (by decide) k) ?_
      refine Go.retZ X286 hx hlk (t := .boolean) Bd.returns (by simp) (hb hby d6_52) e286 ?_ (by decide) (by decide)
      exact ⟨by simp_all [nar], N0, rfl⟩
    ·
      refine Go.step (T' := T283) (f' := (mkF m 51 #[.val (.ref ba), .val (.ref bb), .val (.ref bb)] [])) (fun t k => XS.icmpYes X283.here hx rfl (pc0 := 33) (pc' := 51) rfl (hb hby d6_33) rfl (feq hc284).2 (by decide) (by decide) k) ?_
      refine Go.step (T' := T283) (f' := (mkF m 52 #[.val (.ref ba), .val (.ref bb), .val (.ref bb)] [(.int (0 : Int32))])) (fun t k => XS.iconst X283.here hx rfl (hb hby d6_51) k) ?_
      refine Go.retZ X283 hx hlk (t := .boolean) Bd.returns (by simp) (hb hby d6_52) e283 ?_ (by decide) (by decide)
      exact ⟨by simp_all [nar], N0, rfl⟩
  ·
    refine Go.step (T' := T280) (f' := (mkF m 51 #[.val (.ref ba), .val (.ref bb), .val (.ref bb)] [])) (fun t k => Jvm.RoadKit.acmp (g := (mkF m 22 #[.val (.ref ba), .val (.ref bb), .val (.ref bb)] [(.ref sb), (.ref sa)])) X280 hx rfl rfl rfl (pc0 := 22) (pc' := 51) (same := false) rfl (hb hby d6_22) rfl (decide_eq_false fun q => ha281 (Value.ref.inj q)) (by decide) (by decide) k) ?_
    refine Go.step (T' := T280) (f' := (mkF m 52 #[.val (.ref ba), .val (.ref bb), .val (.ref bb)] [(.int (0 : Int32))])) (fun t k => XS.iconst X280.here hx rfl (hb hby d6_51) k) ?_
    refine Go.retZ X280 hx hlk (t := .boolean) Bd.returns (by simp) (hb hby d6_52) e280 ?_ (by decide) (by decide)
    exact ⟨by simp_all [nar], N0, rfl⟩
theorem ef_eqPS (m : MethodId) (ba : Addr) (bb : Addr) : entryFrame m #[(.ref ba), (.ref bb)] 3 = mkF m 0 #[.val (.ref ba), .val (.ref bb), .unset] [] := by first | (simp [entryFrame, mkF, argsToLocals, Value.category]; done) | rfl
def Q_eqPS (Z : State) (ba : Addr) (bb : Addr) (sa : Addr) (ia : Int32) (sb : Addr) (ib : Int32) (tb : Addr) (h0 : Heap) (n0 : Nat) (v : Option Value) (h : Heap) (L : List Loc) : Prop := v = some (.int (0 : Int32)) ∧ Fr n0 L ∧ h = h0
set_option maxRecDepth 65536 in
set_option maxHeartbeats 40000000 in
theorem rm_eqPS (l : Launch) (Z : State) (a0 : Array Value) (hw : ∀ d ∈ tables_1, d.before a0 Z = true) (ws : List Jvm.Cond) (ba : Addr) (bb : Addr) (sa : Addr) (ia : Int32) (sb : Addr) (ib : Int32) (tb : Addr) (h0 : Heap) (n0 : Nat) (O0 : Old Z n0 h0) (P0 : Exa Z h0 bb "com/example/unwind/unwind/saga/Position") (P1 : Fld Z h0 ba "com/example/unwind/unwind/saga/Position" "state" "Lcom/example/unwind/unwind/saga/SagaState;" (.ref sa)) (P2 : Fld Z h0 ba "com/example/unwind/unwind/saga/Position" "step" "I" (.int ia)) (P3 : Fld Z h0 ba "com/example/unwind/unwind/saga/Position" "stuckIn" "Lcom/example/unwind/unwind/saga/SagaState;" .null) (P4 : Fld Z h0 bb "com/example/unwind/unwind/saga/Position" "state" "Lcom/example/unwind/unwind/saga/SagaState;" (.ref sb)) (P5 : Fld Z h0 bb "com/example/unwind/unwind/saga/Position" "step" "I" (.int ib)) (P6 : Fld Z h0 bb "com/example/unwind/unwind/saga/Position" "stuckIn" "Lcom/example/unwind/unwind/saga/SagaState;" (.ref tb)) :
    MetFree l (⟨"com/example/unwind/unwind/saga/Position", "equals", "(Ljava/lang/Object;)Z"⟩ : MethodName) (head1 (Jvm.Cond.code (⟨"com/example/unwind/unwind/saga/Position", "equals", "(Ljava/lang/Object;)Z"⟩ : MethodName) prog_14_method_7_code 3 (some .boolean) :: ws) ({ frames := 0, cells := 0, slots := 0, locals := 0 } : Room)) (fun a U => a = #[(.ref ba), (.ref bb)] ∧ Z.Warmed39 U.vm ∧ U.heap = h0) (fun _ _ _ _ _ => True) (fun _ U o U' => ∃ v L, o = .returned v ∧ Q_eqPS Z ba bb sa ia sb ib tb h0 n0 v U'.heap L ∧ FrameEnd U o U' L ({ frames := 0, cells := 0, slots := 0, locals := 0 } : Room).cells ({ frames := 0, cells := 0, slots := 0, locals := 0 } : Room).slots) := by
  refine MetFree.of_bodySF (plainFor_of_name pn_com_example_unwind_unwind_saga_Position) hisR ?_
  intro p e s m args below meth c s₁ Bd hml0 hP hK
  obtain ⟨rfl, hZ, hh⟩ := hP
  have hx := Bd.exec
  have hby := Bd.bytes
  have hml : c.maxLocals = 3 := hml0
  have hown : s.vm.findClass "com/example/unwind/unwind/saga/Position" = some m.cls := findClass_of_methodNamed Bd.named
  have hnm := (name_of_methodNamed Bd.named Bd.method).1
  have hlk : meth.locks = false := BodyLoose.notSynchronized Bd
  have X0 : Stand p l e ({ frames := 0, cells := 0, slots := 0, locals := 0 } : Room) s m #[(.ref ba), (.ref bb)] below meth c s₁ [] 0 0 := Stand.of_body Bd
  have e0 : s₁.heap = h0 := by rw [← hh, Bd.state]; rfl
  have N0 := Fr.nil n0
  rw [ef_eqPS m ba bb]
  show Go p e below s (fun v h L => Q_eqPS Z ba bb sa ia sb ib tb h0 n0 v h L) ({ frames := 0, cells := 0, slots := 0, locals := 0 } : Room).cells ({ frames := 0, cells := 0, slots := 0, locals := 0 } : Room).slots s₁ (mkF m 0 #[.val (.ref ba), .val (.ref bb), .unset] [])
  refine Go.step (T' := s₁) (f' := (mkF m 1 #[.val (.ref ba), .val (.ref bb), .unset] [(.ref bb)])) (fun t k => XS.aloadN X0.here hx rfl (hb hby d6_0) rfl rfl k) ?_
  obtain ⟨T287, X287, e287, st287⟩ := instY X0 hx hZ hown (hw _ (List.mem_of_getElem? (i := 49) rfl)) e0 (Ins.self P0) (g := (mkF m 1 #[.val (.ref ba), .val (.ref bb), .unset] [(.ref bb)])) rfl rfl (hb hby d6_1)
  refine Go.step (T' := T287) (f' := (mkF m 4 #[.val (.ref ba), .val (.ref bb), .unset] [(.int (1 : Int32))])) st287 ?_
  clear st287 X0
  refine Go.step (T' := T287) (f' := (mkF m 9 #[.val (.ref ba), .val (.ref bb), .unset] [])) (fun t k => XS.ifYes X287.here hx rfl (pc0 := 4) (pc' := 9) rfl (hb hby d6_4) rfl ((if0 _ _).trans (feq (by decide : ¬ ((1 : Int32) = (0 : Int32)))).2) (by decide) (by decide) k) ?_
  refine Go.step (T' := T287) (f' := (mkF m 10 #[.val (.ref ba), .val (.ref bb), .unset] [(.ref bb)])) (fun t k => XS.aloadN X287.here hx rfl (hb hby d6_9) rfl rfl k) ?_
  obtain ⟨T288, X288, e288, st288⟩ := castY X287 hx hZ hown (hw _ (List.mem_of_getElem? (i := 49) rfl)) e287 (Ins.self P0) (g := (mkF m 10 #[.val (.ref ba), .val (.ref bb), .unset] [(.ref bb)])) rfl rfl (hb hby d6_10)
  refine Go.step (T' := T288) (f' := (mkF m 13 #[.val (.ref ba), .val (.ref bb), .unset] [(.ref bb)])) st288 ?_
  clear st288 X287
  refine Go.step (T' := T288) (f' := (mkF m 14 #[.val (.ref ba), .val (.ref bb), .val (.ref bb)] [])) (fun t k => XS.astoreN X288.here hx rfl (hb hby d6_13) rfl rfl (l' := #[.val (.ref ba), .val (.ref bb), .val (.ref bb)]) rfl k) ?_
  refine Go.step (T' := T288) (f' := (mkF m 15 #[.val (.ref ba), .val (.ref bb), .val (.ref bb)] [(.ref ba)])) (fun t k => XS.aloadN X288.here hx rfl (hb hby d6_14) rfl rfl k) ?_
  obtain ⟨T289, X289, e289, st289⟩ := getF X288 hx hZ hown (host := "") (Or.inl (hw _ (List.mem_of_getElem? (i := 34) rfl))) Via.refl e288 P1 (g := (mkF m 15 #[.val (.ref ba), .val (.ref bb), .val (.ref bb)] [(.ref ba)])) rfl rfl (hb hby d6_15)
  refine Go.step (T' := T289) (f' := (mkF m 18 #[.val (.ref ba), .val (.ref bb), .val (.ref bb)] [(.ref sa)])) st289 ?_
  clear st289 X288
  refine Go.step (T' := T289) (f' := (mkF m 19 #[.val (.ref ba), .val (.ref bb), .val (.ref bb)] [(.ref bb), (.ref sa)])) (fun t k => XS.aloadN X289.here hx rfl (hb hby d6_18) rfl rfl k) ?_
  obtain ⟨T290, X290, e290, st290⟩ := getF X289 hx hZ hown (host := "") (Or.inl (hw _ (List.mem_of_getElem? (i := 34) rfl))) Via.refl e289 P4 (g := (mkF m 19 #[.val (.ref ba), .val (.ref bb), .val (.ref bb)] [(.ref bb), (.ref sa)])) rfl rfl (hb hby d6_19)
  refine Go.step (T' := T290) (f' := (mkF m 22 #[.val (.ref ba), .val (.ref bb), .val (.ref bb)] [(.ref sb), (.ref sa)])) st290 ?_
  clear st290 X289
  by_cases ha291 : sa = sb
  ·
    refine Go.step (T' := T290) (f' := (mkF m 25 #[.val (.ref ba), .val (.ref bb), .val (.ref bb)] [])) (fun t k => Jvm.RoadKit.acmp (g := (mkF m 22 #[.val (.ref ba), .val (.ref bb), .val (.ref bb)] [(.ref sb), (.ref sa)])) X290 hx rfl rfl rfl (pc0 := 22) (pc' := 25) (same := true) rfl (hb hby d6_22) rfl (decide_eq_true (congrArg Value.ref ha291)) (by decide) (by decide) k) ?_
    refine Go.step (T' := T290) (f' := (mkF m 26 #[.val (.ref ba), .val (.ref bb), .val (.ref bb)] [(.ref ba)])) (fun t k => XS.aloadN X290.here hx rfl (hb hby d6_25) rfl rfl k) ?_
    obtain ⟨T292, X292, e292, st292⟩ := getF X290 hx hZ hown (host := "") (Or.inl (hw _ (List.mem_of_getElem? (i := 36) rfl))) Via.refl e290 P2 (g := (mkF m 26 #[.val (.ref ba), .val (.ref bb), .val (.ref bb)] [(.ref ba)])) rfl rfl (hb hby d6_26)
    refine Go.step (T' := T292) (f' := (mkF m 29 #[.val (.ref ba), .val (.ref bb), .val (.ref bb)] [(.int ia)])) st292 ?_
    clear st292 X290
    refine Go.step (T' := T292) (f' := (mkF m 30 #[.val (.ref ba), .val (.ref bb), .val (.ref bb)] [(.ref bb), (.int ia)])) (fun t k => XS.aloadN X292.here hx rfl (hb hby d6_29) rfl rfl k) ?_
    obtain ⟨T293, X293, e293, st293⟩ := getF X292 hx hZ hown (host := "") (Or.inl (hw _ (List.mem_of_getElem? (i := 36) rfl))) Via.refl e292 P5 (g := (mkF m 30 #[.val (.ref ba), .val (.ref bb), .val (.ref bb)] [(.ref bb), (.int ia)])) rfl rfl (hb hby d6_30)
    refine Go.step (T' := T293) (f' := (mkF m 33 #[.val (.ref ba), .val (.ref bb), .val (.ref bb)] [(.int ib), (.int ia)])) st293 ?_
    clear st293 X292
    by_cases hc294 : ia = ib
    ·
      refine Go.step (T' := T293) (f' := (mkF m 36 #[.val (.ref ba), .val (.ref bb), .val (.ref bb)] [])) (fun t k => XS.icmpNo X293.here hx rfl (hb hby d6_33) rfl (teq hc294).2 k) ?_
      refine Go.step (T' := T293) (f' := (mkF m 37 #[.val (.ref ba), .val (.ref bb), .val (.ref bb)] [(.ref ba)])) (fun t k => XS.aloadN X293.here hx rfl (hb hby d6_36) rfl rfl k) ?_
      obtain ⟨T295, X295, e295, st295⟩ := getF X293 hx hZ hown (host := "") (Or.inl (hw _ (List.mem_of_getElem? (i := 38) rfl))) Via.refl e293 P3 (g := (mkF m 37 #[.val (.ref ba), .val (.ref bb), .val (.ref bb)] [(.ref ba)])) rfl rfl (hb hby d6_37)
      refine Go.step (T' := T295) (f' := (mkF m 40 #[.val (.ref ba), .val (.ref bb), .val (.ref bb)] [.null])) st295 ?_
      clear st295 X293
      refine Go.step (T' := T295) (f' := (mkF m 41 #[.val (.ref ba), .val (.ref bb), .val (.ref bb)] [(.ref bb), .null])) (fun t k => XS.aloadN X295.here hx rfl (hb hby d6_40) rfl rfl k) ?_
      obtain ⟨T296, X296, e296, st296⟩ := getF X295 hx hZ hown (host := "") (Or.inl (hw _ (List.mem_of_getElem? (i := 38) rfl))) Via.refl e295 P6 (g := (mkF m 41 #[.val (.ref ba), .val (.ref bb), .val (.ref bb)] [(.ref bb), .null])) rfl rfl (hb hby d6_41)
      refine Go.step (T' := T296) (f' := (mkF m 44 #[.val (.ref ba), .val (.ref bb), .val (.ref bb)] [(.ref tb), .null])) st296 ?_
      clear st296 X295
      refine Go.step (T' := T296) (f' := (mkF m 51 #[.val (.ref ba), .val (.ref bb), .val (.ref bb)] [])) (fun t k => Jvm.RoadKit.acmp (g := (mkF m 44 #[.val (.ref ba), .val (.ref bb), .val (.ref bb)] [(.ref tb), .null])) X296 hx rfl rfl rfl (pc0 := 44) (pc' := 51) (same := false) rfl (hb hby d6_44) rfl (decide_eq_false nofun) (by decide) (by decide) k) ?_
      refine Go.step (T' := T296) (f' := (mkF m 52 #[.val (.ref ba), .val (.ref bb), .val (.ref bb)] [(.int (0 : Int32))])) (fun t k => XS.iconst X296.here hx rfl (hb hby d6_51) k) ?_
      refine Go.retZ X296 hx hlk (t := .boolean) Bd.returns (by simp) (hb hby d6_52) e296 ?_ (by decide) (by decide)
      exact ⟨by simp_all [nar], N0, rfl⟩
    ·
      refine Go.step (T' := T293) (f' := (mkF m 51 #[.val (.ref ba), .val (.ref bb), .val (.ref bb)] [])) (fun t k => XS.icmpYes X293.here hx rfl (pc0 := 33) (pc' := 51) rfl (hb hby d6_33) rfl (feq hc294).2 (by decide) (by decide) k) ?_
      refine Go.step (T' := T293) (f' := (mkF m 52 #[.val (.ref ba), .val (.ref bb), .val (.ref bb)] [(.int (0 : Int32))])) (fun t k => XS.iconst X293.here hx rfl (hb hby d6_51) k) ?_
      refine Go.retZ X293 hx hlk (t := .boolean) Bd.returns (by simp) (hb hby d6_52) e293 ?_ (by decide) (by decide)
      exact ⟨by simp_all [nar], N0, rfl⟩
  ·
    refine Go.step (T' := T290) (f' := (mkF m 51 #[.val (.ref ba), .val (.ref bb), .val (.ref bb)] [])) (fun t k => Jvm.RoadKit.acmp (g := (mkF m 22 #[.val (.ref ba), .val (.ref bb), .val (.ref bb)] [(.ref sb), (.ref sa)])) X290 hx rfl rfl rfl (pc0 := 22) (pc' := 51) (same := false) rfl (hb hby d6_22) rfl (decide_eq_false fun q => ha291 (Value.ref.inj q)) (by decide) (by decide) k) ?_
    refine Go.step (T' := T290) (f' := (mkF m 52 #[.val (.ref ba), .val (.ref bb), .val (.ref bb)] [(.int (0 : Int32))])) (fun t k => XS.iconst X290.here hx rfl (hb hby d6_51) k) ?_
    refine Go.retZ X290 hx hlk (t := .boolean) Bd.returns (by simp) (hb hby d6_52) e290 ?_ (by decide) (by decide)
    exact ⟨by simp_all [nar], N0, rfl⟩
theorem ef_eqSP (m : MethodId) (ba : Addr) (bb : Addr) : entryFrame m #[(.ref ba), (.ref bb)] 3 = mkF m 0 #[.val (.ref ba), .val (.ref bb), .unset] [] := by first | (simp [entryFrame, mkF, argsToLocals, Value.category]; done) | rfl
def Q_eqSP (Z : State) (ba : Addr) (bb : Addr) (sa : Addr) (ia : Int32) (sb : Addr) (ib : Int32) (ta : Addr) (h0 : Heap) (n0 : Nat) (v : Option Value) (h : Heap) (L : List Loc) : Prop := v = some (.int (0 : Int32)) ∧ Fr n0 L ∧ h = h0
set_option maxRecDepth 65536 in
set_option maxHeartbeats 40000000 in
theorem rm_eqSP (l : Launch) (Z : State) (a0 : Array Value) (hw : ∀ d ∈ tables_1, d.before a0 Z = true) (ws : List Jvm.Cond) (ba : Addr) (bb : Addr) (sa : Addr) (ia : Int32) (sb : Addr) (ib : Int32) (ta : Addr) (h0 : Heap) (n0 : Nat) (O0 : Old Z n0 h0) (P0 : Exa Z h0 bb "com/example/unwind/unwind/saga/Position") (P1 : Fld Z h0 ba "com/example/unwind/unwind/saga/Position" "state" "Lcom/example/unwind/unwind/saga/SagaState;" (.ref sa)) (P2 : Fld Z h0 ba "com/example/unwind/unwind/saga/Position" "step" "I" (.int ia)) (P3 : Fld Z h0 ba "com/example/unwind/unwind/saga/Position" "stuckIn" "Lcom/example/unwind/unwind/saga/SagaState;" (.ref ta)) (P4 : Fld Z h0 bb "com/example/unwind/unwind/saga/Position" "state" "Lcom/example/unwind/unwind/saga/SagaState;" (.ref sb)) (P5 : Fld Z h0 bb "com/example/unwind/unwind/saga/Position" "step" "I" (.int ib)) (P6 : Fld Z h0 bb "com/example/unwind/unwind/saga/Position" "stuckIn" "Lcom/example/unwind/unwind/saga/SagaState;" .null) :
    MetFree l (⟨"com/example/unwind/unwind/saga/Position", "equals", "(Ljava/lang/Object;)Z"⟩ : MethodName) (head1 (Jvm.Cond.code (⟨"com/example/unwind/unwind/saga/Position", "equals", "(Ljava/lang/Object;)Z"⟩ : MethodName) prog_14_method_7_code 3 (some .boolean) :: ws) ({ frames := 0, cells := 0, slots := 0, locals := 0 } : Room)) (fun a U => a = #[(.ref ba), (.ref bb)] ∧ Z.Warmed39 U.vm ∧ U.heap = h0) (fun _ _ _ _ _ => True) (fun _ U o U' => ∃ v L, o = .returned v ∧ Q_eqSP Z ba bb sa ia sb ib ta h0 n0 v U'.heap L ∧ FrameEnd U o U' L ({ frames := 0, cells := 0, slots := 0, locals := 0 } : Room).cells ({ frames := 0, cells := 0, slots := 0, locals := 0 } : Room).slots) := by
  refine MetFree.of_bodySF (plainFor_of_name pn_com_example_unwind_unwind_saga_Position) hisR ?_
  intro p e s m args below meth c s₁ Bd hml0 hP hK
  obtain ⟨rfl, hZ, hh⟩ := hP
  have hx := Bd.exec
  have hby := Bd.bytes
  have hml : c.maxLocals = 3 := hml0
  have hown : s.vm.findClass "com/example/unwind/unwind/saga/Position" = some m.cls := findClass_of_methodNamed Bd.named
  have hnm := (name_of_methodNamed Bd.named Bd.method).1
  have hlk : meth.locks = false := BodyLoose.notSynchronized Bd
  have X0 : Stand p l e ({ frames := 0, cells := 0, slots := 0, locals := 0 } : Room) s m #[(.ref ba), (.ref bb)] below meth c s₁ [] 0 0 := Stand.of_body Bd
  have e0 : s₁.heap = h0 := by rw [← hh, Bd.state]; rfl
  have N0 := Fr.nil n0
  rw [ef_eqSP m ba bb]
  show Go p e below s (fun v h L => Q_eqSP Z ba bb sa ia sb ib ta h0 n0 v h L) ({ frames := 0, cells := 0, slots := 0, locals := 0 } : Room).cells ({ frames := 0, cells := 0, slots := 0, locals := 0 } : Room).slots s₁ (mkF m 0 #[.val (.ref ba), .val (.ref bb), .unset] [])
  refine Go.step (T' := s₁) (f' := (mkF m 1 #[.val (.ref ba), .val (.ref bb), .unset] [(.ref bb)])) (fun t k => XS.aloadN X0.here hx rfl (hb hby d6_0) rfl rfl k) ?_
  obtain ⟨T297, X297, e297, st297⟩ := instY X0 hx hZ hown (hw _ (List.mem_of_getElem? (i := 49) rfl)) e0 (Ins.self P0) (g := (mkF m 1 #[.val (.ref ba), .val (.ref bb), .unset] [(.ref bb)])) rfl rfl (hb hby d6_1)
  refine Go.step (T' := T297) (f' := (mkF m 4 #[.val (.ref ba), .val (.ref bb), .unset] [(.int (1 : Int32))])) st297 ?_
  clear st297 X0
  refine Go.step (T' := T297) (f' := (mkF m 9 #[.val (.ref ba), .val (.ref bb), .unset] [])) (fun t k => XS.ifYes X297.here hx rfl (pc0 := 4) (pc' := 9) rfl (hb hby d6_4) rfl ((if0 _ _).trans (feq (by decide : ¬ ((1 : Int32) = (0 : Int32)))).2) (by decide) (by decide) k) ?_
  refine Go.step (T' := T297) (f' := (mkF m 10 #[.val (.ref ba), .val (.ref bb), .unset] [(.ref bb)])) (fun t k => XS.aloadN X297.here hx rfl (hb hby d6_9) rfl rfl k) ?_
  obtain ⟨T298, X298, e298, st298⟩ := castY X297 hx hZ hown (hw _ (List.mem_of_getElem? (i := 49) rfl)) e297 (Ins.self P0) (g := (mkF m 10 #[.val (.ref ba), .val (.ref bb), .unset] [(.ref bb)])) rfl rfl (hb hby d6_10)
  refine Go.step (T' := T298) (f' := (mkF m 13 #[.val (.ref ba), .val (.ref bb), .unset] [(.ref bb)])) st298 ?_
  clear st298 X297
  refine Go.step (T' := T298) (f' := (mkF m 14 #[.val (.ref ba), .val (.ref bb), .val (.ref bb)] [])) (fun t k => XS.astoreN X298.here hx rfl (hb hby d6_13) rfl rfl (l' := #[.val (.ref ba), .val (.ref bb), .val (.ref bb)]) rfl k) ?_
  refine Go.step (T' := T298) (f' := (mkF m 15 #[.val (.ref ba), .val (.ref bb), .val (.ref bb)] [(.ref ba)])) (fun t k => XS.aloadN X298.here hx rfl (hb hby d6_14) rfl rfl k) ?_
  obtain ⟨T299, X299, e299, st299⟩ := getF X298 hx hZ hown (host := "") (Or.inl (hw _ (List.mem_of_getElem? (i := 34) rfl))) Via.refl e298 P1 (g := (mkF m 15 #[.val (.ref ba), .val (.ref bb), .val (.ref bb)] [(.ref ba)])) rfl rfl (hb hby d6_15)
  refine Go.step (T' := T299) (f' := (mkF m 18 #[.val (.ref ba), .val (.ref bb), .val (.ref bb)] [(.ref sa)])) st299 ?_
  clear st299 X298
  refine Go.step (T' := T299) (f' := (mkF m 19 #[.val (.ref ba), .val (.ref bb), .val (.ref bb)] [(.ref bb), (.ref sa)])) (fun t k => XS.aloadN X299.here hx rfl (hb hby d6_18) rfl rfl k) ?_
  obtain ⟨T300, X300, e300, st300⟩ := getF X299 hx hZ hown (host := "") (Or.inl (hw _ (List.mem_of_getElem? (i := 34) rfl))) Via.refl e299 P4 (g := (mkF m 19 #[.val (.ref ba), .val (.ref bb), .val (.ref bb)] [(.ref bb), (.ref sa)])) rfl rfl (hb hby d6_19)
  refine Go.step (T' := T300) (f' := (mkF m 22 #[.val (.ref ba), .val (.ref bb), .val (.ref bb)] [(.ref sb), (.ref sa)])) st300 ?_
  clear st300 X299
  by_cases ha301 : sa = sb
  ·
    refine Go.step (T' := T300) (f' := (mkF m 25 #[.val (.ref ba), .val (.ref bb), .val (.ref bb)] [])) (fun t k => Jvm.RoadKit.acmp (g := (mkF m 22 #[.val (.ref ba), .val (.ref bb), .val (.ref bb)] [(.ref sb), (.ref sa)])) X300 hx rfl rfl rfl (pc0 := 22) (pc' := 25) (same := true) rfl (hb hby d6_22) rfl (decide_eq_true (congrArg Value.ref ha301)) (by decide) (by decide) k) ?_
    refine Go.step (T' := T300) (f' := (mkF m 26 #[.val (.ref ba), .val (.ref bb), .val (.ref bb)] [(.ref ba)])) (fun t k => XS.aloadN X300.here hx rfl (hb hby d6_25) rfl rfl k) ?_
    obtain ⟨T302, X302, e302, st302⟩ := getF X300 hx hZ hown (host := "") (Or.inl (hw _ (List.mem_of_getElem? (i := 36) rfl))) Via.refl e300 P2 (g := (mkF m 26 #[.val (.ref ba), .val (.ref bb), .val (.ref bb)] [(.ref ba)])) rfl rfl (hb hby d6_26)
    refine Go.step (T' := T302) (f' := (mkF m 29 #[.val (.ref ba), .val (.ref bb), .val (.ref bb)] [(.int ia)])) st302 ?_
    clear st302 X300
    refine Go.step (T' := T302) (f' := (mkF m 30 #[.val (.ref ba), .val (.ref bb), .val (.ref bb)] [(.ref bb), (.int ia)])) (fun t k => XS.aloadN X302.here hx rfl (hb hby d6_29) rfl rfl k) ?_
    obtain ⟨T303, X303, e303, st303⟩ := getF X302 hx hZ hown (host := "") (Or.inl (hw _ (List.mem_of_getElem? (i := 36) rfl))) Via.refl e302 P5 (g := (mkF m 30 #[.val (.ref ba), .val (.ref bb), .val (.ref bb)] [(.ref bb), (.int ia)])) rfl rfl (hb hby d6_30)
    refine Go.step (T' := T303) (f' := (mkF m 33 #[.val (.ref ba), .val (.ref bb), .val (.ref bb)] [(.int ib), (.int ia)])) st303 ?_
    clear st303 X302
    by_cases hc304 : ia = ib
    ·
      refine Go.step (T' := T303) (f' := (mkF m 36 #[.val (.ref ba), .val (.ref bb), .val (.ref bb)] [])) (fun t k => XS.icmpNo X303.here hx rfl (hb hby d6_33) rfl (teq hc304).2 k) ?_
      refine Go.step (T' := T303) (f' := (mkF m 37 #[.val (.ref ba), .val (.ref bb), .val (.ref bb)] [(.ref ba)])) (fun t k => XS.aloadN X303.here hx rfl (hb hby d6_36) rfl rfl k) ?_
      obtain ⟨T305, X305, e305, st305⟩ := getF X303 hx hZ hown (host := "") (Or.inl (hw _ (List.mem_of_getElem? (i := 38) rfl))) Via.refl e303 P3 (g := (mkF m 37 #[.val (.ref ba), .val (.ref bb), .val (.ref bb)] [(.ref ba)])) rfl rfl (hb hby d6_37)
      refine Go.step (T' := T305) (f' := (mkF m 40 #[.val (.ref ba), .val (.ref bb), .val (.ref bb)] [(.ref ta)])) st305 ?_
      clear st305 X303
      refine Go.step (T' := T305) (f' := (mkF m 41 #[.val (.ref ba), .val (.ref bb), .val (.ref bb)] [(.ref bb), (.ref ta)])) (fun t k => XS.aloadN X305.here hx rfl (hb hby d6_40) rfl rfl k) ?_
      obtain ⟨T306, X306, e306, st306⟩ := getF X305 hx hZ hown (host := "") (Or.inl (hw _ (List.mem_of_getElem? (i := 38) rfl))) Via.refl e305 P6 (g := (mkF m 41 #[.val (.ref ba), .val (.ref bb), .val (.ref bb)] [(.ref bb), (.ref ta)])) rfl rfl (hb hby d6_41)
      refine Go.step (T' := T306) (f' := (mkF m 44 #[.val (.ref ba), .val (.ref bb), .val (.ref bb)] [.null, (.ref ta)])) st306 ?_
      clear st306 X305
      refine Go.step (T' := T306) (f' := (mkF m 51 #[.val (.ref ba), .val (.ref bb), .val (.ref bb)] [])) (fun t k => Jvm.RoadKit.acmp (g := (mkF m 44 #[.val (.ref ba), .val (.ref bb), .val (.ref bb)] [.null, (.ref ta)])) X306 hx rfl rfl rfl (pc0 := 44) (pc' := 51) (same := false) rfl (hb hby d6_44) rfl (decide_eq_false nofun) (by decide) (by decide) k) ?_
      refine Go.step (T' := T306) (f' := (mkF m 52 #[.val (.ref ba), .val (.ref bb), .val (.ref bb)] [(.int (0 : Int32))])) (fun t k => XS.iconst X306.here hx rfl (hb hby d6_51) k) ?_
      refine Go.retZ X306 hx hlk (t := .boolean) Bd.returns (by simp) (hb hby d6_52) e306 ?_ (by decide) (by decide)
      exact ⟨by simp_all [nar], N0, rfl⟩
    ·
      refine Go.step (T' := T303) (f' := (mkF m 51 #[.val (.ref ba), .val (.ref bb), .val (.ref bb)] [])) (fun t k => XS.icmpYes X303.here hx rfl (pc0 := 33) (pc' := 51) rfl (hb hby d6_33) rfl (feq hc304).2 (by decide) (by decide) k) ?_
      refine Go.step (T' := T303) (f' := (mkF m 52 #[.val (.ref ba), .val (.ref bb), .val (.ref bb)] [(.int (0 : Int32))])) (fun t k => XS.iconst X303.here hx rfl (hb hby d6_51) k) ?_
      refine Go.retZ X303 hx hlk (t := .boolean) Bd.returns (by simp) (hb hby d6_52) e303 ?_ (by decide) (by decide)
      exact ⟨by simp_all [nar], N0, rfl⟩
  ·
    refine Go.step (T' := T300) (f' := (mkF m 51 #[.val (.ref ba), .val (.ref bb), .val (.ref bb)] [])) (fun t k => Jvm.RoadKit.acmp (g := (mkF m 22 #[.val (.ref ba), .val (.ref bb), .val (.ref bb)] [(.ref sb), (.ref sa)])) X300 hx rfl rfl rfl (pc0 := 22) (pc' := 51) (same := false) rfl (hb hby d6_22) rfl (decide_eq_false fun q => ha301 (Value.ref.inj q)) (by decide) (by decide) k) ?_
    refine Go.step (T' := T300) (f' := (mkF m 52 #[.val (.ref ba), .val (.ref bb), .val (.ref bb)] [(.int (0 : Int32))])) (fun t k => XS.iconst X300.here hx rfl (hb hby d6_51) k) ?_
    refine Go.retZ X300 hx hlk (t := .boolean) Bd.returns (by simp) (hb hby d6_52) e300 ?_ (by decide) (by decide)
    exact ⟨by simp_all [nar], N0, rfl⟩
theorem ef_eqSS (m : MethodId) (ba : Addr) (bb : Addr) : entryFrame m #[(.ref ba), (.ref bb)] 3 = mkF m 0 #[.val (.ref ba), .val (.ref bb), .unset] [] := by first | (simp [entryFrame, mkF, argsToLocals, Value.category]; done) | rfl
def Q_eqSS (Z : State) (ba : Addr) (bb : Addr) (sa : Addr) (ia : Int32) (sb : Addr) (ib : Int32) (ta : Addr) (tb : Addr) (h0 : Heap) (n0 : Nat) (v : Option Value) (h : Heap) (L : List Loc) : Prop := v = some (.int (if sa = sb ∧ ia = ib ∧ ta = tb then (1 : Int32) else 0)) ∧ Fr n0 L ∧ h = h0
set_option maxRecDepth 65536 in
set_option maxHeartbeats 40000000 in
theorem rm_eqSS (l : Launch) (Z : State) (a0 : Array Value) (hw : ∀ d ∈ tables_1, d.before a0 Z = true) (ws : List Jvm.Cond) (ba : Addr) (bb : Addr) (sa : Addr) (ia : Int32) (sb : Addr) (ib : Int32) (ta : Addr) (tb : Addr) (h0 : Heap) (n0 : Nat) (O0 : Old Z n0 h0) (P0 : Exa Z h0 bb "com/example/unwind/unwind/saga/Position") (P1 : Fld Z h0 ba "com/example/unwind/unwind/saga/Position" "state" "Lcom/example/unwind/unwind/saga/SagaState;" (.ref sa)) (P2 : Fld Z h0 ba "com/example/unwind/unwind/saga/Position" "step" "I" (.int ia)) (P3 : Fld Z h0 ba "com/example/unwind/unwind/saga/Position" "stuckIn" "Lcom/example/unwind/unwind/saga/SagaState;" (.ref ta)) (P4 : Fld Z h0 bb "com/example/unwind/unwind/saga/Position" "state" "Lcom/example/unwind/unwind/saga/SagaState;" (.ref sb)) (P5 : Fld Z h0 bb "com/example/unwind/unwind/saga/Position" "step" "I" (.int ib)) (P6 : Fld Z h0 bb "com/example/unwind/unwind/saga/Position" "stuckIn" "Lcom/example/unwind/unwind/saga/SagaState;" (.ref tb)) :
    MetFree l (⟨"com/example/unwind/unwind/saga/Position", "equals", "(Ljava/lang/Object;)Z"⟩ : MethodName) (head1 (Jvm.Cond.code (⟨"com/example/unwind/unwind/saga/Position", "equals", "(Ljava/lang/Object;)Z"⟩ : MethodName) prog_14_method_7_code 3 (some .boolean) :: ws) ({ frames := 0, cells := 0, slots := 0, locals := 0 } : Room)) (fun a U => a = #[(.ref ba), (.ref bb)] ∧ Z.Warmed39 U.vm ∧ U.heap = h0) (fun _ _ _ _ _ => True) (fun _ U o U' => ∃ v L, o = .returned v ∧ Q_eqSS Z ba bb sa ia sb ib ta tb h0 n0 v U'.heap L ∧ FrameEnd U o U' L ({ frames := 0, cells := 0, slots := 0, locals := 0 } : Room).cells ({ frames := 0, cells := 0, slots := 0, locals := 0 } : Room).slots) := by
  refine MetFree.of_bodySF (plainFor_of_name pn_com_example_unwind_unwind_saga_Position) hisR ?_
  intro p e s m args below meth c s₁ Bd hml0 hP hK
  obtain ⟨rfl, hZ, hh⟩ := hP
  have hx := Bd.exec
  have hby := Bd.bytes
  have hml : c.maxLocals = 3 := hml0
  have hown : s.vm.findClass "com/example/unwind/unwind/saga/Position" = some m.cls := findClass_of_methodNamed Bd.named
  have hnm := (name_of_methodNamed Bd.named Bd.method).1
  have hlk : meth.locks = false := BodyLoose.notSynchronized Bd
  have X0 : Stand p l e ({ frames := 0, cells := 0, slots := 0, locals := 0 } : Room) s m #[(.ref ba), (.ref bb)] below meth c s₁ [] 0 0 := Stand.of_body Bd
  have e0 : s₁.heap = h0 := by rw [← hh, Bd.state]; rfl
  have N0 := Fr.nil n0
  rw [ef_eqSS m ba bb]
  show Go p e below s (fun v h L => Q_eqSS Z ba bb sa ia sb ib ta tb h0 n0 v h L) ({ frames := 0, cells := 0, slots := 0, locals := 0 } : Room).cells ({ frames := 0, cells := 0, slots := 0, locals := 0 } : Room).slots s₁ (mkF m 0 #[.val (.ref ba), .val (.ref bb), .unset] [])
  refine Go.step (T' := s₁) (f' := (mkF m 1 #[.val (.ref ba), .val (.ref bb), .unset] [(.ref bb)])) (fun t k => XS.aloadN X0.here hx rfl (hb hby d6_0) rfl rfl k) ?_
  obtain ⟨T307, X307, e307, st307⟩ := instY X0 hx hZ hown (hw _ (List.mem_of_getElem? (i := 49) rfl)) e0 (Ins.self P0) (g := (mkF m 1 #[.val (.ref ba), .val (.ref bb), .unset] [(.ref bb)])) rfl rfl (hb hby d6_1)
  refine Go.step (T' := T307) (f' := (mkF m 4 #[.val (.ref ba), .val (.ref bb), .unset] [(.int (1 : Int32))])) st307 ?_
  clear st307 X0
  refine Go.step (T' := T307) (f' := (mkF m 9 #[.val (.ref ba), .val (.ref bb), .unset] [])) (fun t k => XS.ifYes X307.here hx rfl (pc0 := 4) (pc' := 9) rfl (hb hby d6_4) rfl ((if0 _ _).trans (feq (by decide : ¬ ((1 : Int32) = (0 : Int32)))).2) (by decide) (by decide) k) ?_
  refine Go.step (T' := T307) (f' := (mkF m 10 #[.val (.ref ba), .val (.ref bb), .unset] [(.ref bb)])) (fun t k => XS.aloadN X307.here hx rfl (hb hby d6_9) rfl rfl k) ?_
  obtain ⟨T308, X308, e308, st308⟩ := castY X307 hx hZ hown (hw _ (List.mem_of_getElem? (i := 49) rfl)) e307 (Ins.self P0) (g := (mkF m 10 #[.val (.ref ba), .val (.ref bb), .unset] [(.ref bb)])) rfl rfl (hb hby d6_10)
  refine Go.step (T' := T308) (f' := (mkF m 13 #[.val (.ref ba), .val (.ref bb), .unset] [(.ref bb)])) st308 ?_
  clear st308 X307
  refine Go.step (T' := T308) (f' := (mkF m 14 #[.val (.ref ba), .val (.ref bb), .val (.ref bb)] [])) (fun t k => XS.astoreN X308.here hx rfl (hb hby d6_13) rfl rfl (l' := #[.val (.ref ba), .val (.ref bb), .val (.ref bb)]) rfl k) ?_
  refine Go.step (T' := T308) (f' := (mkF m 15 #[.val (.ref ba), .val (.ref bb), .val (.ref bb)] [(.ref ba)])) (fun t k => XS.aloadN X308.here hx rfl (hb hby d6_14) rfl rfl k) ?_
  obtain ⟨T309, X309, e309, st309⟩ := getF X308 hx hZ hown (host := "") (Or.inl (hw _ (List.mem_of_getElem? (i := 34) rfl))) Via.refl e308 P1 (g := (mkF m 15 #[.val (.ref ba), .val (.ref bb), .val (.ref bb)] [(.ref ba)])) rfl rfl (hb hby d6_15)
  refine Go.step (T' := T309) (f' := (mkF m 18 #[.val (.ref ba), .val (.ref bb), .val (.ref bb)] [(.ref sa)])) st309 ?_
  clear st309 X308
  refine Go.step (T' := T309) (f' := (mkF m 19 #[.val (.ref ba), .val (.ref bb), .val (.ref bb)] [(.ref bb), (.ref sa)])) (fun t k => XS.aloadN X309.here hx rfl (hb hby d6_18) rfl rfl k) ?_
  obtain ⟨T310, X310, e310, st310⟩ := getF X309 hx hZ hown (host := "") (Or.inl (hw _ (List.mem_of_getElem? (i := 34) rfl))) Via.refl e309 P4 (g := (mkF m 19 #[.val (.ref ba), .val (.ref bb), .val (.ref bb)] [(.ref bb), (.ref sa)])) rfl rfl (hb hby d6_19)
  refine Go.step (T' := T310) (f' := (mkF m 22 #[.val (.ref ba), .val (.ref bb), .val (.ref bb)] [(.ref sb), (.ref sa)])) st310 ?_
  clear st310 X309
  by_cases ha311 : sa = sb
  ·
    refine Go.step (T' := T310) (f' := (mkF m 25 #[.val (.ref ba), .val (.ref bb), .val (.ref bb)] [])) (fun t k => Jvm.RoadKit.acmp (g := (mkF m 22 #[.val (.ref ba), .val (.ref bb), .val (.ref bb)] [(.ref sb), (.ref sa)])) X310 hx rfl rfl rfl (pc0 := 22) (pc' := 25) (same := true) rfl (hb hby d6_22) rfl (decide_eq_true (congrArg Value.ref ha311)) (by decide) (by decide) k) ?_
    refine Go.step (T' := T310) (f' := (mkF m 26 #[.val (.ref ba), .val (.ref bb), .val (.ref bb)] [(.ref ba)])) (fun t k => XS.aloadN X310.here hx rfl (hb hby d6_25) rfl rfl k) ?_
    obtain ⟨T312, X312, e312, st312⟩ := getF X310 hx hZ hown (host := "") (Or.inl (hw _ (List.mem_of_getElem? (i := 36) rfl))) Via.refl e310 P2 (g := (mkF m 26 #[.val (.ref ba), .val (.ref bb), .val (.ref bb)] [(.ref ba)])) rfl rfl (hb hby d6_26)
    refine Go.step (T' := T312) (f' := (mkF m 29 #[.val (.ref ba), .val (.ref bb), .val (.ref bb)] [(.int ia)])) st312 ?_
    clear st312 X310
    refine Go.step (T' := T312) (f' := (mkF m 30 #[.val (.ref ba), .val (.ref bb), .val (.ref bb)] [(.ref bb), (.int ia)])) (fun t k => XS.aloadN X312.here hx rfl (hb hby d6_29) rfl rfl k) ?_
    obtain ⟨T313, X313, e313, st313⟩ := getF X312 hx hZ hown (host := "") (Or.inl (hw _ (List.mem_of_getElem? (i := 36) rfl))) Via.refl e312 P5 (g := (mkF m 30 #[.val (.ref ba), .val (.ref bb), .val (.ref bb)] [(.ref bb), (.int ia)])) rfl rfl (hb hby d6_30)
    refine Go.step (T' := T313) (f' := (mkF m 33 #[.val (.ref ba), .val (.ref bb), .val (.ref bb)] [(.int ib), (.int ia)])) st313 ?_
    clear st313 X312
    by_cases hc314 : ia = ib
    ·
      refine Go.step (T' := T313) (f' := (mkF m 36 #[.val (.ref ba), .val (.ref bb), .val (.ref bb)] [])) (fun t k => XS.icmpNo X313.here hx rfl (hb hby d6_33) rfl (teq hc314).2 k) ?_
      refine Go.step (T' := T313) (f' := (mkF m 37 #[.val (.ref ba), .val (.ref bb), .val (.ref bb)] [(.ref ba)])) (fun t k => XS.aloadN X313.here hx rfl (hb hby d6_36) rfl rfl k) ?_
      obtain ⟨T315, X315, e315, st315⟩ := getF X313 hx hZ hown (host := "") (Or.inl (hw _ (List.mem_of_getElem? (i := 38) rfl))) Via.refl e313 P3 (g := (mkF m 37 #[.val (.ref ba), .val (.ref bb), .val (.ref bb)] [(.ref ba)])) rfl rfl (hb hby d6_37)
      refine Go.step (T' := T315) (f' := (mkF m 40 #[.val (.ref ba), .val (.ref bb), .val (.ref bb)] [(.ref ta)])) st315 ?_
      clear st315 X313
      refine Go.step (T' := T315) (f' := (mkF m 41 #[.val (.ref ba), .val (.ref bb), .val (.ref bb)] [(.ref bb), (.ref ta)])) (fun t k => XS.aloadN X315.here hx rfl (hb hby d6_40) rfl rfl k) ?_
      obtain ⟨T316, X316, e316, st316⟩ := getF X315 hx hZ hown (host := "") (Or.inl (hw _ (List.mem_of_getElem? (i := 38) rfl))) Via.refl e315 P6 (g := (mkF m 41 #[.val (.ref ba), .val (.ref bb), .val (.ref bb)] [(.ref bb), (.ref ta)])) rfl rfl (hb hby d6_41)
      refine Go.step (T' := T316) (f' := (mkF m 44 #[.val (.ref ba), .val (.ref bb), .val (.ref bb)] [(.ref tb), (.ref ta)])) st316 ?_
      clear st316 X315
      by_cases ha317 : ta = tb
      ·
        refine Go.step (T' := T316) (f' := (mkF m 47 #[.val (.ref ba), .val (.ref bb), .val (.ref bb)] [])) (fun t k => Jvm.RoadKit.acmp (g := (mkF m 44 #[.val (.ref ba), .val (.ref bb), .val (.ref bb)] [(.ref tb), (.ref ta)])) X316 hx rfl rfl rfl (pc0 := 44) (pc' := 47) (same := true) rfl (hb hby d6_44) rfl (decide_eq_true (congrArg Value.ref ha317)) (by decide) (by decide) k) ?_
        refine Go.step (T' := T316) (f' := (mkF m 48 #[.val (.ref ba), .val (.ref bb), .val (.ref bb)] [(.int (1 : Int32))])) (fun t k => XS.iconst X316.here hx rfl (hb hby d6_47) k) ?_
        refine Go.step (T' := T316) (f' := (mkF m 52 #[.val (.ref ba), .val (.ref bb), .val (.ref bb)] [(.int (1 : Int32))])) (fun t k => XS.goto X316.here hx rfl (pc0 := 48) (pc' := 52) rfl (hb hby d6_48) (by decide) (by decide) k) ?_
        refine Go.retZ X316 hx hlk (t := .boolean) Bd.returns (by simp) (hb hby d6_52) e316 ?_ (by decide) (by decide)
        exact ⟨by simp_all [nar], N0, rfl⟩
      ·
        refine Go.step (T' := T316) (f' := (mkF m 51 #[.val (.ref ba), .val (.ref bb), .val (.ref bb)] [])) (fun t k => Jvm.RoadKit.acmp (g := (mkF m 44 #[.val (.ref ba), .val (.ref bb), .val (.ref bb)] [(.ref tb), (.ref ta)])) X316 hx rfl rfl rfl (pc0 := 44) (pc' := 51) (same := false) rfl (hb hby d6_44) rfl (decide_eq_false fun q => ha317 (Value.ref.inj q)) (by decide) (by decide) k) ?_
        refine Go.step (T' := T316) (f' := (mkF m 52 #[.val (.ref ba), .val (.ref bb), .val (.ref bb)] [(.int (0 : Int32))])) (fun t k => XS.iconst X316.here hx rfl (hb hby d6_51) k) ?_
        refine Go.retZ X316 hx hlk (t := .boolean) Bd.returns (by simp) (hb hby d6_52) e316 ?_ (by decide) (by decide)
        exact ⟨by simp_all [nar], N0, rfl⟩
    ·
      refine Go.step (T' := T313) (f' := (mkF m 51 #[.val (.ref ba), .val (.ref bb), .val (.ref bb)] [])) (fun t k => XS.icmpYes X313.here hx rfl (pc0 := 33) (pc' := 51) rfl (hb hby d6_33) rfl (feq hc314).2 (by decide) (by decide) k) ?_
      refine Go.step (T' := T313) (f' := (mkF m 52 #[.val (.ref ba), .val (.ref bb), .val (.ref bb)] [(.int (0 : Int32))])) (fun t k => XS.iconst X313.here hx rfl (hb hby d6_51) k) ?_
      refine Go.retZ X313 hx hlk (t := .boolean) Bd.returns (by simp) (hb hby d6_52) e313 ?_ (by decide) (by decide)
      exact ⟨by simp_all [nar], N0, rfl⟩
  ·
    refine Go.step (T' := T310) (f' := (mkF m 51 #[.val (.ref ba), .val (.ref bb), .val (.ref bb)] [])) (fun t k => Jvm.RoadKit.acmp (g := (mkF m 22 #[.val (.ref ba), .val (.ref bb), .val (.ref bb)] [(.ref sb), (.ref sa)])) X310 hx rfl rfl rfl (pc0 := 22) (pc' := 51) (same := false) rfl (hb hby d6_22) rfl (decide_eq_false fun q => ha311 (Value.ref.inj q)) (by decide) (by decide) k) ?_
    refine Go.step (T' := T310) (f' := (mkF m 52 #[.val (.ref ba), .val (.ref bb), .val (.ref bb)] [(.int (0 : Int32))])) (fun t k => XS.iconst X310.here hx rfl (hb hby d6_51) k) ?_
    refine Go.retZ X310 hx hlk (t := .boolean) Bd.returns (by simp) (hb hby d6_52) e310 ?_ (by decide) (by decide)
    exact ⟨by simp_all [nar], N0, rfl⟩
theorem ef_eq1P (m : MethodId) (ba : Addr) : entryFrame m #[(.ref ba), (.ref ba)] 3 = mkF m 0 #[.val (.ref ba), .val (.ref ba), .unset] [] := by first | (simp [entryFrame, mkF, argsToLocals, Value.category]; done) | rfl
def Q_eq1P (Z : State) (ba : Addr) (sa : Addr) (ia : Int32) (h0 : Heap) (n0 : Nat) (v : Option Value) (h : Heap) (L : List Loc) : Prop := v = some (.int (1 : Int32)) ∧ Fr n0 L ∧ h = h0
set_option maxRecDepth 65536 in
set_option maxHeartbeats 40000000 in
theorem rm_eq1P (l : Launch) (Z : State) (a0 : Array Value) (hw : ∀ d ∈ tables_1, d.before a0 Z = true) (ws : List Jvm.Cond) (ba : Addr) (sa : Addr) (ia : Int32) (h0 : Heap) (n0 : Nat) (O0 : Old Z n0 h0) (P0 : Exa Z h0 ba "com/example/unwind/unwind/saga/Position") (P1 : Fld Z h0 ba "com/example/unwind/unwind/saga/Position" "state" "Lcom/example/unwind/unwind/saga/SagaState;" (.ref sa)) (P2 : Fld Z h0 ba "com/example/unwind/unwind/saga/Position" "step" "I" (.int ia)) (P3 : Fld Z h0 ba "com/example/unwind/unwind/saga/Position" "stuckIn" "Lcom/example/unwind/unwind/saga/SagaState;" .null) :
    MetFree l (⟨"com/example/unwind/unwind/saga/Position", "equals", "(Ljava/lang/Object;)Z"⟩ : MethodName) (head1 (Jvm.Cond.code (⟨"com/example/unwind/unwind/saga/Position", "equals", "(Ljava/lang/Object;)Z"⟩ : MethodName) prog_14_method_7_code 3 (some .boolean) :: ws) ({ frames := 0, cells := 0, slots := 0, locals := 0 } : Room)) (fun a U => a = #[(.ref ba), (.ref ba)] ∧ Z.Warmed39 U.vm ∧ U.heap = h0) (fun _ _ _ _ _ => True) (fun _ U o U' => ∃ v L, o = .returned v ∧ Q_eq1P Z ba sa ia h0 n0 v U'.heap L ∧ FrameEnd U o U' L ({ frames := 0, cells := 0, slots := 0, locals := 0 } : Room).cells ({ frames := 0, cells := 0, slots := 0, locals := 0 } : Room).slots) := by
  refine MetFree.of_bodySF (plainFor_of_name pn_com_example_unwind_unwind_saga_Position) hisR ?_
  intro p e s m args below meth c s₁ Bd hml0 hP hK
  obtain ⟨rfl, hZ, hh⟩ := hP
  have hx := Bd.exec
  have hby := Bd.bytes
  have hml : c.maxLocals = 3 := hml0
  have hown : s.vm.findClass "com/example/unwind/unwind/saga/Position" = some m.cls := findClass_of_methodNamed Bd.named
  have hnm := (name_of_methodNamed Bd.named Bd.method).1
  have hlk : meth.locks = false := BodyLoose.notSynchronized Bd
  have X0 : Stand p l e ({ frames := 0, cells := 0, slots := 0, locals := 0 } : Room) s m #[(.ref ba), (.ref ba)] below meth c s₁ [] 0 0 := Stand.of_body Bd
  have e0 : s₁.heap = h0 := by rw [← hh, Bd.state]; rfl
  have N0 := Fr.nil n0
  rw [ef_eq1P m ba]
  show Go p e below s (fun v h L => Q_eq1P Z ba sa ia h0 n0 v h L) ({ frames := 0, cells := 0, slots := 0, locals := 0 } : Room).cells ({ frames := 0, cells := 0, slots := 0, locals := 0 } : Room).slots s₁ (mkF m 0 #[.val (.ref ba), .val (.ref ba), .unset] [])
  refine Go.step (T' := s₁) (f' := (mkF m 1 #[.val (.ref ba), .val (.ref ba), .unset] [(.ref ba)])) (fun t k => XS.aloadN X0.here hx rfl (hb hby d6_0) rfl rfl k) ?_
  obtain ⟨T318, X318, e318, st318⟩ := instY X0 hx hZ hown (hw _ (List.mem_of_getElem? (i := 49) rfl)) e0 (Ins.self P0) (g := (mkF m 1 #[.val (.ref ba), .val (.ref ba), .unset] [(.ref ba)])) rfl rfl (hb hby d6_1)
  refine Go.step (T' := T318) (f' := (mkF m 4 #[.val (.ref ba), .val (.ref ba), .unset] [(.int (1 : Int32))])) st318 ?_
  clear st318 X0
  refine Go.step (T' := T318) (f' := (mkF m 9 #[.val (.ref ba), .val (.ref ba), .unset] [])) (fun t k => XS.ifYes X318.here hx rfl (pc0 := 4) (pc' := 9) rfl (hb hby d6_4) rfl ((if0 _ _).trans (feq (by decide : ¬ ((1 : Int32) = (0 : Int32)))).2) (by decide) (by decide) k) ?_
  refine Go.step (T' := T318) (f' := (mkF m 10 #[.val (.ref ba), .val (.ref ba), .unset] [(.ref ba)])) (fun t k => XS.aloadN X318.here hx rfl (hb hby d6_9) rfl rfl k) ?_
  obtain ⟨T319, X319, e319, st319⟩ := castY X318 hx hZ hown (hw _ (List.mem_of_getElem? (i := 49) rfl)) e318 (Ins.self P0) (g := (mkF m 10 #[.val (.ref ba), .val (.ref ba), .unset] [(.ref ba)])) rfl rfl (hb hby d6_10)
  refine Go.step (T' := T319) (f' := (mkF m 13 #[.val (.ref ba), .val (.ref ba), .unset] [(.ref ba)])) st319 ?_
  clear st319 X318
  refine Go.step (T' := T319) (f' := (mkF m 14 #[.val (.ref ba), .val (.ref ba), .val (.ref ba)] [])) (fun t k => XS.astoreN X319.here hx rfl (hb hby d6_13) rfl rfl (l' := #[.val (.ref ba), .val (.ref ba), .val (.ref ba)]) rfl k) ?_
  refine Go.step (T' := T319) (f' := (mkF m 15 #[.val (.ref ba), .val (.ref ba), .val (.ref ba)] [(.ref ba)])) (fun t k => XS.aloadN X319.here hx rfl (hb hby d6_14) rfl rfl k) ?_
  obtain ⟨T320, X320, e320, st320⟩ := getF X319 hx hZ hown (host := "") (Or.inl (hw _ (List.mem_of_getElem? (i := 34) rfl))) Via.refl e319 P1 (g := (mkF m 15 #[.val (.ref ba), .val (.ref ba), .val (.ref ba)] [(.ref ba)])) rfl rfl (hb hby d6_15)
  refine Go.step (T' := T320) (f' := (mkF m 18 #[.val (.ref ba), .val (.ref ba), .val (.ref ba)] [(.ref sa)])) st320 ?_
  clear st320 X319
  refine Go.step (T' := T320) (f' := (mkF m 19 #[.val (.ref ba), .val (.ref ba), .val (.ref ba)] [(.ref ba), (.ref sa)])) (fun t k => XS.aloadN X320.here hx rfl (hb hby d6_18) rfl rfl k) ?_
  obtain ⟨T321, X321, e321, st321⟩ := getF X320 hx hZ hown (host := "") (Or.inl (hw _ (List.mem_of_getElem? (i := 34) rfl))) Via.refl e320 P1 (g := (mkF m 19 #[.val (.ref ba), .val (.ref ba), .val (.ref ba)] [(.ref ba), (.ref sa)])) rfl rfl (hb hby d6_19)
  refine Go.step (T' := T321) (f' := (mkF m 22 #[.val (.ref ba), .val (.ref ba), .val (.ref ba)] [(.ref sa), (.ref sa)])) st321 ?_
  clear st321 X320
  refine Go.step (T' := T321) (f' := (mkF m 25 #[.val (.ref ba), .val (.ref ba), .val (.ref ba)] [])) (fun t k => Jvm.RoadKit.acmp (g := (mkF m 22 #[.val (.ref ba), .val (.ref ba), .val (.ref ba)] [(.ref sa), (.ref sa)])) X321 hx rfl rfl rfl (pc0 := 22) (pc' := 25) (same := true) rfl (hb hby d6_22) rfl (decide_eq_true rfl) (by decide) (by decide) k) ?_
  refine Go.step (T' := T321) (f' := (mkF m 26 #[.val (.ref ba), .val (.ref ba), .val (.ref ba)] [(.ref ba)])) (fun t k => XS.aloadN X321.here hx rfl (hb hby d6_25) rfl rfl k) ?_
  obtain ⟨T322, X322, e322, st322⟩ := getF X321 hx hZ hown (host := "") (Or.inl (hw _ (List.mem_of_getElem? (i := 36) rfl))) Via.refl e321 P2 (g := (mkF m 26 #[.val (.ref ba), .val (.ref ba), .val (.ref ba)] [(.ref ba)])) rfl rfl (hb hby d6_26)
  refine Go.step (T' := T322) (f' := (mkF m 29 #[.val (.ref ba), .val (.ref ba), .val (.ref ba)] [(.int ia)])) st322 ?_
  clear st322 X321
  refine Go.step (T' := T322) (f' := (mkF m 30 #[.val (.ref ba), .val (.ref ba), .val (.ref ba)] [(.ref ba), (.int ia)])) (fun t k => XS.aloadN X322.here hx rfl (hb hby d6_29) rfl rfl k) ?_
  obtain ⟨T323, X323, e323, st323⟩ := getF X322 hx hZ hown (host := "") (Or.inl (hw _ (List.mem_of_getElem? (i := 36) rfl))) Via.refl e322 P2 (g := (mkF m 30 #[.val (.ref ba), .val (.ref ba), .val (.ref ba)] [(.ref ba), (.int ia)])) rfl rfl (hb hby d6_30)
  refine Go.step (T' := T323) (f' := (mkF m 33 #[.val (.ref ba), .val (.ref ba), .val (.ref ba)] [(.int ia), (.int ia)])) st323 ?_
  clear st323 X322
  refine Go.step (T' := T323) (f' := (mkF m 36 #[.val (.ref ba), .val (.ref ba), .val (.ref ba)] [])) (fun t k => XS.icmpNo X323.here hx rfl (hb hby d6_33) rfl (teq (rfl : ia = ia)).2 k) ?_
  refine Go.step (T' := T323) (f' := (mkF m 37 #[.val (.ref ba), .val (.ref ba), .val (.ref ba)] [(.ref ba)])) (fun t k => XS.aloadN X323.here hx rfl (hb hby d6_36) rfl rfl k) ?_
  obtain ⟨T324, X324, e324, st324⟩ := getF X323 hx hZ hown (host := "") (Or.inl (hw _ (List.mem_of_getElem? (i := 38) rfl))) Via.refl e323 P3 (g := (mkF m 37 #[.val (.ref ba), .val (.ref ba), .val (.ref ba)] [(.ref ba)])) rfl rfl (hb hby d6_37)
  refine Go.step (T' := T324) (f' := (mkF m 40 #[.val (.ref ba), .val (.ref ba), .val (.ref ba)] [.null])) st324 ?_
  clear st324 X323
  refine Go.step (T' := T324) (f' := (mkF m 41 #[.val (.ref ba), .val (.ref ba), .val (.ref ba)] [(.ref ba), .null])) (fun t k => XS.aloadN X324.here hx rfl (hb hby d6_40) rfl rfl k) ?_
  obtain ⟨T325, X325, e325, st325⟩ := getF X324 hx hZ hown (host := "") (Or.inl (hw _ (List.mem_of_getElem? (i := 38) rfl))) Via.refl e324 P3 (g := (mkF m 41 #[.val (.ref ba), .val (.ref ba), .val (.ref ba)] [(.ref ba), .null])) rfl rfl (hb hby d6_41)
  refine Go.step (T' := T325) (f' := (mkF m 44 #[.val (.ref ba), .val (.ref ba), .val (.ref ba)] [.null, .null])) st325 ?_
  clear st325 X324
  refine Go.step (T' := T325) (f' := (mkF m 47 #[.val (.ref ba), .val (.ref ba), .val (.ref ba)] [])) (fun t k => Jvm.RoadKit.acmp (g := (mkF m 44 #[.val (.ref ba), .val (.ref ba), .val (.ref ba)] [.null, .null])) X325 hx rfl rfl rfl (pc0 := 44) (pc' := 47) (same := true) rfl (hb hby d6_44) rfl (decide_eq_true rfl) (by decide) (by decide) k) ?_
  refine Go.step (T' := T325) (f' := (mkF m 48 #[.val (.ref ba), .val (.ref ba), .val (.ref ba)] [(.int (1 : Int32))])) (fun t k => XS.iconst X325.here hx rfl (hb hby d6_47) k) ?_
  refine Go.step (T' := T325) (f' := (mkF m 52 #[.val (.ref ba), .val (.ref ba), .val (.ref ba)] [(.int (1 : Int32))])) (fun t k => XS.goto X325.here hx rfl (pc0 := 48) (pc' := 52) rfl (hb hby d6_48) (by decide) (by decide) k) ?_
  refine Go.retZ X325 hx hlk (t := .boolean) Bd.returns (by simp) (hb hby d6_52) e325 ?_ (by decide) (by decide)
  exact ⟨rfl, N0, rfl⟩
theorem ef_eq1S (m : MethodId) (ba : Addr) : entryFrame m #[(.ref ba), (.ref ba)] 3 = mkF m 0 #[.val (.ref ba), .val (.ref ba), .unset] [] := by first | (simp [entryFrame, mkF, argsToLocals, Value.category]; done) | rfl
def Q_eq1S (Z : State) (ba : Addr) (sa : Addr) (ia : Int32) (ta : Addr) (h0 : Heap) (n0 : Nat) (v : Option Value) (h : Heap) (L : List Loc) : Prop := v = some (.int (1 : Int32)) ∧ Fr n0 L ∧ h = h0
set_option maxRecDepth 65536 in
set_option maxHeartbeats 40000000 in
theorem rm_eq1S (l : Launch) (Z : State) (a0 : Array Value) (hw : ∀ d ∈ tables_1, d.before a0 Z = true) (ws : List Jvm.Cond) (ba : Addr) (sa : Addr) (ia : Int32) (ta : Addr) (h0 : Heap) (n0 : Nat) (O0 : Old Z n0 h0) (P0 : Exa Z h0 ba "com/example/unwind/unwind/saga/Position") (P1 : Fld Z h0 ba "com/example/unwind/unwind/saga/Position" "state" "Lcom/example/unwind/unwind/saga/SagaState;" (.ref sa)) (P2 : Fld Z h0 ba "com/example/unwind/unwind/saga/Position" "step" "I" (.int ia)) (P3 : Fld Z h0 ba "com/example/unwind/unwind/saga/Position" "stuckIn" "Lcom/example/unwind/unwind/saga/SagaState;" (.ref ta)) :
    MetFree l (⟨"com/example/unwind/unwind/saga/Position", "equals", "(Ljava/lang/Object;)Z"⟩ : MethodName) (head1 (Jvm.Cond.code (⟨"com/example/unwind/unwind/saga/Position", "equals", "(Ljava/lang/Object;)Z"⟩ : MethodName) prog_14_method_7_code 3 (some .boolean) :: ws) ({ frames := 0, cells := 0, slots := 0, locals := 0 } : Room)) (fun a U => a = #[(.ref ba), (.ref ba)] ∧ Z.Warmed39 U.vm ∧ U.heap = h0) (fun _ _ _ _ _ => True) (fun _ U o U' => ∃ v L, o = .returned v ∧ Q_eq1S Z ba sa ia ta h0 n0 v U'.heap L ∧ FrameEnd U o U' L ({ frames := 0, cells := 0, slots := 0, locals := 0 } : Room).cells ({ frames := 0, cells := 0, slots := 0, locals := 0 } : Room).slots) := by
  refine MetFree.of_bodySF (plainFor_of_name pn_com_example_unwind_unwind_saga_Position) hisR ?_
  intro p e s m args below meth c s₁ Bd hml0 hP hK
  obtain ⟨rfl, hZ, hh⟩ := hP
  have hx := Bd.exec
  have hby := Bd.bytes
  have hml : c.maxLocals = 3 := hml0
  have hown : s.vm.findClass "com/example/unwind/unwind/saga/Position" = some m.cls := findClass_of_methodNamed Bd.named
  have hnm := (name_of_methodNamed Bd.named Bd.method).1
  have hlk : meth.locks = false := BodyLoose.notSynchronized Bd
  have X0 : Stand p l e ({ frames := 0, cells := 0, slots := 0, locals := 0 } : Room) s m #[(.ref ba), (.ref ba)] below meth c s₁ [] 0 0 := Stand.of_body Bd
  have e0 : s₁.heap = h0 := by rw [← hh, Bd.state]; rfl
  have N0 := Fr.nil n0
  rw [ef_eq1S m ba]
  show Go p e below s (fun v h L => Q_eq1S Z ba sa ia ta h0 n0 v h L) ({ frames := 0, cells := 0, slots := 0, locals := 0 } : Room).cells ({ frames := 0, cells := 0, slots := 0, locals := 0 } : Room).slots s₁ (mkF m 0 #[.val (.ref ba), .val (.ref ba), .unset] [])
  refine Go.step (T' := s₁) (f' := (mkF m 1 #[.val (.ref ba), .val (.ref ba), .unset] [(.ref ba)])) (fun t k => XS.aloadN X0.here hx rfl (hb hby d6_0) rfl rfl k) ?_
  obtain ⟨T326, X326, e326, st326⟩ := instY X0 hx hZ hown (hw _ (List.mem_of_getElem? (i := 49) rfl)) e0 (Ins.self P0) (g := (mkF m 1 #[.val (.ref ba), .val (.ref ba), .unset] [(.ref ba)])) rfl rfl (hb hby d6_1)
  refine Go.step (T' := T326) (f' := (mkF m 4 #[.val (.ref ba), .val (.ref ba), .unset] [(.int (1 : Int32))])) st326 ?_
  clear st326 X0
  refine Go.step (T' := T326) (f' := (mkF m 9 #[.val (.ref ba), .val (.ref ba), .unset] [])) (fun t k => XS.ifYes X326.here hx rfl (pc0 := 4) (pc' := 9) rfl (hb hby d6_4) rfl ((if0 _ _).trans (feq (by decide : ¬ ((1 : Int32) = (0 : Int32)))).2) (by decide) (by decide) k) ?_
  refine Go.step (T' := T326) (f' := (mkF m 10 #[.val (.ref ba), .val (.ref ba), .unset] [(.ref ba)])) (fun t k => XS.aloadN X326.here hx rfl (hb hby d6_9) rfl rfl k) ?_
  obtain ⟨T327, X327, e327, st327⟩ := castY X326 hx hZ hown (hw _ (List.mem_of_getElem? (i := 49) rfl)) e326 (Ins.self P0) (g := (mkF m 10 #[.val (.ref ba), .val (.ref ba), .unset] [(.ref ba)])) rfl rfl (hb hby d6_10)
  refine Go.step (T' := T327) (f' := (mkF m 13 #[.val (.ref ba), .val (.ref ba), .unset] [(.ref ba)])) st327 ?_
  clear st327 X326
  refine Go.step (T' := T327) (f' := (mkF m 14 #[.val (.ref ba), .val (.ref ba), .val (.ref ba)] [])) (fun t k => XS.astoreN X327.here hx rfl (hb hby d6_13) rfl rfl (l' := #[.val (.ref ba), .val (.ref ba), .val (.ref ba)]) rfl k) ?_
  refine Go.step (T' := T327) (f' := (mkF m 15 #[.val (.ref ba), .val (.ref ba), .val (.ref ba)] [(.ref ba)])) (fun t k => XS.aloadN X327.here hx rfl (hb hby d6_14) rfl rfl k) ?_
  obtain ⟨T328, X328, e328, st328⟩ := getF X327 hx hZ hown (host := "") (Or.inl (hw _ (List.mem_of_getElem? (i := 34) rfl))) Via.refl e327 P1 (g := (mkF m 15 #[.val (.ref ba), .val (.ref ba), .val (.ref ba)] [(.ref ba)])) rfl rfl (hb hby d6_15)
  refine Go.step (T' := T328) (f' := (mkF m 18 #[.val (.ref ba), .val (.ref ba), .val (.ref ba)] [(.ref sa)])) st328 ?_
  clear st328 X327
  refine Go.step (T' := T328) (f' := (mkF m 19 #[.val (.ref ba), .val (.ref ba), .val (.ref ba)] [(.ref ba), (.ref sa)])) (fun t k => XS.aloadN X328.here hx rfl (hb hby d6_18) rfl rfl k) ?_
  obtain ⟨T329, X329, e329, st329⟩ := getF X328 hx hZ hown (host := "") (Or.inl (hw _ (List.mem_of_getElem? (i := 34) rfl))) Via.refl e328 P1 (g := (mkF m 19 #[.val (.ref ba), .val (.ref ba), .val (.ref ba)] [(.ref ba), (.ref sa)])) rfl rfl (hb hby d6_19)
  refine Go.step (T' := T329) (f' := (mkF m 22 #[.val (.ref ba), .val (.ref ba), .val (.ref ba)] [(.ref sa), (.ref sa)])) st329 ?_
  clear st329 X328
  refine Go.step (T' := T329) (f' := (mkF m 25 #[.val (.ref ba), .val (.ref ba), .val (.ref ba)] [])) (fun t k => Jvm.RoadKit.acmp (g := (mkF m 22 #[.val (.ref ba), .val (.ref ba), .val (.ref ba)] [(.ref sa), (.ref sa)])) X329 hx rfl rfl rfl (pc0 := 22) (pc' := 25) (same := true) rfl (hb hby d6_22) rfl (decide_eq_true rfl) (by decide) (by decide) k) ?_
  refine Go.step (T' := T329) (f' := (mkF m 26 #[.val (.ref ba), .val (.ref ba), .val (.ref ba)] [(.ref ba)])) (fun t k => XS.aloadN X329.here hx rfl (hb hby d6_25) rfl rfl k) ?_
  obtain ⟨T330, X330, e330, st330⟩ := getF X329 hx hZ hown (host := "") (Or.inl (hw _ (List.mem_of_getElem? (i := 36) rfl))) Via.refl e329 P2 (g := (mkF m 26 #[.val (.ref ba), .val (.ref ba), .val (.ref ba)] [(.ref ba)])) rfl rfl (hb hby d6_26)
  refine Go.step (T' := T330) (f' := (mkF m 29 #[.val (.ref ba), .val (.ref ba), .val (.ref ba)] [(.int ia)])) st330 ?_
  clear st330 X329
  refine Go.step (T' := T330) (f' := (mkF m 30 #[.val (.ref ba), .val (.ref ba), .val (.ref ba)] [(.ref ba), (.int ia)])) (fun t k => XS.aloadN X330.here hx rfl (hb hby d6_29) rfl rfl k) ?_
  obtain ⟨T331, X331, e331, st331⟩ := getF X330 hx hZ hown (host := "") (Or.inl (hw _ (List.mem_of_getElem? (i := 36) rfl))) Via.refl e330 P2 (g := (mkF m 30 #[.val (.ref ba), .val (.ref ba), .val (.ref ba)] [(.ref ba), (.int ia)])) rfl rfl (hb hby d6_30)
  refine Go.step (T' := T331) (f' := (mkF m 33 #[.val (.ref ba), .val (.ref ba), .val (.ref ba)] [(.int ia), (.int ia)])) st331 ?_
  clear st331 X330
  refine Go.step (T' := T331) (f' := (mkF m 36 #[.val (.ref ba), .val (.ref ba), .val (.ref ba)] [])) (fun t k => XS.icmpNo X331.here hx rfl (hb hby d6_33) rfl (teq (rfl : ia = ia)).2 k) ?_
  refine Go.step (T' := T331) (f' := (mkF m 37 #[.val (.ref ba), .val (.ref ba), .val (.ref ba)] [(.ref ba)])) (fun t k => XS.aloadN X331.here hx rfl (hb hby d6_36) rfl rfl k) ?_
  obtain ⟨T332, X332, e332, st332⟩ := getF X331 hx hZ hown (host := "") (Or.inl (hw _ (List.mem_of_getElem? (i := 38) rfl))) Via.refl e331 P3 (g := (mkF m 37 #[.val (.ref ba), .val (.ref ba), .val (.ref ba)] [(.ref ba)])) rfl rfl (hb hby d6_37)
  refine Go.step (T' := T332) (f' := (mkF m 40 #[.val (.ref ba), .val (.ref ba), .val (.ref ba)] [(.ref ta)])) st332 ?_
  clear st332 X331
  refine Go.step (T' := T332) (f' := (mkF m 41 #[.val (.ref ba), .val (.ref ba), .val (.ref ba)] [(.ref ba), (.ref ta)])) (fun t k => XS.aloadN X332.here hx rfl (hb hby d6_40) rfl rfl k) ?_
  obtain ⟨T333, X333, e333, st333⟩ := getF X332 hx hZ hown (host := "") (Or.inl (hw _ (List.mem_of_getElem? (i := 38) rfl))) Via.refl e332 P3 (g := (mkF m 41 #[.val (.ref ba), .val (.ref ba), .val (.ref ba)] [(.ref ba), (.ref ta)])) rfl rfl (hb hby d6_41)
  refine Go.step (T' := T333) (f' := (mkF m 44 #[.val (.ref ba), .val (.ref ba), .val (.ref ba)] [(.ref ta), (.ref ta)])) st333 ?_
  clear st333 X332
  refine Go.step (T' := T333) (f' := (mkF m 47 #[.val (.ref ba), .val (.ref ba), .val (.ref ba)] [])) (fun t k => Jvm.RoadKit.acmp (g := (mkF m 44 #[.val (.ref ba), .val (.ref ba), .val (.ref ba)] [(.ref ta), (.ref ta)])) X333 hx rfl rfl rfl (pc0 := 44) (pc' := 47) (same := true) rfl (hb hby d6_44) rfl (decide_eq_true rfl) (by decide) (by decide) k) ?_
  refine Go.step (T' := T333) (f' := (mkF m 48 #[.val (.ref ba), .val (.ref ba), .val (.ref ba)] [(.int (1 : Int32))])) (fun t k => XS.iconst X333.here hx rfl (hb hby d6_47) k) ?_
  refine Go.step (T' := T333) (f' := (mkF m 52 #[.val (.ref ba), .val (.ref ba), .val (.ref ba)] [(.int (1 : Int32))])) (fun t k => XS.goto X333.here hx rfl (pc0 := 48) (pc' := 52) rfl (hb hby d6_48) (by decide) (by decide) k) ?_
  refine Go.retZ X333 hx hlk (t := .boolean) Bd.returns (by simp) (hb hby d6_52) e333 ?_ (by decide) (by decide)
  exact ⟨rfl, N0, rfl⟩
theorem d6_7 : decode prog_14_method_7_code 7 = .ok (.iconst 0, 1) := by decide +kernel
theorem d6_8 : decode prog_14_method_7_code 8 = .ok (.ireturn, 1) := by decide +kernel
theorem ef_eqN (m : MethodId) (ba : Addr) : entryFrame m #[(.ref ba), .null] 3 = mkF m 0 #[.val (.ref ba), .val .null, .unset] [] := by first | (simp [entryFrame, mkF, argsToLocals, Value.category]; done) | rfl
def Q_eqN (Z : State) (ba : Addr) (h0 : Heap) (n0 : Nat) (v : Option Value) (h : Heap) (L : List Loc) : Prop := v = some (.int (0 : Int32)) ∧ Fr n0 L ∧ h = h0
set_option maxRecDepth 65536 in
set_option maxHeartbeats 40000000 in
theorem rm_eqN (l : Launch) (Z : State) (a0 : Array Value) (hw : ∀ d ∈ tables_1, d.before a0 Z = true) (ws : List Jvm.Cond) (ba : Addr) (h0 : Heap) (n0 : Nat) (O0 : Old Z n0 h0) :
    MetFree l (⟨"com/example/unwind/unwind/saga/Position", "equals", "(Ljava/lang/Object;)Z"⟩ : MethodName) (head1 (Jvm.Cond.code (⟨"com/example/unwind/unwind/saga/Position", "equals", "(Ljava/lang/Object;)Z"⟩ : MethodName) prog_14_method_7_code 3 (some .boolean) :: ws) ({ frames := 0, cells := 0, slots := 0, locals := 0 } : Room)) (fun a U => a = #[(.ref ba), .null] ∧ Z.Warmed39 U.vm ∧ U.heap = h0) (fun _ _ _ _ _ => True) (fun _ U o U' => ∃ v L, o = .returned v ∧ Q_eqN Z ba h0 n0 v U'.heap L ∧ FrameEnd U o U' L ({ frames := 0, cells := 0, slots := 0, locals := 0 } : Room).cells ({ frames := 0, cells := 0, slots := 0, locals := 0 } : Room).slots) := by
  refine MetFree.of_bodySF (plainFor_of_name pn_com_example_unwind_unwind_saga_Position) hisR ?_
  intro p e s m args below meth c s₁ Bd hml0 hP hK
  obtain ⟨rfl, hZ, hh⟩ := hP
  have hx := Bd.exec
  have hby := Bd.bytes
  have hml : c.maxLocals = 3 := hml0
  have hown : s.vm.findClass "com/example/unwind/unwind/saga/Position" = some m.cls := findClass_of_methodNamed Bd.named
  have hnm := (name_of_methodNamed Bd.named Bd.method).1
  have hlk : meth.locks = false := BodyLoose.notSynchronized Bd
  have X0 : Stand p l e ({ frames := 0, cells := 0, slots := 0, locals := 0 } : Room) s m #[(.ref ba), .null] below meth c s₁ [] 0 0 := Stand.of_body Bd
  have e0 : s₁.heap = h0 := by rw [← hh, Bd.state]; rfl
  have N0 := Fr.nil n0
  rw [ef_eqN m ba]
  show Go p e below s (fun v h L => Q_eqN Z ba h0 n0 v h L) ({ frames := 0, cells := 0, slots := 0, locals := 0 } : Room).cells ({ frames := 0, cells := 0, slots := 0, locals := 0 } : Room).slots s₁ (mkF m 0 #[.val (.ref ba), .val .null, .unset] [])
  refine Go.step (T' := s₁) (f' := (mkF m 1 #[.val (.ref ba), .val .null, .unset] [.null])) (fun t k => XS.aloadN X0.here hx rfl (hb hby d6_0) rfl rfl k) ?_
  refine Go.step (T' := s₁) (f' := (mkF m 4 #[.val (.ref ba), .val .null, .unset] [(.int (0 : Int32))])) (fun t k => X0.instanceofNull hx (g := (mkF m 1 #[.val (.ref ba), .val .null, .unset] [.null])) rfl rfl (hb hby d6_1) t k) ?_
  refine Go.step (T' := s₁) (f' := (mkF m 7 #[.val (.ref ba), .val .null, .unset] [])) (fun t k => XS.ifNo X0.here hx rfl (hb hby d6_4) rfl ((if0 _ _).trans (teq (by decide : (0 : Int32) = (0 : Int32))).2) k) ?_
  refine Go.step (T' := s₁) (f' := (mkF m 8 #[.val (.ref ba), .val .null, .unset] [(.int (0 : Int32))])) (fun t k => XS.iconst X0.here hx rfl (hb hby d6_7) k) ?_
  refine Go.retZ X0 hx hlk (t := .boolean) Bd.returns (by simp) (hb hby d6_8) e0 ?_ (by decide) (by decide)
  exact ⟨rfl, N0, rfl⟩
theorem ef_eqI (m : MethodId) (ba : Addr) (bb : Addr) : entryFrame m #[(.ref ba), (.ref bb)] 3 = mkF m 0 #[.val (.ref ba), .val (.ref bb), .unset] [] := by first | (simp [entryFrame, mkF, argsToLocals, Value.category]; done) | rfl
def Q_eqI (Z : State) (ba : Addr) (bb : Addr) (h0 : Heap) (n0 : Nat) (v : Option Value) (h : Heap) (L : List Loc) : Prop := v = some (.int (0 : Int32)) ∧ Fr n0 L ∧ h = h0
set_option maxRecDepth 65536 in
set_option maxHeartbeats 40000000 in
theorem rm_eqI (l : Launch) (Z : State) (a0 : Array Value) (hw : ∀ d ∈ tables_1, d.before a0 Z = true) (ws : List Jvm.Cond) (ba : Addr) (bb : Addr) (h0 : Heap) (n0 : Nat) (O0 : Old Z n0 h0) (P0 : Exa Z h0 bb "java/lang/Integer") :
    MetFree l (⟨"com/example/unwind/unwind/saga/Position", "equals", "(Ljava/lang/Object;)Z"⟩ : MethodName) (head1 (Jvm.Cond.code (⟨"com/example/unwind/unwind/saga/Position", "equals", "(Ljava/lang/Object;)Z"⟩ : MethodName) prog_14_method_7_code 3 (some .boolean) :: ws) ({ frames := 0, cells := 0, slots := 0, locals := 0 } : Room)) (fun a U => a = #[(.ref ba), (.ref bb)] ∧ Z.Warmed39 U.vm ∧ U.heap = h0) (fun _ _ _ _ _ => True) (fun _ U o U' => ∃ v L, o = .returned v ∧ Q_eqI Z ba bb h0 n0 v U'.heap L ∧ FrameEnd U o U' L ({ frames := 0, cells := 0, slots := 0, locals := 0 } : Room).cells ({ frames := 0, cells := 0, slots := 0, locals := 0 } : Room).slots) := by
  refine MetFree.of_bodySF (plainFor_of_name pn_com_example_unwind_unwind_saga_Position) hisR ?_
  intro p e s m args below meth c s₁ Bd hml0 hP hK
  obtain ⟨rfl, hZ, hh⟩ := hP
  have hx := Bd.exec
  have hby := Bd.bytes
  have hml : c.maxLocals = 3 := hml0
  have hown : s.vm.findClass "com/example/unwind/unwind/saga/Position" = some m.cls := findClass_of_methodNamed Bd.named
  have hnm := (name_of_methodNamed Bd.named Bd.method).1
  have hlk : meth.locks = false := BodyLoose.notSynchronized Bd
  have X0 : Stand p l e ({ frames := 0, cells := 0, slots := 0, locals := 0 } : Room) s m #[(.ref ba), (.ref bb)] below meth c s₁ [] 0 0 := Stand.of_body Bd
  have e0 : s₁.heap = h0 := by rw [← hh, Bd.state]; rfl
  have N0 := Fr.nil n0
  rw [ef_eqI m ba bb]
  show Go p e below s (fun v h L => Q_eqI Z ba bb h0 n0 v h L) ({ frames := 0, cells := 0, slots := 0, locals := 0 } : Room).cells ({ frames := 0, cells := 0, slots := 0, locals := 0 } : Room).slots s₁ (mkF m 0 #[.val (.ref ba), .val (.ref bb), .unset] [])
  refine Go.step (T' := s₁) (f' := (mkF m 1 #[.val (.ref ba), .val (.ref bb), .unset] [(.ref bb)])) (fun t k => XS.aloadN X0.here hx rfl (hb hby d6_0) rfl rfl k) ?_
  obtain ⟨T334, X334, e334, st334⟩ := instNo X0 hx hZ hown (hw _ (List.mem_of_getElem? (i := 49) rfl)) e0 P0 (own_notsub hw) (g := (mkF m 1 #[.val (.ref ba), .val (.ref bb), .unset] [(.ref bb)])) rfl rfl (hb hby d6_1)
  refine Go.step (T' := T334) (f' := (mkF m 4 #[.val (.ref ba), .val (.ref bb), .unset] [(.int (0 : Int32))])) st334 ?_
  clear st334 X0
  refine Go.step (T' := T334) (f' := (mkF m 7 #[.val (.ref ba), .val (.ref bb), .unset] [])) (fun t k => XS.ifNo X334.here hx rfl (hb hby d6_4) rfl ((if0 _ _).trans (teq (by decide : (0 : Int32) = (0 : Int32))).2) k) ?_
  refine Go.step (T' := T334) (f' := (mkF m 8 #[.val (.ref ba), .val (.ref bb), .unset] [(.int (0 : Int32))])) (fun t k => XS.iconst X334.here hx rfl (hb hby d6_7) k) ?_
  refine Go.retZ X334 hx hlk (t := .boolean) Bd.returns (by simp) (hb hby d6_8) e334 ?_ (by decide) (by decide)
  exact ⟨rfl, N0, rfl⟩
theorem d10_0 : decode jdk_18_method_1_code 0 = .ok (.aload_n 0, 1) := by decide +kernel
theorem d10_1 : decode jdk_18_method_1_code 1 = .ok (.invokespecial 1, 3) := by decide +kernel
theorem d10_4 : decode jdk_18_method_1_code 4 = .ok (.return_, 1) := by decide +kernel
theorem pn_java_lang_Number : plainName "java/lang/Number" = true := by first | (simp [plainName, overriddenIn]; done) | decide +kernel
theorem ef_num (m : MethodId) (ba : Addr) : entryFrame m #[(.ref ba)] 1 = mkF m 0 #[.val (.ref ba)] [] := by first | (simp [entryFrame, mkF, argsToLocals, Value.category]; done) | rfl
def Q_num (Z : State) (ba : Addr) (h0 : Heap) (n0 : Nat) (v : Option Value) (h : Heap) (L : List Loc) : Prop := v = none ∧ Fr n0 L ∧ h = h0
set_option maxRecDepth 65536 in
set_option maxHeartbeats 40000000 in
theorem rm_num (l : Launch) (Z : State) (a0 : Array Value) (hw : ∀ d ∈ tables_1, d.before a0 Z = true) (ws : List Jvm.Cond) (ba : Addr) (h0 : Heap) (n0 : Nat) (O0 : Old Z n0 h0) :
    MetFree l (⟨"java/lang/Number", "<init>", "()V"⟩ : MethodName) (head1 (Jvm.Cond.code (⟨"java/lang/Number", "<init>", "()V"⟩ : MethodName) jdk_18_method_1_code 1 none :: ws) ({ frames := 1, cells := 0, slots := 0, locals := 12 } : Room)) (fun a U => a = #[(.ref ba)] ∧ Z.Warmed39 U.vm ∧ U.heap = h0) (fun _ _ _ _ _ => True) (fun _ U o U' => ∃ v L, o = .returned v ∧ Q_num Z ba h0 n0 v U'.heap L ∧ FrameEnd U o U' L ({ frames := 1, cells := 0, slots := 0, locals := 12 } : Room).cells ({ frames := 1, cells := 0, slots := 0, locals := 12 } : Room).slots) := by
  refine MetFree.of_bodySF (plainFor_of_name pn_java_lang_Number) hisR ?_
  intro p e s m args below meth c s₁ Bd hml0 hP hK
  obtain ⟨rfl, hZ, hh⟩ := hP
  have hx := Bd.exec
  have hby := Bd.bytes
  have hml : c.maxLocals = 1 := hml0
  have hown : s.vm.findClass "java/lang/Number" = some m.cls := findClass_of_methodNamed Bd.named
  have hnm := (name_of_methodNamed Bd.named Bd.method).1
  have hlk : meth.locks = false := BodyLoose.notSynchronized Bd
  have X0 : Stand p l e ({ frames := 1, cells := 0, slots := 0, locals := 12 } : Room) s m #[(.ref ba)] below meth c s₁ [] 0 0 := Stand.of_body Bd
  have e0 : s₁.heap = h0 := by rw [← hh, Bd.state]; rfl
  have N0 := Fr.nil n0
  rw [ef_num m ba]
  show Go p e below s (fun v h L => Q_num Z ba h0 n0 v h L) ({ frames := 1, cells := 0, slots := 0, locals := 12 } : Room).cells ({ frames := 1, cells := 0, slots := 0, locals := 12 } : Room).slots s₁ (mkF m 0 #[.val (.ref ba)] [])
  refine Go.step (T' := s₁) (f' := (mkF m 1 #[.val (.ref ba)] [(.ref ba)])) (fun t k => XS.aloadN X0.here hx rfl (hb hby d10_0) rfl rfl k) ?_
  obtain ⟨T335, X335, e335, st335⟩ := initO X0 hx hZ hown (hw _ (List.mem_of_getElem? (i := 79) rfl)) (hw _ (List.mem_of_getElem? (i := 18) rfl)) (hw _ (List.mem_of_getElem? (i := 19) rfl)) e0 (g := (mkF m 1 #[.val (.ref ba)] [(.ref ba)])) rfl (by rw [hml]; rfl) rfl (hb hby d10_1) (by decide) (W := 0) (by show 2 * 0 + _ ≤ _; exact Nat.le_of_eq rfl) (by decide)
  refine Go.step (T' := T335) (f' := (mkF m 4 #[.val (.ref ba)] [])) st335 ?_
  clear st335 X0
  refine Go.retV X335 hx hlk Bd.returns (hb hby d10_4) e335 ?_ (by decide) (by decide)
  exact ⟨rfl, N0, rfl⟩
theorem d9_0 : decode jdk_33_method_23_code 0 = .ok (.aload_n 0, 1) := by decide +kernel
theorem d9_1 : decode jdk_33_method_23_code 1 = .ok (.invokespecial 202, 3) := by decide +kernel
theorem d9_4 : decode jdk_33_method_23_code 4 = .ok (.aload_n 0, 1) := by decide +kernel
theorem d9_5 : decode jdk_33_method_23_code 5 = .ok (.iload_n 1, 1) := by decide +kernel
theorem d9_6 : decode jdk_33_method_23_code 6 = .ok (.putfield 205, 3) := by decide +kernel
theorem d9_9 : decode jdk_33_method_23_code 9 = .ok (.return_, 1) := by decide +kernel
theorem pn_java_lang_Integer : plainName "java/lang/Integer" = true := by first | (simp [plainName, overriddenIn]; done) | decide +kernel
theorem pd4 : parseMethodDescriptor "()V" = some ⟨[], none⟩ := by decide +kernel
theorem ef_iini (m : MethodId) (ba : Addr) (ia : Int32) : entryFrame m #[(.ref ba), (.int ia)] 2 = mkF m 0 #[.val (.ref ba), .val (.int ia)] [] := by first | (simp [entryFrame, mkF, argsToLocals, Value.category]; done) | rfl
def Q_iini (Z : State) (ba : Addr) (ia : Int32) (u0 : Value) (h0 : Heap) (n0 : Nat) (v : Option Value) (h : Heap) (L : List Loc) : Prop := v = none ∧ Fr n0 L ∧ Keep h0 h [ba] ∧ Exa Z h ba "java/lang/Integer"
set_option maxRecDepth 65536 in
set_option maxHeartbeats 40000000 in
theorem rm_iini (l : Launch) (Z : State) (a0 : Array Value) (hw : ∀ d ∈ tables_1, d.before a0 Z = true) (ws : List Jvm.Cond) (ba : Addr) (ia : Int32) (u0 : Value) (h0 : Heap) (n0 : Nat) (O0 : Old Z n0 h0) (P0 : Exa Z h0 ba "java/lang/Integer") (P1 : Fld Z h0 ba "java/lang/Integer" "value" "I" u0) (P2 : n0 ≤ ba) :
    MetFree l (⟨"java/lang/Integer", "<init>", "(I)V"⟩ : MethodName) (head1 (Jvm.Cond.code (⟨"java/lang/Integer", "<init>", "(I)V"⟩ : MethodName) jdk_33_method_23_code 2 none :: ws) ({ frames := 2, cells := 0, slots := 0, locals := 24 } : Room)) (fun a U => a = #[(.ref ba), (.int ia)] ∧ Z.Warmed39 U.vm ∧ U.heap = h0) (fun _ _ _ _ _ => True) (fun _ U o U' => ∃ v L, o = .returned v ∧ Q_iini Z ba ia u0 h0 n0 v U'.heap L ∧ FrameEnd U o U' L ({ frames := 2, cells := 0, slots := 0, locals := 24 } : Room).cells ({ frames := 2, cells := 0, slots := 0, locals := 24 } : Room).slots) := by
  refine MetFree.of_bodySF (plainFor_of_name pn_java_lang_Integer) hisR ?_
  intro p e s m args below meth c s₁ Bd hml0 hP hK
  obtain ⟨rfl, hZ, hh⟩ := hP
  have hx := Bd.exec
  have hby := Bd.bytes
  have hml : c.maxLocals = 2 := hml0
  have hown : s.vm.findClass "java/lang/Integer" = some m.cls := findClass_of_methodNamed Bd.named
  have hnm := (name_of_methodNamed Bd.named Bd.method).1
  have hlk : meth.locks = false := BodyLoose.notSynchronized Bd
  have X0 : Stand p l e ({ frames := 2, cells := 0, slots := 0, locals := 24 } : Room) s m #[(.ref ba), (.int ia)] below meth c s₁ [] 0 0 := Stand.of_body Bd
  have e0 : s₁.heap = h0 := by rw [← hh, Bd.state]; rfl
  have N0 := Fr.nil n0
  have K0 := Keep.refl h0 [ba]
  rw [ef_iini m ba ia]
  show Go p e below s (fun v h L => Q_iini Z ba ia u0 h0 n0 v h L) ({ frames := 2, cells := 0, slots := 0, locals := 24 } : Room).cells ({ frames := 2, cells := 0, slots := 0, locals := 24 } : Room).slots s₁ (mkF m 0 #[.val (.ref ba), .val (.int ia)] [])
  refine Go.step (T' := s₁) (f' := (mkF m 1 #[.val (.ref ba), .val (.int ia)] [(.ref ba)])) (fun t k => XS.aloadN X0.here hx rfl (hb hby d9_0) rfl rfl k) ?_
  obtain ⟨_, _, ⟨T336, L336, k336, n336⟩, -, X336, ⟨Lc336, hQ336, l336, y336, z336⟩, st336⟩ := X0.specialBack hx (y := (⟨"java/lang/Number", "<init>", "()V"⟩ : MethodName)) rfl hown (mvT hZ (hw _ (List.mem_of_getElem? (i := 73) rfl))) (mvT hZ (hw _ (List.mem_of_getElem? (i := 74) rfl))) (mvT hZ (hw _ (List.mem_of_getElem? (i := 78) rfl))) (by decide) (backOf (W := 0) (rm_num l Z a0 hw [] ba h0 n0 O0 ) hZ (hw _ (List.mem_of_getElem? (i := 78) rfl)) (hw _ (List.mem_of_getElem? (i := 77) rfl)) (by decide) (by decide)) (g := (mkF m 1 #[.val (.ref ba), .val (.int ia)] [(.ref ba)])) rfl (by rw [hml]; rfl) (Steps.refl _) (a := ba) (argsL := []) (rest := []) (lenOf pd4 rfl) rfl (by show 2 * 0 + _ ≤ _; exact Nat.le_of_eq rfl) (hb hby d9_1) (fun _ _ => ⟨rfl, e0, (by decide : 0 + 0 ≤ _), (by decide : 0 + 0 ≤ _)⟩)
  dsimp only [Pt.U, Pt.locs, Pt.cells, Pt.slots] at X336 l336 y336 z336 st336 hQ336
  subst l336 y336 z336
  obtain ⟨rfl, Nq336, hh336⟩ := hQ336
  have N337 := Fr.app N0 Nq336
  refine Go.via (T' := T336) (f' := (mkF m 4 #[.val (.ref ba), .val (.int ia)] [])) st336 ?_
  clear st336 X0 Nq336
  refine Go.step (T' := T336) (f' := (mkF m 5 #[.val (.ref ba), .val (.int ia)] [(.ref ba)])) (fun t k => XS.aloadN X336.here hx rfl (hb hby d9_4) rfl rfl k) ?_
  refine Go.step (T' := T336) (f' := (mkF m 6 #[.val (.ref ba), .val (.int ia)] [(.int ia), (.ref ba)])) (fun t k => XS.iloadN X336.here hx rfl (hb hby d9_5) rfl k) ?_
  obtain ⟨T338, h338, X338, e338, W338, st338⟩ := putF X336 hx hZ hown (host := "") (Or.inl (hw _ (List.mem_of_getElem? (i := 80) rfl))) Via.refl hh336 P1 P0 (Or.inr ⟨(hw _ (List.mem_of_getElem? (i := 81) rfl)), rfl, hnm⟩) (hw _ (List.mem_of_getElem? (i := 68) rfl)) (ty := .int) (by decide) rfl rfl (g := (mkF m 6 #[.val (.ref ba), .val (.int ia)] [(.int ia), (.ref ba)])) rfl rfl (hb hby d9_6)
  have f339 := P1.same W338
  have f340 := P0.wr W338
  have O341 := O0.wr W338 P2
  have K342 := K0.wr W338 (Or.inl (List.mem_of_getElem? (i := 0) rfl))
  have N343 := Fr.snoc X338 N337 P2
  refine Go.step (T' := T338) (f' := (mkF m 9 #[.val (.ref ba), .val (.int ia)] [])) st338 ?_
  clear st338 X336 N337
  refine Go.retV X338 hx hlk Bd.returns (hb hby d9_9) e338 ?_ (by decide) (by decide)
  exact ⟨rfl, N343, K342, f340⟩
theorem d7_0 : decode jdk_33_method_22_code 0 = .ok (.iload_n 0, 1) := by decide +kernel
theorem d7_1 : decode jdk_33_method_22_code 1 = .ok (.bipush (-128), 2) := by decide +kernel
theorem d7_3 : decode jdk_33_method_22_code 3 = .ok (.if_icmp .lt 20, 3) := by decide +kernel
theorem d7_6 : decode jdk_33_method_22_code 6 = .ok (.iload_n 0, 1) := by decide +kernel
theorem d7_7 : decode jdk_33_method_22_code 7 = .ok (.getstatic 191, 3) := by decide +kernel
theorem d7_10 : decode jdk_33_method_22_code 10 = .ok (.if_icmp .gt 13, 3) := by decide +kernel
theorem d7_13 : decode jdk_33_method_22_code 13 = .ok (.getstatic 195, 3) := by decide +kernel
theorem d7_16 : decode jdk_33_method_22_code 16 = .ok (.iload_n 0, 1) := by decide +kernel
theorem d7_17 : decode jdk_33_method_22_code 17 = .ok (.sipush 128, 3) := by decide +kernel
theorem d7_20 : decode jdk_33_method_22_code 20 = .ok (.iadd, 1) := by decide +kernel
theorem d7_21 : decode jdk_33_method_22_code 21 = .ok (.aaload, 1) := by decide +kernel
theorem d7_22 : decode jdk_33_method_22_code 22 = .ok (.areturn, 1) := by decide +kernel
theorem d7_23 : decode jdk_33_method_22_code 23 = .ok (.new 1, 3) := by decide +kernel
theorem d7_26 : decode jdk_33_method_22_code 26 = .ok (.dup, 1) := by decide +kernel
theorem d7_27 : decode jdk_33_method_22_code 27 = .ok (.iload_n 0, 1) := by decide +kernel
theorem d7_28 : decode jdk_33_method_22_code 28 = .ok (.invokespecial 199, 3) := by decide +kernel
theorem d7_31 : decode jdk_33_method_22_code 31 = .ok (.areturn, 1) := by decide +kernel
theorem pd5 : parseMethodDescriptor "(I)V" = some ⟨[.int], none⟩ := by decide +kernel
theorem ef_ival (m : MethodId) (ia : Int32) : entryFrame m #[(.int ia)] 1 = mkF m 0 #[.val (.int ia)] [] := by first | (simp [entryFrame, mkF, argsToLocals, Value.category]; done) | rfl
def Q_ival (Z : State) (ia : Int32) (wc : Addr) (cc : Cell) (h0 : Heap) (n0 : Nat) (v : Option Value) (h : Heap) (L : List Loc) : Prop := ∃ bi : Addr, v = some (.ref bi) ∧ Fr n0 L ∧ Keep h0 h [] ∧ Exa Z h bi "java/lang/Integer"
set_option maxRecDepth 65536 in
set_option maxHeartbeats 40000000 in
theorem rm_ival (l : Launch) (Z : State) (a0 : Array Value) (hw : ∀ d ∈ tables_1, d.before a0 Z = true) (ws : List Jvm.Cond) (ia : Int32) (wc : Addr) (cc : Cell) (h0 : Heap) (n0 : Nat) (O0 : Old Z n0 h0) (P0 : Sta Z Z.heap "java/lang/Integer$IntegerCache" "high" "I" (.int (127 : Int32))) (P1 : Sta Z Z.heap "java/lang/Integer$IntegerCache" "cache" "[Ljava/lang/Integer;" (.ref wc)) (hbx : Bxs Z wc cc "java/lang/Integer" "I" (256 : Int32) own_val) (hia : ¬ (ia < (0 : Int32))) :
    MetFree l (⟨"java/lang/Integer", "valueOf", "(I)Ljava/lang/Integer;"⟩ : MethodName) (head1 (Jvm.Cond.code (⟨"java/lang/Integer", "valueOf", "(I)Ljava/lang/Integer;"⟩ : MethodName) jdk_33_method_22_code 1 (some (.object "java/lang/Integer")) :: ws) ({ frames := 3, cells := 1, slots := 1, locals := 38 } : Room)) (fun a U => a = #[(.int ia)] ∧ Z.Warmed39 U.vm ∧ U.heap = h0) (fun _ _ _ _ _ => True) (fun _ U o U' => ∃ v L, o = .returned v ∧ Q_ival Z ia wc cc h0 n0 v U'.heap L ∧ FrameEnd U o U' L ({ frames := 3, cells := 1, slots := 1, locals := 38 } : Room).cells ({ frames := 3, cells := 1, slots := 1, locals := 38 } : Room).slots) := by
  refine MetFree.of_bodySF (plainFor_of_name pn_java_lang_Integer) hisR ?_
  intro p e s m args below meth c s₁ Bd hml0 hP hK
  obtain ⟨rfl, hZ, hh⟩ := hP
  have hx := Bd.exec
  have hby := Bd.bytes
  have hml : c.maxLocals = 1 := hml0
  have hown : s.vm.findClass "java/lang/Integer" = some m.cls := findClass_of_methodNamed Bd.named
  have hnm := (name_of_methodNamed Bd.named Bd.method).1
  have hlk : meth.locks = false := BodyLoose.notSynchronized Bd
  have X0 : Stand p l e ({ frames := 3, cells := 1, slots := 1, locals := 38 } : Room) s m #[(.int ia)] below meth c s₁ [] 0 0 := Stand.of_body Bd
  have e0 : s₁.heap = h0 := by rw [← hh, Bd.state]; rfl
  have N0 := Fr.nil n0
  have K0 := Keep.refl h0 []
  rw [ef_ival m ia]
  show Go p e below s (fun v h L => Q_ival Z ia wc cc h0 n0 v h L) ({ frames := 3, cells := 1, slots := 1, locals := 38 } : Room).cells ({ frames := 3, cells := 1, slots := 1, locals := 38 } : Room).slots s₁ (mkF m 0 #[.val (.int ia)] [])
  refine Go.step (T' := s₁) (f' := (mkF m 1 #[.val (.int ia)] [(.int ia)])) (fun t k => XS.iloadN X0.here hx rfl (hb hby d7_0) rfl k) ?_
  refine Go.step (T' := s₁) (f' := (mkF m 3 #[.val (.int ia)] [(.int (-128 : Int32)), (.int ia)])) (fun t k => XS.bipush X0.here hx rfl (hb hby d7_1) k) ?_
  have hc344 : ¬ (ia < (-128 : Int32)) := by
    exact own_not128 hia
  refine Go.step (T' := s₁) (f' := (mkF m 6 #[.val (.int ia)] [])) (fun t k => XS.icmpNo X0.here hx rfl (hb hby d7_3) rfl (flt hc344).1 k) ?_
  refine Go.step (T' := s₁) (f' := (mkF m 7 #[.val (.int ia)] [(.int ia)])) (fun t k => XS.iloadN X0.here hx rfl (hb hby d7_6) rfl k) ?_
  obtain ⟨T345, X345, e345, st345⟩ := getS2 X0 hx hZ hown (host := "") (Or.inl (hw _ (List.mem_of_getElem? (i := 55) rfl))) Via.refl e0 (P0.ext O0.2) (g := (mkF m 7 #[.val (.int ia)] [(.int ia)])) rfl (hb hby d7_7)
  refine Go.step (T' := T345) (f' := (mkF m 10 #[.val (.int ia)] [(.int (127 : Int32)), (.int ia)])) st345 ?_
  clear st345 X0
  by_cases hc346 : (127 : Int32) < ia
  ·
    refine Go.step (T' := T345) (f' := (mkF m 23 #[.val (.int ia)] [])) (fun t k => XS.icmpYes X345.here hx rfl (pc0 := 10) (pc' := 23) rfl (hb hby d7_10) rfl (tlt hc346).2.2.1 (by decide) (by decide) k) ?_
    obtain ⟨T347, h347, X347, e347, E347, A347, D347, -, st347⟩ := newO X345 hx hZ hown (hw _ (List.mem_of_getElem? (i := 67) rfl)) (hw _ (List.mem_of_getElem? (i := 68) rfl)) (hw _ (List.mem_of_getElem? (i := 53) rfl)) e345 (g := (mkF m 23 #[.val (.int ia)] [])) rfl (hb hby d7_23) (by decide) (by decide)
    obtain ⟨b347, g347⟩ : ∃ z, z = h0.size := ⟨_, rfl⟩
    rw [← g347] at A347 D347 st347
    have g348 : n0 ≤ b347 := Nat.le_trans (own_old_le O0) (Nat.le_of_eq g347.symm)
    have g349 : h0.size ≤ b347 := Nat.le_trans K0.1 (Nat.le_of_eq g347.symm)
    have O350 := O0.ext E347
    have K351 := K0.ext E347
    have f352 : Fld Z h347 b347 "java/lang/Integer" "value" "I" (.int (0 : Int32)) := D347 (Or.inr (hw _ (List.mem_of_getElem? (i := 81) rfl))) (ty := .int) (by decide)
    refine Go.step (T' := T347) (f' := (mkF m 26 #[.val (.int ia)] [(.ref b347)])) st347 ?_
    clear st347 X345
    refine Go.step (T' := T347) (f' := (mkF m 27 #[.val (.int ia)] [(.ref b347), (.ref b347)])) (fun t k => XS.dup X347.here hx rfl (hb hby d7_26) rfl rfl k) ?_
    refine Go.step (T' := T347) (f' := (mkF m 28 #[.val (.int ia)] [(.int ia), (.ref b347), (.ref b347)])) (fun t k => XS.iloadN X347.here hx rfl (hb hby d7_27) rfl k) ?_
    obtain ⟨_, _, ⟨T353, L353, k353, n353⟩, -, X353, ⟨Lc353, hQ353, l353, y353, z353⟩, st353⟩ := X347.specialBack hx (y := (⟨"java/lang/Integer", "<init>", "(I)V"⟩ : MethodName)) rfl hown (mvT hZ (hw _ (List.mem_of_getElem? (i := 69) rfl))) (mvT hZ (hw _ (List.mem_of_getElem? (i := 70) rfl))) (mvT hZ (hw _ (List.mem_of_getElem? (i := 72) rfl))) (by decide) (backOf (W := 1) (rm_iini l Z a0 hw [] b347 ia (.int (0 : Int32)) h347 n0 O350 A347 f352 g348) hZ (hw _ (List.mem_of_getElem? (i := 72) rfl)) (hw _ (List.mem_of_getElem? (i := 53) rfl)) (by decide) (by decide)) (g := (mkF m 28 #[.val (.int ia)] [(.int ia), (.ref b347), (.ref b347)])) rfl (by rw [hml]; rfl) (Steps.refl _) (a := b347) (argsL := [(.int ia)]) (rest := [(.ref b347)]) (lenOf pd5 rfl) rfl (by show 2 * 0 + _ ≤ _; exact Nat.le_of_eq rfl) (hb hby d7_28) (fun _ _ => ⟨rfl, e347, (by decide : 1 + 0 ≤ _), (by decide : 1 + 0 ≤ _)⟩)
    dsimp only [Pt.U, Pt.locs, Pt.cells, Pt.slots] at X353 l353 y353 z353 st353 hQ353
    subst l353 y353 z353
    obtain ⟨rfl, Nq353, hh353, p354⟩ := hQ353
    have N355 := Fr.app N0 Nq353
    have f356 := A347.keep hh353
    have O357 := O350.keep hh353 (allS g348 all0)
    have K358 := K351.trans hh353 (allS (Or.inr g349) all0)
    refine Go.via (T' := T353) (f' := (mkF m 31 #[.val (.int ia)] [(.ref b347)])) st353 ?_
    clear st353 X347 Nq353
    refine Go.retA X353 hx hlk Bd.returns rfl rfl (hb hby d7_31) rfl ?_ (by decide) (by decide)
    exact ⟨b347, rfl, N355, K358, p354⟩
  ·
    refine Go.step (T' := T345) (f' := (mkF m 13 #[.val (.int ia)] [])) (fun t k => XS.icmpNo X345.here hx rfl (hb hby d7_10) rfl (flt hc346).2.2.1 k) ?_
    obtain ⟨T359, X359, e359, st359⟩ := getS2 X345 hx hZ hown (host := "") (Or.inl (hw _ (List.mem_of_getElem? (i := 57) rfl))) Via.refl e345 (P1.ext O0.2) (g := (mkF m 13 #[.val (.int ia)] [])) rfl (hb hby d7_13)
    refine Go.step (T' := T359) (f' := (mkF m 16 #[.val (.int ia)] [(.ref wc)])) st359 ?_
    clear st359 X345
    refine Go.step (T' := T359) (f' := (mkF m 17 #[.val (.int ia)] [(.int ia), (.ref wc)])) (fun t k => XS.iloadN X359.here hx rfl (hb hby d7_16) rfl k) ?_
    refine Go.step (T' := T359) (f' := (mkF m 20 #[.val (.int ia)] [(.int (128 : Int32)), (.int ia), (.ref wc)])) (fun t k => XS.sipush X359.here hx rfl (hb hby d7_17) k) ?_
    refine Go.step (T' := T359) (f' := (mkF m 21 #[.val (.int ia)] [(.int (ia + (128 : Int32))), (.ref wc)])) (fun t k => XS.iadd X359.here hx rfl (hb hby d7_20) rfl k) ?_
    obtain ⟨Ab, Sb, Nb⟩ := hbx.ext O0.2
    have ib : ¬ ((ia + (128 : Int32)) < 0 ∨ cc.slots.size ≤ ((ia + (128 : Int32))).toNatClampNeg) := inb_of Sb (own_cidx hia hc346)
    obtain ⟨bx, vb, Eb, -⟩ := hbx.2.2.2 _ ib
    refine Go.step (T' := T359) (f' := (mkF m 22 #[.val (.int ia)] [(.ref bx)])) (fun t k => X359.aaload hx (j := (ia + (128 : Int32))) (v := (.ref bx)) (by rw [e359]; exact Ab.1) (State.isArrayOf_alike hZ.alike Ab.2.1) rfl Ab.2.2 ib vb (g := (mkF m 21 #[.val (.int ia)] [(.int (ia + (128 : Int32))), (.ref wc)])) rfl rfl (hb hby d7_21) t k) ?_
    refine Go.retA X359 hx hlk Bd.returns rfl rfl (hb hby d7_22) e359 ?_ (by decide) (by decide)
    exact ⟨bx, rfl, N0, K0, (Eb.ext O0.2)⟩
theorem pd6 : parseMethodDescriptor "(II)Lcom/example/unwind/unwind/saga/Position;" = some ⟨[.int, .int], some (.object "com/example/unwind/unwind/saga/Position")⟩ := by decide +kernel
theorem pd7 : parseMethodDescriptor "(Ljava/lang/Object;)Z" = some ⟨[(.object "java/lang/Object")], some .boolean⟩ := by decide +kernel
theorem pd8 : parseMethodDescriptor "(I)Ljava/lang/Integer;" = some ⟨[.int], some (.object "java/lang/Integer")⟩ := by decide +kernel
theorem ef_law (m : MethodId) (ia : Int32) (ib : Int32) (ie : Int32) (ig : Int32) (ik : Int32) : entryFrame m #[(.int ia), (.int ib), (.int ie), (.int ig), (.int ik)] maxLocals = mkF m 0 #[.val (.int ia), .val (.int ib), .val (.int ie), .val (.int ig), .val (.int ik), .unset, .unset, .unset, .unset, .unset, .unset, .unset, .unset] [] := by first | (simp [entryFrame, mkF, argsToLocals, Value.category, maxLocals]; done) | rfl
def Q_law (Z : State) (ia : Int32) (ib : Int32) (ie : Int32) (ig : Int32) (ik : Int32) (z_RUNNING : Addr) (z_ROLLING_BACK : Addr) (z_STUCK : Addr) (z_COMPLETED : Addr) (z_ROLLED_BACK : Addr) (wc : Addr) (cc : Cell) (h0 : Heap) (n0 : Nat) (v : Option Value) (h : Heap) (L : List Loc) : Prop := v = some (.int (1 : Int32)) ∧ Fr n0 L ∧ Keep h0 h []
set_option maxRecDepth 65536 in
set_option maxHeartbeats 40000000 in
theorem rm_law (l : Launch) (Z : State) (a0 : Array Value) (hw : ∀ d ∈ tables_1, d.before a0 Z = true) (ws : List Jvm.Cond) (ia : Int32) (ib : Int32) (ie : Int32) (ig : Int32) (ik : Int32) (z_RUNNING : Addr) (z_ROLLING_BACK : Addr) (z_STUCK : Addr) (z_COMPLETED : Addr) (z_ROLLED_BACK : Addr) (wc : Addr) (cc : Cell) (h0 : Heap) (n0 : Nat) (O0 : Old Z n0 h0) (hEL : EW Z a0 own_EL) (P0 : Sta Z Z.heap "com/example/unwind/unwind/saga/SagaState" "RUNNING" "Lcom/example/unwind/unwind/saga/SagaState;" (.ref z_RUNNING)) (P1 : Sta Z Z.heap "com/example/unwind/unwind/saga/SagaState" "ROLLING_BACK" "Lcom/example/unwind/unwind/saga/SagaState;" (.ref z_ROLLING_BACK)) (P2 : Sta Z Z.heap "com/example/unwind/unwind/saga/SagaState" "STUCK" "Lcom/example/unwind/unwind/saga/SagaState;" (.ref z_STUCK)) (P3 : Sta Z Z.heap "com/example/unwind/unwind/saga/SagaState" "COMPLETED" "Lcom/example/unwind/unwind/saga/SagaState;" (.ref z_COMPLETED)) (P4 : Sta Z Z.heap "com/example/unwind/unwind/saga/SagaState" "ROLLED_BACK" "Lcom/example/unwind/unwind/saga/SagaState;" (.ref z_ROLLED_BACK)) (P5 : Exa Z Z.heap z_RUNNING "com/example/unwind/unwind/saga/SagaState") (P6 : Exa Z Z.heap z_ROLLING_BACK "com/example/unwind/unwind/saga/SagaState") (P7 : Exa Z Z.heap z_STUCK "com/example/unwind/unwind/saga/SagaState") (P8 : Exa Z Z.heap z_COMPLETED "com/example/unwind/unwind/saga/SagaState") (P9 : Exa Z Z.heap z_ROLLED_BACK "com/example/unwind/unwind/saga/SagaState") (P10 : z_RUNNING ≠ z_ROLLING_BACK) (P11 : z_RUNNING ≠ z_STUCK) (P12 : z_RUNNING ≠ z_COMPLETED) (P13 : z_RUNNING ≠ z_ROLLED_BACK) (P14 : z_ROLLING_BACK ≠ z_STUCK) (P15 : z_ROLLING_BACK ≠ z_COMPLETED) (P16 : z_ROLLING_BACK ≠ z_ROLLED_BACK) (P17 : z_STUCK ≠ z_COMPLETED) (P18 : z_STUCK ≠ z_ROLLED_BACK) (P19 : z_COMPLETED ≠ z_ROLLED_BACK) (P20 : Sta Z Z.heap "java/lang/Integer$IntegerCache" "high" "I" (.int (127 : Int32))) (P21 : Sta Z Z.heap "java/lang/Integer$IntegerCache" "cache" "[Ljava/lang/Integer;" (.ref wc)) (hbx : Bxs Z wc cc "java/lang/Integer" "I" (256 : Int32) own_val) :
    MetFree l x (head1 (Jvm.Cond.code x code maxLocals ret :: ws) room_1) (fun a U => a = #[(.int ia), (.int ib), (.int ie), (.int ig), (.int ik)] ∧ Z.Warmed39 U.vm ∧ U.heap = h0 ∧ CHv Z own_EL U.vm h0) (fun _ _ _ _ _ => True) (fun _ U o U' => ∃ v L, o = .returned v ∧ Q_law Z ia ib ie ig ik z_RUNNING z_ROLLING_BACK z_STUCK z_COMPLETED z_ROLLED_BACK wc cc h0 n0 v U'.heap L ∧ CHr Z own_EL U.vm U.heap U'.vm U'.heap ∧ ReturnedEndW U o U' L room_1.cells room_1.slots) := by
  refine MetFree.of_bodySF (plainFor_of_name pn_com_example_unwind_unwind_saga_PositionEqualsPinLaw) hisR ?_
  intro p e s m args below meth c s₁ Bd hml0 hP hK
  obtain ⟨rfl, hZ, hh, hC0⟩ := hP
  have hx := Bd.exec
  have hby := Bd.bytes
  have hml : c.maxLocals = 13 := hml0
  have hown : (s.setVm s.vm).vm.findClass "com/example/unwind/unwind/saga/PositionEqualsPinLaw" = some m.cls := findClass_of_methodNamed Bd.named
  have hnm := (name_of_methodNamed Bd.named Bd.method).1
  have hlk : meth.locks = false := BodyLoose.notSynchronized Bd
  have X0 : Stand p l e room_1 (s.setVm s.vm) m #[(.int ia), (.int ib), (.int ie), (.int ig), (.int ik)] below meth c s₁ [] 0 0 := Stand.of_body Bd
  have e0 : s₁.heap = h0 := by rw [← hh, Bd.state]; rfl
  have N0 := Fr.nil n0
  have hZ : Z.Warmed39 (s.setVm s.vm).vm := hZ
  have hS0 : s.Since s.vm 0 := (State.WarmedH.refl s).since 0
  have hk0 : 0 ≤ h0.size := Nat.zero_le _
  have CR0 : CHr Z own_EL s.vm s.heap s.vm h0 := by rw [hh]; exact CHr.refl hC0
  have K0 := Keep.refl h0 []
  rw [ef_law m ia ib ie ig ik]
  show GoH p e below s Z own_EL (fun v h L => Q_law Z ia ib ie ig ik z_RUNNING z_ROLLING_BACK z_STUCK z_COMPLETED z_ROLLED_BACK wc cc h0 n0 v h L) room_1.cells room_1.slots s₁ (mkF m 0 #[.val (.int ia), .val (.int ib), .val (.int ie), .val (.int ig), .val (.int ik), .unset, .unset, .unset, .unset, .unset, .unset, .unset, .unset] [])
  refine GoH.step (T' := s₁) (f' := (mkF m 1 #[.val (.int ia), .val (.int ib), .val (.int ie), .val (.int ig), .val (.int ik), .unset, .unset, .unset, .unset, .unset, .unset, .unset, .unset] [(.int ia)])) (fun t k => XS.iloadN X0.here hx rfl (hb hby at_0) rfl k) ?_
  refine GoH.step (T' := s₁) (f' := (mkF m 3 #[.val (.int ia), .val (.int ib), .val (.int ie), .val (.int ig), .val (.int ik), .unset, .unset, .unset, .unset, .unset, .unset, .unset, .unset] [(.int (2147483647 : Int32)), (.int ia)])) (fun t k => X0.ldcInt hx hown (mvT hZ (hw _ (List.mem_of_getElem? (i := 0) rfl))) (g := (mkF m 1 #[.val (.int ia), .val (.int ib), .val (.int ie), .val (.int ig), .val (.int ik), .unset, .unset, .unset, .unset, .unset, .unset, .unset, .unset] [(.int ia)])) rfl (hb hby at_1) t k) ?_
  refine GoH.step (T' := s₁) (f' := (mkF m 4 #[.val (.int ia), .val (.int ib), .val (.int ie), .val (.int ig), .val (.int ik), .unset, .unset, .unset, .unset, .unset, .unset, .unset, .unset] [(.int (ia &&& (2147483647 : Int32)))])) (fun t k => XS.iand X0.here hx rfl (hb hby at_3) rfl k) ?_
  refine GoH.step (T' := s₁) (f' := (mkF m 6 #[.val (.int ia), .val (.int ib), .val (.int ie), .val (.int ig), .val (.int ik), .unset, .unset, .unset, .unset, .unset, .unset, .unset, .unset] [(.int (6 : Int32)), (.int (ia &&& (2147483647 : Int32)))])) (fun t k => XS.bipush X0.here hx rfl (hb hby at_4) k) ?_
  refine GoH.step (T' := s₁) (f' := (mkF m 7 #[.val (.int ia), .val (.int ib), .val (.int ie), .val (.int ig), .val (.int ik), .unset, .unset, .unset, .unset, .unset, .unset, .unset, .unset] [(.int ((ia &&& (2147483647 : Int32)) % (6 : Int32)))])) (fun t k => iremM X0 hx rfl (hb hby at_6) rfl (by decide) k) ?_
  refine GoH.step (T' := s₁) (f' := (mkF m 9 #[.val (.int ia), .val (.int ib), .val (.int ie), .val (.int ig), .val (.int ik), .val (.int ((ia &&& (2147483647 : Int32)) % (6 : Int32))), .unset, .unset, .unset, .unset, .unset, .unset, .unset] [])) (fun t k => XS.istore X0.here hx rfl (hb hby at_7) rfl (l' := #[.val (.int ia), .val (.int ib), .val (.int ie), .val (.int ig), .val (.int ik), .val (.int ((ia &&& (2147483647 : Int32)) % (6 : Int32))), .unset, .unset, .unset, .unset, .unset, .unset, .unset]) rfl k) ?_
  refine GoH.step (T' := s₁) (f' := (mkF m 11 #[.val (.int ia), .val (.int ib), .val (.int ie), .val (.int ig), .val (.int ik), .val (.int ((ia &&& (2147483647 : Int32)) % (6 : Int32))), .unset, .unset, .unset, .unset, .unset, .unset, .unset] [(.int ik)])) (fun t k => XS.iload X0.here hx rfl (hb hby at_9) rfl k) ?_
  refine GoH.step (T' := s₁) (f' := (mkF m 12 #[.val (.int ia), .val (.int ib), .val (.int ie), .val (.int ig), .val (.int ik), .val (.int ((ia &&& (2147483647 : Int32)) % (6 : Int32))), .unset, .unset, .unset, .unset, .unset, .unset, .unset] [(.int (2 : Int32)), (.int ik)])) (fun t k => XS.iconst X0.here hx rfl (hb hby at_11) k) ?_
  refine GoH.step (T' := s₁) (f' := (mkF m 13 #[.val (.int ia), .val (.int ib), .val (.int ie), .val (.int ig), .val (.int ik), .val (.int ((ia &&& (2147483647 : Int32)) % (6 : Int32))), .unset, .unset, .unset, .unset, .unset, .unset, .unset] [(.int (ik &&& (2 : Int32)))])) (fun t k => XS.iand X0.here hx rfl (hb hby at_12) rfl k) ?_
  have Kc360 : ∀ (zb : Int32), own_six zb → GoH p e below s Z own_EL (fun v h L => Q_law Z ia ib ie ig ik z_RUNNING z_ROLLING_BACK z_STUCK z_COMPLETED z_ROLLED_BACK wc cc h0 n0 v h L) room_1.cells room_1.slots s₁ (mkF m 28 #[.val (.int ia), .val (.int ib), .val (.int ie), .val (.int ig), .val (.int ik), .val (.int ((ia &&& (2147483647 : Int32)) % (6 : Int32))), .unset, .unset, .unset, .unset, .unset, .unset, .unset] [(.int zb)]) := by
    intro zb hzb
    refine GoH.step (T' := s₁) (f' := (mkF m 30 #[.val (.int ia), .val (.int ib), .val (.int ie), .val (.int ig), .val (.int ik), .val (.int ((ia &&& (2147483647 : Int32)) % (6 : Int32))), .val (.int zb), .unset, .unset, .unset, .unset, .unset, .unset] [])) (fun t k => XS.istore X0.here hx rfl (hb hby at_28) rfl (l' := #[.val (.int ia), .val (.int ib), .val (.int ie), .val (.int ig), .val (.int ik), .val (.int ((ia &&& (2147483647 : Int32)) % (6 : Int32))), .val (.int zb), .unset, .unset, .unset, .unset, .unset, .unset]) rfl k) ?_
    refine GoH.step (T' := s₁) (f' := (mkF m 31 #[.val (.int ia), .val (.int ib), .val (.int ie), .val (.int ig), .val (.int ik), .val (.int ((ia &&& (2147483647 : Int32)) % (6 : Int32))), .val (.int zb), .unset, .unset, .unset, .unset, .unset, .unset] [(.int ie)])) (fun t k => XS.iloadN X0.here hx rfl (hb hby at_30) rfl k) ?_
    refine GoH.step (T' := s₁) (f' := (mkF m 33 #[.val (.int ia), .val (.int ib), .val (.int ie), .val (.int ig), .val (.int ik), .val (.int ((ia &&& (2147483647 : Int32)) % (6 : Int32))), .val (.int zb), .unset, .unset, .unset, .unset, .unset, .unset] [(.int (2147483647 : Int32)), (.int ie)])) (fun t k => X0.ldcInt hx hown (mvT hZ (hw _ (List.mem_of_getElem? (i := 0) rfl))) (g := (mkF m 31 #[.val (.int ia), .val (.int ib), .val (.int ie), .val (.int ig), .val (.int ik), .val (.int ((ia &&& (2147483647 : Int32)) % (6 : Int32))), .val (.int zb), .unset, .unset, .unset, .unset, .unset, .unset] [(.int ie)])) rfl (hb hby at_31) t k) ?_
    refine GoH.step (T' := s₁) (f' := (mkF m 34 #[.val (.int ia), .val (.int ib), .val (.int ie), .val (.int ig), .val (.int ik), .val (.int ((ia &&& (2147483647 : Int32)) % (6 : Int32))), .val (.int zb), .unset, .unset, .unset, .unset, .unset, .unset] [(.int (ie &&& (2147483647 : Int32)))])) (fun t k => XS.iand X0.here hx rfl (hb hby at_33) rfl k) ?_
    refine GoH.step (T' := s₁) (f' := (mkF m 36 #[.val (.int ia), .val (.int ib), .val (.int ie), .val (.int ig), .val (.int ik), .val (.int ((ia &&& (2147483647 : Int32)) % (6 : Int32))), .val (.int zb), .val (.int (ie &&& (2147483647 : Int32))), .unset, .unset, .unset, .unset, .unset] [])) (fun t k => XS.istore X0.here hx rfl (hb hby at_34) rfl (l' := #[.val (.int ia), .val (.int ib), .val (.int ie), .val (.int ig), .val (.int ik), .val (.int ((ia &&& (2147483647 : Int32)) % (6 : Int32))), .val (.int zb), .val (.int (ie &&& (2147483647 : Int32))), .unset, .unset, .unset, .unset, .unset]) rfl k) ?_
    refine GoH.step (T' := s₁) (f' := (mkF m 38 #[.val (.int ia), .val (.int ib), .val (.int ie), .val (.int ig), .val (.int ik), .val (.int ((ia &&& (2147483647 : Int32)) % (6 : Int32))), .val (.int zb), .val (.int (ie &&& (2147483647 : Int32))), .unset, .unset, .unset, .unset, .unset] [(.int ik)])) (fun t k => XS.iload X0.here hx rfl (hb hby at_36) rfl k) ?_
    refine GoH.step (T' := s₁) (f' := (mkF m 39 #[.val (.int ia), .val (.int ib), .val (.int ie), .val (.int ig), .val (.int ik), .val (.int ((ia &&& (2147483647 : Int32)) % (6 : Int32))), .val (.int zb), .val (.int (ie &&& (2147483647 : Int32))), .unset, .unset, .unset, .unset, .unset] [(.int (1 : Int32)), (.int ik)])) (fun t k => XS.iconst X0.here hx rfl (hb hby at_38) k) ?_
    refine GoH.step (T' := s₁) (f' := (mkF m 40 #[.val (.int ia), .val (.int ib), .val (.int ie), .val (.int ig), .val (.int ik), .val (.int ((ia &&& (2147483647 : Int32)) % (6 : Int32))), .val (.int zb), .val (.int (ie &&& (2147483647 : Int32))), .unset, .unset, .unset, .unset, .unset] [(.int (ik &&& (1 : Int32)))])) (fun t k => XS.iand X0.here hx rfl (hb hby at_39) rfl k) ?_
    have Kc362 : ∀ (zs : Int32), ¬ (zs < (0 : Int32)) → GoH p e below s Z own_EL (fun v h L => Q_law Z ia ib ie ig ik z_RUNNING z_ROLLING_BACK z_STUCK z_COMPLETED z_ROLLED_BACK wc cc h0 n0 v h L) room_1.cells room_1.slots s₁ (mkF m 52 #[.val (.int ia), .val (.int ib), .val (.int ie), .val (.int ig), .val (.int ik), .val (.int ((ia &&& (2147483647 : Int32)) % (6 : Int32))), .val (.int zb), .val (.int (ie &&& (2147483647 : Int32))), .unset, .unset, .unset, .unset, .unset] [(.int zs)]) := by
      intro zs hzs
      refine GoH.step (T' := s₁) (f' := (mkF m 54 #[.val (.int ia), .val (.int ib), .val (.int ie), .val (.int ig), .val (.int ik), .val (.int ((ia &&& (2147483647 : Int32)) % (6 : Int32))), .val (.int zb), .val (.int (ie &&& (2147483647 : Int32))), .val (.int zs), .unset, .unset, .unset, .unset] [])) (fun t k => XS.istore X0.here hx rfl (hb hby at_52) rfl (l' := #[.val (.int ia), .val (.int ib), .val (.int ie), .val (.int ig), .val (.int ik), .val (.int ((ia &&& (2147483647 : Int32)) % (6 : Int32))), .val (.int zb), .val (.int (ie &&& (2147483647 : Int32))), .val (.int zs), .unset, .unset, .unset, .unset]) rfl k) ?_
      obtain ⟨zc, h_zc⟩ : ∃ z : Int32, z = ((ia &&& (2147483647 : Int32)) % (6 : Int32)) := ⟨_, rfl⟩
      rw [← h_zc]
      obtain ⟨za, h_za⟩ : ∃ z : Int32, z = (ie &&& (2147483647 : Int32)) := ⟨_, rfl⟩
      rw [← h_za]
      have hA6 : own_six zc := by rw [h_zc]; exact own_m6 ia
      have hza : ¬ (za < (0 : Int32)) := by rw [h_za]; exact own_nonneg ie
      rcases own_split hA6 with hA | hA
      ·
        rcases own_split hzb with hB | hB
        ·
          refine GoH.step (T' := s₁) (f' := (mkF m 56 #[.val (.int ia), .val (.int ib), .val (.int ie), .val (.int ig), .val (.int ik), .val (.int zc), .val (.int zb), .val (.int za), .val (.int zs), .unset, .unset, .unset, .unset] [(.int zc)])) (fun t k => XS.iload X0.here hx rfl (hb hby at_54) rfl k) ?_
          refine GoH.step (T' := s₁) (f' := (mkF m 58 #[.val (.int ia), .val (.int ib), .val (.int ie), .val (.int ig), .val (.int ik), .val (.int zc), .val (.int zb), .val (.int za), .val (.int zs), .unset, .unset, .unset, .unset] [(.int za), (.int zc)])) (fun t k => XS.iload X0.here hx rfl (hb hby at_56) rfl k) ?_
          obtain ⟨_, _, ⟨T364, L364, k364, n364⟩, -, X364, hS364, hg364, ⟨Lc364, hQ364, l364, y364, z364, ch364⟩, st364⟩ := callSS X0 hx (y := (⟨"com/example/unwind/unwind/saga/PositionEqualsPinLaw", "make", "(II)Lcom/example/unwind/unwind/saga/Position;"⟩ : MethodName)) hown (mvT hZ (hw _ (List.mem_of_getElem? (i := 1) rfl))) (mvT hZ (hw _ (List.mem_of_getElem? (i := 2) rfl))) (mvT hZ (hw _ (List.mem_of_getElem? (i := 3) rfl))) (mvT hZ (hw _ (List.mem_of_getElem? (i := 4) rfl))) (by decide) (backOfSH (s := s) (vm0 := s.vm) (W := 0) (rm_makeP l Z a0 hw [] zc za z_RUNNING z_ROLLING_BACK z_STUCK z_COMPLETED z_ROLLED_BACK h0 n0 O0 hEL P0 P1 P2 P3 P4 P5 P6 P7 P8 P9 P10 P11 P12 P13 P14 P15 P16 P17 P18 P19 (hza) (hA)) hZ (hw _ (List.mem_of_getElem? (i := 4) rfl)) (hw _ (List.mem_of_getElem? (i := 3) rfl)) (by decide) (by decide) hEL CR0.1) (g := (mkF m 58 #[.val (.int ia), .val (.int ib), .val (.int ie), .val (.int ig), .val (.int ik), .val (.int zc), .val (.int zb), .val (.int za), .val (.int zs), .unset, .unset, .unset, .unset] [(.int za), (.int zc)])) rfl (by rw [hml]; rfl) (argsL := [(.int zc), (.int za)]) (rest := []) (lenOf pd6 rfl) rfl (by show 2 * 0 + _ ≤ _; exact Nat.le_of_eq rfl) (hb hby at_58) (fun _ _ => ⟨rfl, e0, (by decide : 0 + 3 ≤ _), (by decide : 0 + 27 ≤ _)⟩)
          dsimp only [Pt.U, Pt.locs, Pt.cells, Pt.slots] at X364 l364 y364 z364 st364 hQ364 hS364 hg364 ch364
          subst l364 y364 z364
          obtain ⟨X364, hS364, hZ, hown⟩ := rebS (s := s) (vm0 := s.vm) hS0 (show _ ≤ s₁.heap.size by rw [e0]; exact hk0) X364 hS364 hg364 hZ hown
          obtain ⟨u365, rfl, Nq364, hh364, p366, p367, p368, p369, p370⟩ := hQ364
          have N371 := Fr.app N0 Nq364
          have CR372 := CR0.trans ch364
          have hk373 := Nat.le_refl T364.heap.size
          have O374 := O0.keep hh364 all0
          have K375 := K0.trans hh364 all0
          have g376 : n0 ≤ u365 := Nat.le_trans (own_old_le O0) p366
          have g377 : h0.size ≤ u365 := Nat.le_trans K0.1 p366
          refine GoH.via (T' := T364) (f' := (mkF m 61 #[.val (.int ia), .val (.int ib), .val (.int ie), .val (.int ig), .val (.int ik), .val (.int zc), .val (.int zb), .val (.int za), .val (.int zs), .unset, .unset, .unset, .unset] [(.ref u365)])) st364 ?_
          clear st364 X0 Nq364 CR0 hk0 hS0
          refine GoH.step (T' := T364) (f' := (mkF m 63 #[.val (.int ia), .val (.int ib), .val (.int ie), .val (.int ig), .val (.int ik), .val (.int zc), .val (.int zb), .val (.int za), .val (.int zs), .val (.ref u365), .unset, .unset, .unset] [])) (fun t k => XS.astore X364.here hx rfl (hb hby at_61) rfl rfl (l' := #[.val (.int ia), .val (.int ib), .val (.int ie), .val (.int ig), .val (.int ik), .val (.int zc), .val (.int zb), .val (.int za), .val (.int zs), .val (.ref u365), .unset, .unset, .unset]) rfl k) ?_
          refine GoH.step (T' := T364) (f' := (mkF m 65 #[.val (.int ia), .val (.int ib), .val (.int ie), .val (.int ig), .val (.int ik), .val (.int zc), .val (.int zb), .val (.int za), .val (.int zs), .val (.ref u365), .unset, .unset, .unset] [(.int zb)])) (fun t k => XS.iload X364.here hx rfl (hb hby at_63) rfl k) ?_
          refine GoH.step (T' := T364) (f' := (mkF m 67 #[.val (.int ia), .val (.int ib), .val (.int ie), .val (.int ig), .val (.int ik), .val (.int zc), .val (.int zb), .val (.int za), .val (.int zs), .val (.ref u365), .unset, .unset, .unset] [(.int zs), (.int zb)])) (fun t k => XS.iload X364.here hx rfl (hb hby at_65) rfl k) ?_
          obtain ⟨_, _, ⟨T378, L378, k378, n378⟩, -, X378, hS378, hg378, ⟨Lc378, hQ378, l378, y378, z378, ch378⟩, st378⟩ := callSS X364 hx (y := (⟨"com/example/unwind/unwind/saga/PositionEqualsPinLaw", "make", "(II)Lcom/example/unwind/unwind/saga/Position;"⟩ : MethodName)) hown (mvT hZ (hw _ (List.mem_of_getElem? (i := 1) rfl))) (mvT hZ (hw _ (List.mem_of_getElem? (i := 2) rfl))) (mvT hZ (hw _ (List.mem_of_getElem? (i := 3) rfl))) (mvT hZ (hw _ (List.mem_of_getElem? (i := 4) rfl))) (by decide) (backOfSH (s := s) (vm0 := T364.vm) (W := 0) (rm_makeP l Z a0 hw [] zb zs z_RUNNING z_ROLLING_BACK z_STUCK z_COMPLETED z_ROLLED_BACK T364.heap n0 O374 hEL P0 P1 P2 P3 P4 P5 P6 P7 P8 P9 P10 P11 P12 P13 P14 P15 P16 P17 P18 P19 (hzs) (hB)) hZ (hw _ (List.mem_of_getElem? (i := 4) rfl)) (hw _ (List.mem_of_getElem? (i := 3) rfl)) (by decide) (by decide) hEL CR372.1) (g := (mkF m 67 #[.val (.int ia), .val (.int ib), .val (.int ie), .val (.int ig), .val (.int ik), .val (.int zc), .val (.int zb), .val (.int za), .val (.int zs), .val (.ref u365), .unset, .unset, .unset] [(.int zs), (.int zb)])) rfl (by rw [hml]; rfl) (argsL := [(.int zb), (.int zs)]) (rest := []) (lenOf pd6 rfl) rfl (by show 2 * 0 + _ ≤ _; exact Nat.le_of_eq rfl) (hb hby at_67) (fun _ _ => ⟨rfl, rfl, (by decide : 3 + 3 ≤ _), (by decide : 27 + 27 ≤ _)⟩)
          dsimp only [Pt.U, Pt.locs, Pt.cells, Pt.slots] at X378 l378 y378 z378 st378 hQ378 hS378 hg378 ch378
          subst l378 y378 z378
          obtain ⟨X378, hS378, hZ, hown⟩ := rebS (s := s) (vm0 := T364.vm) hS364 (show _ ≤ T364.heap.size by exact hk373) X378 hS378 hg378 hZ hown
          obtain ⟨u379, rfl, Nq378, hh378, p380, p381, p382, p383, p384⟩ := hQ378
          have N385 := Fr.app N371 Nq378
          have CR386 := CR372.trans ch378
          have hk387 := Nat.le_refl T378.heap.size
          have f388 := p367.keep hh378
          have f389 := p368.keep hh378 nin0
          have f390 := p369.keep hh378 nin0
          have f391 := p370.keep hh378 nin0
          have O392 := O374.keep hh378 all0
          have K393 := K375.trans hh378 all0
          have g394 : n0 ≤ u379 := Nat.le_trans (own_old_le O374) p380
          have g395 : h0.size ≤ u379 := Nat.le_trans K375.1 p380
          have ne396 : u365 ≠ u379 := Nat.ne_of_lt (Nat.lt_of_lt_of_le p367.lt p380)
          refine GoH.via (T' := T378) (f' := (mkF m 70 #[.val (.int ia), .val (.int ib), .val (.int ie), .val (.int ig), .val (.int ik), .val (.int zc), .val (.int zb), .val (.int za), .val (.int zs), .val (.ref u365), .unset, .unset, .unset] [(.ref u379)])) st378 ?_
          clear st378 X364 N371 Nq378 CR372 hk373 hS364 p368 p369 p370
          refine GoH.step (T' := T378) (f' := (mkF m 72 #[.val (.int ia), .val (.int ib), .val (.int ie), .val (.int ig), .val (.int ik), .val (.int zc), .val (.int zb), .val (.int za), .val (.int zs), .val (.ref u365), .val (.ref u379), .unset, .unset] [])) (fun t k => XS.astore X378.here hx rfl (hb hby at_70) rfl rfl (l' := #[.val (.int ia), .val (.int ib), .val (.int ie), .val (.int ig), .val (.int ik), .val (.int zc), .val (.int zb), .val (.int za), .val (.int zs), .val (.ref u365), .val (.ref u379), .unset, .unset]) rfl k) ?_
          refine GoH.step (T' := T378) (f' := (mkF m 74 #[.val (.int ia), .val (.int ib), .val (.int ie), .val (.int ig), .val (.int ik), .val (.int zc), .val (.int zb), .val (.int za), .val (.int zs), .val (.ref u365), .val (.ref u379), .unset, .unset] [(.int zc)])) (fun t k => XS.iload X378.here hx rfl (hb hby at_72) rfl k) ?_
          refine GoH.step (T' := T378) (f' := (mkF m 76 #[.val (.int ia), .val (.int ib), .val (.int ie), .val (.int ig), .val (.int ik), .val (.int zc), .val (.int zb), .val (.int za), .val (.int zs), .val (.ref u365), .val (.ref u379), .unset, .unset] [(.int zb), (.int zc)])) (fun t k => XS.iload X378.here hx rfl (hb hby at_74) rfl k) ?_
          by_cases hc397 : zc = zb
          ·
            refine GoH.step (T' := T378) (f' := (mkF m 79 #[.val (.int ia), .val (.int ib), .val (.int ie), .val (.int ig), .val (.int ik), .val (.int zc), .val (.int zb), .val (.int za), .val (.int zs), .val (.ref u365), .val (.ref u379), .unset, .unset] [])) (fun t k => XS.icmpNo X378.here hx rfl (hb hby at_76) rfl (teq hc397).2 k) ?_
            refine GoH.step (T' := T378) (f' := (mkF m 81 #[.val (.int ia), .val (.int ib), .val (.int ie), .val (.int ig), .val (.int ik), .val (.int zc), .val (.int zb), .val (.int za), .val (.int zs), .val (.ref u365), .val (.ref u379), .unset, .unset] [(.int za)])) (fun t k => XS.iload X378.here hx rfl (hb hby at_79) rfl k) ?_
            refine GoH.step (T' := T378) (f' := (mkF m 83 #[.val (.int ia), .val (.int ib), .val (.int ie), .val (.int ig), .val (.int ik), .val (.int zc), .val (.int zb), .val (.int za), .val (.int zs), .val (.ref u365), .val (.ref u379), .unset, .unset] [(.int zs), (.int za)])) (fun t k => XS.iload X378.here hx rfl (hb hby at_81) rfl k) ?_
            by_cases hc398 : za = zs
            ·
              refine GoH.step (T' := T378) (f' := (mkF m 86 #[.val (.int ia), .val (.int ib), .val (.int ie), .val (.int ig), .val (.int ik), .val (.int zc), .val (.int zb), .val (.int za), .val (.int zs), .val (.ref u365), .val (.ref u379), .unset, .unset] [])) (fun t k => XS.icmpNo X378.here hx rfl (hb hby at_83) rfl (teq hc398).2 k) ?_
              refine GoH.step (T' := T378) (f' := (mkF m 87 #[.val (.int ia), .val (.int ib), .val (.int ie), .val (.int ig), .val (.int ik), .val (.int zc), .val (.int zb), .val (.int za), .val (.int zs), .val (.ref u365), .val (.ref u379), .unset, .unset] [(.int (1 : Int32))])) (fun t k => XS.iconst X378.here hx rfl (hb hby at_86) k) ?_
              refine GoH.step (T' := T378) (f' := (mkF m 91 #[.val (.int ia), .val (.int ib), .val (.int ie), .val (.int ig), .val (.int ik), .val (.int zc), .val (.int zb), .val (.int za), .val (.int zs), .val (.ref u365), .val (.ref u379), .unset, .unset] [(.int (1 : Int32))])) (fun t k => XS.goto X378.here hx rfl (pc0 := 87) (pc' := 91) rfl (hb hby at_87) (by decide) (by decide) k) ?_
              refine GoH.step (T' := T378) (f' := (mkF m 93 #[.val (.int ia), .val (.int ib), .val (.int ie), .val (.int ig), .val (.int ik), .val (.int zc), .val (.int zb), .val (.int za), .val (.int zs), .val (.ref u365), .val (.ref u379), .val (.int (1 : Int32)), .unset] [])) (fun t k => XS.istore X378.here hx rfl (hb hby at_91) rfl (l' := #[.val (.int ia), .val (.int ib), .val (.int ie), .val (.int ig), .val (.int ik), .val (.int zc), .val (.int zb), .val (.int za), .val (.int zs), .val (.ref u365), .val (.ref u379), .val (.int (1 : Int32)), .unset]) rfl k) ?_
              refine GoH.step (T' := T378) (f' := (mkF m 95 #[.val (.int ia), .val (.int ib), .val (.int ie), .val (.int ig), .val (.int ik), .val (.int zc), .val (.int zb), .val (.int za), .val (.int zs), .val (.ref u365), .val (.ref u379), .val (.int (1 : Int32)), .unset] [(.ref u365)])) (fun t k => XS.aload X378.here hx rfl (hb hby at_93) rfl rfl k) ?_
              refine GoH.step (T' := T378) (f' := (mkF m 97 #[.val (.int ia), .val (.int ib), .val (.int ie), .val (.int ig), .val (.int ik), .val (.int zc), .val (.int zb), .val (.int za), .val (.int zs), .val (.ref u365), .val (.ref u379), .val (.int (1 : Int32)), .unset] [(.ref u379), (.ref u365)])) (fun t k => XS.aload X378.here hx rfl (hb hby at_95) rfl rfl k) ?_
              obtain ⟨cq399, kq399, q399a, q399b, q399c⟩ := isOf hZ rfl f388
              obtain ⟨_, _, ⟨T399, L399, k399, n399⟩, -, X399, ⟨Lc399, hQ399, l399, y399, z399⟩, st399⟩ := X378.virtualBack hx (y := (⟨"com/example/unwind/unwind/saga/Position", "equals", "(Ljava/lang/Object;)Z"⟩ : MethodName)) (z := (⟨"com/example/unwind/unwind/saga/Position", "equals", "(Ljava/lang/Object;)Z"⟩ : MethodName)) hown (mvT hZ (hw _ (List.mem_of_getElem? (i := 44) rfl))) (mvT hZ (hw _ (List.mem_of_getElem? (i := 45) rfl))) (notFace_of_selects (args := #[]) (mvT hZ (hw _ (List.mem_of_getElem? (i := 47) rfl)))) (mvT hZ (hw _ (List.mem_of_getElem? (i := 47) rfl))) (mvT hZ (hw _ (List.mem_of_getElem? (i := 46) rfl))) (by decide) (backOf (W := 0) (rm_eqPP l Z a0 hw [] u365 u379 (own_sa zc z_RUNNING z_ROLLING_BACK z_COMPLETED z_ROLLED_BACK) za (own_sa zb z_RUNNING z_ROLLING_BACK z_COMPLETED z_ROLLED_BACK) zs T378.heap n0 O392 p381 f389 f390 f391 p382 p383 p384) hZ (hw _ (List.mem_of_getElem? (i := 48) rfl)) (hw _ (List.mem_of_getElem? (i := 7) rfl)) (by decide) (by decide)) q399a q399c (g := (mkF m 97 #[.val (.int ia), .val (.int ib), .val (.int ie), .val (.int ig), .val (.int ik), .val (.int zc), .val (.int zb), .val (.int za), .val (.int zs), .val (.ref u365), .val (.ref u379), .val (.int (1 : Int32)), .unset] [(.ref u379), (.ref u365)])) rfl (by rw [hml]; rfl) (Steps.refl _) (argsL := [(.ref u379)]) (rest := []) (lenOf pd7 rfl) rfl (by show 2 * 0 + _ ≤ _; exact Nat.le_of_eq rfl) (hb hby at_97) (fun _ _ => ⟨rfl, rfl, (by decide : 6 + 0 ≤ _), (by decide : 54 + 0 ≤ _)⟩)
              dsimp only [Pt.U, Pt.locs, Pt.cells, Pt.slots] at X399 l399 y399 z399 st399 hQ399
              subst l399 y399 z399
              obtain ⟨rfl, Nq399, hh399⟩ := hQ399
              have N400 := Fr.app N385 Nq399
              refine GoH.via (T' := T399) (f' := (mkF m 100 #[.val (.int ia), .val (.int ib), .val (.int ie), .val (.int ig), .val (.int ik), .val (.int zc), .val (.int zb), .val (.int za), .val (.int zs), .val (.ref u365), .val (.ref u379), .val (.int (1 : Int32)), .unset] [(.int (if (own_sa zc z_RUNNING z_ROLLING_BACK z_COMPLETED z_ROLLED_BACK) = (own_sa zb z_RUNNING z_ROLLING_BACK z_COMPLETED z_ROLLED_BACK) ∧ za = zs then (1 : Int32) else 0))])) st399 ?_
              clear st399 X378 N385 Nq399
              refine GoH.step (T' := T399) (f' := (mkF m 102 #[.val (.int ia), .val (.int ib), .val (.int ie), .val (.int ig), .val (.int ik), .val (.int zc), .val (.int zb), .val (.int za), .val (.int zs), .val (.ref u365), .val (.ref u379), .val (.int (1 : Int32)), .unset] [(.int (1 : Int32)), (.int (if (own_sa zc z_RUNNING z_ROLLING_BACK z_COMPLETED z_ROLLED_BACK) = (own_sa zb z_RUNNING z_ROLLING_BACK z_COMPLETED z_ROLLED_BACK) ∧ za = zs then (1 : Int32) else 0))])) (fun t k => XS.iload X399.here hx rfl (hb hby at_100) rfl k) ?_
              have hc401 : (if (own_sa zc z_RUNNING z_ROLLING_BACK z_COMPLETED z_ROLLED_BACK) = (own_sa zb z_RUNNING z_ROLLING_BACK z_COMPLETED z_ROLLED_BACK) ∧ za = zs then (1 : Int32) else 0) = (1 : Int32) := by
                simp [own_saI hA hB P10 P12 P13 P15 P16 P19, hc397, hc398]
              refine GoH.step (T' := T399) (f' := (mkF m 105 #[.val (.int ia), .val (.int ib), .val (.int ie), .val (.int ig), .val (.int ik), .val (.int zc), .val (.int zb), .val (.int za), .val (.int zs), .val (.ref u365), .val (.ref u379), .val (.int (1 : Int32)), .unset] [])) (fun t k => XS.icmpNo X399.here hx rfl (hb hby at_102) rfl (teq hc401).2 k) ?_
              refine GoH.step (T' := T399) (f' := (mkF m 107 #[.val (.int ia), .val (.int ib), .val (.int ie), .val (.int ig), .val (.int ik), .val (.int zc), .val (.int zb), .val (.int za), .val (.int zs), .val (.ref u365), .val (.ref u379), .val (.int (1 : Int32)), .unset] [(.ref u379)])) (fun t k => XS.aload X399.here hx rfl (hb hby at_105) rfl rfl k) ?_
              refine GoH.step (T' := T399) (f' := (mkF m 109 #[.val (.int ia), .val (.int ib), .val (.int ie), .val (.int ig), .val (.int ik), .val (.int zc), .val (.int zb), .val (.int za), .val (.int zs), .val (.ref u365), .val (.ref u379), .val (.int (1 : Int32)), .unset] [(.ref u365), (.ref u379)])) (fun t k => XS.aload X399.here hx rfl (hb hby at_107) rfl rfl k) ?_
              obtain ⟨cq402, kq402, q402a, q402b, q402c⟩ := isOf hZ hh399 p381
              obtain ⟨_, _, ⟨T402, L402, k402, n402⟩, -, X402, ⟨Lc402, hQ402, l402, y402, z402⟩, st402⟩ := X399.virtualBack hx (y := (⟨"com/example/unwind/unwind/saga/Position", "equals", "(Ljava/lang/Object;)Z"⟩ : MethodName)) (z := (⟨"com/example/unwind/unwind/saga/Position", "equals", "(Ljava/lang/Object;)Z"⟩ : MethodName)) hown (mvT hZ (hw _ (List.mem_of_getElem? (i := 44) rfl))) (mvT hZ (hw _ (List.mem_of_getElem? (i := 45) rfl))) (notFace_of_selects (args := #[]) (mvT hZ (hw _ (List.mem_of_getElem? (i := 47) rfl)))) (mvT hZ (hw _ (List.mem_of_getElem? (i := 47) rfl))) (mvT hZ (hw _ (List.mem_of_getElem? (i := 46) rfl))) (by decide) (backOf (W := 0) (rm_eqPP l Z a0 hw [] u379 u365 (own_sa zb z_RUNNING z_ROLLING_BACK z_COMPLETED z_ROLLED_BACK) zs (own_sa zc z_RUNNING z_ROLLING_BACK z_COMPLETED z_ROLLED_BACK) za T378.heap n0 O392 f388 p382 p383 p384 f389 f390 f391) hZ (hw _ (List.mem_of_getElem? (i := 48) rfl)) (hw _ (List.mem_of_getElem? (i := 7) rfl)) (by decide) (by decide)) q402a q402c (g := (mkF m 109 #[.val (.int ia), .val (.int ib), .val (.int ie), .val (.int ig), .val (.int ik), .val (.int zc), .val (.int zb), .val (.int za), .val (.int zs), .val (.ref u365), .val (.ref u379), .val (.int (1 : Int32)), .unset] [(.ref u365), (.ref u379)])) rfl (by rw [hml]; rfl) (Steps.refl _) (argsL := [(.ref u365)]) (rest := []) (lenOf pd7 rfl) rfl (by show 2 * 0 + _ ≤ _; exact Nat.le_of_eq rfl) (hb hby at_109) (fun _ _ => ⟨rfl, hh399, (by decide : 6 + 0 ≤ _), (by decide : 54 + 0 ≤ _)⟩)
              dsimp only [Pt.U, Pt.locs, Pt.cells, Pt.slots] at X402 l402 y402 z402 st402 hQ402
              subst l402 y402 z402
              obtain ⟨rfl, Nq402, hh402⟩ := hQ402
              have N403 := Fr.app N400 Nq402
              refine GoH.via (T' := T402) (f' := (mkF m 112 #[.val (.int ia), .val (.int ib), .val (.int ie), .val (.int ig), .val (.int ik), .val (.int zc), .val (.int zb), .val (.int za), .val (.int zs), .val (.ref u365), .val (.ref u379), .val (.int (1 : Int32)), .unset] [(.int (if (own_sa zb z_RUNNING z_ROLLING_BACK z_COMPLETED z_ROLLED_BACK) = (own_sa zc z_RUNNING z_ROLLING_BACK z_COMPLETED z_ROLLED_BACK) ∧ zs = za then (1 : Int32) else 0))])) st402 ?_
              clear st402 X399 N400 Nq402
              refine GoH.step (T' := T402) (f' := (mkF m 114 #[.val (.int ia), .val (.int ib), .val (.int ie), .val (.int ig), .val (.int ik), .val (.int zc), .val (.int zb), .val (.int za), .val (.int zs), .val (.ref u365), .val (.ref u379), .val (.int (1 : Int32)), .unset] [(.int (1 : Int32)), (.int (if (own_sa zb z_RUNNING z_ROLLING_BACK z_COMPLETED z_ROLLED_BACK) = (own_sa zc z_RUNNING z_ROLLING_BACK z_COMPLETED z_ROLLED_BACK) ∧ zs = za then (1 : Int32) else 0))])) (fun t k => XS.iload X402.here hx rfl (hb hby at_112) rfl k) ?_
              have hc404 : (if (own_sa zb z_RUNNING z_ROLLING_BACK z_COMPLETED z_ROLLED_BACK) = (own_sa zc z_RUNNING z_ROLLING_BACK z_COMPLETED z_ROLLED_BACK) ∧ zs = za then (1 : Int32) else 0) = (1 : Int32) := by
                simp [own_saI hB hA P10 P12 P13 P15 P16 P19, hc397, hc398]
              refine GoH.step (T' := T402) (f' := (mkF m 117 #[.val (.int ia), .val (.int ib), .val (.int ie), .val (.int ig), .val (.int ik), .val (.int zc), .val (.int zb), .val (.int za), .val (.int zs), .val (.ref u365), .val (.ref u379), .val (.int (1 : Int32)), .unset] [])) (fun t k => XS.icmpNo X402.here hx rfl (hb hby at_114) rfl (teq hc404).2 k) ?_
              refine GoH.step (T' := T402) (f' := (mkF m 118 #[.val (.int ia), .val (.int ib), .val (.int ie), .val (.int ig), .val (.int ik), .val (.int zc), .val (.int zb), .val (.int za), .val (.int zs), .val (.ref u365), .val (.ref u379), .val (.int (1 : Int32)), .unset] [(.int (1 : Int32))])) (fun t k => XS.iconst X402.here hx rfl (hb hby at_117) k) ?_
              refine GoH.step (T' := T402) (f' := (mkF m 122 #[.val (.int ia), .val (.int ib), .val (.int ie), .val (.int ig), .val (.int ik), .val (.int zc), .val (.int zb), .val (.int za), .val (.int zs), .val (.ref u365), .val (.ref u379), .val (.int (1 : Int32)), .unset] [(.int (1 : Int32))])) (fun t k => XS.goto X402.here hx rfl (pc0 := 118) (pc' := 122) rfl (hb hby at_118) (by decide) (by decide) k) ?_
              refine GoH.step (T' := T402) (f' := (mkF m 124 #[.val (.int ia), .val (.int ib), .val (.int ie), .val (.int ig), .val (.int ik), .val (.int zc), .val (.int zb), .val (.int za), .val (.int zs), .val (.ref u365), .val (.ref u379), .val (.int (1 : Int32)), .val (.int (1 : Int32))] [])) (fun t k => XS.istore X402.here hx rfl (hb hby at_122) rfl (l' := #[.val (.int ia), .val (.int ib), .val (.int ie), .val (.int ig), .val (.int ik), .val (.int zc), .val (.int zb), .val (.int za), .val (.int zs), .val (.ref u365), .val (.ref u379), .val (.int (1 : Int32)), .val (.int (1 : Int32))]) rfl k) ?_
              refine GoH.step (T' := T402) (f' := (mkF m 126 #[.val (.int ia), .val (.int ib), .val (.int ie), .val (.int ig), .val (.int ik), .val (.int zc), .val (.int zb), .val (.int za), .val (.int zs), .val (.ref u365), .val (.ref u379), .val (.int (1 : Int32)), .val (.int (1 : Int32))] [(.int (1 : Int32))])) (fun t k => XS.iload X402.here hx rfl (hb hby at_124) rfl k) ?_
              refine GoH.step (T' := T402) (f' := (mkF m 129 #[.val (.int ia), .val (.int ib), .val (.int ie), .val (.int ig), .val (.int ik), .val (.int zc), .val (.int zb), .val (.int za), .val (.int zs), .val (.ref u365), .val (.ref u379), .val (.int (1 : Int32)), .val (.int (1 : Int32))] [])) (fun t k => XS.ifNo X402.here hx rfl (hb hby at_126) rfl ((if0 _ _).trans (feq (by decide : ¬ ((1 : Int32) = (0 : Int32)))).1) k) ?_
              refine GoH.step (T' := T402) (f' := (mkF m 131 #[.val (.int ia), .val (.int ib), .val (.int ie), .val (.int ig), .val (.int ik), .val (.int zc), .val (.int zb), .val (.int za), .val (.int zs), .val (.ref u365), .val (.ref u379), .val (.int (1 : Int32)), .val (.int (1 : Int32))] [(.ref u365)])) (fun t k => XS.aload X402.here hx rfl (hb hby at_129) rfl rfl k) ?_
              refine GoH.step (T' := T402) (f' := (mkF m 133 #[.val (.int ia), .val (.int ib), .val (.int ie), .val (.int ig), .val (.int ik), .val (.int zc), .val (.int zb), .val (.int za), .val (.int zs), .val (.ref u365), .val (.ref u379), .val (.int (1 : Int32)), .val (.int (1 : Int32))] [(.ref u365), (.ref u365)])) (fun t k => XS.aload X402.here hx rfl (hb hby at_131) rfl rfl k) ?_
              obtain ⟨cq405, kq405, q405a, q405b, q405c⟩ := isOf hZ hh402 f388
              obtain ⟨_, _, ⟨T405, L405, k405, n405⟩, -, X405, ⟨Lc405, hQ405, l405, y405, z405⟩, st405⟩ := X402.virtualBack hx (y := (⟨"com/example/unwind/unwind/saga/Position", "equals", "(Ljava/lang/Object;)Z"⟩ : MethodName)) (z := (⟨"com/example/unwind/unwind/saga/Position", "equals", "(Ljava/lang/Object;)Z"⟩ : MethodName)) hown (mvT hZ (hw _ (List.mem_of_getElem? (i := 44) rfl))) (mvT hZ (hw _ (List.mem_of_getElem? (i := 45) rfl))) (notFace_of_selects (args := #[]) (mvT hZ (hw _ (List.mem_of_getElem? (i := 47) rfl)))) (mvT hZ (hw _ (List.mem_of_getElem? (i := 47) rfl))) (mvT hZ (hw _ (List.mem_of_getElem? (i := 46) rfl))) (by decide) (backOf (W := 0) (rm_eq1P l Z a0 hw [] u365 (own_sa zc z_RUNNING z_ROLLING_BACK z_COMPLETED z_ROLLED_BACK) za T378.heap n0 O392 f388 f389 f390 f391) hZ (hw _ (List.mem_of_getElem? (i := 48) rfl)) (hw _ (List.mem_of_getElem? (i := 7) rfl)) (by decide) (by decide)) q405a q405c (g := (mkF m 133 #[.val (.int ia), .val (.int ib), .val (.int ie), .val (.int ig), .val (.int ik), .val (.int zc), .val (.int zb), .val (.int za), .val (.int zs), .val (.ref u365), .val (.ref u379), .val (.int (1 : Int32)), .val (.int (1 : Int32))] [(.ref u365), (.ref u365)])) rfl (by rw [hml]; rfl) (Steps.refl _) (argsL := [(.ref u365)]) (rest := []) (lenOf pd7 rfl) rfl (by show 2 * 0 + _ ≤ _; exact Nat.le_of_eq rfl) (hb hby at_133) (fun _ _ => ⟨rfl, hh402, (by decide : 6 + 0 ≤ _), (by decide : 54 + 0 ≤ _)⟩)
              dsimp only [Pt.U, Pt.locs, Pt.cells, Pt.slots] at X405 l405 y405 z405 st405 hQ405
              subst l405 y405 z405
              obtain ⟨rfl, Nq405, hh405⟩ := hQ405
              have N406 := Fr.app N403 Nq405
              refine GoH.via (T' := T405) (f' := (mkF m 136 #[.val (.int ia), .val (.int ib), .val (.int ie), .val (.int ig), .val (.int ik), .val (.int zc), .val (.int zb), .val (.int za), .val (.int zs), .val (.ref u365), .val (.ref u379), .val (.int (1 : Int32)), .val (.int (1 : Int32))] [(.int (1 : Int32))])) st405 ?_
              clear st405 X402 N403 Nq405
              refine GoH.step (T' := T405) (f' := (mkF m 139 #[.val (.int ia), .val (.int ib), .val (.int ie), .val (.int ig), .val (.int ik), .val (.int zc), .val (.int zb), .val (.int za), .val (.int zs), .val (.ref u365), .val (.ref u379), .val (.int (1 : Int32)), .val (.int (1 : Int32))] [])) (fun t k => XS.ifNo X405.here hx rfl (hb hby at_136) rfl ((if0 _ _).trans (feq (by decide : ¬ ((1 : Int32) = (0 : Int32)))).1) k) ?_
              refine GoH.step (T' := T405) (f' := (mkF m 140 #[.val (.int ia), .val (.int ib), .val (.int ie), .val (.int ig), .val (.int ik), .val (.int zc), .val (.int zb), .val (.int za), .val (.int zs), .val (.ref u365), .val (.ref u379), .val (.int (1 : Int32)), .val (.int (1 : Int32))] [(.int (1 : Int32))])) (fun t k => XS.iconst X405.here hx rfl (hb hby at_139) k) ?_
              refine GoH.step (T' := T405) (f' := (mkF m 144 #[.val (.int ia), .val (.int ib), .val (.int ie), .val (.int ig), .val (.int ik), .val (.int zc), .val (.int zb), .val (.int za), .val (.int zs), .val (.ref u365), .val (.ref u379), .val (.int (1 : Int32)), .val (.int (1 : Int32))] [(.int (1 : Int32))])) (fun t k => XS.goto X405.here hx rfl (pc0 := 140) (pc' := 144) rfl (hb hby at_140) (by decide) (by decide) k) ?_
              refine GoH.step (T' := T405) (f' := (mkF m 146 #[.val (.int ia), .val (.int ib), .val (.int ie), .val (.int ig), .val (.int ik), .val (.int zc), .val (.int zb), .val (.int za), .val (.int zs), .val (.ref u365), .val (.ref u379), .val (.int (1 : Int32)), .val (.int (1 : Int32))] [])) (fun t k => XS.istore X405.here hx rfl (hb hby at_144) rfl (l' := #[.val (.int ia), .val (.int ib), .val (.int ie), .val (.int ig), .val (.int ik), .val (.int zc), .val (.int zb), .val (.int za), .val (.int zs), .val (.ref u365), .val (.ref u379), .val (.int (1 : Int32)), .val (.int (1 : Int32))]) rfl k) ?_
              refine GoH.step (T' := T405) (f' := (mkF m 148 #[.val (.int ia), .val (.int ib), .val (.int ie), .val (.int ig), .val (.int ik), .val (.int zc), .val (.int zb), .val (.int za), .val (.int zs), .val (.ref u365), .val (.ref u379), .val (.int (1 : Int32)), .val (.int (1 : Int32))] [(.int (1 : Int32))])) (fun t k => XS.iload X405.here hx rfl (hb hby at_146) rfl k) ?_
              refine GoH.step (T' := T405) (f' := (mkF m 151 #[.val (.int ia), .val (.int ib), .val (.int ie), .val (.int ig), .val (.int ik), .val (.int zc), .val (.int zb), .val (.int za), .val (.int zs), .val (.ref u365), .val (.ref u379), .val (.int (1 : Int32)), .val (.int (1 : Int32))] [])) (fun t k => XS.ifNo X405.here hx rfl (hb hby at_148) rfl ((if0 _ _).trans (feq (by decide : ¬ ((1 : Int32) = (0 : Int32)))).1) k) ?_
              refine GoH.step (T' := T405) (f' := (mkF m 153 #[.val (.int ia), .val (.int ib), .val (.int ie), .val (.int ig), .val (.int ik), .val (.int zc), .val (.int zb), .val (.int za), .val (.int zs), .val (.ref u365), .val (.ref u379), .val (.int (1 : Int32)), .val (.int (1 : Int32))] [(.ref u365)])) (fun t k => XS.aload X405.here hx rfl (hb hby at_151) rfl rfl k) ?_
              refine GoH.step (T' := T405) (f' := (mkF m 154 #[.val (.int ia), .val (.int ib), .val (.int ie), .val (.int ig), .val (.int ik), .val (.int zc), .val (.int zb), .val (.int za), .val (.int zs), .val (.ref u365), .val (.ref u379), .val (.int (1 : Int32)), .val (.int (1 : Int32))] [.null, (.ref u365)])) (fun t k => XS.aconstNull X405.here hx rfl (hb hby at_153) k) ?_
              obtain ⟨cq407, kq407, q407a, q407b, q407c⟩ := isOf hZ hh405 f388
              obtain ⟨_, _, ⟨T407, L407, k407, n407⟩, -, X407, ⟨Lc407, hQ407, l407, y407, z407⟩, st407⟩ := X405.virtualBack hx (y := (⟨"com/example/unwind/unwind/saga/Position", "equals", "(Ljava/lang/Object;)Z"⟩ : MethodName)) (z := (⟨"com/example/unwind/unwind/saga/Position", "equals", "(Ljava/lang/Object;)Z"⟩ : MethodName)) hown (mvT hZ (hw _ (List.mem_of_getElem? (i := 44) rfl))) (mvT hZ (hw _ (List.mem_of_getElem? (i := 45) rfl))) (notFace_of_selects (args := #[]) (mvT hZ (hw _ (List.mem_of_getElem? (i := 47) rfl)))) (mvT hZ (hw _ (List.mem_of_getElem? (i := 47) rfl))) (mvT hZ (hw _ (List.mem_of_getElem? (i := 46) rfl))) (by decide) (backOf (W := 0) (rm_eqN l Z a0 hw [] u365 T378.heap n0 O392 ) hZ (hw _ (List.mem_of_getElem? (i := 48) rfl)) (hw _ (List.mem_of_getElem? (i := 7) rfl)) (by decide) (by decide)) q407a q407c (g := (mkF m 154 #[.val (.int ia), .val (.int ib), .val (.int ie), .val (.int ig), .val (.int ik), .val (.int zc), .val (.int zb), .val (.int za), .val (.int zs), .val (.ref u365), .val (.ref u379), .val (.int (1 : Int32)), .val (.int (1 : Int32))] [.null, (.ref u365)])) rfl (by rw [hml]; rfl) (Steps.refl _) (argsL := [.null]) (rest := []) (lenOf pd7 rfl) rfl (by show 2 * 0 + _ ≤ _; exact Nat.le_of_eq rfl) (hb hby at_154) (fun _ _ => ⟨rfl, hh405, (by decide : 6 + 0 ≤ _), (by decide : 54 + 0 ≤ _)⟩)
              dsimp only [Pt.U, Pt.locs, Pt.cells, Pt.slots] at X407 l407 y407 z407 st407 hQ407
              subst l407 y407 z407
              obtain ⟨rfl, Nq407, hh407⟩ := hQ407
              have N408 := Fr.app N406 Nq407
              refine GoH.via (T' := T407) (f' := (mkF m 157 #[.val (.int ia), .val (.int ib), .val (.int ie), .val (.int ig), .val (.int ik), .val (.int zc), .val (.int zb), .val (.int za), .val (.int zs), .val (.ref u365), .val (.ref u379), .val (.int (1 : Int32)), .val (.int (1 : Int32))] [(.int (0 : Int32))])) st407 ?_
              clear st407 X405 N406 Nq407
              refine GoH.step (T' := T407) (f' := (mkF m 160 #[.val (.int ia), .val (.int ib), .val (.int ie), .val (.int ig), .val (.int ik), .val (.int zc), .val (.int zb), .val (.int za), .val (.int zs), .val (.ref u365), .val (.ref u379), .val (.int (1 : Int32)), .val (.int (1 : Int32))] [])) (fun t k => XS.ifNo X407.here hx rfl (hb hby at_157) rfl ((if0 _ _).trans (teq (by decide : (0 : Int32) = (0 : Int32))).2) k) ?_
              refine GoH.step (T' := T407) (f' := (mkF m 161 #[.val (.int ia), .val (.int ib), .val (.int ie), .val (.int ig), .val (.int ik), .val (.int zc), .val (.int zb), .val (.int za), .val (.int zs), .val (.ref u365), .val (.ref u379), .val (.int (1 : Int32)), .val (.int (1 : Int32))] [(.int (1 : Int32))])) (fun t k => XS.iconst X407.here hx rfl (hb hby at_160) k) ?_
              refine GoH.step (T' := T407) (f' := (mkF m 165 #[.val (.int ia), .val (.int ib), .val (.int ie), .val (.int ig), .val (.int ik), .val (.int zc), .val (.int zb), .val (.int za), .val (.int zs), .val (.ref u365), .val (.ref u379), .val (.int (1 : Int32)), .val (.int (1 : Int32))] [(.int (1 : Int32))])) (fun t k => XS.goto X407.here hx rfl (pc0 := 161) (pc' := 165) rfl (hb hby at_161) (by decide) (by decide) k) ?_
              refine GoH.step (T' := T407) (f' := (mkF m 167 #[.val (.int ia), .val (.int ib), .val (.int ie), .val (.int ig), .val (.int ik), .val (.int zc), .val (.int zb), .val (.int za), .val (.int zs), .val (.ref u365), .val (.ref u379), .val (.int (1 : Int32)), .val (.int (1 : Int32))] [])) (fun t k => XS.istore X407.here hx rfl (hb hby at_165) rfl (l' := #[.val (.int ia), .val (.int ib), .val (.int ie), .val (.int ig), .val (.int ik), .val (.int zc), .val (.int zb), .val (.int za), .val (.int zs), .val (.ref u365), .val (.ref u379), .val (.int (1 : Int32)), .val (.int (1 : Int32))]) rfl k) ?_
              refine GoH.step (T' := T407) (f' := (mkF m 169 #[.val (.int ia), .val (.int ib), .val (.int ie), .val (.int ig), .val (.int ik), .val (.int zc), .val (.int zb), .val (.int za), .val (.int zs), .val (.ref u365), .val (.ref u379), .val (.int (1 : Int32)), .val (.int (1 : Int32))] [(.int (1 : Int32))])) (fun t k => XS.iload X407.here hx rfl (hb hby at_167) rfl k) ?_
              refine GoH.step (T' := T407) (f' := (mkF m 172 #[.val (.int ia), .val (.int ib), .val (.int ie), .val (.int ig), .val (.int ik), .val (.int zc), .val (.int zb), .val (.int za), .val (.int zs), .val (.ref u365), .val (.ref u379), .val (.int (1 : Int32)), .val (.int (1 : Int32))] [])) (fun t k => XS.ifNo X407.here hx rfl (hb hby at_169) rfl ((if0 _ _).trans (feq (by decide : ¬ ((1 : Int32) = (0 : Int32)))).1) k) ?_
              refine GoH.step (T' := T407) (f' := (mkF m 174 #[.val (.int ia), .val (.int ib), .val (.int ie), .val (.int ig), .val (.int ik), .val (.int zc), .val (.int zb), .val (.int za), .val (.int zs), .val (.ref u365), .val (.ref u379), .val (.int (1 : Int32)), .val (.int (1 : Int32))] [(.ref u365)])) (fun t k => XS.aload X407.here hx rfl (hb hby at_172) rfl rfl k) ?_
              refine GoH.step (T' := T407) (f' := (mkF m 176 #[.val (.int ia), .val (.int ib), .val (.int ie), .val (.int ig), .val (.int ik), .val (.int zc), .val (.int zb), .val (.int za), .val (.int zs), .val (.ref u365), .val (.ref u379), .val (.int (1 : Int32)), .val (.int (1 : Int32))] [(.int za), (.ref u365)])) (fun t k => XS.iload X407.here hx rfl (hb hby at_174) rfl k) ?_
              obtain ⟨_, _, ⟨T409, L409, k409, n409⟩, -, X409, ⟨Lc409, hQ409, l409, y409, z409⟩, st409⟩ := Jvm.LawKit.callS X407 hx (y := (⟨"java/lang/Integer", "valueOf", "(I)Ljava/lang/Integer;"⟩ : MethodName)) hown (mvT hZ (hw _ (List.mem_of_getElem? (i := 51) rfl))) (mvT hZ (hw _ (List.mem_of_getElem? (i := 52) rfl))) (mvT hZ (hw _ (List.mem_of_getElem? (i := 53) rfl))) (mvT hZ (hw _ (List.mem_of_getElem? (i := 54) rfl))) (by decide) (backOf (W := 1) (rm_ival l Z a0 hw [] za wc cc T378.heap n0 O392 P20 P21 hbx (hza)) hZ (hw _ (List.mem_of_getElem? (i := 54) rfl)) (hw _ (List.mem_of_getElem? (i := 53) rfl)) (by decide) (by decide)) (g := (mkF m 176 #[.val (.int ia), .val (.int ib), .val (.int ie), .val (.int ig), .val (.int ik), .val (.int zc), .val (.int zb), .val (.int za), .val (.int zs), .val (.ref u365), .val (.ref u379), .val (.int (1 : Int32)), .val (.int (1 : Int32))] [(.int za), (.ref u365)])) rfl (by rw [hml]; rfl) (argsL := [(.int za)]) (rest := [(.ref u365)]) (lenOf pd8 rfl) rfl (by show 2 * 0 + _ ≤ _; exact Nat.le_of_eq rfl) (hb hby at_176) (fun _ _ => ⟨rfl, hh407, (by decide : 6 + 1 ≤ _), (by decide : 54 + 1 ≤ _)⟩)
              dsimp only [Pt.U, Pt.locs, Pt.cells, Pt.slots] at X409 l409 y409 z409 st409 hQ409
              subst l409 y409 z409
              obtain ⟨u410, rfl, Nq409, hh409, p411⟩ := hQ409
              have N412 := Fr.app N408 Nq409
              have sz413 : ∀ x ∈ ([] : List Addr), Safe Z own_EL T378.vm T378.heap x := sf0
              have CR414 := CR386.trans (CHr.keep hh409 sz413 CR386.1)
              have hk415 := Nat.le_trans hk387 hh409.1
              have f416 := f388.keep hh409
              have f417 := f389.keep hh409 nin0
              have f418 := f390.keep hh409 nin0
              have f419 := f391.keep hh409 nin0
              have f420 := p381.keep hh409
              have f421 := p382.keep hh409 nin0
              have f422 := p383.keep hh409 nin0
              have f423 := p384.keep hh409 nin0
              have O424 := O392.keep hh409 all0
              have K425 := K393.trans hh409 all0
              refine GoH.step (T' := T409) (f' := (mkF m 179 #[.val (.int ia), .val (.int ib), .val (.int ie), .val (.int ig), .val (.int ik), .val (.int zc), .val (.int zb), .val (.int za), .val (.int zs), .val (.ref u365), .val (.ref u379), .val (.int (1 : Int32)), .val (.int (1 : Int32))] [(.ref u410), (.ref u365)])) st409 ?_
              clear st409 X407 N408 Nq409 CR386 hk387 sz413 f389 f390 f391 p382 p383 p384
              obtain ⟨cq426, kq426, q426a, q426b, q426c⟩ := isOf hZ rfl f416
              obtain ⟨_, _, ⟨T426, L426, k426, n426⟩, -, X426, ⟨Lc426, hQ426, l426, y426, z426⟩, st426⟩ := X409.virtualBack hx (y := (⟨"com/example/unwind/unwind/saga/Position", "equals", "(Ljava/lang/Object;)Z"⟩ : MethodName)) (z := (⟨"com/example/unwind/unwind/saga/Position", "equals", "(Ljava/lang/Object;)Z"⟩ : MethodName)) hown (mvT hZ (hw _ (List.mem_of_getElem? (i := 44) rfl))) (mvT hZ (hw _ (List.mem_of_getElem? (i := 45) rfl))) (notFace_of_selects (args := #[]) (mvT hZ (hw _ (List.mem_of_getElem? (i := 47) rfl)))) (mvT hZ (hw _ (List.mem_of_getElem? (i := 47) rfl))) (mvT hZ (hw _ (List.mem_of_getElem? (i := 46) rfl))) (by decide) (backOf (W := 0) (rm_eqI l Z a0 hw [] u365 u410 T409.heap n0 O424 p411) hZ (hw _ (List.mem_of_getElem? (i := 48) rfl)) (hw _ (List.mem_of_getElem? (i := 7) rfl)) (by decide) (by decide)) q426a q426c (g := (mkF m 179 #[.val (.int ia), .val (.int ib), .val (.int ie), .val (.int ig), .val (.int ik), .val (.int zc), .val (.int zb), .val (.int za), .val (.int zs), .val (.ref u365), .val (.ref u379), .val (.int (1 : Int32)), .val (.int (1 : Int32))] [(.ref u410), (.ref u365)])) rfl (by rw [hml]; rfl) (Steps.refl _) (argsL := [(.ref u410)]) (rest := []) (lenOf pd7 rfl) rfl (by show 2 * 0 + _ ≤ _; exact Nat.le_of_eq rfl) (hb hby at_179) (fun _ _ => ⟨rfl, rfl, (by decide : 7 + 0 ≤ _), (by decide : 55 + 0 ≤ _)⟩)
              dsimp only [Pt.U, Pt.locs, Pt.cells, Pt.slots] at X426 l426 y426 z426 st426 hQ426
              subst l426 y426 z426
              obtain ⟨rfl, Nq426, hh426⟩ := hQ426
              have N427 := Fr.app N412 Nq426
              refine GoH.via (T' := T426) (f' := (mkF m 182 #[.val (.int ia), .val (.int ib), .val (.int ie), .val (.int ig), .val (.int ik), .val (.int zc), .val (.int zb), .val (.int za), .val (.int zs), .val (.ref u365), .val (.ref u379), .val (.int (1 : Int32)), .val (.int (1 : Int32))] [(.int (0 : Int32))])) st426 ?_
              clear st426 X409 N412 Nq426
              refine GoH.step (T' := T426) (f' := (mkF m 185 #[.val (.int ia), .val (.int ib), .val (.int ie), .val (.int ig), .val (.int ik), .val (.int zc), .val (.int zb), .val (.int za), .val (.int zs), .val (.ref u365), .val (.ref u379), .val (.int (1 : Int32)), .val (.int (1 : Int32))] [])) (fun t k => XS.ifNo X426.here hx rfl (hb hby at_182) rfl ((if0 _ _).trans (teq (by decide : (0 : Int32) = (0 : Int32))).2) k) ?_
              refine GoH.step (T' := T426) (f' := (mkF m 186 #[.val (.int ia), .val (.int ib), .val (.int ie), .val (.int ig), .val (.int ik), .val (.int zc), .val (.int zb), .val (.int za), .val (.int zs), .val (.ref u365), .val (.ref u379), .val (.int (1 : Int32)), .val (.int (1 : Int32))] [(.int (1 : Int32))])) (fun t k => XS.iconst X426.here hx rfl (hb hby at_185) k) ?_
              refine GoH.step (T' := T426) (f' := (mkF m 190 #[.val (.int ia), .val (.int ib), .val (.int ie), .val (.int ig), .val (.int ik), .val (.int zc), .val (.int zb), .val (.int za), .val (.int zs), .val (.ref u365), .val (.ref u379), .val (.int (1 : Int32)), .val (.int (1 : Int32))] [(.int (1 : Int32))])) (fun t k => XS.goto X426.here hx rfl (pc0 := 186) (pc' := 190) rfl (hb hby at_186) (by decide) (by decide) k) ?_
              refine GoH.step (T' := T426) (f' := (mkF m 192 #[.val (.int ia), .val (.int ib), .val (.int ie), .val (.int ig), .val (.int ik), .val (.int zc), .val (.int zb), .val (.int za), .val (.int zs), .val (.ref u365), .val (.ref u379), .val (.int (1 : Int32)), .val (.int (1 : Int32))] [])) (fun t k => XS.istore X426.here hx rfl (hb hby at_190) rfl (l' := #[.val (.int ia), .val (.int ib), .val (.int ie), .val (.int ig), .val (.int ik), .val (.int zc), .val (.int zb), .val (.int za), .val (.int zs), .val (.ref u365), .val (.ref u379), .val (.int (1 : Int32)), .val (.int (1 : Int32))]) rfl k) ?_
              refine GoH.step (T' := T426) (f' := (mkF m 194 #[.val (.int ia), .val (.int ib), .val (.int ie), .val (.int ig), .val (.int ik), .val (.int zc), .val (.int zb), .val (.int za), .val (.int zs), .val (.ref u365), .val (.ref u379), .val (.int (1 : Int32)), .val (.int (1 : Int32))] [(.int (1 : Int32))])) (fun t k => XS.iload X426.here hx rfl (hb hby at_192) rfl k) ?_
              refine GoH.fin X426 hZ hEL hS378 hk415 CR414 hlk (v := some (.int (nar .boolean (1 : Int32)))) (fun h => by rw [Bd.returns] at h; cases h) (fun fs hr => retN X426 hx (t := .boolean) Bd.returns (by simp) (hb hby at_194) hr) hh426 ?_ (by decide) (by decide)
              exact ⟨rfl, N427, K425⟩
            ·
              refine GoH.step (T' := T378) (f' := (mkF m 90 #[.val (.int ia), .val (.int ib), .val (.int ie), .val (.int ig), .val (.int ik), .val (.int zc), .val (.int zb), .val (.int za), .val (.int zs), .val (.ref u365), .val (.ref u379), .unset, .unset] [])) (fun t k => XS.icmpYes X378.here hx rfl (pc0 := 83) (pc' := 90) rfl (hb hby at_83) rfl (feq hc398).2 (by decide) (by decide) k) ?_
              refine GoH.step (T' := T378) (f' := (mkF m 91 #[.val (.int ia), .val (.int ib), .val (.int ie), .val (.int ig), .val (.int ik), .val (.int zc), .val (.int zb), .val (.int za), .val (.int zs), .val (.ref u365), .val (.ref u379), .unset, .unset] [(.int (0 : Int32))])) (fun t k => XS.iconst X378.here hx rfl (hb hby at_90) k) ?_
              refine GoH.step (T' := T378) (f' := (mkF m 93 #[.val (.int ia), .val (.int ib), .val (.int ie), .val (.int ig), .val (.int ik), .val (.int zc), .val (.int zb), .val (.int za), .val (.int zs), .val (.ref u365), .val (.ref u379), .val (.int (0 : Int32)), .unset] [])) (fun t k => XS.istore X378.here hx rfl (hb hby at_91) rfl (l' := #[.val (.int ia), .val (.int ib), .val (.int ie), .val (.int ig), .val (.int ik), .val (.int zc), .val (.int zb), .val (.int za), .val (.int zs), .val (.ref u365), .val (.ref u379), .val (.int (0 : Int32)), .unset]) rfl k) ?_
              refine GoH.step (T' := T378) (f' := (mkF m 95 #[.val (.int ia), .val (.int ib), .val (.int ie), .val (.int ig), .val (.int ik), .val (.int zc), .val (.int zb), .val (.int za), .val (.int zs), .val (.ref u365), .val (.ref u379), .val (.int (0 : Int32)), .unset] [(.ref u365)])) (fun t k => XS.aload X378.here hx rfl (hb hby at_93) rfl rfl k) ?_
              refine GoH.step (T' := T378) (f' := (mkF m 97 #[.val (.int ia), .val (.int ib), .val (.int ie), .val (.int ig), .val (.int ik), .val (.int zc), .val (.int zb), .val (.int za), .val (.int zs), .val (.ref u365), .val (.ref u379), .val (.int (0 : Int32)), .unset] [(.ref u379), (.ref u365)])) (fun t k => XS.aload X378.here hx rfl (hb hby at_95) rfl rfl k) ?_
              obtain ⟨cq428, kq428, q428a, q428b, q428c⟩ := isOf hZ rfl f388
              obtain ⟨_, _, ⟨T428, L428, k428, n428⟩, -, X428, ⟨Lc428, hQ428, l428, y428, z428⟩, st428⟩ := X378.virtualBack hx (y := (⟨"com/example/unwind/unwind/saga/Position", "equals", "(Ljava/lang/Object;)Z"⟩ : MethodName)) (z := (⟨"com/example/unwind/unwind/saga/Position", "equals", "(Ljava/lang/Object;)Z"⟩ : MethodName)) hown (mvT hZ (hw _ (List.mem_of_getElem? (i := 44) rfl))) (mvT hZ (hw _ (List.mem_of_getElem? (i := 45) rfl))) (notFace_of_selects (args := #[]) (mvT hZ (hw _ (List.mem_of_getElem? (i := 47) rfl)))) (mvT hZ (hw _ (List.mem_of_getElem? (i := 47) rfl))) (mvT hZ (hw _ (List.mem_of_getElem? (i := 46) rfl))) (by decide) (backOf (W := 0) (rm_eqPP l Z a0 hw [] u365 u379 (own_sa zc z_RUNNING z_ROLLING_BACK z_COMPLETED z_ROLLED_BACK) za (own_sa zb z_RUNNING z_ROLLING_BACK z_COMPLETED z_ROLLED_BACK) zs T378.heap n0 O392 p381 f389 f390 f391 p382 p383 p384) hZ (hw _ (List.mem_of_getElem? (i := 48) rfl)) (hw _ (List.mem_of_getElem? (i := 7) rfl)) (by decide) (by decide)) q428a q428c (g := (mkF m 97 #[.val (.int ia), .val (.int ib), .val (.int ie), .val (.int ig), .val (.int ik), .val (.int zc), .val (.int zb), .val (.int za), .val (.int zs), .val (.ref u365), .val (.ref u379), .val (.int (0 : Int32)), .unset] [(.ref u379), (.ref u365)])) rfl (by rw [hml]; rfl) (Steps.refl _) (argsL := [(.ref u379)]) (rest := []) (lenOf pd7 rfl) rfl (by show 2 * 0 + _ ≤ _; exact Nat.le_of_eq rfl) (hb hby at_97) (fun _ _ => ⟨rfl, rfl, (by decide : 6 + 0 ≤ _), (by decide : 54 + 0 ≤ _)⟩)
              dsimp only [Pt.U, Pt.locs, Pt.cells, Pt.slots] at X428 l428 y428 z428 st428 hQ428
              subst l428 y428 z428
              obtain ⟨rfl, Nq428, hh428⟩ := hQ428
              have N429 := Fr.app N385 Nq428
              refine GoH.via (T' := T428) (f' := (mkF m 100 #[.val (.int ia), .val (.int ib), .val (.int ie), .val (.int ig), .val (.int ik), .val (.int zc), .val (.int zb), .val (.int za), .val (.int zs), .val (.ref u365), .val (.ref u379), .val (.int (0 : Int32)), .unset] [(.int (if (own_sa zc z_RUNNING z_ROLLING_BACK z_COMPLETED z_ROLLED_BACK) = (own_sa zb z_RUNNING z_ROLLING_BACK z_COMPLETED z_ROLLED_BACK) ∧ za = zs then (1 : Int32) else 0))])) st428 ?_
              clear st428 X378 N385 Nq428
              refine GoH.step (T' := T428) (f' := (mkF m 102 #[.val (.int ia), .val (.int ib), .val (.int ie), .val (.int ig), .val (.int ik), .val (.int zc), .val (.int zb), .val (.int za), .val (.int zs), .val (.ref u365), .val (.ref u379), .val (.int (0 : Int32)), .unset] [(.int (0 : Int32)), (.int (if (own_sa zc z_RUNNING z_ROLLING_BACK z_COMPLETED z_ROLLED_BACK) = (own_sa zb z_RUNNING z_ROLLING_BACK z_COMPLETED z_ROLLED_BACK) ∧ za = zs then (1 : Int32) else 0))])) (fun t k => XS.iload X428.here hx rfl (hb hby at_100) rfl k) ?_
              have hc430 : (if (own_sa zc z_RUNNING z_ROLLING_BACK z_COMPLETED z_ROLLED_BACK) = (own_sa zb z_RUNNING z_ROLLING_BACK z_COMPLETED z_ROLLED_BACK) ∧ za = zs then (1 : Int32) else 0) = (0 : Int32) := by
                simp [own_saI hA hB P10 P12 P13 P15 P16 P19, hc398]
              refine GoH.step (T' := T428) (f' := (mkF m 105 #[.val (.int ia), .val (.int ib), .val (.int ie), .val (.int ig), .val (.int ik), .val (.int zc), .val (.int zb), .val (.int za), .val (.int zs), .val (.ref u365), .val (.ref u379), .val (.int (0 : Int32)), .unset] [])) (fun t k => XS.icmpNo X428.here hx rfl (hb hby at_102) rfl (teq hc430).2 k) ?_
              refine GoH.step (T' := T428) (f' := (mkF m 107 #[.val (.int ia), .val (.int ib), .val (.int ie), .val (.int ig), .val (.int ik), .val (.int zc), .val (.int zb), .val (.int za), .val (.int zs), .val (.ref u365), .val (.ref u379), .val (.int (0 : Int32)), .unset] [(.ref u379)])) (fun t k => XS.aload X428.here hx rfl (hb hby at_105) rfl rfl k) ?_
              refine GoH.step (T' := T428) (f' := (mkF m 109 #[.val (.int ia), .val (.int ib), .val (.int ie), .val (.int ig), .val (.int ik), .val (.int zc), .val (.int zb), .val (.int za), .val (.int zs), .val (.ref u365), .val (.ref u379), .val (.int (0 : Int32)), .unset] [(.ref u365), (.ref u379)])) (fun t k => XS.aload X428.here hx rfl (hb hby at_107) rfl rfl k) ?_
              obtain ⟨cq431, kq431, q431a, q431b, q431c⟩ := isOf hZ hh428 p381
              obtain ⟨_, _, ⟨T431, L431, k431, n431⟩, -, X431, ⟨Lc431, hQ431, l431, y431, z431⟩, st431⟩ := X428.virtualBack hx (y := (⟨"com/example/unwind/unwind/saga/Position", "equals", "(Ljava/lang/Object;)Z"⟩ : MethodName)) (z := (⟨"com/example/unwind/unwind/saga/Position", "equals", "(Ljava/lang/Object;)Z"⟩ : MethodName)) hown (mvT hZ (hw _ (List.mem_of_getElem? (i := 44) rfl))) (mvT hZ (hw _ (List.mem_of_getElem? (i := 45) rfl))) (notFace_of_selects (args := #[]) (mvT hZ (hw _ (List.mem_of_getElem? (i := 47) rfl)))) (mvT hZ (hw _ (List.mem_of_getElem? (i := 47) rfl))) (mvT hZ (hw _ (List.mem_of_getElem? (i := 46) rfl))) (by decide) (backOf (W := 0) (rm_eqPP l Z a0 hw [] u379 u365 (own_sa zb z_RUNNING z_ROLLING_BACK z_COMPLETED z_ROLLED_BACK) zs (own_sa zc z_RUNNING z_ROLLING_BACK z_COMPLETED z_ROLLED_BACK) za T378.heap n0 O392 f388 p382 p383 p384 f389 f390 f391) hZ (hw _ (List.mem_of_getElem? (i := 48) rfl)) (hw _ (List.mem_of_getElem? (i := 7) rfl)) (by decide) (by decide)) q431a q431c (g := (mkF m 109 #[.val (.int ia), .val (.int ib), .val (.int ie), .val (.int ig), .val (.int ik), .val (.int zc), .val (.int zb), .val (.int za), .val (.int zs), .val (.ref u365), .val (.ref u379), .val (.int (0 : Int32)), .unset] [(.ref u365), (.ref u379)])) rfl (by rw [hml]; rfl) (Steps.refl _) (argsL := [(.ref u365)]) (rest := []) (lenOf pd7 rfl) rfl (by show 2 * 0 + _ ≤ _; exact Nat.le_of_eq rfl) (hb hby at_109) (fun _ _ => ⟨rfl, hh428, (by decide : 6 + 0 ≤ _), (by decide : 54 + 0 ≤ _)⟩)
              dsimp only [Pt.U, Pt.locs, Pt.cells, Pt.slots] at X431 l431 y431 z431 st431 hQ431
              subst l431 y431 z431
              obtain ⟨rfl, Nq431, hh431⟩ := hQ431
              have N432 := Fr.app N429 Nq431
              refine GoH.via (T' := T431) (f' := (mkF m 112 #[.val (.int ia), .val (.int ib), .val (.int ie), .val (.int ig), .val (.int ik), .val (.int zc), .val (.int zb), .val (.int za), .val (.int zs), .val (.ref u365), .val (.ref u379), .val (.int (0 : Int32)), .unset] [(.int (if (own_sa zb z_RUNNING z_ROLLING_BACK z_COMPLETED z_ROLLED_BACK) = (own_sa zc z_RUNNING z_ROLLING_BACK z_COMPLETED z_ROLLED_BACK) ∧ zs = za then (1 : Int32) else 0))])) st431 ?_
              clear st431 X428 N429 Nq431
              refine GoH.step (T' := T431) (f' := (mkF m 114 #[.val (.int ia), .val (.int ib), .val (.int ie), .val (.int ig), .val (.int ik), .val (.int zc), .val (.int zb), .val (.int za), .val (.int zs), .val (.ref u365), .val (.ref u379), .val (.int (0 : Int32)), .unset] [(.int (0 : Int32)), (.int (if (own_sa zb z_RUNNING z_ROLLING_BACK z_COMPLETED z_ROLLED_BACK) = (own_sa zc z_RUNNING z_ROLLING_BACK z_COMPLETED z_ROLLED_BACK) ∧ zs = za then (1 : Int32) else 0))])) (fun t k => XS.iload X431.here hx rfl (hb hby at_112) rfl k) ?_
              have hc433 : (if (own_sa zb z_RUNNING z_ROLLING_BACK z_COMPLETED z_ROLLED_BACK) = (own_sa zc z_RUNNING z_ROLLING_BACK z_COMPLETED z_ROLLED_BACK) ∧ zs = za then (1 : Int32) else 0) = (0 : Int32) := by
                simp [own_saI hB hA P10 P12 P13 P15 P16 P19, (Ne.symm hc398)]
              refine GoH.step (T' := T431) (f' := (mkF m 117 #[.val (.int ia), .val (.int ib), .val (.int ie), .val (.int ig), .val (.int ik), .val (.int zc), .val (.int zb), .val (.int za), .val (.int zs), .val (.ref u365), .val (.ref u379), .val (.int (0 : Int32)), .unset] [])) (fun t k => XS.icmpNo X431.here hx rfl (hb hby at_114) rfl (teq hc433).2 k) ?_
              refine GoH.step (T' := T431) (f' := (mkF m 118 #[.val (.int ia), .val (.int ib), .val (.int ie), .val (.int ig), .val (.int ik), .val (.int zc), .val (.int zb), .val (.int za), .val (.int zs), .val (.ref u365), .val (.ref u379), .val (.int (0 : Int32)), .unset] [(.int (1 : Int32))])) (fun t k => XS.iconst X431.here hx rfl (hb hby at_117) k) ?_
              refine GoH.step (T' := T431) (f' := (mkF m 122 #[.val (.int ia), .val (.int ib), .val (.int ie), .val (.int ig), .val (.int ik), .val (.int zc), .val (.int zb), .val (.int za), .val (.int zs), .val (.ref u365), .val (.ref u379), .val (.int (0 : Int32)), .unset] [(.int (1 : Int32))])) (fun t k => XS.goto X431.here hx rfl (pc0 := 118) (pc' := 122) rfl (hb hby at_118) (by decide) (by decide) k) ?_
              refine GoH.step (T' := T431) (f' := (mkF m 124 #[.val (.int ia), .val (.int ib), .val (.int ie), .val (.int ig), .val (.int ik), .val (.int zc), .val (.int zb), .val (.int za), .val (.int zs), .val (.ref u365), .val (.ref u379), .val (.int (0 : Int32)), .val (.int (1 : Int32))] [])) (fun t k => XS.istore X431.here hx rfl (hb hby at_122) rfl (l' := #[.val (.int ia), .val (.int ib), .val (.int ie), .val (.int ig), .val (.int ik), .val (.int zc), .val (.int zb), .val (.int za), .val (.int zs), .val (.ref u365), .val (.ref u379), .val (.int (0 : Int32)), .val (.int (1 : Int32))]) rfl k) ?_
              refine GoH.step (T' := T431) (f' := (mkF m 126 #[.val (.int ia), .val (.int ib), .val (.int ie), .val (.int ig), .val (.int ik), .val (.int zc), .val (.int zb), .val (.int za), .val (.int zs), .val (.ref u365), .val (.ref u379), .val (.int (0 : Int32)), .val (.int (1 : Int32))] [(.int (1 : Int32))])) (fun t k => XS.iload X431.here hx rfl (hb hby at_124) rfl k) ?_
              refine GoH.step (T' := T431) (f' := (mkF m 129 #[.val (.int ia), .val (.int ib), .val (.int ie), .val (.int ig), .val (.int ik), .val (.int zc), .val (.int zb), .val (.int za), .val (.int zs), .val (.ref u365), .val (.ref u379), .val (.int (0 : Int32)), .val (.int (1 : Int32))] [])) (fun t k => XS.ifNo X431.here hx rfl (hb hby at_126) rfl ((if0 _ _).trans (feq (by decide : ¬ ((1 : Int32) = (0 : Int32)))).1) k) ?_
              refine GoH.step (T' := T431) (f' := (mkF m 131 #[.val (.int ia), .val (.int ib), .val (.int ie), .val (.int ig), .val (.int ik), .val (.int zc), .val (.int zb), .val (.int za), .val (.int zs), .val (.ref u365), .val (.ref u379), .val (.int (0 : Int32)), .val (.int (1 : Int32))] [(.ref u365)])) (fun t k => XS.aload X431.here hx rfl (hb hby at_129) rfl rfl k) ?_
              refine GoH.step (T' := T431) (f' := (mkF m 133 #[.val (.int ia), .val (.int ib), .val (.int ie), .val (.int ig), .val (.int ik), .val (.int zc), .val (.int zb), .val (.int za), .val (.int zs), .val (.ref u365), .val (.ref u379), .val (.int (0 : Int32)), .val (.int (1 : Int32))] [(.ref u365), (.ref u365)])) (fun t k => XS.aload X431.here hx rfl (hb hby at_131) rfl rfl k) ?_
              obtain ⟨cq434, kq434, q434a, q434b, q434c⟩ := isOf hZ hh431 f388
              obtain ⟨_, _, ⟨T434, L434, k434, n434⟩, -, X434, ⟨Lc434, hQ434, l434, y434, z434⟩, st434⟩ := X431.virtualBack hx (y := (⟨"com/example/unwind/unwind/saga/Position", "equals", "(Ljava/lang/Object;)Z"⟩ : MethodName)) (z := (⟨"com/example/unwind/unwind/saga/Position", "equals", "(Ljava/lang/Object;)Z"⟩ : MethodName)) hown (mvT hZ (hw _ (List.mem_of_getElem? (i := 44) rfl))) (mvT hZ (hw _ (List.mem_of_getElem? (i := 45) rfl))) (notFace_of_selects (args := #[]) (mvT hZ (hw _ (List.mem_of_getElem? (i := 47) rfl)))) (mvT hZ (hw _ (List.mem_of_getElem? (i := 47) rfl))) (mvT hZ (hw _ (List.mem_of_getElem? (i := 46) rfl))) (by decide) (backOf (W := 0) (rm_eq1P l Z a0 hw [] u365 (own_sa zc z_RUNNING z_ROLLING_BACK z_COMPLETED z_ROLLED_BACK) za T378.heap n0 O392 f388 f389 f390 f391) hZ (hw _ (List.mem_of_getElem? (i := 48) rfl)) (hw _ (List.mem_of_getElem? (i := 7) rfl)) (by decide) (by decide)) q434a q434c (g := (mkF m 133 #[.val (.int ia), .val (.int ib), .val (.int ie), .val (.int ig), .val (.int ik), .val (.int zc), .val (.int zb), .val (.int za), .val (.int zs), .val (.ref u365), .val (.ref u379), .val (.int (0 : Int32)), .val (.int (1 : Int32))] [(.ref u365), (.ref u365)])) rfl (by rw [hml]; rfl) (Steps.refl _) (argsL := [(.ref u365)]) (rest := []) (lenOf pd7 rfl) rfl (by show 2 * 0 + _ ≤ _; exact Nat.le_of_eq rfl) (hb hby at_133) (fun _ _ => ⟨rfl, hh431, (by decide : 6 + 0 ≤ _), (by decide : 54 + 0 ≤ _)⟩)
              dsimp only [Pt.U, Pt.locs, Pt.cells, Pt.slots] at X434 l434 y434 z434 st434 hQ434
              subst l434 y434 z434
              obtain ⟨rfl, Nq434, hh434⟩ := hQ434
              have N435 := Fr.app N432 Nq434
              refine GoH.via (T' := T434) (f' := (mkF m 136 #[.val (.int ia), .val (.int ib), .val (.int ie), .val (.int ig), .val (.int ik), .val (.int zc), .val (.int zb), .val (.int za), .val (.int zs), .val (.ref u365), .val (.ref u379), .val (.int (0 : Int32)), .val (.int (1 : Int32))] [(.int (1 : Int32))])) st434 ?_
              clear st434 X431 N432 Nq434
              refine GoH.step (T' := T434) (f' := (mkF m 139 #[.val (.int ia), .val (.int ib), .val (.int ie), .val (.int ig), .val (.int ik), .val (.int zc), .val (.int zb), .val (.int za), .val (.int zs), .val (.ref u365), .val (.ref u379), .val (.int (0 : Int32)), .val (.int (1 : Int32))] [])) (fun t k => XS.ifNo X434.here hx rfl (hb hby at_136) rfl ((if0 _ _).trans (feq (by decide : ¬ ((1 : Int32) = (0 : Int32)))).1) k) ?_
              refine GoH.step (T' := T434) (f' := (mkF m 140 #[.val (.int ia), .val (.int ib), .val (.int ie), .val (.int ig), .val (.int ik), .val (.int zc), .val (.int zb), .val (.int za), .val (.int zs), .val (.ref u365), .val (.ref u379), .val (.int (0 : Int32)), .val (.int (1 : Int32))] [(.int (1 : Int32))])) (fun t k => XS.iconst X434.here hx rfl (hb hby at_139) k) ?_
              refine GoH.step (T' := T434) (f' := (mkF m 144 #[.val (.int ia), .val (.int ib), .val (.int ie), .val (.int ig), .val (.int ik), .val (.int zc), .val (.int zb), .val (.int za), .val (.int zs), .val (.ref u365), .val (.ref u379), .val (.int (0 : Int32)), .val (.int (1 : Int32))] [(.int (1 : Int32))])) (fun t k => XS.goto X434.here hx rfl (pc0 := 140) (pc' := 144) rfl (hb hby at_140) (by decide) (by decide) k) ?_
              refine GoH.step (T' := T434) (f' := (mkF m 146 #[.val (.int ia), .val (.int ib), .val (.int ie), .val (.int ig), .val (.int ik), .val (.int zc), .val (.int zb), .val (.int za), .val (.int zs), .val (.ref u365), .val (.ref u379), .val (.int (0 : Int32)), .val (.int (1 : Int32))] [])) (fun t k => XS.istore X434.here hx rfl (hb hby at_144) rfl (l' := #[.val (.int ia), .val (.int ib), .val (.int ie), .val (.int ig), .val (.int ik), .val (.int zc), .val (.int zb), .val (.int za), .val (.int zs), .val (.ref u365), .val (.ref u379), .val (.int (0 : Int32)), .val (.int (1 : Int32))]) rfl k) ?_
              refine GoH.step (T' := T434) (f' := (mkF m 148 #[.val (.int ia), .val (.int ib), .val (.int ie), .val (.int ig), .val (.int ik), .val (.int zc), .val (.int zb), .val (.int za), .val (.int zs), .val (.ref u365), .val (.ref u379), .val (.int (0 : Int32)), .val (.int (1 : Int32))] [(.int (1 : Int32))])) (fun t k => XS.iload X434.here hx rfl (hb hby at_146) rfl k) ?_
              refine GoH.step (T' := T434) (f' := (mkF m 151 #[.val (.int ia), .val (.int ib), .val (.int ie), .val (.int ig), .val (.int ik), .val (.int zc), .val (.int zb), .val (.int za), .val (.int zs), .val (.ref u365), .val (.ref u379), .val (.int (0 : Int32)), .val (.int (1 : Int32))] [])) (fun t k => XS.ifNo X434.here hx rfl (hb hby at_148) rfl ((if0 _ _).trans (feq (by decide : ¬ ((1 : Int32) = (0 : Int32)))).1) k) ?_
              refine GoH.step (T' := T434) (f' := (mkF m 153 #[.val (.int ia), .val (.int ib), .val (.int ie), .val (.int ig), .val (.int ik), .val (.int zc), .val (.int zb), .val (.int za), .val (.int zs), .val (.ref u365), .val (.ref u379), .val (.int (0 : Int32)), .val (.int (1 : Int32))] [(.ref u365)])) (fun t k => XS.aload X434.here hx rfl (hb hby at_151) rfl rfl k) ?_
              refine GoH.step (T' := T434) (f' := (mkF m 154 #[.val (.int ia), .val (.int ib), .val (.int ie), .val (.int ig), .val (.int ik), .val (.int zc), .val (.int zb), .val (.int za), .val (.int zs), .val (.ref u365), .val (.ref u379), .val (.int (0 : Int32)), .val (.int (1 : Int32))] [.null, (.ref u365)])) (fun t k => XS.aconstNull X434.here hx rfl (hb hby at_153) k) ?_
              obtain ⟨cq436, kq436, q436a, q436b, q436c⟩ := isOf hZ hh434 f388
              obtain ⟨_, _, ⟨T436, L436, k436, n436⟩, -, X436, ⟨Lc436, hQ436, l436, y436, z436⟩, st436⟩ := X434.virtualBack hx (y := (⟨"com/example/unwind/unwind/saga/Position", "equals", "(Ljava/lang/Object;)Z"⟩ : MethodName)) (z := (⟨"com/example/unwind/unwind/saga/Position", "equals", "(Ljava/lang/Object;)Z"⟩ : MethodName)) hown (mvT hZ (hw _ (List.mem_of_getElem? (i := 44) rfl))) (mvT hZ (hw _ (List.mem_of_getElem? (i := 45) rfl))) (notFace_of_selects (args := #[]) (mvT hZ (hw _ (List.mem_of_getElem? (i := 47) rfl)))) (mvT hZ (hw _ (List.mem_of_getElem? (i := 47) rfl))) (mvT hZ (hw _ (List.mem_of_getElem? (i := 46) rfl))) (by decide) (backOf (W := 0) (rm_eqN l Z a0 hw [] u365 T378.heap n0 O392 ) hZ (hw _ (List.mem_of_getElem? (i := 48) rfl)) (hw _ (List.mem_of_getElem? (i := 7) rfl)) (by decide) (by decide)) q436a q436c (g := (mkF m 154 #[.val (.int ia), .val (.int ib), .val (.int ie), .val (.int ig), .val (.int ik), .val (.int zc), .val (.int zb), .val (.int za), .val (.int zs), .val (.ref u365), .val (.ref u379), .val (.int (0 : Int32)), .val (.int (1 : Int32))] [.null, (.ref u365)])) rfl (by rw [hml]; rfl) (Steps.refl _) (argsL := [.null]) (rest := []) (lenOf pd7 rfl) rfl (by show 2 * 0 + _ ≤ _; exact Nat.le_of_eq rfl) (hb hby at_154) (fun _ _ => ⟨rfl, hh434, (by decide : 6 + 0 ≤ _), (by decide : 54 + 0 ≤ _)⟩)
              dsimp only [Pt.U, Pt.locs, Pt.cells, Pt.slots] at X436 l436 y436 z436 st436 hQ436
              subst l436 y436 z436
              obtain ⟨rfl, Nq436, hh436⟩ := hQ436
              have N437 := Fr.app N435 Nq436
              refine GoH.via (T' := T436) (f' := (mkF m 157 #[.val (.int ia), .val (.int ib), .val (.int ie), .val (.int ig), .val (.int ik), .val (.int zc), .val (.int zb), .val (.int za), .val (.int zs), .val (.ref u365), .val (.ref u379), .val (.int (0 : Int32)), .val (.int (1 : Int32))] [(.int (0 : Int32))])) st436 ?_
              clear st436 X434 N435 Nq436
              refine GoH.step (T' := T436) (f' := (mkF m 160 #[.val (.int ia), .val (.int ib), .val (.int ie), .val (.int ig), .val (.int ik), .val (.int zc), .val (.int zb), .val (.int za), .val (.int zs), .val (.ref u365), .val (.ref u379), .val (.int (0 : Int32)), .val (.int (1 : Int32))] [])) (fun t k => XS.ifNo X436.here hx rfl (hb hby at_157) rfl ((if0 _ _).trans (teq (by decide : (0 : Int32) = (0 : Int32))).2) k) ?_
              refine GoH.step (T' := T436) (f' := (mkF m 161 #[.val (.int ia), .val (.int ib), .val (.int ie), .val (.int ig), .val (.int ik), .val (.int zc), .val (.int zb), .val (.int za), .val (.int zs), .val (.ref u365), .val (.ref u379), .val (.int (0 : Int32)), .val (.int (1 : Int32))] [(.int (1 : Int32))])) (fun t k => XS.iconst X436.here hx rfl (hb hby at_160) k) ?_
              refine GoH.step (T' := T436) (f' := (mkF m 165 #[.val (.int ia), .val (.int ib), .val (.int ie), .val (.int ig), .val (.int ik), .val (.int zc), .val (.int zb), .val (.int za), .val (.int zs), .val (.ref u365), .val (.ref u379), .val (.int (0 : Int32)), .val (.int (1 : Int32))] [(.int (1 : Int32))])) (fun t k => XS.goto X436.here hx rfl (pc0 := 161) (pc' := 165) rfl (hb hby at_161) (by decide) (by decide) k) ?_
              refine GoH.step (T' := T436) (f' := (mkF m 167 #[.val (.int ia), .val (.int ib), .val (.int ie), .val (.int ig), .val (.int ik), .val (.int zc), .val (.int zb), .val (.int za), .val (.int zs), .val (.ref u365), .val (.ref u379), .val (.int (0 : Int32)), .val (.int (1 : Int32))] [])) (fun t k => XS.istore X436.here hx rfl (hb hby at_165) rfl (l' := #[.val (.int ia), .val (.int ib), .val (.int ie), .val (.int ig), .val (.int ik), .val (.int zc), .val (.int zb), .val (.int za), .val (.int zs), .val (.ref u365), .val (.ref u379), .val (.int (0 : Int32)), .val (.int (1 : Int32))]) rfl k) ?_
              refine GoH.step (T' := T436) (f' := (mkF m 169 #[.val (.int ia), .val (.int ib), .val (.int ie), .val (.int ig), .val (.int ik), .val (.int zc), .val (.int zb), .val (.int za), .val (.int zs), .val (.ref u365), .val (.ref u379), .val (.int (0 : Int32)), .val (.int (1 : Int32))] [(.int (1 : Int32))])) (fun t k => XS.iload X436.here hx rfl (hb hby at_167) rfl k) ?_
              refine GoH.step (T' := T436) (f' := (mkF m 172 #[.val (.int ia), .val (.int ib), .val (.int ie), .val (.int ig), .val (.int ik), .val (.int zc), .val (.int zb), .val (.int za), .val (.int zs), .val (.ref u365), .val (.ref u379), .val (.int (0 : Int32)), .val (.int (1 : Int32))] [])) (fun t k => XS.ifNo X436.here hx rfl (hb hby at_169) rfl ((if0 _ _).trans (feq (by decide : ¬ ((1 : Int32) = (0 : Int32)))).1) k) ?_
              refine GoH.step (T' := T436) (f' := (mkF m 174 #[.val (.int ia), .val (.int ib), .val (.int ie), .val (.int ig), .val (.int ik), .val (.int zc), .val (.int zb), .val (.int za), .val (.int zs), .val (.ref u365), .val (.ref u379), .val (.int (0 : Int32)), .val (.int (1 : Int32))] [(.ref u365)])) (fun t k => XS.aload X436.here hx rfl (hb hby at_172) rfl rfl k) ?_
              refine GoH.step (T' := T436) (f' := (mkF m 176 #[.val (.int ia), .val (.int ib), .val (.int ie), .val (.int ig), .val (.int ik), .val (.int zc), .val (.int zb), .val (.int za), .val (.int zs), .val (.ref u365), .val (.ref u379), .val (.int (0 : Int32)), .val (.int (1 : Int32))] [(.int za), (.ref u365)])) (fun t k => XS.iload X436.here hx rfl (hb hby at_174) rfl k) ?_
              obtain ⟨_, _, ⟨T438, L438, k438, n438⟩, -, X438, ⟨Lc438, hQ438, l438, y438, z438⟩, st438⟩ := Jvm.LawKit.callS X436 hx (y := (⟨"java/lang/Integer", "valueOf", "(I)Ljava/lang/Integer;"⟩ : MethodName)) hown (mvT hZ (hw _ (List.mem_of_getElem? (i := 51) rfl))) (mvT hZ (hw _ (List.mem_of_getElem? (i := 52) rfl))) (mvT hZ (hw _ (List.mem_of_getElem? (i := 53) rfl))) (mvT hZ (hw _ (List.mem_of_getElem? (i := 54) rfl))) (by decide) (backOf (W := 1) (rm_ival l Z a0 hw [] za wc cc T378.heap n0 O392 P20 P21 hbx (hza)) hZ (hw _ (List.mem_of_getElem? (i := 54) rfl)) (hw _ (List.mem_of_getElem? (i := 53) rfl)) (by decide) (by decide)) (g := (mkF m 176 #[.val (.int ia), .val (.int ib), .val (.int ie), .val (.int ig), .val (.int ik), .val (.int zc), .val (.int zb), .val (.int za), .val (.int zs), .val (.ref u365), .val (.ref u379), .val (.int (0 : Int32)), .val (.int (1 : Int32))] [(.int za), (.ref u365)])) rfl (by rw [hml]; rfl) (argsL := [(.int za)]) (rest := [(.ref u365)]) (lenOf pd8 rfl) rfl (by show 2 * 0 + _ ≤ _; exact Nat.le_of_eq rfl) (hb hby at_176) (fun _ _ => ⟨rfl, hh436, (by decide : 6 + 1 ≤ _), (by decide : 54 + 1 ≤ _)⟩)
              dsimp only [Pt.U, Pt.locs, Pt.cells, Pt.slots] at X438 l438 y438 z438 st438 hQ438
              subst l438 y438 z438
              obtain ⟨u439, rfl, Nq438, hh438, p440⟩ := hQ438
              have N441 := Fr.app N437 Nq438
              have sz442 : ∀ x ∈ ([] : List Addr), Safe Z own_EL T378.vm T378.heap x := sf0
              have CR443 := CR386.trans (CHr.keep hh438 sz442 CR386.1)
              have hk444 := Nat.le_trans hk387 hh438.1
              have f445 := f388.keep hh438
              have f446 := f389.keep hh438 nin0
              have f447 := f390.keep hh438 nin0
              have f448 := f391.keep hh438 nin0
              have f449 := p381.keep hh438
              have f450 := p382.keep hh438 nin0
              have f451 := p383.keep hh438 nin0
              have f452 := p384.keep hh438 nin0
              have O453 := O392.keep hh438 all0
              have K454 := K393.trans hh438 all0
              refine GoH.step (T' := T438) (f' := (mkF m 179 #[.val (.int ia), .val (.int ib), .val (.int ie), .val (.int ig), .val (.int ik), .val (.int zc), .val (.int zb), .val (.int za), .val (.int zs), .val (.ref u365), .val (.ref u379), .val (.int (0 : Int32)), .val (.int (1 : Int32))] [(.ref u439), (.ref u365)])) st438 ?_
              clear st438 X436 N437 Nq438 CR386 hk387 sz442 f389 f390 f391 p382 p383 p384
              obtain ⟨cq455, kq455, q455a, q455b, q455c⟩ := isOf hZ rfl f445
              obtain ⟨_, _, ⟨T455, L455, k455, n455⟩, -, X455, ⟨Lc455, hQ455, l455, y455, z455⟩, st455⟩ := X438.virtualBack hx (y := (⟨"com/example/unwind/unwind/saga/Position", "equals", "(Ljava/lang/Object;)Z"⟩ : MethodName)) (z := (⟨"com/example/unwind/unwind/saga/Position", "equals", "(Ljava/lang/Object;)Z"⟩ : MethodName)) hown (mvT hZ (hw _ (List.mem_of_getElem? (i := 44) rfl))) (mvT hZ (hw _ (List.mem_of_getElem? (i := 45) rfl))) (notFace_of_selects (args := #[]) (mvT hZ (hw _ (List.mem_of_getElem? (i := 47) rfl)))) (mvT hZ (hw _ (List.mem_of_getElem? (i := 47) rfl))) (mvT hZ (hw _ (List.mem_of_getElem? (i := 46) rfl))) (by decide) (backOf (W := 0) (rm_eqI l Z a0 hw [] u365 u439 T438.heap n0 O453 p440) hZ (hw _ (List.mem_of_getElem? (i := 48) rfl)) (hw _ (List.mem_of_getElem? (i := 7) rfl)) (by decide) (by decide)) q455a q455c (g := (mkF m 179 #[.val (.int ia), .val (.int ib), .val (.int ie), .val (.int ig), .val (.int ik), .val (.int zc), .val (.int zb), .val (.int za), .val (.int zs), .val (.ref u365), .val (.ref u379), .val (.int (0 : Int32)), .val (.int (1 : Int32))] [(.ref u439), (.ref u365)])) rfl (by rw [hml]; rfl) (Steps.refl _) (argsL := [(.ref u439)]) (rest := []) (lenOf pd7 rfl) rfl (by show 2 * 0 + _ ≤ _; exact Nat.le_of_eq rfl) (hb hby at_179) (fun _ _ => ⟨rfl, rfl, (by decide : 7 + 0 ≤ _), (by decide : 55 + 0 ≤ _)⟩)
              dsimp only [Pt.U, Pt.locs, Pt.cells, Pt.slots] at X455 l455 y455 z455 st455 hQ455
              subst l455 y455 z455
              obtain ⟨rfl, Nq455, hh455⟩ := hQ455
              have N456 := Fr.app N441 Nq455
              refine GoH.via (T' := T455) (f' := (mkF m 182 #[.val (.int ia), .val (.int ib), .val (.int ie), .val (.int ig), .val (.int ik), .val (.int zc), .val (.int zb), .val (.int za), .val (.int zs), .val (.ref u365), .val (.ref u379), .val (.int (0 : Int32)), .val (.int (1 : Int32))] [(.int (0 : Int32))])) st455 ?_
              clear st455 X438 N441 Nq455
              refine GoH.step (T' := T455) (f' := (mkF m 185 #[.val (.int ia), .val (.int ib), .val (.int ie), .val (.int ig), .val (.int ik), .val (.int zc), .val (.int zb), .val (.int za), .val (.int zs), .val (.ref u365), .val (.ref u379), .val (.int (0 : Int32)), .val (.int (1 : Int32))] [])) (fun t k => XS.ifNo X455.here hx rfl (hb hby at_182) rfl ((if0 _ _).trans (teq (by decide : (0 : Int32) = (0 : Int32))).2) k) ?_
              refine GoH.step (T' := T455) (f' := (mkF m 186 #[.val (.int ia), .val (.int ib), .val (.int ie), .val (.int ig), .val (.int ik), .val (.int zc), .val (.int zb), .val (.int za), .val (.int zs), .val (.ref u365), .val (.ref u379), .val (.int (0 : Int32)), .val (.int (1 : Int32))] [(.int (1 : Int32))])) (fun t k => XS.iconst X455.here hx rfl (hb hby at_185) k) ?_
              refine GoH.step (T' := T455) (f' := (mkF m 190 #[.val (.int ia), .val (.int ib), .val (.int ie), .val (.int ig), .val (.int ik), .val (.int zc), .val (.int zb), .val (.int za), .val (.int zs), .val (.ref u365), .val (.ref u379), .val (.int (0 : Int32)), .val (.int (1 : Int32))] [(.int (1 : Int32))])) (fun t k => XS.goto X455.here hx rfl (pc0 := 186) (pc' := 190) rfl (hb hby at_186) (by decide) (by decide) k) ?_
              refine GoH.step (T' := T455) (f' := (mkF m 192 #[.val (.int ia), .val (.int ib), .val (.int ie), .val (.int ig), .val (.int ik), .val (.int zc), .val (.int zb), .val (.int za), .val (.int zs), .val (.ref u365), .val (.ref u379), .val (.int (0 : Int32)), .val (.int (1 : Int32))] [])) (fun t k => XS.istore X455.here hx rfl (hb hby at_190) rfl (l' := #[.val (.int ia), .val (.int ib), .val (.int ie), .val (.int ig), .val (.int ik), .val (.int zc), .val (.int zb), .val (.int za), .val (.int zs), .val (.ref u365), .val (.ref u379), .val (.int (0 : Int32)), .val (.int (1 : Int32))]) rfl k) ?_
              refine GoH.step (T' := T455) (f' := (mkF m 194 #[.val (.int ia), .val (.int ib), .val (.int ie), .val (.int ig), .val (.int ik), .val (.int zc), .val (.int zb), .val (.int za), .val (.int zs), .val (.ref u365), .val (.ref u379), .val (.int (0 : Int32)), .val (.int (1 : Int32))] [(.int (1 : Int32))])) (fun t k => XS.iload X455.here hx rfl (hb hby at_192) rfl k) ?_
              refine GoH.fin X455 hZ hEL hS378 hk444 CR443 hlk (v := some (.int (nar .boolean (1 : Int32)))) (fun h => by rw [Bd.returns] at h; cases h) (fun fs hr => retN X455 hx (t := .boolean) Bd.returns (by simp) (hb hby at_194) hr) hh455 ?_ (by decide) (by decide)
              exact ⟨rfl, N456, K454⟩
          ·
            refine GoH.step (T' := T378) (f' := (mkF m 90 #[.val (.int ia), .val (.int ib), .val (.int ie), .val (.int ig), .val (.int ik), .val (.int zc), .val (.int zb), .val (.int za), .val (.int zs), .val (.ref u365), .val (.ref u379), .unset, .unset] [])) (fun t k => XS.icmpYes X378.here hx rfl (pc0 := 76) (pc' := 90) rfl (hb hby at_76) rfl (feq hc397).2 (by decide) (by decide) k) ?_
            refine GoH.step (T' := T378) (f' := (mkF m 91 #[.val (.int ia), .val (.int ib), .val (.int ie), .val (.int ig), .val (.int ik), .val (.int zc), .val (.int zb), .val (.int za), .val (.int zs), .val (.ref u365), .val (.ref u379), .unset, .unset] [(.int (0 : Int32))])) (fun t k => XS.iconst X378.here hx rfl (hb hby at_90) k) ?_
            refine GoH.step (T' := T378) (f' := (mkF m 93 #[.val (.int ia), .val (.int ib), .val (.int ie), .val (.int ig), .val (.int ik), .val (.int zc), .val (.int zb), .val (.int za), .val (.int zs), .val (.ref u365), .val (.ref u379), .val (.int (0 : Int32)), .unset] [])) (fun t k => XS.istore X378.here hx rfl (hb hby at_91) rfl (l' := #[.val (.int ia), .val (.int ib), .val (.int ie), .val (.int ig), .val (.int ik), .val (.int zc), .val (.int zb), .val (.int za), .val (.int zs), .val (.ref u365), .val (.ref u379), .val (.int (0 : Int32)), .unset]) rfl k) ?_
            refine GoH.step (T' := T378) (f' := (mkF m 95 #[.val (.int ia), .val (.int ib), .val (.int ie), .val (.int ig), .val (.int ik), .val (.int zc), .val (.int zb), .val (.int za), .val (.int zs), .val (.ref u365), .val (.ref u379), .val (.int (0 : Int32)), .unset] [(.ref u365)])) (fun t k => XS.aload X378.here hx rfl (hb hby at_93) rfl rfl k) ?_
            refine GoH.step (T' := T378) (f' := (mkF m 97 #[.val (.int ia), .val (.int ib), .val (.int ie), .val (.int ig), .val (.int ik), .val (.int zc), .val (.int zb), .val (.int za), .val (.int zs), .val (.ref u365), .val (.ref u379), .val (.int (0 : Int32)), .unset] [(.ref u379), (.ref u365)])) (fun t k => XS.aload X378.here hx rfl (hb hby at_95) rfl rfl k) ?_
            obtain ⟨cq457, kq457, q457a, q457b, q457c⟩ := isOf hZ rfl f388
            obtain ⟨_, _, ⟨T457, L457, k457, n457⟩, -, X457, ⟨Lc457, hQ457, l457, y457, z457⟩, st457⟩ := X378.virtualBack hx (y := (⟨"com/example/unwind/unwind/saga/Position", "equals", "(Ljava/lang/Object;)Z"⟩ : MethodName)) (z := (⟨"com/example/unwind/unwind/saga/Position", "equals", "(Ljava/lang/Object;)Z"⟩ : MethodName)) hown (mvT hZ (hw _ (List.mem_of_getElem? (i := 44) rfl))) (mvT hZ (hw _ (List.mem_of_getElem? (i := 45) rfl))) (notFace_of_selects (args := #[]) (mvT hZ (hw _ (List.mem_of_getElem? (i := 47) rfl)))) (mvT hZ (hw _ (List.mem_of_getElem? (i := 47) rfl))) (mvT hZ (hw _ (List.mem_of_getElem? (i := 46) rfl))) (by decide) (backOf (W := 0) (rm_eqPP l Z a0 hw [] u365 u379 (own_sa zc z_RUNNING z_ROLLING_BACK z_COMPLETED z_ROLLED_BACK) za (own_sa zb z_RUNNING z_ROLLING_BACK z_COMPLETED z_ROLLED_BACK) zs T378.heap n0 O392 p381 f389 f390 f391 p382 p383 p384) hZ (hw _ (List.mem_of_getElem? (i := 48) rfl)) (hw _ (List.mem_of_getElem? (i := 7) rfl)) (by decide) (by decide)) q457a q457c (g := (mkF m 97 #[.val (.int ia), .val (.int ib), .val (.int ie), .val (.int ig), .val (.int ik), .val (.int zc), .val (.int zb), .val (.int za), .val (.int zs), .val (.ref u365), .val (.ref u379), .val (.int (0 : Int32)), .unset] [(.ref u379), (.ref u365)])) rfl (by rw [hml]; rfl) (Steps.refl _) (argsL := [(.ref u379)]) (rest := []) (lenOf pd7 rfl) rfl (by show 2 * 0 + _ ≤ _; exact Nat.le_of_eq rfl) (hb hby at_97) (fun _ _ => ⟨rfl, rfl, (by decide : 6 + 0 ≤ _), (by decide : 54 + 0 ≤ _)⟩)
            dsimp only [Pt.U, Pt.locs, Pt.cells, Pt.slots] at X457 l457 y457 z457 st457 hQ457
            subst l457 y457 z457
            obtain ⟨rfl, Nq457, hh457⟩ := hQ457
            have N458 := Fr.app N385 Nq457
            refine GoH.via (T' := T457) (f' := (mkF m 100 #[.val (.int ia), .val (.int ib), .val (.int ie), .val (.int ig), .val (.int ik), .val (.int zc), .val (.int zb), .val (.int za), .val (.int zs), .val (.ref u365), .val (.ref u379), .val (.int (0 : Int32)), .unset] [(.int (if (own_sa zc z_RUNNING z_ROLLING_BACK z_COMPLETED z_ROLLED_BACK) = (own_sa zb z_RUNNING z_ROLLING_BACK z_COMPLETED z_ROLLED_BACK) ∧ za = zs then (1 : Int32) else 0))])) st457 ?_
            clear st457 X378 N385 Nq457
            refine GoH.step (T' := T457) (f' := (mkF m 102 #[.val (.int ia), .val (.int ib), .val (.int ie), .val (.int ig), .val (.int ik), .val (.int zc), .val (.int zb), .val (.int za), .val (.int zs), .val (.ref u365), .val (.ref u379), .val (.int (0 : Int32)), .unset] [(.int (0 : Int32)), (.int (if (own_sa zc z_RUNNING z_ROLLING_BACK z_COMPLETED z_ROLLED_BACK) = (own_sa zb z_RUNNING z_ROLLING_BACK z_COMPLETED z_ROLLED_BACK) ∧ za = zs then (1 : Int32) else 0))])) (fun t k => XS.iload X457.here hx rfl (hb hby at_100) rfl k) ?_
            have hc459 : (if (own_sa zc z_RUNNING z_ROLLING_BACK z_COMPLETED z_ROLLED_BACK) = (own_sa zb z_RUNNING z_ROLLING_BACK z_COMPLETED z_ROLLED_BACK) ∧ za = zs then (1 : Int32) else 0) = (0 : Int32) := by
              simp [own_saI hA hB P10 P12 P13 P15 P16 P19, hc397]
            refine GoH.step (T' := T457) (f' := (mkF m 105 #[.val (.int ia), .val (.int ib), .val (.int ie), .val (.int ig), .val (.int ik), .val (.int zc), .val (.int zb), .val (.int za), .val (.int zs), .val (.ref u365), .val (.ref u379), .val (.int (0 : Int32)), .unset] [])) (fun t k => XS.icmpNo X457.here hx rfl (hb hby at_102) rfl (teq hc459).2 k) ?_
            refine GoH.step (T' := T457) (f' := (mkF m 107 #[.val (.int ia), .val (.int ib), .val (.int ie), .val (.int ig), .val (.int ik), .val (.int zc), .val (.int zb), .val (.int za), .val (.int zs), .val (.ref u365), .val (.ref u379), .val (.int (0 : Int32)), .unset] [(.ref u379)])) (fun t k => XS.aload X457.here hx rfl (hb hby at_105) rfl rfl k) ?_
            refine GoH.step (T' := T457) (f' := (mkF m 109 #[.val (.int ia), .val (.int ib), .val (.int ie), .val (.int ig), .val (.int ik), .val (.int zc), .val (.int zb), .val (.int za), .val (.int zs), .val (.ref u365), .val (.ref u379), .val (.int (0 : Int32)), .unset] [(.ref u365), (.ref u379)])) (fun t k => XS.aload X457.here hx rfl (hb hby at_107) rfl rfl k) ?_
            obtain ⟨cq460, kq460, q460a, q460b, q460c⟩ := isOf hZ hh457 p381
            obtain ⟨_, _, ⟨T460, L460, k460, n460⟩, -, X460, ⟨Lc460, hQ460, l460, y460, z460⟩, st460⟩ := X457.virtualBack hx (y := (⟨"com/example/unwind/unwind/saga/Position", "equals", "(Ljava/lang/Object;)Z"⟩ : MethodName)) (z := (⟨"com/example/unwind/unwind/saga/Position", "equals", "(Ljava/lang/Object;)Z"⟩ : MethodName)) hown (mvT hZ (hw _ (List.mem_of_getElem? (i := 44) rfl))) (mvT hZ (hw _ (List.mem_of_getElem? (i := 45) rfl))) (notFace_of_selects (args := #[]) (mvT hZ (hw _ (List.mem_of_getElem? (i := 47) rfl)))) (mvT hZ (hw _ (List.mem_of_getElem? (i := 47) rfl))) (mvT hZ (hw _ (List.mem_of_getElem? (i := 46) rfl))) (by decide) (backOf (W := 0) (rm_eqPP l Z a0 hw [] u379 u365 (own_sa zb z_RUNNING z_ROLLING_BACK z_COMPLETED z_ROLLED_BACK) zs (own_sa zc z_RUNNING z_ROLLING_BACK z_COMPLETED z_ROLLED_BACK) za T378.heap n0 O392 f388 p382 p383 p384 f389 f390 f391) hZ (hw _ (List.mem_of_getElem? (i := 48) rfl)) (hw _ (List.mem_of_getElem? (i := 7) rfl)) (by decide) (by decide)) q460a q460c (g := (mkF m 109 #[.val (.int ia), .val (.int ib), .val (.int ie), .val (.int ig), .val (.int ik), .val (.int zc), .val (.int zb), .val (.int za), .val (.int zs), .val (.ref u365), .val (.ref u379), .val (.int (0 : Int32)), .unset] [(.ref u365), (.ref u379)])) rfl (by rw [hml]; rfl) (Steps.refl _) (argsL := [(.ref u365)]) (rest := []) (lenOf pd7 rfl) rfl (by show 2 * 0 + _ ≤ _; exact Nat.le_of_eq rfl) (hb hby at_109) (fun _ _ => ⟨rfl, hh457, (by decide : 6 + 0 ≤ _), (by decide : 54 + 0 ≤ _)⟩)
            dsimp only [Pt.U, Pt.locs, Pt.cells, Pt.slots] at X460 l460 y460 z460 st460 hQ460
            subst l460 y460 z460
            obtain ⟨rfl, Nq460, hh460⟩ := hQ460
            have N461 := Fr.app N458 Nq460
            refine GoH.via (T' := T460) (f' := (mkF m 112 #[.val (.int ia), .val (.int ib), .val (.int ie), .val (.int ig), .val (.int ik), .val (.int zc), .val (.int zb), .val (.int za), .val (.int zs), .val (.ref u365), .val (.ref u379), .val (.int (0 : Int32)), .unset] [(.int (if (own_sa zb z_RUNNING z_ROLLING_BACK z_COMPLETED z_ROLLED_BACK) = (own_sa zc z_RUNNING z_ROLLING_BACK z_COMPLETED z_ROLLED_BACK) ∧ zs = za then (1 : Int32) else 0))])) st460 ?_
            clear st460 X457 N458 Nq460
            refine GoH.step (T' := T460) (f' := (mkF m 114 #[.val (.int ia), .val (.int ib), .val (.int ie), .val (.int ig), .val (.int ik), .val (.int zc), .val (.int zb), .val (.int za), .val (.int zs), .val (.ref u365), .val (.ref u379), .val (.int (0 : Int32)), .unset] [(.int (0 : Int32)), (.int (if (own_sa zb z_RUNNING z_ROLLING_BACK z_COMPLETED z_ROLLED_BACK) = (own_sa zc z_RUNNING z_ROLLING_BACK z_COMPLETED z_ROLLED_BACK) ∧ zs = za then (1 : Int32) else 0))])) (fun t k => XS.iload X460.here hx rfl (hb hby at_112) rfl k) ?_
            have hc462 : (if (own_sa zb z_RUNNING z_ROLLING_BACK z_COMPLETED z_ROLLED_BACK) = (own_sa zc z_RUNNING z_ROLLING_BACK z_COMPLETED z_ROLLED_BACK) ∧ zs = za then (1 : Int32) else 0) = (0 : Int32) := by
              simp [own_saI hB hA P10 P12 P13 P15 P16 P19, (Ne.symm hc397)]
            refine GoH.step (T' := T460) (f' := (mkF m 117 #[.val (.int ia), .val (.int ib), .val (.int ie), .val (.int ig), .val (.int ik), .val (.int zc), .val (.int zb), .val (.int za), .val (.int zs), .val (.ref u365), .val (.ref u379), .val (.int (0 : Int32)), .unset] [])) (fun t k => XS.icmpNo X460.here hx rfl (hb hby at_114) rfl (teq hc462).2 k) ?_
            refine GoH.step (T' := T460) (f' := (mkF m 118 #[.val (.int ia), .val (.int ib), .val (.int ie), .val (.int ig), .val (.int ik), .val (.int zc), .val (.int zb), .val (.int za), .val (.int zs), .val (.ref u365), .val (.ref u379), .val (.int (0 : Int32)), .unset] [(.int (1 : Int32))])) (fun t k => XS.iconst X460.here hx rfl (hb hby at_117) k) ?_
            refine GoH.step (T' := T460) (f' := (mkF m 122 #[.val (.int ia), .val (.int ib), .val (.int ie), .val (.int ig), .val (.int ik), .val (.int zc), .val (.int zb), .val (.int za), .val (.int zs), .val (.ref u365), .val (.ref u379), .val (.int (0 : Int32)), .unset] [(.int (1 : Int32))])) (fun t k => XS.goto X460.here hx rfl (pc0 := 118) (pc' := 122) rfl (hb hby at_118) (by decide) (by decide) k) ?_
            refine GoH.step (T' := T460) (f' := (mkF m 124 #[.val (.int ia), .val (.int ib), .val (.int ie), .val (.int ig), .val (.int ik), .val (.int zc), .val (.int zb), .val (.int za), .val (.int zs), .val (.ref u365), .val (.ref u379), .val (.int (0 : Int32)), .val (.int (1 : Int32))] [])) (fun t k => XS.istore X460.here hx rfl (hb hby at_122) rfl (l' := #[.val (.int ia), .val (.int ib), .val (.int ie), .val (.int ig), .val (.int ik), .val (.int zc), .val (.int zb), .val (.int za), .val (.int zs), .val (.ref u365), .val (.ref u379), .val (.int (0 : Int32)), .val (.int (1 : Int32))]) rfl k) ?_
            refine GoH.step (T' := T460) (f' := (mkF m 126 #[.val (.int ia), .val (.int ib), .val (.int ie), .val (.int ig), .val (.int ik), .val (.int zc), .val (.int zb), .val (.int za), .val (.int zs), .val (.ref u365), .val (.ref u379), .val (.int (0 : Int32)), .val (.int (1 : Int32))] [(.int (1 : Int32))])) (fun t k => XS.iload X460.here hx rfl (hb hby at_124) rfl k) ?_
            refine GoH.step (T' := T460) (f' := (mkF m 129 #[.val (.int ia), .val (.int ib), .val (.int ie), .val (.int ig), .val (.int ik), .val (.int zc), .val (.int zb), .val (.int za), .val (.int zs), .val (.ref u365), .val (.ref u379), .val (.int (0 : Int32)), .val (.int (1 : Int32))] [])) (fun t k => XS.ifNo X460.here hx rfl (hb hby at_126) rfl ((if0 _ _).trans (feq (by decide : ¬ ((1 : Int32) = (0 : Int32)))).1) k) ?_
            refine GoH.step (T' := T460) (f' := (mkF m 131 #[.val (.int ia), .val (.int ib), .val (.int ie), .val (.int ig), .val (.int ik), .val (.int zc), .val (.int zb), .val (.int za), .val (.int zs), .val (.ref u365), .val (.ref u379), .val (.int (0 : Int32)), .val (.int (1 : Int32))] [(.ref u365)])) (fun t k => XS.aload X460.here hx rfl (hb hby at_129) rfl rfl k) ?_
            refine GoH.step (T' := T460) (f' := (mkF m 133 #[.val (.int ia), .val (.int ib), .val (.int ie), .val (.int ig), .val (.int ik), .val (.int zc), .val (.int zb), .val (.int za), .val (.int zs), .val (.ref u365), .val (.ref u379), .val (.int (0 : Int32)), .val (.int (1 : Int32))] [(.ref u365), (.ref u365)])) (fun t k => XS.aload X460.here hx rfl (hb hby at_131) rfl rfl k) ?_
            obtain ⟨cq463, kq463, q463a, q463b, q463c⟩ := isOf hZ hh460 f388
            obtain ⟨_, _, ⟨T463, L463, k463, n463⟩, -, X463, ⟨Lc463, hQ463, l463, y463, z463⟩, st463⟩ := X460.virtualBack hx (y := (⟨"com/example/unwind/unwind/saga/Position", "equals", "(Ljava/lang/Object;)Z"⟩ : MethodName)) (z := (⟨"com/example/unwind/unwind/saga/Position", "equals", "(Ljava/lang/Object;)Z"⟩ : MethodName)) hown (mvT hZ (hw _ (List.mem_of_getElem? (i := 44) rfl))) (mvT hZ (hw _ (List.mem_of_getElem? (i := 45) rfl))) (notFace_of_selects (args := #[]) (mvT hZ (hw _ (List.mem_of_getElem? (i := 47) rfl)))) (mvT hZ (hw _ (List.mem_of_getElem? (i := 47) rfl))) (mvT hZ (hw _ (List.mem_of_getElem? (i := 46) rfl))) (by decide) (backOf (W := 0) (rm_eq1P l Z a0 hw [] u365 (own_sa zc z_RUNNING z_ROLLING_BACK z_COMPLETED z_ROLLED_BACK) za T378.heap n0 O392 f388 f389 f390 f391) hZ (hw _ (List.mem_of_getElem? (i := 48) rfl)) (hw _ (List.mem_of_getElem? (i := 7) rfl)) (by decide) (by decide)) q463a q463c (g := (mkF m 133 #[.val (.int ia), .val (.int ib), .val (.int ie), .val (.int ig), .val (.int ik), .val (.int zc), .val (.int zb), .val (.int za), .val (.int zs), .val (.ref u365), .val (.ref u379), .val (.int (0 : Int32)), .val (.int (1 : Int32))] [(.ref u365), (.ref u365)])) rfl (by rw [hml]; rfl) (Steps.refl _) (argsL := [(.ref u365)]) (rest := []) (lenOf pd7 rfl) rfl (by show 2 * 0 + _ ≤ _; exact Nat.le_of_eq rfl) (hb hby at_133) (fun _ _ => ⟨rfl, hh460, (by decide : 6 + 0 ≤ _), (by decide : 54 + 0 ≤ _)⟩)
            dsimp only [Pt.U, Pt.locs, Pt.cells, Pt.slots] at X463 l463 y463 z463 st463 hQ463
            subst l463 y463 z463
            obtain ⟨rfl, Nq463, hh463⟩ := hQ463
            have N464 := Fr.app N461 Nq463
            refine GoH.via (T' := T463) (f' := (mkF m 136 #[.val (.int ia), .val (.int ib), .val (.int ie), .val (.int ig), .val (.int ik), .val (.int zc), .val (.int zb), .val (.int za), .val (.int zs), .val (.ref u365), .val (.ref u379), .val (.int (0 : Int32)), .val (.int (1 : Int32))] [(.int (1 : Int32))])) st463 ?_
            clear st463 X460 N461 Nq463
            refine GoH.step (T' := T463) (f' := (mkF m 139 #[.val (.int ia), .val (.int ib), .val (.int ie), .val (.int ig), .val (.int ik), .val (.int zc), .val (.int zb), .val (.int za), .val (.int zs), .val (.ref u365), .val (.ref u379), .val (.int (0 : Int32)), .val (.int (1 : Int32))] [])) (fun t k => XS.ifNo X463.here hx rfl (hb hby at_136) rfl ((if0 _ _).trans (feq (by decide : ¬ ((1 : Int32) = (0 : Int32)))).1) k) ?_
            refine GoH.step (T' := T463) (f' := (mkF m 140 #[.val (.int ia), .val (.int ib), .val (.int ie), .val (.int ig), .val (.int ik), .val (.int zc), .val (.int zb), .val (.int za), .val (.int zs), .val (.ref u365), .val (.ref u379), .val (.int (0 : Int32)), .val (.int (1 : Int32))] [(.int (1 : Int32))])) (fun t k => XS.iconst X463.here hx rfl (hb hby at_139) k) ?_
            refine GoH.step (T' := T463) (f' := (mkF m 144 #[.val (.int ia), .val (.int ib), .val (.int ie), .val (.int ig), .val (.int ik), .val (.int zc), .val (.int zb), .val (.int za), .val (.int zs), .val (.ref u365), .val (.ref u379), .val (.int (0 : Int32)), .val (.int (1 : Int32))] [(.int (1 : Int32))])) (fun t k => XS.goto X463.here hx rfl (pc0 := 140) (pc' := 144) rfl (hb hby at_140) (by decide) (by decide) k) ?_
            refine GoH.step (T' := T463) (f' := (mkF m 146 #[.val (.int ia), .val (.int ib), .val (.int ie), .val (.int ig), .val (.int ik), .val (.int zc), .val (.int zb), .val (.int za), .val (.int zs), .val (.ref u365), .val (.ref u379), .val (.int (0 : Int32)), .val (.int (1 : Int32))] [])) (fun t k => XS.istore X463.here hx rfl (hb hby at_144) rfl (l' := #[.val (.int ia), .val (.int ib), .val (.int ie), .val (.int ig), .val (.int ik), .val (.int zc), .val (.int zb), .val (.int za), .val (.int zs), .val (.ref u365), .val (.ref u379), .val (.int (0 : Int32)), .val (.int (1 : Int32))]) rfl k) ?_
            refine GoH.step (T' := T463) (f' := (mkF m 148 #[.val (.int ia), .val (.int ib), .val (.int ie), .val (.int ig), .val (.int ik), .val (.int zc), .val (.int zb), .val (.int za), .val (.int zs), .val (.ref u365), .val (.ref u379), .val (.int (0 : Int32)), .val (.int (1 : Int32))] [(.int (1 : Int32))])) (fun t k => XS.iload X463.here hx rfl (hb hby at_146) rfl k) ?_
            refine GoH.step (T' := T463) (f' := (mkF m 151 #[.val (.int ia), .val (.int ib), .val (.int ie), .val (.int ig), .val (.int ik), .val (.int zc), .val (.int zb), .val (.int za), .val (.int zs), .val (.ref u365), .val (.ref u379), .val (.int (0 : Int32)), .val (.int (1 : Int32))] [])) (fun t k => XS.ifNo X463.here hx rfl (hb hby at_148) rfl ((if0 _ _).trans (feq (by decide : ¬ ((1 : Int32) = (0 : Int32)))).1) k) ?_
            refine GoH.step (T' := T463) (f' := (mkF m 153 #[.val (.int ia), .val (.int ib), .val (.int ie), .val (.int ig), .val (.int ik), .val (.int zc), .val (.int zb), .val (.int za), .val (.int zs), .val (.ref u365), .val (.ref u379), .val (.int (0 : Int32)), .val (.int (1 : Int32))] [(.ref u365)])) (fun t k => XS.aload X463.here hx rfl (hb hby at_151) rfl rfl k) ?_
            refine GoH.step (T' := T463) (f' := (mkF m 154 #[.val (.int ia), .val (.int ib), .val (.int ie), .val (.int ig), .val (.int ik), .val (.int zc), .val (.int zb), .val (.int za), .val (.int zs), .val (.ref u365), .val (.ref u379), .val (.int (0 : Int32)), .val (.int (1 : Int32))] [.null, (.ref u365)])) (fun t k => XS.aconstNull X463.here hx rfl (hb hby at_153) k) ?_
            obtain ⟨cq465, kq465, q465a, q465b, q465c⟩ := isOf hZ hh463 f388
            obtain ⟨_, _, ⟨T465, L465, k465, n465⟩, -, X465, ⟨Lc465, hQ465, l465, y465, z465⟩, st465⟩ := X463.virtualBack hx (y := (⟨"com/example/unwind/unwind/saga/Position", "equals", "(Ljava/lang/Object;)Z"⟩ : MethodName)) (z := (⟨"com/example/unwind/unwind/saga/Position", "equals", "(Ljava/lang/Object;)Z"⟩ : MethodName)) hown (mvT hZ (hw _ (List.mem_of_getElem? (i := 44) rfl))) (mvT hZ (hw _ (List.mem_of_getElem? (i := 45) rfl))) (notFace_of_selects (args := #[]) (mvT hZ (hw _ (List.mem_of_getElem? (i := 47) rfl)))) (mvT hZ (hw _ (List.mem_of_getElem? (i := 47) rfl))) (mvT hZ (hw _ (List.mem_of_getElem? (i := 46) rfl))) (by decide) (backOf (W := 0) (rm_eqN l Z a0 hw [] u365 T378.heap n0 O392 ) hZ (hw _ (List.mem_of_getElem? (i := 48) rfl)) (hw _ (List.mem_of_getElem? (i := 7) rfl)) (by decide) (by decide)) q465a q465c (g := (mkF m 154 #[.val (.int ia), .val (.int ib), .val (.int ie), .val (.int ig), .val (.int ik), .val (.int zc), .val (.int zb), .val (.int za), .val (.int zs), .val (.ref u365), .val (.ref u379), .val (.int (0 : Int32)), .val (.int (1 : Int32))] [.null, (.ref u365)])) rfl (by rw [hml]; rfl) (Steps.refl _) (argsL := [.null]) (rest := []) (lenOf pd7 rfl) rfl (by show 2 * 0 + _ ≤ _; exact Nat.le_of_eq rfl) (hb hby at_154) (fun _ _ => ⟨rfl, hh463, (by decide : 6 + 0 ≤ _), (by decide : 54 + 0 ≤ _)⟩)
            dsimp only [Pt.U, Pt.locs, Pt.cells, Pt.slots] at X465 l465 y465 z465 st465 hQ465
            subst l465 y465 z465
            obtain ⟨rfl, Nq465, hh465⟩ := hQ465
            have N466 := Fr.app N464 Nq465
            refine GoH.via (T' := T465) (f' := (mkF m 157 #[.val (.int ia), .val (.int ib), .val (.int ie), .val (.int ig), .val (.int ik), .val (.int zc), .val (.int zb), .val (.int za), .val (.int zs), .val (.ref u365), .val (.ref u379), .val (.int (0 : Int32)), .val (.int (1 : Int32))] [(.int (0 : Int32))])) st465 ?_
            clear st465 X463 N464 Nq465
            refine GoH.step (T' := T465) (f' := (mkF m 160 #[.val (.int ia), .val (.int ib), .val (.int ie), .val (.int ig), .val (.int ik), .val (.int zc), .val (.int zb), .val (.int za), .val (.int zs), .val (.ref u365), .val (.ref u379), .val (.int (0 : Int32)), .val (.int (1 : Int32))] [])) (fun t k => XS.ifNo X465.here hx rfl (hb hby at_157) rfl ((if0 _ _).trans (teq (by decide : (0 : Int32) = (0 : Int32))).2) k) ?_
            refine GoH.step (T' := T465) (f' := (mkF m 161 #[.val (.int ia), .val (.int ib), .val (.int ie), .val (.int ig), .val (.int ik), .val (.int zc), .val (.int zb), .val (.int za), .val (.int zs), .val (.ref u365), .val (.ref u379), .val (.int (0 : Int32)), .val (.int (1 : Int32))] [(.int (1 : Int32))])) (fun t k => XS.iconst X465.here hx rfl (hb hby at_160) k) ?_
            refine GoH.step (T' := T465) (f' := (mkF m 165 #[.val (.int ia), .val (.int ib), .val (.int ie), .val (.int ig), .val (.int ik), .val (.int zc), .val (.int zb), .val (.int za), .val (.int zs), .val (.ref u365), .val (.ref u379), .val (.int (0 : Int32)), .val (.int (1 : Int32))] [(.int (1 : Int32))])) (fun t k => XS.goto X465.here hx rfl (pc0 := 161) (pc' := 165) rfl (hb hby at_161) (by decide) (by decide) k) ?_
            refine GoH.step (T' := T465) (f' := (mkF m 167 #[.val (.int ia), .val (.int ib), .val (.int ie), .val (.int ig), .val (.int ik), .val (.int zc), .val (.int zb), .val (.int za), .val (.int zs), .val (.ref u365), .val (.ref u379), .val (.int (0 : Int32)), .val (.int (1 : Int32))] [])) (fun t k => XS.istore X465.here hx rfl (hb hby at_165) rfl (l' := #[.val (.int ia), .val (.int ib), .val (.int ie), .val (.int ig), .val (.int ik), .val (.int zc), .val (.int zb), .val (.int za), .val (.int zs), .val (.ref u365), .val (.ref u379), .val (.int (0 : Int32)), .val (.int (1 : Int32))]) rfl k) ?_
            refine GoH.step (T' := T465) (f' := (mkF m 169 #[.val (.int ia), .val (.int ib), .val (.int ie), .val (.int ig), .val (.int ik), .val (.int zc), .val (.int zb), .val (.int za), .val (.int zs), .val (.ref u365), .val (.ref u379), .val (.int (0 : Int32)), .val (.int (1 : Int32))] [(.int (1 : Int32))])) (fun t k => XS.iload X465.here hx rfl (hb hby at_167) rfl k) ?_
            refine GoH.step (T' := T465) (f' := (mkF m 172 #[.val (.int ia), .val (.int ib), .val (.int ie), .val (.int ig), .val (.int ik), .val (.int zc), .val (.int zb), .val (.int za), .val (.int zs), .val (.ref u365), .val (.ref u379), .val (.int (0 : Int32)), .val (.int (1 : Int32))] [])) (fun t k => XS.ifNo X465.here hx rfl (hb hby at_169) rfl ((if0 _ _).trans (feq (by decide : ¬ ((1 : Int32) = (0 : Int32)))).1) k) ?_
            refine GoH.step (T' := T465) (f' := (mkF m 174 #[.val (.int ia), .val (.int ib), .val (.int ie), .val (.int ig), .val (.int ik), .val (.int zc), .val (.int zb), .val (.int za), .val (.int zs), .val (.ref u365), .val (.ref u379), .val (.int (0 : Int32)), .val (.int (1 : Int32))] [(.ref u365)])) (fun t k => XS.aload X465.here hx rfl (hb hby at_172) rfl rfl k) ?_
            refine GoH.step (T' := T465) (f' := (mkF m 176 #[.val (.int ia), .val (.int ib), .val (.int ie), .val (.int ig), .val (.int ik), .val (.int zc), .val (.int zb), .val (.int za), .val (.int zs), .val (.ref u365), .val (.ref u379), .val (.int (0 : Int32)), .val (.int (1 : Int32))] [(.int za), (.ref u365)])) (fun t k => XS.iload X465.here hx rfl (hb hby at_174) rfl k) ?_
            obtain ⟨_, _, ⟨T467, L467, k467, n467⟩, -, X467, ⟨Lc467, hQ467, l467, y467, z467⟩, st467⟩ := Jvm.LawKit.callS X465 hx (y := (⟨"java/lang/Integer", "valueOf", "(I)Ljava/lang/Integer;"⟩ : MethodName)) hown (mvT hZ (hw _ (List.mem_of_getElem? (i := 51) rfl))) (mvT hZ (hw _ (List.mem_of_getElem? (i := 52) rfl))) (mvT hZ (hw _ (List.mem_of_getElem? (i := 53) rfl))) (mvT hZ (hw _ (List.mem_of_getElem? (i := 54) rfl))) (by decide) (backOf (W := 1) (rm_ival l Z a0 hw [] za wc cc T378.heap n0 O392 P20 P21 hbx (hza)) hZ (hw _ (List.mem_of_getElem? (i := 54) rfl)) (hw _ (List.mem_of_getElem? (i := 53) rfl)) (by decide) (by decide)) (g := (mkF m 176 #[.val (.int ia), .val (.int ib), .val (.int ie), .val (.int ig), .val (.int ik), .val (.int zc), .val (.int zb), .val (.int za), .val (.int zs), .val (.ref u365), .val (.ref u379), .val (.int (0 : Int32)), .val (.int (1 : Int32))] [(.int za), (.ref u365)])) rfl (by rw [hml]; rfl) (argsL := [(.int za)]) (rest := [(.ref u365)]) (lenOf pd8 rfl) rfl (by show 2 * 0 + _ ≤ _; exact Nat.le_of_eq rfl) (hb hby at_176) (fun _ _ => ⟨rfl, hh465, (by decide : 6 + 1 ≤ _), (by decide : 54 + 1 ≤ _)⟩)
            dsimp only [Pt.U, Pt.locs, Pt.cells, Pt.slots] at X467 l467 y467 z467 st467 hQ467
            subst l467 y467 z467
            obtain ⟨u468, rfl, Nq467, hh467, p469⟩ := hQ467
            have N470 := Fr.app N466 Nq467
            have sz471 : ∀ x ∈ ([] : List Addr), Safe Z own_EL T378.vm T378.heap x := sf0
            have CR472 := CR386.trans (CHr.keep hh467 sz471 CR386.1)
            have hk473 := Nat.le_trans hk387 hh467.1
            have f474 := f388.keep hh467
            have f475 := f389.keep hh467 nin0
            have f476 := f390.keep hh467 nin0
            have f477 := f391.keep hh467 nin0
            have f478 := p381.keep hh467
            have f479 := p382.keep hh467 nin0
            have f480 := p383.keep hh467 nin0
            have f481 := p384.keep hh467 nin0
            have O482 := O392.keep hh467 all0
            have K483 := K393.trans hh467 all0
            refine GoH.step (T' := T467) (f' := (mkF m 179 #[.val (.int ia), .val (.int ib), .val (.int ie), .val (.int ig), .val (.int ik), .val (.int zc), .val (.int zb), .val (.int za), .val (.int zs), .val (.ref u365), .val (.ref u379), .val (.int (0 : Int32)), .val (.int (1 : Int32))] [(.ref u468), (.ref u365)])) st467 ?_
            clear st467 X465 N466 Nq467 CR386 hk387 sz471 f389 f390 f391 p382 p383 p384
            obtain ⟨cq484, kq484, q484a, q484b, q484c⟩ := isOf hZ rfl f474
            obtain ⟨_, _, ⟨T484, L484, k484, n484⟩, -, X484, ⟨Lc484, hQ484, l484, y484, z484⟩, st484⟩ := X467.virtualBack hx (y := (⟨"com/example/unwind/unwind/saga/Position", "equals", "(Ljava/lang/Object;)Z"⟩ : MethodName)) (z := (⟨"com/example/unwind/unwind/saga/Position", "equals", "(Ljava/lang/Object;)Z"⟩ : MethodName)) hown (mvT hZ (hw _ (List.mem_of_getElem? (i := 44) rfl))) (mvT hZ (hw _ (List.mem_of_getElem? (i := 45) rfl))) (notFace_of_selects (args := #[]) (mvT hZ (hw _ (List.mem_of_getElem? (i := 47) rfl)))) (mvT hZ (hw _ (List.mem_of_getElem? (i := 47) rfl))) (mvT hZ (hw _ (List.mem_of_getElem? (i := 46) rfl))) (by decide) (backOf (W := 0) (rm_eqI l Z a0 hw [] u365 u468 T467.heap n0 O482 p469) hZ (hw _ (List.mem_of_getElem? (i := 48) rfl)) (hw _ (List.mem_of_getElem? (i := 7) rfl)) (by decide) (by decide)) q484a q484c (g := (mkF m 179 #[.val (.int ia), .val (.int ib), .val (.int ie), .val (.int ig), .val (.int ik), .val (.int zc), .val (.int zb), .val (.int za), .val (.int zs), .val (.ref u365), .val (.ref u379), .val (.int (0 : Int32)), .val (.int (1 : Int32))] [(.ref u468), (.ref u365)])) rfl (by rw [hml]; rfl) (Steps.refl _) (argsL := [(.ref u468)]) (rest := []) (lenOf pd7 rfl) rfl (by show 2 * 0 + _ ≤ _; exact Nat.le_of_eq rfl) (hb hby at_179) (fun _ _ => ⟨rfl, rfl, (by decide : 7 + 0 ≤ _), (by decide : 55 + 0 ≤ _)⟩)
            dsimp only [Pt.U, Pt.locs, Pt.cells, Pt.slots] at X484 l484 y484 z484 st484 hQ484
            subst l484 y484 z484
            obtain ⟨rfl, Nq484, hh484⟩ := hQ484
            have N485 := Fr.app N470 Nq484
            refine GoH.via (T' := T484) (f' := (mkF m 182 #[.val (.int ia), .val (.int ib), .val (.int ie), .val (.int ig), .val (.int ik), .val (.int zc), .val (.int zb), .val (.int za), .val (.int zs), .val (.ref u365), .val (.ref u379), .val (.int (0 : Int32)), .val (.int (1 : Int32))] [(.int (0 : Int32))])) st484 ?_
            clear st484 X467 N470 Nq484
            refine GoH.step (T' := T484) (f' := (mkF m 185 #[.val (.int ia), .val (.int ib), .val (.int ie), .val (.int ig), .val (.int ik), .val (.int zc), .val (.int zb), .val (.int za), .val (.int zs), .val (.ref u365), .val (.ref u379), .val (.int (0 : Int32)), .val (.int (1 : Int32))] [])) (fun t k => XS.ifNo X484.here hx rfl (hb hby at_182) rfl ((if0 _ _).trans (teq (by decide : (0 : Int32) = (0 : Int32))).2) k) ?_
            refine GoH.step (T' := T484) (f' := (mkF m 186 #[.val (.int ia), .val (.int ib), .val (.int ie), .val (.int ig), .val (.int ik), .val (.int zc), .val (.int zb), .val (.int za), .val (.int zs), .val (.ref u365), .val (.ref u379), .val (.int (0 : Int32)), .val (.int (1 : Int32))] [(.int (1 : Int32))])) (fun t k => XS.iconst X484.here hx rfl (hb hby at_185) k) ?_
            refine GoH.step (T' := T484) (f' := (mkF m 190 #[.val (.int ia), .val (.int ib), .val (.int ie), .val (.int ig), .val (.int ik), .val (.int zc), .val (.int zb), .val (.int za), .val (.int zs), .val (.ref u365), .val (.ref u379), .val (.int (0 : Int32)), .val (.int (1 : Int32))] [(.int (1 : Int32))])) (fun t k => XS.goto X484.here hx rfl (pc0 := 186) (pc' := 190) rfl (hb hby at_186) (by decide) (by decide) k) ?_
            refine GoH.step (T' := T484) (f' := (mkF m 192 #[.val (.int ia), .val (.int ib), .val (.int ie), .val (.int ig), .val (.int ik), .val (.int zc), .val (.int zb), .val (.int za), .val (.int zs), .val (.ref u365), .val (.ref u379), .val (.int (0 : Int32)), .val (.int (1 : Int32))] [])) (fun t k => XS.istore X484.here hx rfl (hb hby at_190) rfl (l' := #[.val (.int ia), .val (.int ib), .val (.int ie), .val (.int ig), .val (.int ik), .val (.int zc), .val (.int zb), .val (.int za), .val (.int zs), .val (.ref u365), .val (.ref u379), .val (.int (0 : Int32)), .val (.int (1 : Int32))]) rfl k) ?_
            refine GoH.step (T' := T484) (f' := (mkF m 194 #[.val (.int ia), .val (.int ib), .val (.int ie), .val (.int ig), .val (.int ik), .val (.int zc), .val (.int zb), .val (.int za), .val (.int zs), .val (.ref u365), .val (.ref u379), .val (.int (0 : Int32)), .val (.int (1 : Int32))] [(.int (1 : Int32))])) (fun t k => XS.iload X484.here hx rfl (hb hby at_192) rfl k) ?_
            refine GoH.fin X484 hZ hEL hS378 hk473 CR472 hlk (v := some (.int (nar .boolean (1 : Int32)))) (fun h => by rw [Bd.returns] at h; cases h) (fun fs hr => retN X484 hx (t := .boolean) Bd.returns (by simp) (hb hby at_194) hr) hh484 ?_ (by decide) (by decide)
            exact ⟨rfl, N485, K483⟩
        ·
          refine GoH.step (T' := s₁) (f' := (mkF m 56 #[.val (.int ia), .val (.int ib), .val (.int ie), .val (.int ig), .val (.int ik), .val (.int zc), .val (.int zb), .val (.int za), .val (.int zs), .unset, .unset, .unset, .unset] [(.int zc)])) (fun t k => XS.iload X0.here hx rfl (hb hby at_54) rfl k) ?_
          refine GoH.step (T' := s₁) (f' := (mkF m 58 #[.val (.int ia), .val (.int ib), .val (.int ie), .val (.int ig), .val (.int ik), .val (.int zc), .val (.int zb), .val (.int za), .val (.int zs), .unset, .unset, .unset, .unset] [(.int za), (.int zc)])) (fun t k => XS.iload X0.here hx rfl (hb hby at_56) rfl k) ?_
          obtain ⟨_, _, ⟨T486, L486, k486, n486⟩, -, X486, hS486, hg486, ⟨Lc486, hQ486, l486, y486, z486, ch486⟩, st486⟩ := callSS X0 hx (y := (⟨"com/example/unwind/unwind/saga/PositionEqualsPinLaw", "make", "(II)Lcom/example/unwind/unwind/saga/Position;"⟩ : MethodName)) hown (mvT hZ (hw _ (List.mem_of_getElem? (i := 1) rfl))) (mvT hZ (hw _ (List.mem_of_getElem? (i := 2) rfl))) (mvT hZ (hw _ (List.mem_of_getElem? (i := 3) rfl))) (mvT hZ (hw _ (List.mem_of_getElem? (i := 4) rfl))) (by decide) (backOfSH (s := s) (vm0 := s.vm) (W := 0) (rm_makeP l Z a0 hw [] zc za z_RUNNING z_ROLLING_BACK z_STUCK z_COMPLETED z_ROLLED_BACK h0 n0 O0 hEL P0 P1 P2 P3 P4 P5 P6 P7 P8 P9 P10 P11 P12 P13 P14 P15 P16 P17 P18 P19 (hza) (hA)) hZ (hw _ (List.mem_of_getElem? (i := 4) rfl)) (hw _ (List.mem_of_getElem? (i := 3) rfl)) (by decide) (by decide) hEL CR0.1) (g := (mkF m 58 #[.val (.int ia), .val (.int ib), .val (.int ie), .val (.int ig), .val (.int ik), .val (.int zc), .val (.int zb), .val (.int za), .val (.int zs), .unset, .unset, .unset, .unset] [(.int za), (.int zc)])) rfl (by rw [hml]; rfl) (argsL := [(.int zc), (.int za)]) (rest := []) (lenOf pd6 rfl) rfl (by show 2 * 0 + _ ≤ _; exact Nat.le_of_eq rfl) (hb hby at_58) (fun _ _ => ⟨rfl, e0, (by decide : 0 + 3 ≤ _), (by decide : 0 + 27 ≤ _)⟩)
          dsimp only [Pt.U, Pt.locs, Pt.cells, Pt.slots] at X486 l486 y486 z486 st486 hQ486 hS486 hg486 ch486
          subst l486 y486 z486
          obtain ⟨X486, hS486, hZ, hown⟩ := rebS (s := s) (vm0 := s.vm) hS0 (show _ ≤ s₁.heap.size by rw [e0]; exact hk0) X486 hS486 hg486 hZ hown
          obtain ⟨u487, rfl, Nq486, hh486, p488, p489, p490, p491, p492⟩ := hQ486
          have N493 := Fr.app N0 Nq486
          have CR494 := CR0.trans ch486
          have hk495 := Nat.le_refl T486.heap.size
          have O496 := O0.keep hh486 all0
          have K497 := K0.trans hh486 all0
          have g498 : n0 ≤ u487 := Nat.le_trans (own_old_le O0) p488
          have g499 : h0.size ≤ u487 := Nat.le_trans K0.1 p488
          refine GoH.via (T' := T486) (f' := (mkF m 61 #[.val (.int ia), .val (.int ib), .val (.int ie), .val (.int ig), .val (.int ik), .val (.int zc), .val (.int zb), .val (.int za), .val (.int zs), .unset, .unset, .unset, .unset] [(.ref u487)])) st486 ?_
          clear st486 X0 Nq486 CR0 hk0 hS0
          refine GoH.step (T' := T486) (f' := (mkF m 63 #[.val (.int ia), .val (.int ib), .val (.int ie), .val (.int ig), .val (.int ik), .val (.int zc), .val (.int zb), .val (.int za), .val (.int zs), .val (.ref u487), .unset, .unset, .unset] [])) (fun t k => XS.astore X486.here hx rfl (hb hby at_61) rfl rfl (l' := #[.val (.int ia), .val (.int ib), .val (.int ie), .val (.int ig), .val (.int ik), .val (.int zc), .val (.int zb), .val (.int za), .val (.int zs), .val (.ref u487), .unset, .unset, .unset]) rfl k) ?_
          refine GoH.step (T' := T486) (f' := (mkF m 65 #[.val (.int ia), .val (.int ib), .val (.int ie), .val (.int ig), .val (.int ik), .val (.int zc), .val (.int zb), .val (.int za), .val (.int zs), .val (.ref u487), .unset, .unset, .unset] [(.int zb)])) (fun t k => XS.iload X486.here hx rfl (hb hby at_63) rfl k) ?_
          refine GoH.step (T' := T486) (f' := (mkF m 67 #[.val (.int ia), .val (.int ib), .val (.int ie), .val (.int ig), .val (.int ik), .val (.int zc), .val (.int zb), .val (.int za), .val (.int zs), .val (.ref u487), .unset, .unset, .unset] [(.int zs), (.int zb)])) (fun t k => XS.iload X486.here hx rfl (hb hby at_65) rfl k) ?_
          obtain ⟨_, _, ⟨T500, L500, k500, n500⟩, -, X500, hS500, hg500, ⟨Lc500, hQ500, l500, y500, z500, ch500⟩, st500⟩ := callSS X486 hx (y := (⟨"com/example/unwind/unwind/saga/PositionEqualsPinLaw", "make", "(II)Lcom/example/unwind/unwind/saga/Position;"⟩ : MethodName)) hown (mvT hZ (hw _ (List.mem_of_getElem? (i := 1) rfl))) (mvT hZ (hw _ (List.mem_of_getElem? (i := 2) rfl))) (mvT hZ (hw _ (List.mem_of_getElem? (i := 3) rfl))) (mvT hZ (hw _ (List.mem_of_getElem? (i := 4) rfl))) (by decide) (backOfSH (s := s) (vm0 := T486.vm) (W := 0) (rm_makeS l Z a0 hw [] zb zs z_RUNNING z_ROLLING_BACK z_STUCK z_COMPLETED z_ROLLED_BACK T486.heap n0 O496 hEL P0 P1 P2 P3 P4 P5 P6 P7 P8 P9 P10 P11 P12 P13 P14 P15 P16 P17 P18 P19 (hzs) (hB)) hZ (hw _ (List.mem_of_getElem? (i := 4) rfl)) (hw _ (List.mem_of_getElem? (i := 3) rfl)) (by decide) (by decide) hEL CR494.1) (g := (mkF m 67 #[.val (.int ia), .val (.int ib), .val (.int ie), .val (.int ig), .val (.int ik), .val (.int zc), .val (.int zb), .val (.int za), .val (.int zs), .val (.ref u487), .unset, .unset, .unset] [(.int zs), (.int zb)])) rfl (by rw [hml]; rfl) (argsL := [(.int zb), (.int zs)]) (rest := []) (lenOf pd6 rfl) rfl (by show 2 * 0 + _ ≤ _; exact Nat.le_of_eq rfl) (hb hby at_67) (fun _ _ => ⟨rfl, rfl, (by decide : 3 + 3 ≤ _), (by decide : 27 + 27 ≤ _)⟩)
          dsimp only [Pt.U, Pt.locs, Pt.cells, Pt.slots] at X500 l500 y500 z500 st500 hQ500 hS500 hg500 ch500
          subst l500 y500 z500
          obtain ⟨X500, hS500, hZ, hown⟩ := rebS (s := s) (vm0 := T486.vm) hS486 (show _ ≤ T486.heap.size by exact hk495) X500 hS500 hg500 hZ hown
          obtain ⟨u501, rfl, Nq500, hh500, p502, p503, p504, p505, p506⟩ := hQ500
          have N507 := Fr.app N493 Nq500
          have CR508 := CR494.trans ch500
          have hk509 := Nat.le_refl T500.heap.size
          have f510 := p489.keep hh500
          have f511 := p490.keep hh500 nin0
          have f512 := p491.keep hh500 nin0
          have f513 := p492.keep hh500 nin0
          have O514 := O496.keep hh500 all0
          have K515 := K497.trans hh500 all0
          have g516 : n0 ≤ u501 := Nat.le_trans (own_old_le O496) p502
          have g517 : h0.size ≤ u501 := Nat.le_trans K497.1 p502
          have ne518 : u487 ≠ u501 := Nat.ne_of_lt (Nat.lt_of_lt_of_le p489.lt p502)
          refine GoH.via (T' := T500) (f' := (mkF m 70 #[.val (.int ia), .val (.int ib), .val (.int ie), .val (.int ig), .val (.int ik), .val (.int zc), .val (.int zb), .val (.int za), .val (.int zs), .val (.ref u487), .unset, .unset, .unset] [(.ref u501)])) st500 ?_
          clear st500 X486 N493 Nq500 CR494 hk495 hS486 p490 p491 p492
          refine GoH.step (T' := T500) (f' := (mkF m 72 #[.val (.int ia), .val (.int ib), .val (.int ie), .val (.int ig), .val (.int ik), .val (.int zc), .val (.int zb), .val (.int za), .val (.int zs), .val (.ref u487), .val (.ref u501), .unset, .unset] [])) (fun t k => XS.astore X500.here hx rfl (hb hby at_70) rfl rfl (l' := #[.val (.int ia), .val (.int ib), .val (.int ie), .val (.int ig), .val (.int ik), .val (.int zc), .val (.int zb), .val (.int za), .val (.int zs), .val (.ref u487), .val (.ref u501), .unset, .unset]) rfl k) ?_
          refine GoH.step (T' := T500) (f' := (mkF m 74 #[.val (.int ia), .val (.int ib), .val (.int ie), .val (.int ig), .val (.int ik), .val (.int zc), .val (.int zb), .val (.int za), .val (.int zs), .val (.ref u487), .val (.ref u501), .unset, .unset] [(.int zc)])) (fun t k => XS.iload X500.here hx rfl (hb hby at_72) rfl k) ?_
          refine GoH.step (T' := T500) (f' := (mkF m 76 #[.val (.int ia), .val (.int ib), .val (.int ie), .val (.int ig), .val (.int ik), .val (.int zc), .val (.int zb), .val (.int za), .val (.int zs), .val (.ref u487), .val (.ref u501), .unset, .unset] [(.int zb), (.int zc)])) (fun t k => XS.iload X500.here hx rfl (hb hby at_74) rfl k) ?_
          have hc519 : ¬ (zc = zb) := by
            exact own_apart hA hB
          refine GoH.step (T' := T500) (f' := (mkF m 90 #[.val (.int ia), .val (.int ib), .val (.int ie), .val (.int ig), .val (.int ik), .val (.int zc), .val (.int zb), .val (.int za), .val (.int zs), .val (.ref u487), .val (.ref u501), .unset, .unset] [])) (fun t k => XS.icmpYes X500.here hx rfl (pc0 := 76) (pc' := 90) rfl (hb hby at_76) rfl (feq hc519).2 (by decide) (by decide) k) ?_
          refine GoH.step (T' := T500) (f' := (mkF m 91 #[.val (.int ia), .val (.int ib), .val (.int ie), .val (.int ig), .val (.int ik), .val (.int zc), .val (.int zb), .val (.int za), .val (.int zs), .val (.ref u487), .val (.ref u501), .unset, .unset] [(.int (0 : Int32))])) (fun t k => XS.iconst X500.here hx rfl (hb hby at_90) k) ?_
          refine GoH.step (T' := T500) (f' := (mkF m 93 #[.val (.int ia), .val (.int ib), .val (.int ie), .val (.int ig), .val (.int ik), .val (.int zc), .val (.int zb), .val (.int za), .val (.int zs), .val (.ref u487), .val (.ref u501), .val (.int (0 : Int32)), .unset] [])) (fun t k => XS.istore X500.here hx rfl (hb hby at_91) rfl (l' := #[.val (.int ia), .val (.int ib), .val (.int ie), .val (.int ig), .val (.int ik), .val (.int zc), .val (.int zb), .val (.int za), .val (.int zs), .val (.ref u487), .val (.ref u501), .val (.int (0 : Int32)), .unset]) rfl k) ?_
          refine GoH.step (T' := T500) (f' := (mkF m 95 #[.val (.int ia), .val (.int ib), .val (.int ie), .val (.int ig), .val (.int ik), .val (.int zc), .val (.int zb), .val (.int za), .val (.int zs), .val (.ref u487), .val (.ref u501), .val (.int (0 : Int32)), .unset] [(.ref u487)])) (fun t k => XS.aload X500.here hx rfl (hb hby at_93) rfl rfl k) ?_
          refine GoH.step (T' := T500) (f' := (mkF m 97 #[.val (.int ia), .val (.int ib), .val (.int ie), .val (.int ig), .val (.int ik), .val (.int zc), .val (.int zb), .val (.int za), .val (.int zs), .val (.ref u487), .val (.ref u501), .val (.int (0 : Int32)), .unset] [(.ref u501), (.ref u487)])) (fun t k => XS.aload X500.here hx rfl (hb hby at_95) rfl rfl k) ?_
          obtain ⟨cq520, kq520, q520a, q520b, q520c⟩ := isOf hZ rfl f510
          obtain ⟨_, _, ⟨T520, L520, k520, n520⟩, -, X520, ⟨Lc520, hQ520, l520, y520, z520⟩, st520⟩ := X500.virtualBack hx (y := (⟨"com/example/unwind/unwind/saga/Position", "equals", "(Ljava/lang/Object;)Z"⟩ : MethodName)) (z := (⟨"com/example/unwind/unwind/saga/Position", "equals", "(Ljava/lang/Object;)Z"⟩ : MethodName)) hown (mvT hZ (hw _ (List.mem_of_getElem? (i := 44) rfl))) (mvT hZ (hw _ (List.mem_of_getElem? (i := 45) rfl))) (notFace_of_selects (args := #[]) (mvT hZ (hw _ (List.mem_of_getElem? (i := 47) rfl)))) (mvT hZ (hw _ (List.mem_of_getElem? (i := 47) rfl))) (mvT hZ (hw _ (List.mem_of_getElem? (i := 46) rfl))) (by decide) (backOf (W := 0) (rm_eqPS l Z a0 hw [] u487 u501 (own_sa zc z_RUNNING z_ROLLING_BACK z_COMPLETED z_ROLLED_BACK) za z_STUCK zs (own_sb zb z_RUNNING z_ROLLING_BACK) T500.heap n0 O514 p503 f511 f512 f513 p504 p505 p506) hZ (hw _ (List.mem_of_getElem? (i := 48) rfl)) (hw _ (List.mem_of_getElem? (i := 7) rfl)) (by decide) (by decide)) q520a q520c (g := (mkF m 97 #[.val (.int ia), .val (.int ib), .val (.int ie), .val (.int ig), .val (.int ik), .val (.int zc), .val (.int zb), .val (.int za), .val (.int zs), .val (.ref u487), .val (.ref u501), .val (.int (0 : Int32)), .unset] [(.ref u501), (.ref u487)])) rfl (by rw [hml]; rfl) (Steps.refl _) (argsL := [(.ref u501)]) (rest := []) (lenOf pd7 rfl) rfl (by show 2 * 0 + _ ≤ _; exact Nat.le_of_eq rfl) (hb hby at_97) (fun _ _ => ⟨rfl, rfl, (by decide : 6 + 0 ≤ _), (by decide : 54 + 0 ≤ _)⟩)
          dsimp only [Pt.U, Pt.locs, Pt.cells, Pt.slots] at X520 l520 y520 z520 st520 hQ520
          subst l520 y520 z520
          obtain ⟨rfl, Nq520, hh520⟩ := hQ520
          have N521 := Fr.app N507 Nq520
          refine GoH.via (T' := T520) (f' := (mkF m 100 #[.val (.int ia), .val (.int ib), .val (.int ie), .val (.int ig), .val (.int ik), .val (.int zc), .val (.int zb), .val (.int za), .val (.int zs), .val (.ref u487), .val (.ref u501), .val (.int (0 : Int32)), .unset] [(.int (0 : Int32))])) st520 ?_
          clear st520 X500 N507 Nq520
          refine GoH.step (T' := T520) (f' := (mkF m 102 #[.val (.int ia), .val (.int ib), .val (.int ie), .val (.int ig), .val (.int ik), .val (.int zc), .val (.int zb), .val (.int za), .val (.int zs), .val (.ref u487), .val (.ref u501), .val (.int (0 : Int32)), .unset] [(.int (0 : Int32)), (.int (0 : Int32))])) (fun t k => XS.iload X520.here hx rfl (hb hby at_100) rfl k) ?_
          refine GoH.step (T' := T520) (f' := (mkF m 105 #[.val (.int ia), .val (.int ib), .val (.int ie), .val (.int ig), .val (.int ik), .val (.int zc), .val (.int zb), .val (.int za), .val (.int zs), .val (.ref u487), .val (.ref u501), .val (.int (0 : Int32)), .unset] [])) (fun t k => XS.icmpNo X520.here hx rfl (hb hby at_102) rfl (teq (by decide : (0 : Int32) = (0 : Int32))).2 k) ?_
          refine GoH.step (T' := T520) (f' := (mkF m 107 #[.val (.int ia), .val (.int ib), .val (.int ie), .val (.int ig), .val (.int ik), .val (.int zc), .val (.int zb), .val (.int za), .val (.int zs), .val (.ref u487), .val (.ref u501), .val (.int (0 : Int32)), .unset] [(.ref u501)])) (fun t k => XS.aload X520.here hx rfl (hb hby at_105) rfl rfl k) ?_
          refine GoH.step (T' := T520) (f' := (mkF m 109 #[.val (.int ia), .val (.int ib), .val (.int ie), .val (.int ig), .val (.int ik), .val (.int zc), .val (.int zb), .val (.int za), .val (.int zs), .val (.ref u487), .val (.ref u501), .val (.int (0 : Int32)), .unset] [(.ref u487), (.ref u501)])) (fun t k => XS.aload X520.here hx rfl (hb hby at_107) rfl rfl k) ?_
          obtain ⟨cq522, kq522, q522a, q522b, q522c⟩ := isOf hZ hh520 p503
          obtain ⟨_, _, ⟨T522, L522, k522, n522⟩, -, X522, ⟨Lc522, hQ522, l522, y522, z522⟩, st522⟩ := X520.virtualBack hx (y := (⟨"com/example/unwind/unwind/saga/Position", "equals", "(Ljava/lang/Object;)Z"⟩ : MethodName)) (z := (⟨"com/example/unwind/unwind/saga/Position", "equals", "(Ljava/lang/Object;)Z"⟩ : MethodName)) hown (mvT hZ (hw _ (List.mem_of_getElem? (i := 44) rfl))) (mvT hZ (hw _ (List.mem_of_getElem? (i := 45) rfl))) (notFace_of_selects (args := #[]) (mvT hZ (hw _ (List.mem_of_getElem? (i := 47) rfl)))) (mvT hZ (hw _ (List.mem_of_getElem? (i := 47) rfl))) (mvT hZ (hw _ (List.mem_of_getElem? (i := 46) rfl))) (by decide) (backOf (W := 0) (rm_eqSP l Z a0 hw [] u501 u487 z_STUCK zs (own_sa zc z_RUNNING z_ROLLING_BACK z_COMPLETED z_ROLLED_BACK) za (own_sb zb z_RUNNING z_ROLLING_BACK) T500.heap n0 O514 f510 p504 p505 p506 f511 f512 f513) hZ (hw _ (List.mem_of_getElem? (i := 48) rfl)) (hw _ (List.mem_of_getElem? (i := 7) rfl)) (by decide) (by decide)) q522a q522c (g := (mkF m 109 #[.val (.int ia), .val (.int ib), .val (.int ie), .val (.int ig), .val (.int ik), .val (.int zc), .val (.int zb), .val (.int za), .val (.int zs), .val (.ref u487), .val (.ref u501), .val (.int (0 : Int32)), .unset] [(.ref u487), (.ref u501)])) rfl (by rw [hml]; rfl) (Steps.refl _) (argsL := [(.ref u487)]) (rest := []) (lenOf pd7 rfl) rfl (by show 2 * 0 + _ ≤ _; exact Nat.le_of_eq rfl) (hb hby at_109) (fun _ _ => ⟨rfl, hh520, (by decide : 6 + 0 ≤ _), (by decide : 54 + 0 ≤ _)⟩)
          dsimp only [Pt.U, Pt.locs, Pt.cells, Pt.slots] at X522 l522 y522 z522 st522 hQ522
          subst l522 y522 z522
          obtain ⟨rfl, Nq522, hh522⟩ := hQ522
          have N523 := Fr.app N521 Nq522
          refine GoH.via (T' := T522) (f' := (mkF m 112 #[.val (.int ia), .val (.int ib), .val (.int ie), .val (.int ig), .val (.int ik), .val (.int zc), .val (.int zb), .val (.int za), .val (.int zs), .val (.ref u487), .val (.ref u501), .val (.int (0 : Int32)), .unset] [(.int (0 : Int32))])) st522 ?_
          clear st522 X520 N521 Nq522
          refine GoH.step (T' := T522) (f' := (mkF m 114 #[.val (.int ia), .val (.int ib), .val (.int ie), .val (.int ig), .val (.int ik), .val (.int zc), .val (.int zb), .val (.int za), .val (.int zs), .val (.ref u487), .val (.ref u501), .val (.int (0 : Int32)), .unset] [(.int (0 : Int32)), (.int (0 : Int32))])) (fun t k => XS.iload X522.here hx rfl (hb hby at_112) rfl k) ?_
          refine GoH.step (T' := T522) (f' := (mkF m 117 #[.val (.int ia), .val (.int ib), .val (.int ie), .val (.int ig), .val (.int ik), .val (.int zc), .val (.int zb), .val (.int za), .val (.int zs), .val (.ref u487), .val (.ref u501), .val (.int (0 : Int32)), .unset] [])) (fun t k => XS.icmpNo X522.here hx rfl (hb hby at_114) rfl (teq (by decide : (0 : Int32) = (0 : Int32))).2 k) ?_
          refine GoH.step (T' := T522) (f' := (mkF m 118 #[.val (.int ia), .val (.int ib), .val (.int ie), .val (.int ig), .val (.int ik), .val (.int zc), .val (.int zb), .val (.int za), .val (.int zs), .val (.ref u487), .val (.ref u501), .val (.int (0 : Int32)), .unset] [(.int (1 : Int32))])) (fun t k => XS.iconst X522.here hx rfl (hb hby at_117) k) ?_
          refine GoH.step (T' := T522) (f' := (mkF m 122 #[.val (.int ia), .val (.int ib), .val (.int ie), .val (.int ig), .val (.int ik), .val (.int zc), .val (.int zb), .val (.int za), .val (.int zs), .val (.ref u487), .val (.ref u501), .val (.int (0 : Int32)), .unset] [(.int (1 : Int32))])) (fun t k => XS.goto X522.here hx rfl (pc0 := 118) (pc' := 122) rfl (hb hby at_118) (by decide) (by decide) k) ?_
          refine GoH.step (T' := T522) (f' := (mkF m 124 #[.val (.int ia), .val (.int ib), .val (.int ie), .val (.int ig), .val (.int ik), .val (.int zc), .val (.int zb), .val (.int za), .val (.int zs), .val (.ref u487), .val (.ref u501), .val (.int (0 : Int32)), .val (.int (1 : Int32))] [])) (fun t k => XS.istore X522.here hx rfl (hb hby at_122) rfl (l' := #[.val (.int ia), .val (.int ib), .val (.int ie), .val (.int ig), .val (.int ik), .val (.int zc), .val (.int zb), .val (.int za), .val (.int zs), .val (.ref u487), .val (.ref u501), .val (.int (0 : Int32)), .val (.int (1 : Int32))]) rfl k) ?_
          refine GoH.step (T' := T522) (f' := (mkF m 126 #[.val (.int ia), .val (.int ib), .val (.int ie), .val (.int ig), .val (.int ik), .val (.int zc), .val (.int zb), .val (.int za), .val (.int zs), .val (.ref u487), .val (.ref u501), .val (.int (0 : Int32)), .val (.int (1 : Int32))] [(.int (1 : Int32))])) (fun t k => XS.iload X522.here hx rfl (hb hby at_124) rfl k) ?_
          refine GoH.step (T' := T522) (f' := (mkF m 129 #[.val (.int ia), .val (.int ib), .val (.int ie), .val (.int ig), .val (.int ik), .val (.int zc), .val (.int zb), .val (.int za), .val (.int zs), .val (.ref u487), .val (.ref u501), .val (.int (0 : Int32)), .val (.int (1 : Int32))] [])) (fun t k => XS.ifNo X522.here hx rfl (hb hby at_126) rfl ((if0 _ _).trans (feq (by decide : ¬ ((1 : Int32) = (0 : Int32)))).1) k) ?_
          refine GoH.step (T' := T522) (f' := (mkF m 131 #[.val (.int ia), .val (.int ib), .val (.int ie), .val (.int ig), .val (.int ik), .val (.int zc), .val (.int zb), .val (.int za), .val (.int zs), .val (.ref u487), .val (.ref u501), .val (.int (0 : Int32)), .val (.int (1 : Int32))] [(.ref u487)])) (fun t k => XS.aload X522.here hx rfl (hb hby at_129) rfl rfl k) ?_
          refine GoH.step (T' := T522) (f' := (mkF m 133 #[.val (.int ia), .val (.int ib), .val (.int ie), .val (.int ig), .val (.int ik), .val (.int zc), .val (.int zb), .val (.int za), .val (.int zs), .val (.ref u487), .val (.ref u501), .val (.int (0 : Int32)), .val (.int (1 : Int32))] [(.ref u487), (.ref u487)])) (fun t k => XS.aload X522.here hx rfl (hb hby at_131) rfl rfl k) ?_
          obtain ⟨cq524, kq524, q524a, q524b, q524c⟩ := isOf hZ hh522 f510
          obtain ⟨_, _, ⟨T524, L524, k524, n524⟩, -, X524, ⟨Lc524, hQ524, l524, y524, z524⟩, st524⟩ := X522.virtualBack hx (y := (⟨"com/example/unwind/unwind/saga/Position", "equals", "(Ljava/lang/Object;)Z"⟩ : MethodName)) (z := (⟨"com/example/unwind/unwind/saga/Position", "equals", "(Ljava/lang/Object;)Z"⟩ : MethodName)) hown (mvT hZ (hw _ (List.mem_of_getElem? (i := 44) rfl))) (mvT hZ (hw _ (List.mem_of_getElem? (i := 45) rfl))) (notFace_of_selects (args := #[]) (mvT hZ (hw _ (List.mem_of_getElem? (i := 47) rfl)))) (mvT hZ (hw _ (List.mem_of_getElem? (i := 47) rfl))) (mvT hZ (hw _ (List.mem_of_getElem? (i := 46) rfl))) (by decide) (backOf (W := 0) (rm_eq1P l Z a0 hw [] u487 (own_sa zc z_RUNNING z_ROLLING_BACK z_COMPLETED z_ROLLED_BACK) za T500.heap n0 O514 f510 f511 f512 f513) hZ (hw _ (List.mem_of_getElem? (i := 48) rfl)) (hw _ (List.mem_of_getElem? (i := 7) rfl)) (by decide) (by decide)) q524a q524c (g := (mkF m 133 #[.val (.int ia), .val (.int ib), .val (.int ie), .val (.int ig), .val (.int ik), .val (.int zc), .val (.int zb), .val (.int za), .val (.int zs), .val (.ref u487), .val (.ref u501), .val (.int (0 : Int32)), .val (.int (1 : Int32))] [(.ref u487), (.ref u487)])) rfl (by rw [hml]; rfl) (Steps.refl _) (argsL := [(.ref u487)]) (rest := []) (lenOf pd7 rfl) rfl (by show 2 * 0 + _ ≤ _; exact Nat.le_of_eq rfl) (hb hby at_133) (fun _ _ => ⟨rfl, hh522, (by decide : 6 + 0 ≤ _), (by decide : 54 + 0 ≤ _)⟩)
          dsimp only [Pt.U, Pt.locs, Pt.cells, Pt.slots] at X524 l524 y524 z524 st524 hQ524
          subst l524 y524 z524
          obtain ⟨rfl, Nq524, hh524⟩ := hQ524
          have N525 := Fr.app N523 Nq524
          refine GoH.via (T' := T524) (f' := (mkF m 136 #[.val (.int ia), .val (.int ib), .val (.int ie), .val (.int ig), .val (.int ik), .val (.int zc), .val (.int zb), .val (.int za), .val (.int zs), .val (.ref u487), .val (.ref u501), .val (.int (0 : Int32)), .val (.int (1 : Int32))] [(.int (1 : Int32))])) st524 ?_
          clear st524 X522 N523 Nq524
          refine GoH.step (T' := T524) (f' := (mkF m 139 #[.val (.int ia), .val (.int ib), .val (.int ie), .val (.int ig), .val (.int ik), .val (.int zc), .val (.int zb), .val (.int za), .val (.int zs), .val (.ref u487), .val (.ref u501), .val (.int (0 : Int32)), .val (.int (1 : Int32))] [])) (fun t k => XS.ifNo X524.here hx rfl (hb hby at_136) rfl ((if0 _ _).trans (feq (by decide : ¬ ((1 : Int32) = (0 : Int32)))).1) k) ?_
          refine GoH.step (T' := T524) (f' := (mkF m 140 #[.val (.int ia), .val (.int ib), .val (.int ie), .val (.int ig), .val (.int ik), .val (.int zc), .val (.int zb), .val (.int za), .val (.int zs), .val (.ref u487), .val (.ref u501), .val (.int (0 : Int32)), .val (.int (1 : Int32))] [(.int (1 : Int32))])) (fun t k => XS.iconst X524.here hx rfl (hb hby at_139) k) ?_
          refine GoH.step (T' := T524) (f' := (mkF m 144 #[.val (.int ia), .val (.int ib), .val (.int ie), .val (.int ig), .val (.int ik), .val (.int zc), .val (.int zb), .val (.int za), .val (.int zs), .val (.ref u487), .val (.ref u501), .val (.int (0 : Int32)), .val (.int (1 : Int32))] [(.int (1 : Int32))])) (fun t k => XS.goto X524.here hx rfl (pc0 := 140) (pc' := 144) rfl (hb hby at_140) (by decide) (by decide) k) ?_
          refine GoH.step (T' := T524) (f' := (mkF m 146 #[.val (.int ia), .val (.int ib), .val (.int ie), .val (.int ig), .val (.int ik), .val (.int zc), .val (.int zb), .val (.int za), .val (.int zs), .val (.ref u487), .val (.ref u501), .val (.int (0 : Int32)), .val (.int (1 : Int32))] [])) (fun t k => XS.istore X524.here hx rfl (hb hby at_144) rfl (l' := #[.val (.int ia), .val (.int ib), .val (.int ie), .val (.int ig), .val (.int ik), .val (.int zc), .val (.int zb), .val (.int za), .val (.int zs), .val (.ref u487), .val (.ref u501), .val (.int (0 : Int32)), .val (.int (1 : Int32))]) rfl k) ?_
          refine GoH.step (T' := T524) (f' := (mkF m 148 #[.val (.int ia), .val (.int ib), .val (.int ie), .val (.int ig), .val (.int ik), .val (.int zc), .val (.int zb), .val (.int za), .val (.int zs), .val (.ref u487), .val (.ref u501), .val (.int (0 : Int32)), .val (.int (1 : Int32))] [(.int (1 : Int32))])) (fun t k => XS.iload X524.here hx rfl (hb hby at_146) rfl k) ?_
          refine GoH.step (T' := T524) (f' := (mkF m 151 #[.val (.int ia), .val (.int ib), .val (.int ie), .val (.int ig), .val (.int ik), .val (.int zc), .val (.int zb), .val (.int za), .val (.int zs), .val (.ref u487), .val (.ref u501), .val (.int (0 : Int32)), .val (.int (1 : Int32))] [])) (fun t k => XS.ifNo X524.here hx rfl (hb hby at_148) rfl ((if0 _ _).trans (feq (by decide : ¬ ((1 : Int32) = (0 : Int32)))).1) k) ?_
          refine GoH.step (T' := T524) (f' := (mkF m 153 #[.val (.int ia), .val (.int ib), .val (.int ie), .val (.int ig), .val (.int ik), .val (.int zc), .val (.int zb), .val (.int za), .val (.int zs), .val (.ref u487), .val (.ref u501), .val (.int (0 : Int32)), .val (.int (1 : Int32))] [(.ref u487)])) (fun t k => XS.aload X524.here hx rfl (hb hby at_151) rfl rfl k) ?_
          refine GoH.step (T' := T524) (f' := (mkF m 154 #[.val (.int ia), .val (.int ib), .val (.int ie), .val (.int ig), .val (.int ik), .val (.int zc), .val (.int zb), .val (.int za), .val (.int zs), .val (.ref u487), .val (.ref u501), .val (.int (0 : Int32)), .val (.int (1 : Int32))] [.null, (.ref u487)])) (fun t k => XS.aconstNull X524.here hx rfl (hb hby at_153) k) ?_
          obtain ⟨cq526, kq526, q526a, q526b, q526c⟩ := isOf hZ hh524 f510
          obtain ⟨_, _, ⟨T526, L526, k526, n526⟩, -, X526, ⟨Lc526, hQ526, l526, y526, z526⟩, st526⟩ := X524.virtualBack hx (y := (⟨"com/example/unwind/unwind/saga/Position", "equals", "(Ljava/lang/Object;)Z"⟩ : MethodName)) (z := (⟨"com/example/unwind/unwind/saga/Position", "equals", "(Ljava/lang/Object;)Z"⟩ : MethodName)) hown (mvT hZ (hw _ (List.mem_of_getElem? (i := 44) rfl))) (mvT hZ (hw _ (List.mem_of_getElem? (i := 45) rfl))) (notFace_of_selects (args := #[]) (mvT hZ (hw _ (List.mem_of_getElem? (i := 47) rfl)))) (mvT hZ (hw _ (List.mem_of_getElem? (i := 47) rfl))) (mvT hZ (hw _ (List.mem_of_getElem? (i := 46) rfl))) (by decide) (backOf (W := 0) (rm_eqN l Z a0 hw [] u487 T500.heap n0 O514 ) hZ (hw _ (List.mem_of_getElem? (i := 48) rfl)) (hw _ (List.mem_of_getElem? (i := 7) rfl)) (by decide) (by decide)) q526a q526c (g := (mkF m 154 #[.val (.int ia), .val (.int ib), .val (.int ie), .val (.int ig), .val (.int ik), .val (.int zc), .val (.int zb), .val (.int za), .val (.int zs), .val (.ref u487), .val (.ref u501), .val (.int (0 : Int32)), .val (.int (1 : Int32))] [.null, (.ref u487)])) rfl (by rw [hml]; rfl) (Steps.refl _) (argsL := [.null]) (rest := []) (lenOf pd7 rfl) rfl (by show 2 * 0 + _ ≤ _; exact Nat.le_of_eq rfl) (hb hby at_154) (fun _ _ => ⟨rfl, hh524, (by decide : 6 + 0 ≤ _), (by decide : 54 + 0 ≤ _)⟩)
          dsimp only [Pt.U, Pt.locs, Pt.cells, Pt.slots] at X526 l526 y526 z526 st526 hQ526
          subst l526 y526 z526
          obtain ⟨rfl, Nq526, hh526⟩ := hQ526
          have N527 := Fr.app N525 Nq526
          refine GoH.via (T' := T526) (f' := (mkF m 157 #[.val (.int ia), .val (.int ib), .val (.int ie), .val (.int ig), .val (.int ik), .val (.int zc), .val (.int zb), .val (.int za), .val (.int zs), .val (.ref u487), .val (.ref u501), .val (.int (0 : Int32)), .val (.int (1 : Int32))] [(.int (0 : Int32))])) st526 ?_
          clear st526 X524 N525 Nq526
          refine GoH.step (T' := T526) (f' := (mkF m 160 #[.val (.int ia), .val (.int ib), .val (.int ie), .val (.int ig), .val (.int ik), .val (.int zc), .val (.int zb), .val (.int za), .val (.int zs), .val (.ref u487), .val (.ref u501), .val (.int (0 : Int32)), .val (.int (1 : Int32))] [])) (fun t k => XS.ifNo X526.here hx rfl (hb hby at_157) rfl ((if0 _ _).trans (teq (by decide : (0 : Int32) = (0 : Int32))).2) k) ?_
          refine GoH.step (T' := T526) (f' := (mkF m 161 #[.val (.int ia), .val (.int ib), .val (.int ie), .val (.int ig), .val (.int ik), .val (.int zc), .val (.int zb), .val (.int za), .val (.int zs), .val (.ref u487), .val (.ref u501), .val (.int (0 : Int32)), .val (.int (1 : Int32))] [(.int (1 : Int32))])) (fun t k => XS.iconst X526.here hx rfl (hb hby at_160) k) ?_
          refine GoH.step (T' := T526) (f' := (mkF m 165 #[.val (.int ia), .val (.int ib), .val (.int ie), .val (.int ig), .val (.int ik), .val (.int zc), .val (.int zb), .val (.int za), .val (.int zs), .val (.ref u487), .val (.ref u501), .val (.int (0 : Int32)), .val (.int (1 : Int32))] [(.int (1 : Int32))])) (fun t k => XS.goto X526.here hx rfl (pc0 := 161) (pc' := 165) rfl (hb hby at_161) (by decide) (by decide) k) ?_
          refine GoH.step (T' := T526) (f' := (mkF m 167 #[.val (.int ia), .val (.int ib), .val (.int ie), .val (.int ig), .val (.int ik), .val (.int zc), .val (.int zb), .val (.int za), .val (.int zs), .val (.ref u487), .val (.ref u501), .val (.int (0 : Int32)), .val (.int (1 : Int32))] [])) (fun t k => XS.istore X526.here hx rfl (hb hby at_165) rfl (l' := #[.val (.int ia), .val (.int ib), .val (.int ie), .val (.int ig), .val (.int ik), .val (.int zc), .val (.int zb), .val (.int za), .val (.int zs), .val (.ref u487), .val (.ref u501), .val (.int (0 : Int32)), .val (.int (1 : Int32))]) rfl k) ?_
          refine GoH.step (T' := T526) (f' := (mkF m 169 #[.val (.int ia), .val (.int ib), .val (.int ie), .val (.int ig), .val (.int ik), .val (.int zc), .val (.int zb), .val (.int za), .val (.int zs), .val (.ref u487), .val (.ref u501), .val (.int (0 : Int32)), .val (.int (1 : Int32))] [(.int (1 : Int32))])) (fun t k => XS.iload X526.here hx rfl (hb hby at_167) rfl k) ?_
          refine GoH.step (T' := T526) (f' := (mkF m 172 #[.val (.int ia), .val (.int ib), .val (.int ie), .val (.int ig), .val (.int ik), .val (.int zc), .val (.int zb), .val (.int za), .val (.int zs), .val (.ref u487), .val (.ref u501), .val (.int (0 : Int32)), .val (.int (1 : Int32))] [])) (fun t k => XS.ifNo X526.here hx rfl (hb hby at_169) rfl ((if0 _ _).trans (feq (by decide : ¬ ((1 : Int32) = (0 : Int32)))).1) k) ?_
          refine GoH.step (T' := T526) (f' := (mkF m 174 #[.val (.int ia), .val (.int ib), .val (.int ie), .val (.int ig), .val (.int ik), .val (.int zc), .val (.int zb), .val (.int za), .val (.int zs), .val (.ref u487), .val (.ref u501), .val (.int (0 : Int32)), .val (.int (1 : Int32))] [(.ref u487)])) (fun t k => XS.aload X526.here hx rfl (hb hby at_172) rfl rfl k) ?_
          refine GoH.step (T' := T526) (f' := (mkF m 176 #[.val (.int ia), .val (.int ib), .val (.int ie), .val (.int ig), .val (.int ik), .val (.int zc), .val (.int zb), .val (.int za), .val (.int zs), .val (.ref u487), .val (.ref u501), .val (.int (0 : Int32)), .val (.int (1 : Int32))] [(.int za), (.ref u487)])) (fun t k => XS.iload X526.here hx rfl (hb hby at_174) rfl k) ?_
          obtain ⟨_, _, ⟨T528, L528, k528, n528⟩, -, X528, ⟨Lc528, hQ528, l528, y528, z528⟩, st528⟩ := Jvm.LawKit.callS X526 hx (y := (⟨"java/lang/Integer", "valueOf", "(I)Ljava/lang/Integer;"⟩ : MethodName)) hown (mvT hZ (hw _ (List.mem_of_getElem? (i := 51) rfl))) (mvT hZ (hw _ (List.mem_of_getElem? (i := 52) rfl))) (mvT hZ (hw _ (List.mem_of_getElem? (i := 53) rfl))) (mvT hZ (hw _ (List.mem_of_getElem? (i := 54) rfl))) (by decide) (backOf (W := 1) (rm_ival l Z a0 hw [] za wc cc T500.heap n0 O514 P20 P21 hbx (hza)) hZ (hw _ (List.mem_of_getElem? (i := 54) rfl)) (hw _ (List.mem_of_getElem? (i := 53) rfl)) (by decide) (by decide)) (g := (mkF m 176 #[.val (.int ia), .val (.int ib), .val (.int ie), .val (.int ig), .val (.int ik), .val (.int zc), .val (.int zb), .val (.int za), .val (.int zs), .val (.ref u487), .val (.ref u501), .val (.int (0 : Int32)), .val (.int (1 : Int32))] [(.int za), (.ref u487)])) rfl (by rw [hml]; rfl) (argsL := [(.int za)]) (rest := [(.ref u487)]) (lenOf pd8 rfl) rfl (by show 2 * 0 + _ ≤ _; exact Nat.le_of_eq rfl) (hb hby at_176) (fun _ _ => ⟨rfl, hh526, (by decide : 6 + 1 ≤ _), (by decide : 54 + 1 ≤ _)⟩)
          dsimp only [Pt.U, Pt.locs, Pt.cells, Pt.slots] at X528 l528 y528 z528 st528 hQ528
          subst l528 y528 z528
          obtain ⟨u529, rfl, Nq528, hh528, p530⟩ := hQ528
          have N531 := Fr.app N527 Nq528
          have sz532 : ∀ x ∈ ([] : List Addr), Safe Z own_EL T500.vm T500.heap x := sf0
          have CR533 := CR508.trans (CHr.keep hh528 sz532 CR508.1)
          have hk534 := Nat.le_trans hk509 hh528.1
          have f535 := f510.keep hh528
          have f536 := f511.keep hh528 nin0
          have f537 := f512.keep hh528 nin0
          have f538 := f513.keep hh528 nin0
          have f539 := p503.keep hh528
          have f540 := p504.keep hh528 nin0
          have f541 := p505.keep hh528 nin0
          have f542 := p506.keep hh528 nin0
          have O543 := O514.keep hh528 all0
          have K544 := K515.trans hh528 all0
          refine GoH.step (T' := T528) (f' := (mkF m 179 #[.val (.int ia), .val (.int ib), .val (.int ie), .val (.int ig), .val (.int ik), .val (.int zc), .val (.int zb), .val (.int za), .val (.int zs), .val (.ref u487), .val (.ref u501), .val (.int (0 : Int32)), .val (.int (1 : Int32))] [(.ref u529), (.ref u487)])) st528 ?_
          clear st528 X526 N527 Nq528 CR508 hk509 sz532 f511 f512 f513 p504 p505 p506
          obtain ⟨cq545, kq545, q545a, q545b, q545c⟩ := isOf hZ rfl f535
          obtain ⟨_, _, ⟨T545, L545, k545, n545⟩, -, X545, ⟨Lc545, hQ545, l545, y545, z545⟩, st545⟩ := X528.virtualBack hx (y := (⟨"com/example/unwind/unwind/saga/Position", "equals", "(Ljava/lang/Object;)Z"⟩ : MethodName)) (z := (⟨"com/example/unwind/unwind/saga/Position", "equals", "(Ljava/lang/Object;)Z"⟩ : MethodName)) hown (mvT hZ (hw _ (List.mem_of_getElem? (i := 44) rfl))) (mvT hZ (hw _ (List.mem_of_getElem? (i := 45) rfl))) (notFace_of_selects (args := #[]) (mvT hZ (hw _ (List.mem_of_getElem? (i := 47) rfl)))) (mvT hZ (hw _ (List.mem_of_getElem? (i := 47) rfl))) (mvT hZ (hw _ (List.mem_of_getElem? (i := 46) rfl))) (by decide) (backOf (W := 0) (rm_eqI l Z a0 hw [] u487 u529 T528.heap n0 O543 p530) hZ (hw _ (List.mem_of_getElem? (i := 48) rfl)) (hw _ (List.mem_of_getElem? (i := 7) rfl)) (by decide) (by decide)) q545a q545c (g := (mkF m 179 #[.val (.int ia), .val (.int ib), .val (.int ie), .val (.int ig), .val (.int ik), .val (.int zc), .val (.int zb), .val (.int za), .val (.int zs), .val (.ref u487), .val (.ref u501), .val (.int (0 : Int32)), .val (.int (1 : Int32))] [(.ref u529), (.ref u487)])) rfl (by rw [hml]; rfl) (Steps.refl _) (argsL := [(.ref u529)]) (rest := []) (lenOf pd7 rfl) rfl (by show 2 * 0 + _ ≤ _; exact Nat.le_of_eq rfl) (hb hby at_179) (fun _ _ => ⟨rfl, rfl, (by decide : 7 + 0 ≤ _), (by decide : 55 + 0 ≤ _)⟩)
          dsimp only [Pt.U, Pt.locs, Pt.cells, Pt.slots] at X545 l545 y545 z545 st545 hQ545
          subst l545 y545 z545
          obtain ⟨rfl, Nq545, hh545⟩ := hQ545
          have N546 := Fr.app N531 Nq545
          refine GoH.via (T' := T545) (f' := (mkF m 182 #[.val (.int ia), .val (.int ib), .val (.int ie), .val (.int ig), .val (.int ik), .val (.int zc), .val (.int zb), .val (.int za), .val (.int zs), .val (.ref u487), .val (.ref u501), .val (.int (0 : Int32)), .val (.int (1 : Int32))] [(.int (0 : Int32))])) st545 ?_
          clear st545 X528 N531 Nq545
          refine GoH.step (T' := T545) (f' := (mkF m 185 #[.val (.int ia), .val (.int ib), .val (.int ie), .val (.int ig), .val (.int ik), .val (.int zc), .val (.int zb), .val (.int za), .val (.int zs), .val (.ref u487), .val (.ref u501), .val (.int (0 : Int32)), .val (.int (1 : Int32))] [])) (fun t k => XS.ifNo X545.here hx rfl (hb hby at_182) rfl ((if0 _ _).trans (teq (by decide : (0 : Int32) = (0 : Int32))).2) k) ?_
          refine GoH.step (T' := T545) (f' := (mkF m 186 #[.val (.int ia), .val (.int ib), .val (.int ie), .val (.int ig), .val (.int ik), .val (.int zc), .val (.int zb), .val (.int za), .val (.int zs), .val (.ref u487), .val (.ref u501), .val (.int (0 : Int32)), .val (.int (1 : Int32))] [(.int (1 : Int32))])) (fun t k => XS.iconst X545.here hx rfl (hb hby at_185) k) ?_
          refine GoH.step (T' := T545) (f' := (mkF m 190 #[.val (.int ia), .val (.int ib), .val (.int ie), .val (.int ig), .val (.int ik), .val (.int zc), .val (.int zb), .val (.int za), .val (.int zs), .val (.ref u487), .val (.ref u501), .val (.int (0 : Int32)), .val (.int (1 : Int32))] [(.int (1 : Int32))])) (fun t k => XS.goto X545.here hx rfl (pc0 := 186) (pc' := 190) rfl (hb hby at_186) (by decide) (by decide) k) ?_
          refine GoH.step (T' := T545) (f' := (mkF m 192 #[.val (.int ia), .val (.int ib), .val (.int ie), .val (.int ig), .val (.int ik), .val (.int zc), .val (.int zb), .val (.int za), .val (.int zs), .val (.ref u487), .val (.ref u501), .val (.int (0 : Int32)), .val (.int (1 : Int32))] [])) (fun t k => XS.istore X545.here hx rfl (hb hby at_190) rfl (l' := #[.val (.int ia), .val (.int ib), .val (.int ie), .val (.int ig), .val (.int ik), .val (.int zc), .val (.int zb), .val (.int za), .val (.int zs), .val (.ref u487), .val (.ref u501), .val (.int (0 : Int32)), .val (.int (1 : Int32))]) rfl k) ?_
          refine GoH.step (T' := T545) (f' := (mkF m 194 #[.val (.int ia), .val (.int ib), .val (.int ie), .val (.int ig), .val (.int ik), .val (.int zc), .val (.int zb), .val (.int za), .val (.int zs), .val (.ref u487), .val (.ref u501), .val (.int (0 : Int32)), .val (.int (1 : Int32))] [(.int (1 : Int32))])) (fun t k => XS.iload X545.here hx rfl (hb hby at_192) rfl k) ?_
          refine GoH.fin X545 hZ hEL hS500 hk534 CR533 hlk (v := some (.int (nar .boolean (1 : Int32)))) (fun h => by rw [Bd.returns] at h; cases h) (fun fs hr => retN X545 hx (t := .boolean) Bd.returns (by simp) (hb hby at_194) hr) hh545 ?_ (by decide) (by decide)
          exact ⟨rfl, N546, K544⟩
      ·
        rcases own_split hzb with hB | hB
        ·
          refine GoH.step (T' := s₁) (f' := (mkF m 56 #[.val (.int ia), .val (.int ib), .val (.int ie), .val (.int ig), .val (.int ik), .val (.int zc), .val (.int zb), .val (.int za), .val (.int zs), .unset, .unset, .unset, .unset] [(.int zc)])) (fun t k => XS.iload X0.here hx rfl (hb hby at_54) rfl k) ?_
          refine GoH.step (T' := s₁) (f' := (mkF m 58 #[.val (.int ia), .val (.int ib), .val (.int ie), .val (.int ig), .val (.int ik), .val (.int zc), .val (.int zb), .val (.int za), .val (.int zs), .unset, .unset, .unset, .unset] [(.int za), (.int zc)])) (fun t k => XS.iload X0.here hx rfl (hb hby at_56) rfl k) ?_
          obtain ⟨_, _, ⟨T547, L547, k547, n547⟩, -, X547, hS547, hg547, ⟨Lc547, hQ547, l547, y547, z547, ch547⟩, st547⟩ := callSS X0 hx (y := (⟨"com/example/unwind/unwind/saga/PositionEqualsPinLaw", "make", "(II)Lcom/example/unwind/unwind/saga/Position;"⟩ : MethodName)) hown (mvT hZ (hw _ (List.mem_of_getElem? (i := 1) rfl))) (mvT hZ (hw _ (List.mem_of_getElem? (i := 2) rfl))) (mvT hZ (hw _ (List.mem_of_getElem? (i := 3) rfl))) (mvT hZ (hw _ (List.mem_of_getElem? (i := 4) rfl))) (by decide) (backOfSH (s := s) (vm0 := s.vm) (W := 0) (rm_makeS l Z a0 hw [] zc za z_RUNNING z_ROLLING_BACK z_STUCK z_COMPLETED z_ROLLED_BACK h0 n0 O0 hEL P0 P1 P2 P3 P4 P5 P6 P7 P8 P9 P10 P11 P12 P13 P14 P15 P16 P17 P18 P19 (hza) (hA)) hZ (hw _ (List.mem_of_getElem? (i := 4) rfl)) (hw _ (List.mem_of_getElem? (i := 3) rfl)) (by decide) (by decide) hEL CR0.1) (g := (mkF m 58 #[.val (.int ia), .val (.int ib), .val (.int ie), .val (.int ig), .val (.int ik), .val (.int zc), .val (.int zb), .val (.int za), .val (.int zs), .unset, .unset, .unset, .unset] [(.int za), (.int zc)])) rfl (by rw [hml]; rfl) (argsL := [(.int zc), (.int za)]) (rest := []) (lenOf pd6 rfl) rfl (by show 2 * 0 + _ ≤ _; exact Nat.le_of_eq rfl) (hb hby at_58) (fun _ _ => ⟨rfl, e0, (by decide : 0 + 3 ≤ _), (by decide : 0 + 27 ≤ _)⟩)
          dsimp only [Pt.U, Pt.locs, Pt.cells, Pt.slots] at X547 l547 y547 z547 st547 hQ547 hS547 hg547 ch547
          subst l547 y547 z547
          obtain ⟨X547, hS547, hZ, hown⟩ := rebS (s := s) (vm0 := s.vm) hS0 (show _ ≤ s₁.heap.size by rw [e0]; exact hk0) X547 hS547 hg547 hZ hown
          obtain ⟨u548, rfl, Nq547, hh547, p549, p550, p551, p552, p553⟩ := hQ547
          have N554 := Fr.app N0 Nq547
          have CR555 := CR0.trans ch547
          have hk556 := Nat.le_refl T547.heap.size
          have O557 := O0.keep hh547 all0
          have K558 := K0.trans hh547 all0
          have g559 : n0 ≤ u548 := Nat.le_trans (own_old_le O0) p549
          have g560 : h0.size ≤ u548 := Nat.le_trans K0.1 p549
          refine GoH.via (T' := T547) (f' := (mkF m 61 #[.val (.int ia), .val (.int ib), .val (.int ie), .val (.int ig), .val (.int ik), .val (.int zc), .val (.int zb), .val (.int za), .val (.int zs), .unset, .unset, .unset, .unset] [(.ref u548)])) st547 ?_
          clear st547 X0 Nq547 CR0 hk0 hS0
          refine GoH.step (T' := T547) (f' := (mkF m 63 #[.val (.int ia), .val (.int ib), .val (.int ie), .val (.int ig), .val (.int ik), .val (.int zc), .val (.int zb), .val (.int za), .val (.int zs), .val (.ref u548), .unset, .unset, .unset] [])) (fun t k => XS.astore X547.here hx rfl (hb hby at_61) rfl rfl (l' := #[.val (.int ia), .val (.int ib), .val (.int ie), .val (.int ig), .val (.int ik), .val (.int zc), .val (.int zb), .val (.int za), .val (.int zs), .val (.ref u548), .unset, .unset, .unset]) rfl k) ?_
          refine GoH.step (T' := T547) (f' := (mkF m 65 #[.val (.int ia), .val (.int ib), .val (.int ie), .val (.int ig), .val (.int ik), .val (.int zc), .val (.int zb), .val (.int za), .val (.int zs), .val (.ref u548), .unset, .unset, .unset] [(.int zb)])) (fun t k => XS.iload X547.here hx rfl (hb hby at_63) rfl k) ?_
          refine GoH.step (T' := T547) (f' := (mkF m 67 #[.val (.int ia), .val (.int ib), .val (.int ie), .val (.int ig), .val (.int ik), .val (.int zc), .val (.int zb), .val (.int za), .val (.int zs), .val (.ref u548), .unset, .unset, .unset] [(.int zs), (.int zb)])) (fun t k => XS.iload X547.here hx rfl (hb hby at_65) rfl k) ?_
          obtain ⟨_, _, ⟨T561, L561, k561, n561⟩, -, X561, hS561, hg561, ⟨Lc561, hQ561, l561, y561, z561, ch561⟩, st561⟩ := callSS X547 hx (y := (⟨"com/example/unwind/unwind/saga/PositionEqualsPinLaw", "make", "(II)Lcom/example/unwind/unwind/saga/Position;"⟩ : MethodName)) hown (mvT hZ (hw _ (List.mem_of_getElem? (i := 1) rfl))) (mvT hZ (hw _ (List.mem_of_getElem? (i := 2) rfl))) (mvT hZ (hw _ (List.mem_of_getElem? (i := 3) rfl))) (mvT hZ (hw _ (List.mem_of_getElem? (i := 4) rfl))) (by decide) (backOfSH (s := s) (vm0 := T547.vm) (W := 0) (rm_makeP l Z a0 hw [] zb zs z_RUNNING z_ROLLING_BACK z_STUCK z_COMPLETED z_ROLLED_BACK T547.heap n0 O557 hEL P0 P1 P2 P3 P4 P5 P6 P7 P8 P9 P10 P11 P12 P13 P14 P15 P16 P17 P18 P19 (hzs) (hB)) hZ (hw _ (List.mem_of_getElem? (i := 4) rfl)) (hw _ (List.mem_of_getElem? (i := 3) rfl)) (by decide) (by decide) hEL CR555.1) (g := (mkF m 67 #[.val (.int ia), .val (.int ib), .val (.int ie), .val (.int ig), .val (.int ik), .val (.int zc), .val (.int zb), .val (.int za), .val (.int zs), .val (.ref u548), .unset, .unset, .unset] [(.int zs), (.int zb)])) rfl (by rw [hml]; rfl) (argsL := [(.int zb), (.int zs)]) (rest := []) (lenOf pd6 rfl) rfl (by show 2 * 0 + _ ≤ _; exact Nat.le_of_eq rfl) (hb hby at_67) (fun _ _ => ⟨rfl, rfl, (by decide : 3 + 3 ≤ _), (by decide : 27 + 27 ≤ _)⟩)
          dsimp only [Pt.U, Pt.locs, Pt.cells, Pt.slots] at X561 l561 y561 z561 st561 hQ561 hS561 hg561 ch561
          subst l561 y561 z561
          obtain ⟨X561, hS561, hZ, hown⟩ := rebS (s := s) (vm0 := T547.vm) hS547 (show _ ≤ T547.heap.size by exact hk556) X561 hS561 hg561 hZ hown
          obtain ⟨u562, rfl, Nq561, hh561, p563, p564, p565, p566, p567⟩ := hQ561
          have N568 := Fr.app N554 Nq561
          have CR569 := CR555.trans ch561
          have hk570 := Nat.le_refl T561.heap.size
          have f571 := p550.keep hh561
          have f572 := p551.keep hh561 nin0
          have f573 := p552.keep hh561 nin0
          have f574 := p553.keep hh561 nin0
          have O575 := O557.keep hh561 all0
          have K576 := K558.trans hh561 all0
          have g577 : n0 ≤ u562 := Nat.le_trans (own_old_le O557) p563
          have g578 : h0.size ≤ u562 := Nat.le_trans K558.1 p563
          have ne579 : u548 ≠ u562 := Nat.ne_of_lt (Nat.lt_of_lt_of_le p550.lt p563)
          refine GoH.via (T' := T561) (f' := (mkF m 70 #[.val (.int ia), .val (.int ib), .val (.int ie), .val (.int ig), .val (.int ik), .val (.int zc), .val (.int zb), .val (.int za), .val (.int zs), .val (.ref u548), .unset, .unset, .unset] [(.ref u562)])) st561 ?_
          clear st561 X547 N554 Nq561 CR555 hk556 hS547 p551 p552 p553
          refine GoH.step (T' := T561) (f' := (mkF m 72 #[.val (.int ia), .val (.int ib), .val (.int ie), .val (.int ig), .val (.int ik), .val (.int zc), .val (.int zb), .val (.int za), .val (.int zs), .val (.ref u548), .val (.ref u562), .unset, .unset] [])) (fun t k => XS.astore X561.here hx rfl (hb hby at_70) rfl rfl (l' := #[.val (.int ia), .val (.int ib), .val (.int ie), .val (.int ig), .val (.int ik), .val (.int zc), .val (.int zb), .val (.int za), .val (.int zs), .val (.ref u548), .val (.ref u562), .unset, .unset]) rfl k) ?_
          refine GoH.step (T' := T561) (f' := (mkF m 74 #[.val (.int ia), .val (.int ib), .val (.int ie), .val (.int ig), .val (.int ik), .val (.int zc), .val (.int zb), .val (.int za), .val (.int zs), .val (.ref u548), .val (.ref u562), .unset, .unset] [(.int zc)])) (fun t k => XS.iload X561.here hx rfl (hb hby at_72) rfl k) ?_
          refine GoH.step (T' := T561) (f' := (mkF m 76 #[.val (.int ia), .val (.int ib), .val (.int ie), .val (.int ig), .val (.int ik), .val (.int zc), .val (.int zb), .val (.int za), .val (.int zs), .val (.ref u548), .val (.ref u562), .unset, .unset] [(.int zb), (.int zc)])) (fun t k => XS.iload X561.here hx rfl (hb hby at_74) rfl k) ?_
          have hc580 : ¬ (zc = zb) := by
            exact fun q => own_apart hB hA q.symm
          refine GoH.step (T' := T561) (f' := (mkF m 90 #[.val (.int ia), .val (.int ib), .val (.int ie), .val (.int ig), .val (.int ik), .val (.int zc), .val (.int zb), .val (.int za), .val (.int zs), .val (.ref u548), .val (.ref u562), .unset, .unset] [])) (fun t k => XS.icmpYes X561.here hx rfl (pc0 := 76) (pc' := 90) rfl (hb hby at_76) rfl (feq hc580).2 (by decide) (by decide) k) ?_
          refine GoH.step (T' := T561) (f' := (mkF m 91 #[.val (.int ia), .val (.int ib), .val (.int ie), .val (.int ig), .val (.int ik), .val (.int zc), .val (.int zb), .val (.int za), .val (.int zs), .val (.ref u548), .val (.ref u562), .unset, .unset] [(.int (0 : Int32))])) (fun t k => XS.iconst X561.here hx rfl (hb hby at_90) k) ?_
          refine GoH.step (T' := T561) (f' := (mkF m 93 #[.val (.int ia), .val (.int ib), .val (.int ie), .val (.int ig), .val (.int ik), .val (.int zc), .val (.int zb), .val (.int za), .val (.int zs), .val (.ref u548), .val (.ref u562), .val (.int (0 : Int32)), .unset] [])) (fun t k => XS.istore X561.here hx rfl (hb hby at_91) rfl (l' := #[.val (.int ia), .val (.int ib), .val (.int ie), .val (.int ig), .val (.int ik), .val (.int zc), .val (.int zb), .val (.int za), .val (.int zs), .val (.ref u548), .val (.ref u562), .val (.int (0 : Int32)), .unset]) rfl k) ?_
          refine GoH.step (T' := T561) (f' := (mkF m 95 #[.val (.int ia), .val (.int ib), .val (.int ie), .val (.int ig), .val (.int ik), .val (.int zc), .val (.int zb), .val (.int za), .val (.int zs), .val (.ref u548), .val (.ref u562), .val (.int (0 : Int32)), .unset] [(.ref u548)])) (fun t k => XS.aload X561.here hx rfl (hb hby at_93) rfl rfl k) ?_
          refine GoH.step (T' := T561) (f' := (mkF m 97 #[.val (.int ia), .val (.int ib), .val (.int ie), .val (.int ig), .val (.int ik), .val (.int zc), .val (.int zb), .val (.int za), .val (.int zs), .val (.ref u548), .val (.ref u562), .val (.int (0 : Int32)), .unset] [(.ref u562), (.ref u548)])) (fun t k => XS.aload X561.here hx rfl (hb hby at_95) rfl rfl k) ?_
          obtain ⟨cq581, kq581, q581a, q581b, q581c⟩ := isOf hZ rfl f571
          obtain ⟨_, _, ⟨T581, L581, k581, n581⟩, -, X581, ⟨Lc581, hQ581, l581, y581, z581⟩, st581⟩ := X561.virtualBack hx (y := (⟨"com/example/unwind/unwind/saga/Position", "equals", "(Ljava/lang/Object;)Z"⟩ : MethodName)) (z := (⟨"com/example/unwind/unwind/saga/Position", "equals", "(Ljava/lang/Object;)Z"⟩ : MethodName)) hown (mvT hZ (hw _ (List.mem_of_getElem? (i := 44) rfl))) (mvT hZ (hw _ (List.mem_of_getElem? (i := 45) rfl))) (notFace_of_selects (args := #[]) (mvT hZ (hw _ (List.mem_of_getElem? (i := 47) rfl)))) (mvT hZ (hw _ (List.mem_of_getElem? (i := 47) rfl))) (mvT hZ (hw _ (List.mem_of_getElem? (i := 46) rfl))) (by decide) (backOf (W := 0) (rm_eqSP l Z a0 hw [] u548 u562 z_STUCK za (own_sa zb z_RUNNING z_ROLLING_BACK z_COMPLETED z_ROLLED_BACK) zs (own_sb zc z_RUNNING z_ROLLING_BACK) T561.heap n0 O575 p564 f572 f573 f574 p565 p566 p567) hZ (hw _ (List.mem_of_getElem? (i := 48) rfl)) (hw _ (List.mem_of_getElem? (i := 7) rfl)) (by decide) (by decide)) q581a q581c (g := (mkF m 97 #[.val (.int ia), .val (.int ib), .val (.int ie), .val (.int ig), .val (.int ik), .val (.int zc), .val (.int zb), .val (.int za), .val (.int zs), .val (.ref u548), .val (.ref u562), .val (.int (0 : Int32)), .unset] [(.ref u562), (.ref u548)])) rfl (by rw [hml]; rfl) (Steps.refl _) (argsL := [(.ref u562)]) (rest := []) (lenOf pd7 rfl) rfl (by show 2 * 0 + _ ≤ _; exact Nat.le_of_eq rfl) (hb hby at_97) (fun _ _ => ⟨rfl, rfl, (by decide : 6 + 0 ≤ _), (by decide : 54 + 0 ≤ _)⟩)
          dsimp only [Pt.U, Pt.locs, Pt.cells, Pt.slots] at X581 l581 y581 z581 st581 hQ581
          subst l581 y581 z581
          obtain ⟨rfl, Nq581, hh581⟩ := hQ581
          have N582 := Fr.app N568 Nq581
          refine GoH.via (T' := T581) (f' := (mkF m 100 #[.val (.int ia), .val (.int ib), .val (.int ie), .val (.int ig), .val (.int ik), .val (.int zc), .val (.int zb), .val (.int za), .val (.int zs), .val (.ref u548), .val (.ref u562), .val (.int (0 : Int32)), .unset] [(.int (0 : Int32))])) st581 ?_
          clear st581 X561 N568 Nq581
          refine GoH.step (T' := T581) (f' := (mkF m 102 #[.val (.int ia), .val (.int ib), .val (.int ie), .val (.int ig), .val (.int ik), .val (.int zc), .val (.int zb), .val (.int za), .val (.int zs), .val (.ref u548), .val (.ref u562), .val (.int (0 : Int32)), .unset] [(.int (0 : Int32)), (.int (0 : Int32))])) (fun t k => XS.iload X581.here hx rfl (hb hby at_100) rfl k) ?_
          refine GoH.step (T' := T581) (f' := (mkF m 105 #[.val (.int ia), .val (.int ib), .val (.int ie), .val (.int ig), .val (.int ik), .val (.int zc), .val (.int zb), .val (.int za), .val (.int zs), .val (.ref u548), .val (.ref u562), .val (.int (0 : Int32)), .unset] [])) (fun t k => XS.icmpNo X581.here hx rfl (hb hby at_102) rfl (teq (by decide : (0 : Int32) = (0 : Int32))).2 k) ?_
          refine GoH.step (T' := T581) (f' := (mkF m 107 #[.val (.int ia), .val (.int ib), .val (.int ie), .val (.int ig), .val (.int ik), .val (.int zc), .val (.int zb), .val (.int za), .val (.int zs), .val (.ref u548), .val (.ref u562), .val (.int (0 : Int32)), .unset] [(.ref u562)])) (fun t k => XS.aload X581.here hx rfl (hb hby at_105) rfl rfl k) ?_
          refine GoH.step (T' := T581) (f' := (mkF m 109 #[.val (.int ia), .val (.int ib), .val (.int ie), .val (.int ig), .val (.int ik), .val (.int zc), .val (.int zb), .val (.int za), .val (.int zs), .val (.ref u548), .val (.ref u562), .val (.int (0 : Int32)), .unset] [(.ref u548), (.ref u562)])) (fun t k => XS.aload X581.here hx rfl (hb hby at_107) rfl rfl k) ?_
          obtain ⟨cq583, kq583, q583a, q583b, q583c⟩ := isOf hZ hh581 p564
          obtain ⟨_, _, ⟨T583, L583, k583, n583⟩, -, X583, ⟨Lc583, hQ583, l583, y583, z583⟩, st583⟩ := X581.virtualBack hx (y := (⟨"com/example/unwind/unwind/saga/Position", "equals", "(Ljava/lang/Object;)Z"⟩ : MethodName)) (z := (⟨"com/example/unwind/unwind/saga/Position", "equals", "(Ljava/lang/Object;)Z"⟩ : MethodName)) hown (mvT hZ (hw _ (List.mem_of_getElem? (i := 44) rfl))) (mvT hZ (hw _ (List.mem_of_getElem? (i := 45) rfl))) (notFace_of_selects (args := #[]) (mvT hZ (hw _ (List.mem_of_getElem? (i := 47) rfl)))) (mvT hZ (hw _ (List.mem_of_getElem? (i := 47) rfl))) (mvT hZ (hw _ (List.mem_of_getElem? (i := 46) rfl))) (by decide) (backOf (W := 0) (rm_eqPS l Z a0 hw [] u562 u548 (own_sa zb z_RUNNING z_ROLLING_BACK z_COMPLETED z_ROLLED_BACK) zs z_STUCK za (own_sb zc z_RUNNING z_ROLLING_BACK) T561.heap n0 O575 f571 p565 p566 p567 f572 f573 f574) hZ (hw _ (List.mem_of_getElem? (i := 48) rfl)) (hw _ (List.mem_of_getElem? (i := 7) rfl)) (by decide) (by decide)) q583a q583c (g := (mkF m 109 #[.val (.int ia), .val (.int ib), .val (.int ie), .val (.int ig), .val (.int ik), .val (.int zc), .val (.int zb), .val (.int za), .val (.int zs), .val (.ref u548), .val (.ref u562), .val (.int (0 : Int32)), .unset] [(.ref u548), (.ref u562)])) rfl (by rw [hml]; rfl) (Steps.refl _) (argsL := [(.ref u548)]) (rest := []) (lenOf pd7 rfl) rfl (by show 2 * 0 + _ ≤ _; exact Nat.le_of_eq rfl) (hb hby at_109) (fun _ _ => ⟨rfl, hh581, (by decide : 6 + 0 ≤ _), (by decide : 54 + 0 ≤ _)⟩)
          dsimp only [Pt.U, Pt.locs, Pt.cells, Pt.slots] at X583 l583 y583 z583 st583 hQ583
          subst l583 y583 z583
          obtain ⟨rfl, Nq583, hh583⟩ := hQ583
          have N584 := Fr.app N582 Nq583
          refine GoH.via (T' := T583) (f' := (mkF m 112 #[.val (.int ia), .val (.int ib), .val (.int ie), .val (.int ig), .val (.int ik), .val (.int zc), .val (.int zb), .val (.int za), .val (.int zs), .val (.ref u548), .val (.ref u562), .val (.int (0 : Int32)), .unset] [(.int (0 : Int32))])) st583 ?_
          clear st583 X581 N582 Nq583
          refine GoH.step (T' := T583) (f' := (mkF m 114 #[.val (.int ia), .val (.int ib), .val (.int ie), .val (.int ig), .val (.int ik), .val (.int zc), .val (.int zb), .val (.int za), .val (.int zs), .val (.ref u548), .val (.ref u562), .val (.int (0 : Int32)), .unset] [(.int (0 : Int32)), (.int (0 : Int32))])) (fun t k => XS.iload X583.here hx rfl (hb hby at_112) rfl k) ?_
          refine GoH.step (T' := T583) (f' := (mkF m 117 #[.val (.int ia), .val (.int ib), .val (.int ie), .val (.int ig), .val (.int ik), .val (.int zc), .val (.int zb), .val (.int za), .val (.int zs), .val (.ref u548), .val (.ref u562), .val (.int (0 : Int32)), .unset] [])) (fun t k => XS.icmpNo X583.here hx rfl (hb hby at_114) rfl (teq (by decide : (0 : Int32) = (0 : Int32))).2 k) ?_
          refine GoH.step (T' := T583) (f' := (mkF m 118 #[.val (.int ia), .val (.int ib), .val (.int ie), .val (.int ig), .val (.int ik), .val (.int zc), .val (.int zb), .val (.int za), .val (.int zs), .val (.ref u548), .val (.ref u562), .val (.int (0 : Int32)), .unset] [(.int (1 : Int32))])) (fun t k => XS.iconst X583.here hx rfl (hb hby at_117) k) ?_
          refine GoH.step (T' := T583) (f' := (mkF m 122 #[.val (.int ia), .val (.int ib), .val (.int ie), .val (.int ig), .val (.int ik), .val (.int zc), .val (.int zb), .val (.int za), .val (.int zs), .val (.ref u548), .val (.ref u562), .val (.int (0 : Int32)), .unset] [(.int (1 : Int32))])) (fun t k => XS.goto X583.here hx rfl (pc0 := 118) (pc' := 122) rfl (hb hby at_118) (by decide) (by decide) k) ?_
          refine GoH.step (T' := T583) (f' := (mkF m 124 #[.val (.int ia), .val (.int ib), .val (.int ie), .val (.int ig), .val (.int ik), .val (.int zc), .val (.int zb), .val (.int za), .val (.int zs), .val (.ref u548), .val (.ref u562), .val (.int (0 : Int32)), .val (.int (1 : Int32))] [])) (fun t k => XS.istore X583.here hx rfl (hb hby at_122) rfl (l' := #[.val (.int ia), .val (.int ib), .val (.int ie), .val (.int ig), .val (.int ik), .val (.int zc), .val (.int zb), .val (.int za), .val (.int zs), .val (.ref u548), .val (.ref u562), .val (.int (0 : Int32)), .val (.int (1 : Int32))]) rfl k) ?_
          refine GoH.step (T' := T583) (f' := (mkF m 126 #[.val (.int ia), .val (.int ib), .val (.int ie), .val (.int ig), .val (.int ik), .val (.int zc), .val (.int zb), .val (.int za), .val (.int zs), .val (.ref u548), .val (.ref u562), .val (.int (0 : Int32)), .val (.int (1 : Int32))] [(.int (1 : Int32))])) (fun t k => XS.iload X583.here hx rfl (hb hby at_124) rfl k) ?_
          refine GoH.step (T' := T583) (f' := (mkF m 129 #[.val (.int ia), .val (.int ib), .val (.int ie), .val (.int ig), .val (.int ik), .val (.int zc), .val (.int zb), .val (.int za), .val (.int zs), .val (.ref u548), .val (.ref u562), .val (.int (0 : Int32)), .val (.int (1 : Int32))] [])) (fun t k => XS.ifNo X583.here hx rfl (hb hby at_126) rfl ((if0 _ _).trans (feq (by decide : ¬ ((1 : Int32) = (0 : Int32)))).1) k) ?_
          refine GoH.step (T' := T583) (f' := (mkF m 131 #[.val (.int ia), .val (.int ib), .val (.int ie), .val (.int ig), .val (.int ik), .val (.int zc), .val (.int zb), .val (.int za), .val (.int zs), .val (.ref u548), .val (.ref u562), .val (.int (0 : Int32)), .val (.int (1 : Int32))] [(.ref u548)])) (fun t k => XS.aload X583.here hx rfl (hb hby at_129) rfl rfl k) ?_
          refine GoH.step (T' := T583) (f' := (mkF m 133 #[.val (.int ia), .val (.int ib), .val (.int ie), .val (.int ig), .val (.int ik), .val (.int zc), .val (.int zb), .val (.int za), .val (.int zs), .val (.ref u548), .val (.ref u562), .val (.int (0 : Int32)), .val (.int (1 : Int32))] [(.ref u548), (.ref u548)])) (fun t k => XS.aload X583.here hx rfl (hb hby at_131) rfl rfl k) ?_
          obtain ⟨cq585, kq585, q585a, q585b, q585c⟩ := isOf hZ hh583 f571
          obtain ⟨_, _, ⟨T585, L585, k585, n585⟩, -, X585, ⟨Lc585, hQ585, l585, y585, z585⟩, st585⟩ := X583.virtualBack hx (y := (⟨"com/example/unwind/unwind/saga/Position", "equals", "(Ljava/lang/Object;)Z"⟩ : MethodName)) (z := (⟨"com/example/unwind/unwind/saga/Position", "equals", "(Ljava/lang/Object;)Z"⟩ : MethodName)) hown (mvT hZ (hw _ (List.mem_of_getElem? (i := 44) rfl))) (mvT hZ (hw _ (List.mem_of_getElem? (i := 45) rfl))) (notFace_of_selects (args := #[]) (mvT hZ (hw _ (List.mem_of_getElem? (i := 47) rfl)))) (mvT hZ (hw _ (List.mem_of_getElem? (i := 47) rfl))) (mvT hZ (hw _ (List.mem_of_getElem? (i := 46) rfl))) (by decide) (backOf (W := 0) (rm_eq1S l Z a0 hw [] u548 z_STUCK za (own_sb zc z_RUNNING z_ROLLING_BACK) T561.heap n0 O575 f571 f572 f573 f574) hZ (hw _ (List.mem_of_getElem? (i := 48) rfl)) (hw _ (List.mem_of_getElem? (i := 7) rfl)) (by decide) (by decide)) q585a q585c (g := (mkF m 133 #[.val (.int ia), .val (.int ib), .val (.int ie), .val (.int ig), .val (.int ik), .val (.int zc), .val (.int zb), .val (.int za), .val (.int zs), .val (.ref u548), .val (.ref u562), .val (.int (0 : Int32)), .val (.int (1 : Int32))] [(.ref u548), (.ref u548)])) rfl (by rw [hml]; rfl) (Steps.refl _) (argsL := [(.ref u548)]) (rest := []) (lenOf pd7 rfl) rfl (by show 2 * 0 + _ ≤ _; exact Nat.le_of_eq rfl) (hb hby at_133) (fun _ _ => ⟨rfl, hh583, (by decide : 6 + 0 ≤ _), (by decide : 54 + 0 ≤ _)⟩)
          dsimp only [Pt.U, Pt.locs, Pt.cells, Pt.slots] at X585 l585 y585 z585 st585 hQ585
          subst l585 y585 z585
          obtain ⟨rfl, Nq585, hh585⟩ := hQ585
          have N586 := Fr.app N584 Nq585
          refine GoH.via (T' := T585) (f' := (mkF m 136 #[.val (.int ia), .val (.int ib), .val (.int ie), .val (.int ig), .val (.int ik), .val (.int zc), .val (.int zb), .val (.int za), .val (.int zs), .val (.ref u548), .val (.ref u562), .val (.int (0 : Int32)), .val (.int (1 : Int32))] [(.int (1 : Int32))])) st585 ?_
          clear st585 X583 N584 Nq585
          refine GoH.step (T' := T585) (f' := (mkF m 139 #[.val (.int ia), .val (.int ib), .val (.int ie), .val (.int ig), .val (.int ik), .val (.int zc), .val (.int zb), .val (.int za), .val (.int zs), .val (.ref u548), .val (.ref u562), .val (.int (0 : Int32)), .val (.int (1 : Int32))] [])) (fun t k => XS.ifNo X585.here hx rfl (hb hby at_136) rfl ((if0 _ _).trans (feq (by decide : ¬ ((1 : Int32) = (0 : Int32)))).1) k) ?_
          refine GoH.step (T' := T585) (f' := (mkF m 140 #[.val (.int ia), .val (.int ib), .val (.int ie), .val (.int ig), .val (.int ik), .val (.int zc), .val (.int zb), .val (.int za), .val (.int zs), .val (.ref u548), .val (.ref u562), .val (.int (0 : Int32)), .val (.int (1 : Int32))] [(.int (1 : Int32))])) (fun t k => XS.iconst X585.here hx rfl (hb hby at_139) k) ?_
          refine GoH.step (T' := T585) (f' := (mkF m 144 #[.val (.int ia), .val (.int ib), .val (.int ie), .val (.int ig), .val (.int ik), .val (.int zc), .val (.int zb), .val (.int za), .val (.int zs), .val (.ref u548), .val (.ref u562), .val (.int (0 : Int32)), .val (.int (1 : Int32))] [(.int (1 : Int32))])) (fun t k => XS.goto X585.here hx rfl (pc0 := 140) (pc' := 144) rfl (hb hby at_140) (by decide) (by decide) k) ?_
          refine GoH.step (T' := T585) (f' := (mkF m 146 #[.val (.int ia), .val (.int ib), .val (.int ie), .val (.int ig), .val (.int ik), .val (.int zc), .val (.int zb), .val (.int za), .val (.int zs), .val (.ref u548), .val (.ref u562), .val (.int (0 : Int32)), .val (.int (1 : Int32))] [])) (fun t k => XS.istore X585.here hx rfl (hb hby at_144) rfl (l' := #[.val (.int ia), .val (.int ib), .val (.int ie), .val (.int ig), .val (.int ik), .val (.int zc), .val (.int zb), .val (.int za), .val (.int zs), .val (.ref u548), .val (.ref u562), .val (.int (0 : Int32)), .val (.int (1 : Int32))]) rfl k) ?_
          refine GoH.step (T' := T585) (f' := (mkF m 148 #[.val (.int ia), .val (.int ib), .val (.int ie), .val (.int ig), .val (.int ik), .val (.int zc), .val (.int zb), .val (.int za), .val (.int zs), .val (.ref u548), .val (.ref u562), .val (.int (0 : Int32)), .val (.int (1 : Int32))] [(.int (1 : Int32))])) (fun t k => XS.iload X585.here hx rfl (hb hby at_146) rfl k) ?_
          refine GoH.step (T' := T585) (f' := (mkF m 151 #[.val (.int ia), .val (.int ib), .val (.int ie), .val (.int ig), .val (.int ik), .val (.int zc), .val (.int zb), .val (.int za), .val (.int zs), .val (.ref u548), .val (.ref u562), .val (.int (0 : Int32)), .val (.int (1 : Int32))] [])) (fun t k => XS.ifNo X585.here hx rfl (hb hby at_148) rfl ((if0 _ _).trans (feq (by decide : ¬ ((1 : Int32) = (0 : Int32)))).1) k) ?_
          refine GoH.step (T' := T585) (f' := (mkF m 153 #[.val (.int ia), .val (.int ib), .val (.int ie), .val (.int ig), .val (.int ik), .val (.int zc), .val (.int zb), .val (.int za), .val (.int zs), .val (.ref u548), .val (.ref u562), .val (.int (0 : Int32)), .val (.int (1 : Int32))] [(.ref u548)])) (fun t k => XS.aload X585.here hx rfl (hb hby at_151) rfl rfl k) ?_
          refine GoH.step (T' := T585) (f' := (mkF m 154 #[.val (.int ia), .val (.int ib), .val (.int ie), .val (.int ig), .val (.int ik), .val (.int zc), .val (.int zb), .val (.int za), .val (.int zs), .val (.ref u548), .val (.ref u562), .val (.int (0 : Int32)), .val (.int (1 : Int32))] [.null, (.ref u548)])) (fun t k => XS.aconstNull X585.here hx rfl (hb hby at_153) k) ?_
          obtain ⟨cq587, kq587, q587a, q587b, q587c⟩ := isOf hZ hh585 f571
          obtain ⟨_, _, ⟨T587, L587, k587, n587⟩, -, X587, ⟨Lc587, hQ587, l587, y587, z587⟩, st587⟩ := X585.virtualBack hx (y := (⟨"com/example/unwind/unwind/saga/Position", "equals", "(Ljava/lang/Object;)Z"⟩ : MethodName)) (z := (⟨"com/example/unwind/unwind/saga/Position", "equals", "(Ljava/lang/Object;)Z"⟩ : MethodName)) hown (mvT hZ (hw _ (List.mem_of_getElem? (i := 44) rfl))) (mvT hZ (hw _ (List.mem_of_getElem? (i := 45) rfl))) (notFace_of_selects (args := #[]) (mvT hZ (hw _ (List.mem_of_getElem? (i := 47) rfl)))) (mvT hZ (hw _ (List.mem_of_getElem? (i := 47) rfl))) (mvT hZ (hw _ (List.mem_of_getElem? (i := 46) rfl))) (by decide) (backOf (W := 0) (rm_eqN l Z a0 hw [] u548 T561.heap n0 O575 ) hZ (hw _ (List.mem_of_getElem? (i := 48) rfl)) (hw _ (List.mem_of_getElem? (i := 7) rfl)) (by decide) (by decide)) q587a q587c (g := (mkF m 154 #[.val (.int ia), .val (.int ib), .val (.int ie), .val (.int ig), .val (.int ik), .val (.int zc), .val (.int zb), .val (.int za), .val (.int zs), .val (.ref u548), .val (.ref u562), .val (.int (0 : Int32)), .val (.int (1 : Int32))] [.null, (.ref u548)])) rfl (by rw [hml]; rfl) (Steps.refl _) (argsL := [.null]) (rest := []) (lenOf pd7 rfl) rfl (by show 2 * 0 + _ ≤ _; exact Nat.le_of_eq rfl) (hb hby at_154) (fun _ _ => ⟨rfl, hh585, (by decide : 6 + 0 ≤ _), (by decide : 54 + 0 ≤ _)⟩)
          dsimp only [Pt.U, Pt.locs, Pt.cells, Pt.slots] at X587 l587 y587 z587 st587 hQ587
          subst l587 y587 z587
          obtain ⟨rfl, Nq587, hh587⟩ := hQ587
          have N588 := Fr.app N586 Nq587
          refine GoH.via (T' := T587) (f' := (mkF m 157 #[.val (.int ia), .val (.int ib), .val (.int ie), .val (.int ig), .val (.int ik), .val (.int zc), .val (.int zb), .val (.int za), .val (.int zs), .val (.ref u548), .val (.ref u562), .val (.int (0 : Int32)), .val (.int (1 : Int32))] [(.int (0 : Int32))])) st587 ?_
          clear st587 X585 N586 Nq587
          refine GoH.step (T' := T587) (f' := (mkF m 160 #[.val (.int ia), .val (.int ib), .val (.int ie), .val (.int ig), .val (.int ik), .val (.int zc), .val (.int zb), .val (.int za), .val (.int zs), .val (.ref u548), .val (.ref u562), .val (.int (0 : Int32)), .val (.int (1 : Int32))] [])) (fun t k => XS.ifNo X587.here hx rfl (hb hby at_157) rfl ((if0 _ _).trans (teq (by decide : (0 : Int32) = (0 : Int32))).2) k) ?_
          refine GoH.step (T' := T587) (f' := (mkF m 161 #[.val (.int ia), .val (.int ib), .val (.int ie), .val (.int ig), .val (.int ik), .val (.int zc), .val (.int zb), .val (.int za), .val (.int zs), .val (.ref u548), .val (.ref u562), .val (.int (0 : Int32)), .val (.int (1 : Int32))] [(.int (1 : Int32))])) (fun t k => XS.iconst X587.here hx rfl (hb hby at_160) k) ?_
          refine GoH.step (T' := T587) (f' := (mkF m 165 #[.val (.int ia), .val (.int ib), .val (.int ie), .val (.int ig), .val (.int ik), .val (.int zc), .val (.int zb), .val (.int za), .val (.int zs), .val (.ref u548), .val (.ref u562), .val (.int (0 : Int32)), .val (.int (1 : Int32))] [(.int (1 : Int32))])) (fun t k => XS.goto X587.here hx rfl (pc0 := 161) (pc' := 165) rfl (hb hby at_161) (by decide) (by decide) k) ?_
          refine GoH.step (T' := T587) (f' := (mkF m 167 #[.val (.int ia), .val (.int ib), .val (.int ie), .val (.int ig), .val (.int ik), .val (.int zc), .val (.int zb), .val (.int za), .val (.int zs), .val (.ref u548), .val (.ref u562), .val (.int (0 : Int32)), .val (.int (1 : Int32))] [])) (fun t k => XS.istore X587.here hx rfl (hb hby at_165) rfl (l' := #[.val (.int ia), .val (.int ib), .val (.int ie), .val (.int ig), .val (.int ik), .val (.int zc), .val (.int zb), .val (.int za), .val (.int zs), .val (.ref u548), .val (.ref u562), .val (.int (0 : Int32)), .val (.int (1 : Int32))]) rfl k) ?_
          refine GoH.step (T' := T587) (f' := (mkF m 169 #[.val (.int ia), .val (.int ib), .val (.int ie), .val (.int ig), .val (.int ik), .val (.int zc), .val (.int zb), .val (.int za), .val (.int zs), .val (.ref u548), .val (.ref u562), .val (.int (0 : Int32)), .val (.int (1 : Int32))] [(.int (1 : Int32))])) (fun t k => XS.iload X587.here hx rfl (hb hby at_167) rfl k) ?_
          refine GoH.step (T' := T587) (f' := (mkF m 172 #[.val (.int ia), .val (.int ib), .val (.int ie), .val (.int ig), .val (.int ik), .val (.int zc), .val (.int zb), .val (.int za), .val (.int zs), .val (.ref u548), .val (.ref u562), .val (.int (0 : Int32)), .val (.int (1 : Int32))] [])) (fun t k => XS.ifNo X587.here hx rfl (hb hby at_169) rfl ((if0 _ _).trans (feq (by decide : ¬ ((1 : Int32) = (0 : Int32)))).1) k) ?_
          refine GoH.step (T' := T587) (f' := (mkF m 174 #[.val (.int ia), .val (.int ib), .val (.int ie), .val (.int ig), .val (.int ik), .val (.int zc), .val (.int zb), .val (.int za), .val (.int zs), .val (.ref u548), .val (.ref u562), .val (.int (0 : Int32)), .val (.int (1 : Int32))] [(.ref u548)])) (fun t k => XS.aload X587.here hx rfl (hb hby at_172) rfl rfl k) ?_
          refine GoH.step (T' := T587) (f' := (mkF m 176 #[.val (.int ia), .val (.int ib), .val (.int ie), .val (.int ig), .val (.int ik), .val (.int zc), .val (.int zb), .val (.int za), .val (.int zs), .val (.ref u548), .val (.ref u562), .val (.int (0 : Int32)), .val (.int (1 : Int32))] [(.int za), (.ref u548)])) (fun t k => XS.iload X587.here hx rfl (hb hby at_174) rfl k) ?_
          obtain ⟨_, _, ⟨T589, L589, k589, n589⟩, -, X589, ⟨Lc589, hQ589, l589, y589, z589⟩, st589⟩ := Jvm.LawKit.callS X587 hx (y := (⟨"java/lang/Integer", "valueOf", "(I)Ljava/lang/Integer;"⟩ : MethodName)) hown (mvT hZ (hw _ (List.mem_of_getElem? (i := 51) rfl))) (mvT hZ (hw _ (List.mem_of_getElem? (i := 52) rfl))) (mvT hZ (hw _ (List.mem_of_getElem? (i := 53) rfl))) (mvT hZ (hw _ (List.mem_of_getElem? (i := 54) rfl))) (by decide) (backOf (W := 1) (rm_ival l Z a0 hw [] za wc cc T561.heap n0 O575 P20 P21 hbx (hza)) hZ (hw _ (List.mem_of_getElem? (i := 54) rfl)) (hw _ (List.mem_of_getElem? (i := 53) rfl)) (by decide) (by decide)) (g := (mkF m 176 #[.val (.int ia), .val (.int ib), .val (.int ie), .val (.int ig), .val (.int ik), .val (.int zc), .val (.int zb), .val (.int za), .val (.int zs), .val (.ref u548), .val (.ref u562), .val (.int (0 : Int32)), .val (.int (1 : Int32))] [(.int za), (.ref u548)])) rfl (by rw [hml]; rfl) (argsL := [(.int za)]) (rest := [(.ref u548)]) (lenOf pd8 rfl) rfl (by show 2 * 0 + _ ≤ _; exact Nat.le_of_eq rfl) (hb hby at_176) (fun _ _ => ⟨rfl, hh587, (by decide : 6 + 1 ≤ _), (by decide : 54 + 1 ≤ _)⟩)
          dsimp only [Pt.U, Pt.locs, Pt.cells, Pt.slots] at X589 l589 y589 z589 st589 hQ589
          subst l589 y589 z589
          obtain ⟨u590, rfl, Nq589, hh589, p591⟩ := hQ589
          have N592 := Fr.app N588 Nq589
          have sz593 : ∀ x ∈ ([] : List Addr), Safe Z own_EL T561.vm T561.heap x := sf0
          have CR594 := CR569.trans (CHr.keep hh589 sz593 CR569.1)
          have hk595 := Nat.le_trans hk570 hh589.1
          have f596 := f571.keep hh589
          have f597 := f572.keep hh589 nin0
          have f598 := f573.keep hh589 nin0
          have f599 := f574.keep hh589 nin0
          have f600 := p564.keep hh589
          have f601 := p565.keep hh589 nin0
          have f602 := p566.keep hh589 nin0
          have f603 := p567.keep hh589 nin0
          have O604 := O575.keep hh589 all0
          have K605 := K576.trans hh589 all0
          refine GoH.step (T' := T589) (f' := (mkF m 179 #[.val (.int ia), .val (.int ib), .val (.int ie), .val (.int ig), .val (.int ik), .val (.int zc), .val (.int zb), .val (.int za), .val (.int zs), .val (.ref u548), .val (.ref u562), .val (.int (0 : Int32)), .val (.int (1 : Int32))] [(.ref u590), (.ref u548)])) st589 ?_
          clear st589 X587 N588 Nq589 CR569 hk570 sz593 f572 f573 f574 p565 p566 p567
          obtain ⟨cq606, kq606, q606a, q606b, q606c⟩ := isOf hZ rfl f596
          obtain ⟨_, _, ⟨T606, L606, k606, n606⟩, -, X606, ⟨Lc606, hQ606, l606, y606, z606⟩, st606⟩ := X589.virtualBack hx (y := (⟨"com/example/unwind/unwind/saga/Position", "equals", "(Ljava/lang/Object;)Z"⟩ : MethodName)) (z := (⟨"com/example/unwind/unwind/saga/Position", "equals", "(Ljava/lang/Object;)Z"⟩ : MethodName)) hown (mvT hZ (hw _ (List.mem_of_getElem? (i := 44) rfl))) (mvT hZ (hw _ (List.mem_of_getElem? (i := 45) rfl))) (notFace_of_selects (args := #[]) (mvT hZ (hw _ (List.mem_of_getElem? (i := 47) rfl)))) (mvT hZ (hw _ (List.mem_of_getElem? (i := 47) rfl))) (mvT hZ (hw _ (List.mem_of_getElem? (i := 46) rfl))) (by decide) (backOf (W := 0) (rm_eqI l Z a0 hw [] u548 u590 T589.heap n0 O604 p591) hZ (hw _ (List.mem_of_getElem? (i := 48) rfl)) (hw _ (List.mem_of_getElem? (i := 7) rfl)) (by decide) (by decide)) q606a q606c (g := (mkF m 179 #[.val (.int ia), .val (.int ib), .val (.int ie), .val (.int ig), .val (.int ik), .val (.int zc), .val (.int zb), .val (.int za), .val (.int zs), .val (.ref u548), .val (.ref u562), .val (.int (0 : Int32)), .val (.int (1 : Int32))] [(.ref u590), (.ref u548)])) rfl (by rw [hml]; rfl) (Steps.refl _) (argsL := [(.ref u590)]) (rest := []) (lenOf pd7 rfl) rfl (by show 2 * 0 + _ ≤ _; exact Nat.le_of_eq rfl) (hb hby at_179) (fun _ _ => ⟨rfl, rfl, (by decide : 7 + 0 ≤ _), (by decide : 55 + 0 ≤ _)⟩)
          dsimp only [Pt.U, Pt.locs, Pt.cells, Pt.slots] at X606 l606 y606 z606 st606 hQ606
          subst l606 y606 z606
          obtain ⟨rfl, Nq606, hh606⟩ := hQ606
          have N607 := Fr.app N592 Nq606
          refine GoH.via (T' := T606) (f' := (mkF m 182 #[.val (.int ia), .val (.int ib), .val (.int ie), .val (.int ig), .val (.int ik), .val (.int zc), .val (.int zb), .val (.int za), .val (.int zs), .val (.ref u548), .val (.ref u562), .val (.int (0 : Int32)), .val (.int (1 : Int32))] [(.int (0 : Int32))])) st606 ?_
          clear st606 X589 N592 Nq606
          refine GoH.step (T' := T606) (f' := (mkF m 185 #[.val (.int ia), .val (.int ib), .val (.int ie), .val (.int ig), .val (.int ik), .val (.int zc), .val (.int zb), .val (.int za), .val (.int zs), .val (.ref u548), .val (.ref u562), .val (.int (0 : Int32)), .val (.int (1 : Int32))] [])) (fun t k => XS.ifNo X606.here hx rfl (hb hby at_182) rfl ((if0 _ _).trans (teq (by decide : (0 : Int32) = (0 : Int32))).2) k) ?_
          refine GoH.step (T' := T606) (f' := (mkF m 186 #[.val (.int ia), .val (.int ib), .val (.int ie), .val (.int ig), .val (.int ik), .val (.int zc), .val (.int zb), .val (.int za), .val (.int zs), .val (.ref u548), .val (.ref u562), .val (.int (0 : Int32)), .val (.int (1 : Int32))] [(.int (1 : Int32))])) (fun t k => XS.iconst X606.here hx rfl (hb hby at_185) k) ?_
          refine GoH.step (T' := T606) (f' := (mkF m 190 #[.val (.int ia), .val (.int ib), .val (.int ie), .val (.int ig), .val (.int ik), .val (.int zc), .val (.int zb), .val (.int za), .val (.int zs), .val (.ref u548), .val (.ref u562), .val (.int (0 : Int32)), .val (.int (1 : Int32))] [(.int (1 : Int32))])) (fun t k => XS.goto X606.here hx rfl (pc0 := 186) (pc' := 190) rfl (hb hby at_186) (by decide) (by decide) k) ?_
          refine GoH.step (T' := T606) (f' := (mkF m 192 #[.val (.int ia), .val (.int ib), .val (.int ie), .val (.int ig), .val (.int ik), .val (.int zc), .val (.int zb), .val (.int za), .val (.int zs), .val (.ref u548), .val (.ref u562), .val (.int (0 : Int32)), .val (.int (1 : Int32))] [])) (fun t k => XS.istore X606.here hx rfl (hb hby at_190) rfl (l' := #[.val (.int ia), .val (.int ib), .val (.int ie), .val (.int ig), .val (.int ik), .val (.int zc), .val (.int zb), .val (.int za), .val (.int zs), .val (.ref u548), .val (.ref u562), .val (.int (0 : Int32)), .val (.int (1 : Int32))]) rfl k) ?_
          refine GoH.step (T' := T606) (f' := (mkF m 194 #[.val (.int ia), .val (.int ib), .val (.int ie), .val (.int ig), .val (.int ik), .val (.int zc), .val (.int zb), .val (.int za), .val (.int zs), .val (.ref u548), .val (.ref u562), .val (.int (0 : Int32)), .val (.int (1 : Int32))] [(.int (1 : Int32))])) (fun t k => XS.iload X606.here hx rfl (hb hby at_192) rfl k) ?_
          refine GoH.fin X606 hZ hEL hS561 hk595 CR594 hlk (v := some (.int (nar .boolean (1 : Int32)))) (fun h => by rw [Bd.returns] at h; cases h) (fun fs hr => retN X606 hx (t := .boolean) Bd.returns (by simp) (hb hby at_194) hr) hh606 ?_ (by decide) (by decide)
          exact ⟨rfl, N607, K605⟩
        ·
          refine GoH.step (T' := s₁) (f' := (mkF m 56 #[.val (.int ia), .val (.int ib), .val (.int ie), .val (.int ig), .val (.int ik), .val (.int zc), .val (.int zb), .val (.int za), .val (.int zs), .unset, .unset, .unset, .unset] [(.int zc)])) (fun t k => XS.iload X0.here hx rfl (hb hby at_54) rfl k) ?_
          refine GoH.step (T' := s₁) (f' := (mkF m 58 #[.val (.int ia), .val (.int ib), .val (.int ie), .val (.int ig), .val (.int ik), .val (.int zc), .val (.int zb), .val (.int za), .val (.int zs), .unset, .unset, .unset, .unset] [(.int za), (.int zc)])) (fun t k => XS.iload X0.here hx rfl (hb hby at_56) rfl k) ?_
          obtain ⟨_, _, ⟨T608, L608, k608, n608⟩, -, X608, hS608, hg608, ⟨Lc608, hQ608, l608, y608, z608, ch608⟩, st608⟩ := callSS X0 hx (y := (⟨"com/example/unwind/unwind/saga/PositionEqualsPinLaw", "make", "(II)Lcom/example/unwind/unwind/saga/Position;"⟩ : MethodName)) hown (mvT hZ (hw _ (List.mem_of_getElem? (i := 1) rfl))) (mvT hZ (hw _ (List.mem_of_getElem? (i := 2) rfl))) (mvT hZ (hw _ (List.mem_of_getElem? (i := 3) rfl))) (mvT hZ (hw _ (List.mem_of_getElem? (i := 4) rfl))) (by decide) (backOfSH (s := s) (vm0 := s.vm) (W := 0) (rm_makeS l Z a0 hw [] zc za z_RUNNING z_ROLLING_BACK z_STUCK z_COMPLETED z_ROLLED_BACK h0 n0 O0 hEL P0 P1 P2 P3 P4 P5 P6 P7 P8 P9 P10 P11 P12 P13 P14 P15 P16 P17 P18 P19 (hza) (hA)) hZ (hw _ (List.mem_of_getElem? (i := 4) rfl)) (hw _ (List.mem_of_getElem? (i := 3) rfl)) (by decide) (by decide) hEL CR0.1) (g := (mkF m 58 #[.val (.int ia), .val (.int ib), .val (.int ie), .val (.int ig), .val (.int ik), .val (.int zc), .val (.int zb), .val (.int za), .val (.int zs), .unset, .unset, .unset, .unset] [(.int za), (.int zc)])) rfl (by rw [hml]; rfl) (argsL := [(.int zc), (.int za)]) (rest := []) (lenOf pd6 rfl) rfl (by show 2 * 0 + _ ≤ _; exact Nat.le_of_eq rfl) (hb hby at_58) (fun _ _ => ⟨rfl, e0, (by decide : 0 + 3 ≤ _), (by decide : 0 + 27 ≤ _)⟩)
          dsimp only [Pt.U, Pt.locs, Pt.cells, Pt.slots] at X608 l608 y608 z608 st608 hQ608 hS608 hg608 ch608
          subst l608 y608 z608
          obtain ⟨X608, hS608, hZ, hown⟩ := rebS (s := s) (vm0 := s.vm) hS0 (show _ ≤ s₁.heap.size by rw [e0]; exact hk0) X608 hS608 hg608 hZ hown
          obtain ⟨u609, rfl, Nq608, hh608, p610, p611, p612, p613, p614⟩ := hQ608
          have N615 := Fr.app N0 Nq608
          have CR616 := CR0.trans ch608
          have hk617 := Nat.le_refl T608.heap.size
          have O618 := O0.keep hh608 all0
          have K619 := K0.trans hh608 all0
          have g620 : n0 ≤ u609 := Nat.le_trans (own_old_le O0) p610
          have g621 : h0.size ≤ u609 := Nat.le_trans K0.1 p610
          refine GoH.via (T' := T608) (f' := (mkF m 61 #[.val (.int ia), .val (.int ib), .val (.int ie), .val (.int ig), .val (.int ik), .val (.int zc), .val (.int zb), .val (.int za), .val (.int zs), .unset, .unset, .unset, .unset] [(.ref u609)])) st608 ?_
          clear st608 X0 Nq608 CR0 hk0 hS0
          refine GoH.step (T' := T608) (f' := (mkF m 63 #[.val (.int ia), .val (.int ib), .val (.int ie), .val (.int ig), .val (.int ik), .val (.int zc), .val (.int zb), .val (.int za), .val (.int zs), .val (.ref u609), .unset, .unset, .unset] [])) (fun t k => XS.astore X608.here hx rfl (hb hby at_61) rfl rfl (l' := #[.val (.int ia), .val (.int ib), .val (.int ie), .val (.int ig), .val (.int ik), .val (.int zc), .val (.int zb), .val (.int za), .val (.int zs), .val (.ref u609), .unset, .unset, .unset]) rfl k) ?_
          refine GoH.step (T' := T608) (f' := (mkF m 65 #[.val (.int ia), .val (.int ib), .val (.int ie), .val (.int ig), .val (.int ik), .val (.int zc), .val (.int zb), .val (.int za), .val (.int zs), .val (.ref u609), .unset, .unset, .unset] [(.int zb)])) (fun t k => XS.iload X608.here hx rfl (hb hby at_63) rfl k) ?_
          refine GoH.step (T' := T608) (f' := (mkF m 67 #[.val (.int ia), .val (.int ib), .val (.int ie), .val (.int ig), .val (.int ik), .val (.int zc), .val (.int zb), .val (.int za), .val (.int zs), .val (.ref u609), .unset, .unset, .unset] [(.int zs), (.int zb)])) (fun t k => XS.iload X608.here hx rfl (hb hby at_65) rfl k) ?_
          obtain ⟨_, _, ⟨T622, L622, k622, n622⟩, -, X622, hS622, hg622, ⟨Lc622, hQ622, l622, y622, z622, ch622⟩, st622⟩ := callSS X608 hx (y := (⟨"com/example/unwind/unwind/saga/PositionEqualsPinLaw", "make", "(II)Lcom/example/unwind/unwind/saga/Position;"⟩ : MethodName)) hown (mvT hZ (hw _ (List.mem_of_getElem? (i := 1) rfl))) (mvT hZ (hw _ (List.mem_of_getElem? (i := 2) rfl))) (mvT hZ (hw _ (List.mem_of_getElem? (i := 3) rfl))) (mvT hZ (hw _ (List.mem_of_getElem? (i := 4) rfl))) (by decide) (backOfSH (s := s) (vm0 := T608.vm) (W := 0) (rm_makeS l Z a0 hw [] zb zs z_RUNNING z_ROLLING_BACK z_STUCK z_COMPLETED z_ROLLED_BACK T608.heap n0 O618 hEL P0 P1 P2 P3 P4 P5 P6 P7 P8 P9 P10 P11 P12 P13 P14 P15 P16 P17 P18 P19 (hzs) (hB)) hZ (hw _ (List.mem_of_getElem? (i := 4) rfl)) (hw _ (List.mem_of_getElem? (i := 3) rfl)) (by decide) (by decide) hEL CR616.1) (g := (mkF m 67 #[.val (.int ia), .val (.int ib), .val (.int ie), .val (.int ig), .val (.int ik), .val (.int zc), .val (.int zb), .val (.int za), .val (.int zs), .val (.ref u609), .unset, .unset, .unset] [(.int zs), (.int zb)])) rfl (by rw [hml]; rfl) (argsL := [(.int zb), (.int zs)]) (rest := []) (lenOf pd6 rfl) rfl (by show 2 * 0 + _ ≤ _; exact Nat.le_of_eq rfl) (hb hby at_67) (fun _ _ => ⟨rfl, rfl, (by decide : 3 + 3 ≤ _), (by decide : 27 + 27 ≤ _)⟩)
          dsimp only [Pt.U, Pt.locs, Pt.cells, Pt.slots] at X622 l622 y622 z622 st622 hQ622 hS622 hg622 ch622
          subst l622 y622 z622
          obtain ⟨X622, hS622, hZ, hown⟩ := rebS (s := s) (vm0 := T608.vm) hS608 (show _ ≤ T608.heap.size by exact hk617) X622 hS622 hg622 hZ hown
          obtain ⟨u623, rfl, Nq622, hh622, p624, p625, p626, p627, p628⟩ := hQ622
          have N629 := Fr.app N615 Nq622
          have CR630 := CR616.trans ch622
          have hk631 := Nat.le_refl T622.heap.size
          have f632 := p611.keep hh622
          have f633 := p612.keep hh622 nin0
          have f634 := p613.keep hh622 nin0
          have f635 := p614.keep hh622 nin0
          have O636 := O618.keep hh622 all0
          have K637 := K619.trans hh622 all0
          have g638 : n0 ≤ u623 := Nat.le_trans (own_old_le O618) p624
          have g639 : h0.size ≤ u623 := Nat.le_trans K619.1 p624
          have ne640 : u609 ≠ u623 := Nat.ne_of_lt (Nat.lt_of_lt_of_le p611.lt p624)
          refine GoH.via (T' := T622) (f' := (mkF m 70 #[.val (.int ia), .val (.int ib), .val (.int ie), .val (.int ig), .val (.int ik), .val (.int zc), .val (.int zb), .val (.int za), .val (.int zs), .val (.ref u609), .unset, .unset, .unset] [(.ref u623)])) st622 ?_
          clear st622 X608 N615 Nq622 CR616 hk617 hS608 p612 p613 p614
          refine GoH.step (T' := T622) (f' := (mkF m 72 #[.val (.int ia), .val (.int ib), .val (.int ie), .val (.int ig), .val (.int ik), .val (.int zc), .val (.int zb), .val (.int za), .val (.int zs), .val (.ref u609), .val (.ref u623), .unset, .unset] [])) (fun t k => XS.astore X622.here hx rfl (hb hby at_70) rfl rfl (l' := #[.val (.int ia), .val (.int ib), .val (.int ie), .val (.int ig), .val (.int ik), .val (.int zc), .val (.int zb), .val (.int za), .val (.int zs), .val (.ref u609), .val (.ref u623), .unset, .unset]) rfl k) ?_
          refine GoH.step (T' := T622) (f' := (mkF m 74 #[.val (.int ia), .val (.int ib), .val (.int ie), .val (.int ig), .val (.int ik), .val (.int zc), .val (.int zb), .val (.int za), .val (.int zs), .val (.ref u609), .val (.ref u623), .unset, .unset] [(.int zc)])) (fun t k => XS.iload X622.here hx rfl (hb hby at_72) rfl k) ?_
          refine GoH.step (T' := T622) (f' := (mkF m 76 #[.val (.int ia), .val (.int ib), .val (.int ie), .val (.int ig), .val (.int ik), .val (.int zc), .val (.int zb), .val (.int za), .val (.int zs), .val (.ref u609), .val (.ref u623), .unset, .unset] [(.int zb), (.int zc)])) (fun t k => XS.iload X622.here hx rfl (hb hby at_74) rfl k) ?_
          by_cases hc641 : zc = zb
          ·
            refine GoH.step (T' := T622) (f' := (mkF m 79 #[.val (.int ia), .val (.int ib), .val (.int ie), .val (.int ig), .val (.int ik), .val (.int zc), .val (.int zb), .val (.int za), .val (.int zs), .val (.ref u609), .val (.ref u623), .unset, .unset] [])) (fun t k => XS.icmpNo X622.here hx rfl (hb hby at_76) rfl (teq hc641).2 k) ?_
            refine GoH.step (T' := T622) (f' := (mkF m 81 #[.val (.int ia), .val (.int ib), .val (.int ie), .val (.int ig), .val (.int ik), .val (.int zc), .val (.int zb), .val (.int za), .val (.int zs), .val (.ref u609), .val (.ref u623), .unset, .unset] [(.int za)])) (fun t k => XS.iload X622.here hx rfl (hb hby at_79) rfl k) ?_
            refine GoH.step (T' := T622) (f' := (mkF m 83 #[.val (.int ia), .val (.int ib), .val (.int ie), .val (.int ig), .val (.int ik), .val (.int zc), .val (.int zb), .val (.int za), .val (.int zs), .val (.ref u609), .val (.ref u623), .unset, .unset] [(.int zs), (.int za)])) (fun t k => XS.iload X622.here hx rfl (hb hby at_81) rfl k) ?_
            by_cases hc642 : za = zs
            ·
              refine GoH.step (T' := T622) (f' := (mkF m 86 #[.val (.int ia), .val (.int ib), .val (.int ie), .val (.int ig), .val (.int ik), .val (.int zc), .val (.int zb), .val (.int za), .val (.int zs), .val (.ref u609), .val (.ref u623), .unset, .unset] [])) (fun t k => XS.icmpNo X622.here hx rfl (hb hby at_83) rfl (teq hc642).2 k) ?_
              refine GoH.step (T' := T622) (f' := (mkF m 87 #[.val (.int ia), .val (.int ib), .val (.int ie), .val (.int ig), .val (.int ik), .val (.int zc), .val (.int zb), .val (.int za), .val (.int zs), .val (.ref u609), .val (.ref u623), .unset, .unset] [(.int (1 : Int32))])) (fun t k => XS.iconst X622.here hx rfl (hb hby at_86) k) ?_
              refine GoH.step (T' := T622) (f' := (mkF m 91 #[.val (.int ia), .val (.int ib), .val (.int ie), .val (.int ig), .val (.int ik), .val (.int zc), .val (.int zb), .val (.int za), .val (.int zs), .val (.ref u609), .val (.ref u623), .unset, .unset] [(.int (1 : Int32))])) (fun t k => XS.goto X622.here hx rfl (pc0 := 87) (pc' := 91) rfl (hb hby at_87) (by decide) (by decide) k) ?_
              refine GoH.step (T' := T622) (f' := (mkF m 93 #[.val (.int ia), .val (.int ib), .val (.int ie), .val (.int ig), .val (.int ik), .val (.int zc), .val (.int zb), .val (.int za), .val (.int zs), .val (.ref u609), .val (.ref u623), .val (.int (1 : Int32)), .unset] [])) (fun t k => XS.istore X622.here hx rfl (hb hby at_91) rfl (l' := #[.val (.int ia), .val (.int ib), .val (.int ie), .val (.int ig), .val (.int ik), .val (.int zc), .val (.int zb), .val (.int za), .val (.int zs), .val (.ref u609), .val (.ref u623), .val (.int (1 : Int32)), .unset]) rfl k) ?_
              refine GoH.step (T' := T622) (f' := (mkF m 95 #[.val (.int ia), .val (.int ib), .val (.int ie), .val (.int ig), .val (.int ik), .val (.int zc), .val (.int zb), .val (.int za), .val (.int zs), .val (.ref u609), .val (.ref u623), .val (.int (1 : Int32)), .unset] [(.ref u609)])) (fun t k => XS.aload X622.here hx rfl (hb hby at_93) rfl rfl k) ?_
              refine GoH.step (T' := T622) (f' := (mkF m 97 #[.val (.int ia), .val (.int ib), .val (.int ie), .val (.int ig), .val (.int ik), .val (.int zc), .val (.int zb), .val (.int za), .val (.int zs), .val (.ref u609), .val (.ref u623), .val (.int (1 : Int32)), .unset] [(.ref u623), (.ref u609)])) (fun t k => XS.aload X622.here hx rfl (hb hby at_95) rfl rfl k) ?_
              obtain ⟨cq643, kq643, q643a, q643b, q643c⟩ := isOf hZ rfl f632
              obtain ⟨_, _, ⟨T643, L643, k643, n643⟩, -, X643, ⟨Lc643, hQ643, l643, y643, z643⟩, st643⟩ := X622.virtualBack hx (y := (⟨"com/example/unwind/unwind/saga/Position", "equals", "(Ljava/lang/Object;)Z"⟩ : MethodName)) (z := (⟨"com/example/unwind/unwind/saga/Position", "equals", "(Ljava/lang/Object;)Z"⟩ : MethodName)) hown (mvT hZ (hw _ (List.mem_of_getElem? (i := 44) rfl))) (mvT hZ (hw _ (List.mem_of_getElem? (i := 45) rfl))) (notFace_of_selects (args := #[]) (mvT hZ (hw _ (List.mem_of_getElem? (i := 47) rfl)))) (mvT hZ (hw _ (List.mem_of_getElem? (i := 47) rfl))) (mvT hZ (hw _ (List.mem_of_getElem? (i := 46) rfl))) (by decide) (backOf (W := 0) (rm_eqSS l Z a0 hw [] u609 u623 z_STUCK za z_STUCK zs (own_sb zc z_RUNNING z_ROLLING_BACK) (own_sb zb z_RUNNING z_ROLLING_BACK) T622.heap n0 O636 p625 f633 f634 f635 p626 p627 p628) hZ (hw _ (List.mem_of_getElem? (i := 48) rfl)) (hw _ (List.mem_of_getElem? (i := 7) rfl)) (by decide) (by decide)) q643a q643c (g := (mkF m 97 #[.val (.int ia), .val (.int ib), .val (.int ie), .val (.int ig), .val (.int ik), .val (.int zc), .val (.int zb), .val (.int za), .val (.int zs), .val (.ref u609), .val (.ref u623), .val (.int (1 : Int32)), .unset] [(.ref u623), (.ref u609)])) rfl (by rw [hml]; rfl) (Steps.refl _) (argsL := [(.ref u623)]) (rest := []) (lenOf pd7 rfl) rfl (by show 2 * 0 + _ ≤ _; exact Nat.le_of_eq rfl) (hb hby at_97) (fun _ _ => ⟨rfl, rfl, (by decide : 6 + 0 ≤ _), (by decide : 54 + 0 ≤ _)⟩)
              dsimp only [Pt.U, Pt.locs, Pt.cells, Pt.slots] at X643 l643 y643 z643 st643 hQ643
              subst l643 y643 z643
              obtain ⟨rfl, Nq643, hh643⟩ := hQ643
              have N644 := Fr.app N629 Nq643
              refine GoH.via (T' := T643) (f' := (mkF m 100 #[.val (.int ia), .val (.int ib), .val (.int ie), .val (.int ig), .val (.int ik), .val (.int zc), .val (.int zb), .val (.int za), .val (.int zs), .val (.ref u609), .val (.ref u623), .val (.int (1 : Int32)), .unset] [(.int (if z_STUCK = z_STUCK ∧ za = zs ∧ (own_sb zc z_RUNNING z_ROLLING_BACK) = (own_sb zb z_RUNNING z_ROLLING_BACK) then (1 : Int32) else 0))])) st643 ?_
              clear st643 X622 N629 Nq643
              refine GoH.step (T' := T643) (f' := (mkF m 102 #[.val (.int ia), .val (.int ib), .val (.int ie), .val (.int ig), .val (.int ik), .val (.int zc), .val (.int zb), .val (.int za), .val (.int zs), .val (.ref u609), .val (.ref u623), .val (.int (1 : Int32)), .unset] [(.int (1 : Int32)), (.int (if z_STUCK = z_STUCK ∧ za = zs ∧ (own_sb zc z_RUNNING z_ROLLING_BACK) = (own_sb zb z_RUNNING z_ROLLING_BACK) then (1 : Int32) else 0))])) (fun t k => XS.iload X643.here hx rfl (hb hby at_100) rfl k) ?_
              have hc645 : (if z_STUCK = z_STUCK ∧ za = zs ∧ (own_sb zc z_RUNNING z_ROLLING_BACK) = (own_sb zb z_RUNNING z_ROLLING_BACK) then (1 : Int32) else 0) = (1 : Int32) := by
                simp [own_sbI hA hB P10, hc641, hc642]
              refine GoH.step (T' := T643) (f' := (mkF m 105 #[.val (.int ia), .val (.int ib), .val (.int ie), .val (.int ig), .val (.int ik), .val (.int zc), .val (.int zb), .val (.int za), .val (.int zs), .val (.ref u609), .val (.ref u623), .val (.int (1 : Int32)), .unset] [])) (fun t k => XS.icmpNo X643.here hx rfl (hb hby at_102) rfl (teq hc645).2 k) ?_
              refine GoH.step (T' := T643) (f' := (mkF m 107 #[.val (.int ia), .val (.int ib), .val (.int ie), .val (.int ig), .val (.int ik), .val (.int zc), .val (.int zb), .val (.int za), .val (.int zs), .val (.ref u609), .val (.ref u623), .val (.int (1 : Int32)), .unset] [(.ref u623)])) (fun t k => XS.aload X643.here hx rfl (hb hby at_105) rfl rfl k) ?_
              refine GoH.step (T' := T643) (f' := (mkF m 109 #[.val (.int ia), .val (.int ib), .val (.int ie), .val (.int ig), .val (.int ik), .val (.int zc), .val (.int zb), .val (.int za), .val (.int zs), .val (.ref u609), .val (.ref u623), .val (.int (1 : Int32)), .unset] [(.ref u609), (.ref u623)])) (fun t k => XS.aload X643.here hx rfl (hb hby at_107) rfl rfl k) ?_
              obtain ⟨cq646, kq646, q646a, q646b, q646c⟩ := isOf hZ hh643 p625
              obtain ⟨_, _, ⟨T646, L646, k646, n646⟩, -, X646, ⟨Lc646, hQ646, l646, y646, z646⟩, st646⟩ := X643.virtualBack hx (y := (⟨"com/example/unwind/unwind/saga/Position", "equals", "(Ljava/lang/Object;)Z"⟩ : MethodName)) (z := (⟨"com/example/unwind/unwind/saga/Position", "equals", "(Ljava/lang/Object;)Z"⟩ : MethodName)) hown (mvT hZ (hw _ (List.mem_of_getElem? (i := 44) rfl))) (mvT hZ (hw _ (List.mem_of_getElem? (i := 45) rfl))) (notFace_of_selects (args := #[]) (mvT hZ (hw _ (List.mem_of_getElem? (i := 47) rfl)))) (mvT hZ (hw _ (List.mem_of_getElem? (i := 47) rfl))) (mvT hZ (hw _ (List.mem_of_getElem? (i := 46) rfl))) (by decide) (backOf (W := 0) (rm_eqSS l Z a0 hw [] u623 u609 z_STUCK zs z_STUCK za (own_sb zb z_RUNNING z_ROLLING_BACK) (own_sb zc z_RUNNING z_ROLLING_BACK) T622.heap n0 O636 f632 p626 p627 p628 f633 f634 f635) hZ (hw _ (List.mem_of_getElem? (i := 48) rfl)) (hw _ (List.mem_of_getElem? (i := 7) rfl)) (by decide) (by decide)) q646a q646c (g := (mkF m 109 #[.val (.int ia), .val (.int ib), .val (.int ie), .val (.int ig), .val (.int ik), .val (.int zc), .val (.int zb), .val (.int za), .val (.int zs), .val (.ref u609), .val (.ref u623), .val (.int (1 : Int32)), .unset] [(.ref u609), (.ref u623)])) rfl (by rw [hml]; rfl) (Steps.refl _) (argsL := [(.ref u609)]) (rest := []) (lenOf pd7 rfl) rfl (by show 2 * 0 + _ ≤ _; exact Nat.le_of_eq rfl) (hb hby at_109) (fun _ _ => ⟨rfl, hh643, (by decide : 6 + 0 ≤ _), (by decide : 54 + 0 ≤ _)⟩)
              dsimp only [Pt.U, Pt.locs, Pt.cells, Pt.slots] at X646 l646 y646 z646 st646 hQ646
              subst l646 y646 z646
              obtain ⟨rfl, Nq646, hh646⟩ := hQ646
              have N647 := Fr.app N644 Nq646
              refine GoH.via (T' := T646) (f' := (mkF m 112 #[.val (.int ia), .val (.int ib), .val (.int ie), .val (.int ig), .val (.int ik), .val (.int zc), .val (.int zb), .val (.int za), .val (.int zs), .val (.ref u609), .val (.ref u623), .val (.int (1 : Int32)), .unset] [(.int (if z_STUCK = z_STUCK ∧ zs = za ∧ (own_sb zb z_RUNNING z_ROLLING_BACK) = (own_sb zc z_RUNNING z_ROLLING_BACK) then (1 : Int32) else 0))])) st646 ?_
              clear st646 X643 N644 Nq646
              refine GoH.step (T' := T646) (f' := (mkF m 114 #[.val (.int ia), .val (.int ib), .val (.int ie), .val (.int ig), .val (.int ik), .val (.int zc), .val (.int zb), .val (.int za), .val (.int zs), .val (.ref u609), .val (.ref u623), .val (.int (1 : Int32)), .unset] [(.int (1 : Int32)), (.int (if z_STUCK = z_STUCK ∧ zs = za ∧ (own_sb zb z_RUNNING z_ROLLING_BACK) = (own_sb zc z_RUNNING z_ROLLING_BACK) then (1 : Int32) else 0))])) (fun t k => XS.iload X646.here hx rfl (hb hby at_112) rfl k) ?_
              have hc648 : (if z_STUCK = z_STUCK ∧ zs = za ∧ (own_sb zb z_RUNNING z_ROLLING_BACK) = (own_sb zc z_RUNNING z_ROLLING_BACK) then (1 : Int32) else 0) = (1 : Int32) := by
                simp [own_sbI hB hA P10, hc641, hc642]
              refine GoH.step (T' := T646) (f' := (mkF m 117 #[.val (.int ia), .val (.int ib), .val (.int ie), .val (.int ig), .val (.int ik), .val (.int zc), .val (.int zb), .val (.int za), .val (.int zs), .val (.ref u609), .val (.ref u623), .val (.int (1 : Int32)), .unset] [])) (fun t k => XS.icmpNo X646.here hx rfl (hb hby at_114) rfl (teq hc648).2 k) ?_
              refine GoH.step (T' := T646) (f' := (mkF m 118 #[.val (.int ia), .val (.int ib), .val (.int ie), .val (.int ig), .val (.int ik), .val (.int zc), .val (.int zb), .val (.int za), .val (.int zs), .val (.ref u609), .val (.ref u623), .val (.int (1 : Int32)), .unset] [(.int (1 : Int32))])) (fun t k => XS.iconst X646.here hx rfl (hb hby at_117) k) ?_
              refine GoH.step (T' := T646) (f' := (mkF m 122 #[.val (.int ia), .val (.int ib), .val (.int ie), .val (.int ig), .val (.int ik), .val (.int zc), .val (.int zb), .val (.int za), .val (.int zs), .val (.ref u609), .val (.ref u623), .val (.int (1 : Int32)), .unset] [(.int (1 : Int32))])) (fun t k => XS.goto X646.here hx rfl (pc0 := 118) (pc' := 122) rfl (hb hby at_118) (by decide) (by decide) k) ?_
              refine GoH.step (T' := T646) (f' := (mkF m 124 #[.val (.int ia), .val (.int ib), .val (.int ie), .val (.int ig), .val (.int ik), .val (.int zc), .val (.int zb), .val (.int za), .val (.int zs), .val (.ref u609), .val (.ref u623), .val (.int (1 : Int32)), .val (.int (1 : Int32))] [])) (fun t k => XS.istore X646.here hx rfl (hb hby at_122) rfl (l' := #[.val (.int ia), .val (.int ib), .val (.int ie), .val (.int ig), .val (.int ik), .val (.int zc), .val (.int zb), .val (.int za), .val (.int zs), .val (.ref u609), .val (.ref u623), .val (.int (1 : Int32)), .val (.int (1 : Int32))]) rfl k) ?_
              refine GoH.step (T' := T646) (f' := (mkF m 126 #[.val (.int ia), .val (.int ib), .val (.int ie), .val (.int ig), .val (.int ik), .val (.int zc), .val (.int zb), .val (.int za), .val (.int zs), .val (.ref u609), .val (.ref u623), .val (.int (1 : Int32)), .val (.int (1 : Int32))] [(.int (1 : Int32))])) (fun t k => XS.iload X646.here hx rfl (hb hby at_124) rfl k) ?_
              refine GoH.step (T' := T646) (f' := (mkF m 129 #[.val (.int ia), .val (.int ib), .val (.int ie), .val (.int ig), .val (.int ik), .val (.int zc), .val (.int zb), .val (.int za), .val (.int zs), .val (.ref u609), .val (.ref u623), .val (.int (1 : Int32)), .val (.int (1 : Int32))] [])) (fun t k => XS.ifNo X646.here hx rfl (hb hby at_126) rfl ((if0 _ _).trans (feq (by decide : ¬ ((1 : Int32) = (0 : Int32)))).1) k) ?_
              refine GoH.step (T' := T646) (f' := (mkF m 131 #[.val (.int ia), .val (.int ib), .val (.int ie), .val (.int ig), .val (.int ik), .val (.int zc), .val (.int zb), .val (.int za), .val (.int zs), .val (.ref u609), .val (.ref u623), .val (.int (1 : Int32)), .val (.int (1 : Int32))] [(.ref u609)])) (fun t k => XS.aload X646.here hx rfl (hb hby at_129) rfl rfl k) ?_
              refine GoH.step (T' := T646) (f' := (mkF m 133 #[.val (.int ia), .val (.int ib), .val (.int ie), .val (.int ig), .val (.int ik), .val (.int zc), .val (.int zb), .val (.int za), .val (.int zs), .val (.ref u609), .val (.ref u623), .val (.int (1 : Int32)), .val (.int (1 : Int32))] [(.ref u609), (.ref u609)])) (fun t k => XS.aload X646.here hx rfl (hb hby at_131) rfl rfl k) ?_
              obtain ⟨cq649, kq649, q649a, q649b, q649c⟩ := isOf hZ hh646 f632
              obtain ⟨_, _, ⟨T649, L649, k649, n649⟩, -, X649, ⟨Lc649, hQ649, l649, y649, z649⟩, st649⟩ := X646.virtualBack hx (y := (⟨"com/example/unwind/unwind/saga/Position", "equals", "(Ljava/lang/Object;)Z"⟩ : MethodName)) (z := (⟨"com/example/unwind/unwind/saga/Position", "equals", "(Ljava/lang/Object;)Z"⟩ : MethodName)) hown (mvT hZ (hw _ (List.mem_of_getElem? (i := 44) rfl))) (mvT hZ (hw _ (List.mem_of_getElem? (i := 45) rfl))) (notFace_of_selects (args := #[]) (mvT hZ (hw _ (List.mem_of_getElem? (i := 47) rfl)))) (mvT hZ (hw _ (List.mem_of_getElem? (i := 47) rfl))) (mvT hZ (hw _ (List.mem_of_getElem? (i := 46) rfl))) (by decide) (backOf (W := 0) (rm_eq1S l Z a0 hw [] u609 z_STUCK za (own_sb zc z_RUNNING z_ROLLING_BACK) T622.heap n0 O636 f632 f633 f634 f635) hZ (hw _ (List.mem_of_getElem? (i := 48) rfl)) (hw _ (List.mem_of_getElem? (i := 7) rfl)) (by decide) (by decide)) q649a q649c (g := (mkF m 133 #[.val (.int ia), .val (.int ib), .val (.int ie), .val (.int ig), .val (.int ik), .val (.int zc), .val (.int zb), .val (.int za), .val (.int zs), .val (.ref u609), .val (.ref u623), .val (.int (1 : Int32)), .val (.int (1 : Int32))] [(.ref u609), (.ref u609)])) rfl (by rw [hml]; rfl) (Steps.refl _) (argsL := [(.ref u609)]) (rest := []) (lenOf pd7 rfl) rfl (by show 2 * 0 + _ ≤ _; exact Nat.le_of_eq rfl) (hb hby at_133) (fun _ _ => ⟨rfl, hh646, (by decide : 6 + 0 ≤ _), (by decide : 54 + 0 ≤ _)⟩)
              dsimp only [Pt.U, Pt.locs, Pt.cells, Pt.slots] at X649 l649 y649 z649 st649 hQ649
              subst l649 y649 z649
              obtain ⟨rfl, Nq649, hh649⟩ := hQ649
              have N650 := Fr.app N647 Nq649
              refine GoH.via (T' := T649) (f' := (mkF m 136 #[.val (.int ia), .val (.int ib), .val (.int ie), .val (.int ig), .val (.int ik), .val (.int zc), .val (.int zb), .val (.int za), .val (.int zs), .val (.ref u609), .val (.ref u623), .val (.int (1 : Int32)), .val (.int (1 : Int32))] [(.int (1 : Int32))])) st649 ?_
              clear st649 X646 N647 Nq649
              refine GoH.step (T' := T649) (f' := (mkF m 139 #[.val (.int ia), .val (.int ib), .val (.int ie), .val (.int ig), .val (.int ik), .val (.int zc), .val (.int zb), .val (.int za), .val (.int zs), .val (.ref u609), .val (.ref u623), .val (.int (1 : Int32)), .val (.int (1 : Int32))] [])) (fun t k => XS.ifNo X649.here hx rfl (hb hby at_136) rfl ((if0 _ _).trans (feq (by decide : ¬ ((1 : Int32) = (0 : Int32)))).1) k) ?_
              refine GoH.step (T' := T649) (f' := (mkF m 140 #[.val (.int ia), .val (.int ib), .val (.int ie), .val (.int ig), .val (.int ik), .val (.int zc), .val (.int zb), .val (.int za), .val (.int zs), .val (.ref u609), .val (.ref u623), .val (.int (1 : Int32)), .val (.int (1 : Int32))] [(.int (1 : Int32))])) (fun t k => XS.iconst X649.here hx rfl (hb hby at_139) k) ?_
              refine GoH.step (T' := T649) (f' := (mkF m 144 #[.val (.int ia), .val (.int ib), .val (.int ie), .val (.int ig), .val (.int ik), .val (.int zc), .val (.int zb), .val (.int za), .val (.int zs), .val (.ref u609), .val (.ref u623), .val (.int (1 : Int32)), .val (.int (1 : Int32))] [(.int (1 : Int32))])) (fun t k => XS.goto X649.here hx rfl (pc0 := 140) (pc' := 144) rfl (hb hby at_140) (by decide) (by decide) k) ?_
              refine GoH.step (T' := T649) (f' := (mkF m 146 #[.val (.int ia), .val (.int ib), .val (.int ie), .val (.int ig), .val (.int ik), .val (.int zc), .val (.int zb), .val (.int za), .val (.int zs), .val (.ref u609), .val (.ref u623), .val (.int (1 : Int32)), .val (.int (1 : Int32))] [])) (fun t k => XS.istore X649.here hx rfl (hb hby at_144) rfl (l' := #[.val (.int ia), .val (.int ib), .val (.int ie), .val (.int ig), .val (.int ik), .val (.int zc), .val (.int zb), .val (.int za), .val (.int zs), .val (.ref u609), .val (.ref u623), .val (.int (1 : Int32)), .val (.int (1 : Int32))]) rfl k) ?_
              refine GoH.step (T' := T649) (f' := (mkF m 148 #[.val (.int ia), .val (.int ib), .val (.int ie), .val (.int ig), .val (.int ik), .val (.int zc), .val (.int zb), .val (.int za), .val (.int zs), .val (.ref u609), .val (.ref u623), .val (.int (1 : Int32)), .val (.int (1 : Int32))] [(.int (1 : Int32))])) (fun t k => XS.iload X649.here hx rfl (hb hby at_146) rfl k) ?_
              refine GoH.step (T' := T649) (f' := (mkF m 151 #[.val (.int ia), .val (.int ib), .val (.int ie), .val (.int ig), .val (.int ik), .val (.int zc), .val (.int zb), .val (.int za), .val (.int zs), .val (.ref u609), .val (.ref u623), .val (.int (1 : Int32)), .val (.int (1 : Int32))] [])) (fun t k => XS.ifNo X649.here hx rfl (hb hby at_148) rfl ((if0 _ _).trans (feq (by decide : ¬ ((1 : Int32) = (0 : Int32)))).1) k) ?_
              refine GoH.step (T' := T649) (f' := (mkF m 153 #[.val (.int ia), .val (.int ib), .val (.int ie), .val (.int ig), .val (.int ik), .val (.int zc), .val (.int zb), .val (.int za), .val (.int zs), .val (.ref u609), .val (.ref u623), .val (.int (1 : Int32)), .val (.int (1 : Int32))] [(.ref u609)])) (fun t k => XS.aload X649.here hx rfl (hb hby at_151) rfl rfl k) ?_
              refine GoH.step (T' := T649) (f' := (mkF m 154 #[.val (.int ia), .val (.int ib), .val (.int ie), .val (.int ig), .val (.int ik), .val (.int zc), .val (.int zb), .val (.int za), .val (.int zs), .val (.ref u609), .val (.ref u623), .val (.int (1 : Int32)), .val (.int (1 : Int32))] [.null, (.ref u609)])) (fun t k => XS.aconstNull X649.here hx rfl (hb hby at_153) k) ?_
              obtain ⟨cq651, kq651, q651a, q651b, q651c⟩ := isOf hZ hh649 f632
              obtain ⟨_, _, ⟨T651, L651, k651, n651⟩, -, X651, ⟨Lc651, hQ651, l651, y651, z651⟩, st651⟩ := X649.virtualBack hx (y := (⟨"com/example/unwind/unwind/saga/Position", "equals", "(Ljava/lang/Object;)Z"⟩ : MethodName)) (z := (⟨"com/example/unwind/unwind/saga/Position", "equals", "(Ljava/lang/Object;)Z"⟩ : MethodName)) hown (mvT hZ (hw _ (List.mem_of_getElem? (i := 44) rfl))) (mvT hZ (hw _ (List.mem_of_getElem? (i := 45) rfl))) (notFace_of_selects (args := #[]) (mvT hZ (hw _ (List.mem_of_getElem? (i := 47) rfl)))) (mvT hZ (hw _ (List.mem_of_getElem? (i := 47) rfl))) (mvT hZ (hw _ (List.mem_of_getElem? (i := 46) rfl))) (by decide) (backOf (W := 0) (rm_eqN l Z a0 hw [] u609 T622.heap n0 O636 ) hZ (hw _ (List.mem_of_getElem? (i := 48) rfl)) (hw _ (List.mem_of_getElem? (i := 7) rfl)) (by decide) (by decide)) q651a q651c (g := (mkF m 154 #[.val (.int ia), .val (.int ib), .val (.int ie), .val (.int ig), .val (.int ik), .val (.int zc), .val (.int zb), .val (.int za), .val (.int zs), .val (.ref u609), .val (.ref u623), .val (.int (1 : Int32)), .val (.int (1 : Int32))] [.null, (.ref u609)])) rfl (by rw [hml]; rfl) (Steps.refl _) (argsL := [.null]) (rest := []) (lenOf pd7 rfl) rfl (by show 2 * 0 + _ ≤ _; exact Nat.le_of_eq rfl) (hb hby at_154) (fun _ _ => ⟨rfl, hh649, (by decide : 6 + 0 ≤ _), (by decide : 54 + 0 ≤ _)⟩)
              dsimp only [Pt.U, Pt.locs, Pt.cells, Pt.slots] at X651 l651 y651 z651 st651 hQ651
              subst l651 y651 z651
              obtain ⟨rfl, Nq651, hh651⟩ := hQ651
              have N652 := Fr.app N650 Nq651
              refine GoH.via (T' := T651) (f' := (mkF m 157 #[.val (.int ia), .val (.int ib), .val (.int ie), .val (.int ig), .val (.int ik), .val (.int zc), .val (.int zb), .val (.int za), .val (.int zs), .val (.ref u609), .val (.ref u623), .val (.int (1 : Int32)), .val (.int (1 : Int32))] [(.int (0 : Int32))])) st651 ?_
              clear st651 X649 N650 Nq651
              refine GoH.step (T' := T651) (f' := (mkF m 160 #[.val (.int ia), .val (.int ib), .val (.int ie), .val (.int ig), .val (.int ik), .val (.int zc), .val (.int zb), .val (.int za), .val (.int zs), .val (.ref u609), .val (.ref u623), .val (.int (1 : Int32)), .val (.int (1 : Int32))] [])) (fun t k => XS.ifNo X651.here hx rfl (hb hby at_157) rfl ((if0 _ _).trans (teq (by decide : (0 : Int32) = (0 : Int32))).2) k) ?_
              refine GoH.step (T' := T651) (f' := (mkF m 161 #[.val (.int ia), .val (.int ib), .val (.int ie), .val (.int ig), .val (.int ik), .val (.int zc), .val (.int zb), .val (.int za), .val (.int zs), .val (.ref u609), .val (.ref u623), .val (.int (1 : Int32)), .val (.int (1 : Int32))] [(.int (1 : Int32))])) (fun t k => XS.iconst X651.here hx rfl (hb hby at_160) k) ?_
              refine GoH.step (T' := T651) (f' := (mkF m 165 #[.val (.int ia), .val (.int ib), .val (.int ie), .val (.int ig), .val (.int ik), .val (.int zc), .val (.int zb), .val (.int za), .val (.int zs), .val (.ref u609), .val (.ref u623), .val (.int (1 : Int32)), .val (.int (1 : Int32))] [(.int (1 : Int32))])) (fun t k => XS.goto X651.here hx rfl (pc0 := 161) (pc' := 165) rfl (hb hby at_161) (by decide) (by decide) k) ?_
              refine GoH.step (T' := T651) (f' := (mkF m 167 #[.val (.int ia), .val (.int ib), .val (.int ie), .val (.int ig), .val (.int ik), .val (.int zc), .val (.int zb), .val (.int za), .val (.int zs), .val (.ref u609), .val (.ref u623), .val (.int (1 : Int32)), .val (.int (1 : Int32))] [])) (fun t k => XS.istore X651.here hx rfl (hb hby at_165) rfl (l' := #[.val (.int ia), .val (.int ib), .val (.int ie), .val (.int ig), .val (.int ik), .val (.int zc), .val (.int zb), .val (.int za), .val (.int zs), .val (.ref u609), .val (.ref u623), .val (.int (1 : Int32)), .val (.int (1 : Int32))]) rfl k) ?_
              refine GoH.step (T' := T651) (f' := (mkF m 169 #[.val (.int ia), .val (.int ib), .val (.int ie), .val (.int ig), .val (.int ik), .val (.int zc), .val (.int zb), .val (.int za), .val (.int zs), .val (.ref u609), .val (.ref u623), .val (.int (1 : Int32)), .val (.int (1 : Int32))] [(.int (1 : Int32))])) (fun t k => XS.iload X651.here hx rfl (hb hby at_167) rfl k) ?_
              refine GoH.step (T' := T651) (f' := (mkF m 172 #[.val (.int ia), .val (.int ib), .val (.int ie), .val (.int ig), .val (.int ik), .val (.int zc), .val (.int zb), .val (.int za), .val (.int zs), .val (.ref u609), .val (.ref u623), .val (.int (1 : Int32)), .val (.int (1 : Int32))] [])) (fun t k => XS.ifNo X651.here hx rfl (hb hby at_169) rfl ((if0 _ _).trans (feq (by decide : ¬ ((1 : Int32) = (0 : Int32)))).1) k) ?_
              refine GoH.step (T' := T651) (f' := (mkF m 174 #[.val (.int ia), .val (.int ib), .val (.int ie), .val (.int ig), .val (.int ik), .val (.int zc), .val (.int zb), .val (.int za), .val (.int zs), .val (.ref u609), .val (.ref u623), .val (.int (1 : Int32)), .val (.int (1 : Int32))] [(.ref u609)])) (fun t k => XS.aload X651.here hx rfl (hb hby at_172) rfl rfl k) ?_
              refine GoH.step (T' := T651) (f' := (mkF m 176 #[.val (.int ia), .val (.int ib), .val (.int ie), .val (.int ig), .val (.int ik), .val (.int zc), .val (.int zb), .val (.int za), .val (.int zs), .val (.ref u609), .val (.ref u623), .val (.int (1 : Int32)), .val (.int (1 : Int32))] [(.int za), (.ref u609)])) (fun t k => XS.iload X651.here hx rfl (hb hby at_174) rfl k) ?_
              obtain ⟨_, _, ⟨T653, L653, k653, n653⟩, -, X653, ⟨Lc653, hQ653, l653, y653, z653⟩, st653⟩ := Jvm.LawKit.callS X651 hx (y := (⟨"java/lang/Integer", "valueOf", "(I)Ljava/lang/Integer;"⟩ : MethodName)) hown (mvT hZ (hw _ (List.mem_of_getElem? (i := 51) rfl))) (mvT hZ (hw _ (List.mem_of_getElem? (i := 52) rfl))) (mvT hZ (hw _ (List.mem_of_getElem? (i := 53) rfl))) (mvT hZ (hw _ (List.mem_of_getElem? (i := 54) rfl))) (by decide) (backOf (W := 1) (rm_ival l Z a0 hw [] za wc cc T622.heap n0 O636 P20 P21 hbx (hza)) hZ (hw _ (List.mem_of_getElem? (i := 54) rfl)) (hw _ (List.mem_of_getElem? (i := 53) rfl)) (by decide) (by decide)) (g := (mkF m 176 #[.val (.int ia), .val (.int ib), .val (.int ie), .val (.int ig), .val (.int ik), .val (.int zc), .val (.int zb), .val (.int za), .val (.int zs), .val (.ref u609), .val (.ref u623), .val (.int (1 : Int32)), .val (.int (1 : Int32))] [(.int za), (.ref u609)])) rfl (by rw [hml]; rfl) (argsL := [(.int za)]) (rest := [(.ref u609)]) (lenOf pd8 rfl) rfl (by show 2 * 0 + _ ≤ _; exact Nat.le_of_eq rfl) (hb hby at_176) (fun _ _ => ⟨rfl, hh651, (by decide : 6 + 1 ≤ _), (by decide : 54 + 1 ≤ _)⟩)
              dsimp only [Pt.U, Pt.locs, Pt.cells, Pt.slots] at X653 l653 y653 z653 st653 hQ653
              subst l653 y653 z653
              obtain ⟨u654, rfl, Nq653, hh653, p655⟩ := hQ653
              have N656 := Fr.app N652 Nq653
              have sz657 : ∀ x ∈ ([] : List Addr), Safe Z own_EL T622.vm T622.heap x := sf0
              have CR658 := CR630.trans (CHr.keep hh653 sz657 CR630.1)
              have hk659 := Nat.le_trans hk631 hh653.1
              have f660 := f632.keep hh653
              have f661 := f633.keep hh653 nin0
              have f662 := f634.keep hh653 nin0
              have f663 := f635.keep hh653 nin0
              have f664 := p625.keep hh653
              have f665 := p626.keep hh653 nin0
              have f666 := p627.keep hh653 nin0
              have f667 := p628.keep hh653 nin0
              have O668 := O636.keep hh653 all0
              have K669 := K637.trans hh653 all0
              refine GoH.step (T' := T653) (f' := (mkF m 179 #[.val (.int ia), .val (.int ib), .val (.int ie), .val (.int ig), .val (.int ik), .val (.int zc), .val (.int zb), .val (.int za), .val (.int zs), .val (.ref u609), .val (.ref u623), .val (.int (1 : Int32)), .val (.int (1 : Int32))] [(.ref u654), (.ref u609)])) st653 ?_
              clear st653 X651 N652 Nq653 CR630 hk631 sz657 f633 f634 f635 p626 p627 p628
              obtain ⟨cq670, kq670, q670a, q670b, q670c⟩ := isOf hZ rfl f660
              obtain ⟨_, _, ⟨T670, L670, k670, n670⟩, -, X670, ⟨Lc670, hQ670, l670, y670, z670⟩, st670⟩ := X653.virtualBack hx (y := (⟨"com/example/unwind/unwind/saga/Position", "equals", "(Ljava/lang/Object;)Z"⟩ : MethodName)) (z := (⟨"com/example/unwind/unwind/saga/Position", "equals", "(Ljava/lang/Object;)Z"⟩ : MethodName)) hown (mvT hZ (hw _ (List.mem_of_getElem? (i := 44) rfl))) (mvT hZ (hw _ (List.mem_of_getElem? (i := 45) rfl))) (notFace_of_selects (args := #[]) (mvT hZ (hw _ (List.mem_of_getElem? (i := 47) rfl)))) (mvT hZ (hw _ (List.mem_of_getElem? (i := 47) rfl))) (mvT hZ (hw _ (List.mem_of_getElem? (i := 46) rfl))) (by decide) (backOf (W := 0) (rm_eqI l Z a0 hw [] u609 u654 T653.heap n0 O668 p655) hZ (hw _ (List.mem_of_getElem? (i := 48) rfl)) (hw _ (List.mem_of_getElem? (i := 7) rfl)) (by decide) (by decide)) q670a q670c (g := (mkF m 179 #[.val (.int ia), .val (.int ib), .val (.int ie), .val (.int ig), .val (.int ik), .val (.int zc), .val (.int zb), .val (.int za), .val (.int zs), .val (.ref u609), .val (.ref u623), .val (.int (1 : Int32)), .val (.int (1 : Int32))] [(.ref u654), (.ref u609)])) rfl (by rw [hml]; rfl) (Steps.refl _) (argsL := [(.ref u654)]) (rest := []) (lenOf pd7 rfl) rfl (by show 2 * 0 + _ ≤ _; exact Nat.le_of_eq rfl) (hb hby at_179) (fun _ _ => ⟨rfl, rfl, (by decide : 7 + 0 ≤ _), (by decide : 55 + 0 ≤ _)⟩)
              dsimp only [Pt.U, Pt.locs, Pt.cells, Pt.slots] at X670 l670 y670 z670 st670 hQ670
              subst l670 y670 z670
              obtain ⟨rfl, Nq670, hh670⟩ := hQ670
              have N671 := Fr.app N656 Nq670
              refine GoH.via (T' := T670) (f' := (mkF m 182 #[.val (.int ia), .val (.int ib), .val (.int ie), .val (.int ig), .val (.int ik), .val (.int zc), .val (.int zb), .val (.int za), .val (.int zs), .val (.ref u609), .val (.ref u623), .val (.int (1 : Int32)), .val (.int (1 : Int32))] [(.int (0 : Int32))])) st670 ?_
              clear st670 X653 N656 Nq670
              refine GoH.step (T' := T670) (f' := (mkF m 185 #[.val (.int ia), .val (.int ib), .val (.int ie), .val (.int ig), .val (.int ik), .val (.int zc), .val (.int zb), .val (.int za), .val (.int zs), .val (.ref u609), .val (.ref u623), .val (.int (1 : Int32)), .val (.int (1 : Int32))] [])) (fun t k => XS.ifNo X670.here hx rfl (hb hby at_182) rfl ((if0 _ _).trans (teq (by decide : (0 : Int32) = (0 : Int32))).2) k) ?_
              refine GoH.step (T' := T670) (f' := (mkF m 186 #[.val (.int ia), .val (.int ib), .val (.int ie), .val (.int ig), .val (.int ik), .val (.int zc), .val (.int zb), .val (.int za), .val (.int zs), .val (.ref u609), .val (.ref u623), .val (.int (1 : Int32)), .val (.int (1 : Int32))] [(.int (1 : Int32))])) (fun t k => XS.iconst X670.here hx rfl (hb hby at_185) k) ?_
              refine GoH.step (T' := T670) (f' := (mkF m 190 #[.val (.int ia), .val (.int ib), .val (.int ie), .val (.int ig), .val (.int ik), .val (.int zc), .val (.int zb), .val (.int za), .val (.int zs), .val (.ref u609), .val (.ref u623), .val (.int (1 : Int32)), .val (.int (1 : Int32))] [(.int (1 : Int32))])) (fun t k => XS.goto X670.here hx rfl (pc0 := 186) (pc' := 190) rfl (hb hby at_186) (by decide) (by decide) k) ?_
              refine GoH.step (T' := T670) (f' := (mkF m 192 #[.val (.int ia), .val (.int ib), .val (.int ie), .val (.int ig), .val (.int ik), .val (.int zc), .val (.int zb), .val (.int za), .val (.int zs), .val (.ref u609), .val (.ref u623), .val (.int (1 : Int32)), .val (.int (1 : Int32))] [])) (fun t k => XS.istore X670.here hx rfl (hb hby at_190) rfl (l' := #[.val (.int ia), .val (.int ib), .val (.int ie), .val (.int ig), .val (.int ik), .val (.int zc), .val (.int zb), .val (.int za), .val (.int zs), .val (.ref u609), .val (.ref u623), .val (.int (1 : Int32)), .val (.int (1 : Int32))]) rfl k) ?_
              refine GoH.step (T' := T670) (f' := (mkF m 194 #[.val (.int ia), .val (.int ib), .val (.int ie), .val (.int ig), .val (.int ik), .val (.int zc), .val (.int zb), .val (.int za), .val (.int zs), .val (.ref u609), .val (.ref u623), .val (.int (1 : Int32)), .val (.int (1 : Int32))] [(.int (1 : Int32))])) (fun t k => XS.iload X670.here hx rfl (hb hby at_192) rfl k) ?_
              refine GoH.fin X670 hZ hEL hS622 hk659 CR658 hlk (v := some (.int (nar .boolean (1 : Int32)))) (fun h => by rw [Bd.returns] at h; cases h) (fun fs hr => retN X670 hx (t := .boolean) Bd.returns (by simp) (hb hby at_194) hr) hh670 ?_ (by decide) (by decide)
              exact ⟨rfl, N671, K669⟩
            ·
              refine GoH.step (T' := T622) (f' := (mkF m 90 #[.val (.int ia), .val (.int ib), .val (.int ie), .val (.int ig), .val (.int ik), .val (.int zc), .val (.int zb), .val (.int za), .val (.int zs), .val (.ref u609), .val (.ref u623), .unset, .unset] [])) (fun t k => XS.icmpYes X622.here hx rfl (pc0 := 83) (pc' := 90) rfl (hb hby at_83) rfl (feq hc642).2 (by decide) (by decide) k) ?_
              refine GoH.step (T' := T622) (f' := (mkF m 91 #[.val (.int ia), .val (.int ib), .val (.int ie), .val (.int ig), .val (.int ik), .val (.int zc), .val (.int zb), .val (.int za), .val (.int zs), .val (.ref u609), .val (.ref u623), .unset, .unset] [(.int (0 : Int32))])) (fun t k => XS.iconst X622.here hx rfl (hb hby at_90) k) ?_
              refine GoH.step (T' := T622) (f' := (mkF m 93 #[.val (.int ia), .val (.int ib), .val (.int ie), .val (.int ig), .val (.int ik), .val (.int zc), .val (.int zb), .val (.int za), .val (.int zs), .val (.ref u609), .val (.ref u623), .val (.int (0 : Int32)), .unset] [])) (fun t k => XS.istore X622.here hx rfl (hb hby at_91) rfl (l' := #[.val (.int ia), .val (.int ib), .val (.int ie), .val (.int ig), .val (.int ik), .val (.int zc), .val (.int zb), .val (.int za), .val (.int zs), .val (.ref u609), .val (.ref u623), .val (.int (0 : Int32)), .unset]) rfl k) ?_
              refine GoH.step (T' := T622) (f' := (mkF m 95 #[.val (.int ia), .val (.int ib), .val (.int ie), .val (.int ig), .val (.int ik), .val (.int zc), .val (.int zb), .val (.int za), .val (.int zs), .val (.ref u609), .val (.ref u623), .val (.int (0 : Int32)), .unset] [(.ref u609)])) (fun t k => XS.aload X622.here hx rfl (hb hby at_93) rfl rfl k) ?_
              refine GoH.step (T' := T622) (f' := (mkF m 97 #[.val (.int ia), .val (.int ib), .val (.int ie), .val (.int ig), .val (.int ik), .val (.int zc), .val (.int zb), .val (.int za), .val (.int zs), .val (.ref u609), .val (.ref u623), .val (.int (0 : Int32)), .unset] [(.ref u623), (.ref u609)])) (fun t k => XS.aload X622.here hx rfl (hb hby at_95) rfl rfl k) ?_
              obtain ⟨cq672, kq672, q672a, q672b, q672c⟩ := isOf hZ rfl f632
              obtain ⟨_, _, ⟨T672, L672, k672, n672⟩, -, X672, ⟨Lc672, hQ672, l672, y672, z672⟩, st672⟩ := X622.virtualBack hx (y := (⟨"com/example/unwind/unwind/saga/Position", "equals", "(Ljava/lang/Object;)Z"⟩ : MethodName)) (z := (⟨"com/example/unwind/unwind/saga/Position", "equals", "(Ljava/lang/Object;)Z"⟩ : MethodName)) hown (mvT hZ (hw _ (List.mem_of_getElem? (i := 44) rfl))) (mvT hZ (hw _ (List.mem_of_getElem? (i := 45) rfl))) (notFace_of_selects (args := #[]) (mvT hZ (hw _ (List.mem_of_getElem? (i := 47) rfl)))) (mvT hZ (hw _ (List.mem_of_getElem? (i := 47) rfl))) (mvT hZ (hw _ (List.mem_of_getElem? (i := 46) rfl))) (by decide) (backOf (W := 0) (rm_eqSS l Z a0 hw [] u609 u623 z_STUCK za z_STUCK zs (own_sb zc z_RUNNING z_ROLLING_BACK) (own_sb zb z_RUNNING z_ROLLING_BACK) T622.heap n0 O636 p625 f633 f634 f635 p626 p627 p628) hZ (hw _ (List.mem_of_getElem? (i := 48) rfl)) (hw _ (List.mem_of_getElem? (i := 7) rfl)) (by decide) (by decide)) q672a q672c (g := (mkF m 97 #[.val (.int ia), .val (.int ib), .val (.int ie), .val (.int ig), .val (.int ik), .val (.int zc), .val (.int zb), .val (.int za), .val (.int zs), .val (.ref u609), .val (.ref u623), .val (.int (0 : Int32)), .unset] [(.ref u623), (.ref u609)])) rfl (by rw [hml]; rfl) (Steps.refl _) (argsL := [(.ref u623)]) (rest := []) (lenOf pd7 rfl) rfl (by show 2 * 0 + _ ≤ _; exact Nat.le_of_eq rfl) (hb hby at_97) (fun _ _ => ⟨rfl, rfl, (by decide : 6 + 0 ≤ _), (by decide : 54 + 0 ≤ _)⟩)
              dsimp only [Pt.U, Pt.locs, Pt.cells, Pt.slots] at X672 l672 y672 z672 st672 hQ672
              subst l672 y672 z672
              obtain ⟨rfl, Nq672, hh672⟩ := hQ672
              have N673 := Fr.app N629 Nq672
              refine GoH.via (T' := T672) (f' := (mkF m 100 #[.val (.int ia), .val (.int ib), .val (.int ie), .val (.int ig), .val (.int ik), .val (.int zc), .val (.int zb), .val (.int za), .val (.int zs), .val (.ref u609), .val (.ref u623), .val (.int (0 : Int32)), .unset] [(.int (if z_STUCK = z_STUCK ∧ za = zs ∧ (own_sb zc z_RUNNING z_ROLLING_BACK) = (own_sb zb z_RUNNING z_ROLLING_BACK) then (1 : Int32) else 0))])) st672 ?_
              clear st672 X622 N629 Nq672
              refine GoH.step (T' := T672) (f' := (mkF m 102 #[.val (.int ia), .val (.int ib), .val (.int ie), .val (.int ig), .val (.int ik), .val (.int zc), .val (.int zb), .val (.int za), .val (.int zs), .val (.ref u609), .val (.ref u623), .val (.int (0 : Int32)), .unset] [(.int (0 : Int32)), (.int (if z_STUCK = z_STUCK ∧ za = zs ∧ (own_sb zc z_RUNNING z_ROLLING_BACK) = (own_sb zb z_RUNNING z_ROLLING_BACK) then (1 : Int32) else 0))])) (fun t k => XS.iload X672.here hx rfl (hb hby at_100) rfl k) ?_
              have hc674 : (if z_STUCK = z_STUCK ∧ za = zs ∧ (own_sb zc z_RUNNING z_ROLLING_BACK) = (own_sb zb z_RUNNING z_ROLLING_BACK) then (1 : Int32) else 0) = (0 : Int32) := by
                simp [own_sbI hA hB P10, hc642]
              refine GoH.step (T' := T672) (f' := (mkF m 105 #[.val (.int ia), .val (.int ib), .val (.int ie), .val (.int ig), .val (.int ik), .val (.int zc), .val (.int zb), .val (.int za), .val (.int zs), .val (.ref u609), .val (.ref u623), .val (.int (0 : Int32)), .unset] [])) (fun t k => XS.icmpNo X672.here hx rfl (hb hby at_102) rfl (teq hc674).2 k) ?_
              refine GoH.step (T' := T672) (f' := (mkF m 107 #[.val (.int ia), .val (.int ib), .val (.int ie), .val (.int ig), .val (.int ik), .val (.int zc), .val (.int zb), .val (.int za), .val (.int zs), .val (.ref u609), .val (.ref u623), .val (.int (0 : Int32)), .unset] [(.ref u623)])) (fun t k => XS.aload X672.here hx rfl (hb hby at_105) rfl rfl k) ?_
              refine GoH.step (T' := T672) (f' := (mkF m 109 #[.val (.int ia), .val (.int ib), .val (.int ie), .val (.int ig), .val (.int ik), .val (.int zc), .val (.int zb), .val (.int za), .val (.int zs), .val (.ref u609), .val (.ref u623), .val (.int (0 : Int32)), .unset] [(.ref u609), (.ref u623)])) (fun t k => XS.aload X672.here hx rfl (hb hby at_107) rfl rfl k) ?_
              obtain ⟨cq675, kq675, q675a, q675b, q675c⟩ := isOf hZ hh672 p625
              obtain ⟨_, _, ⟨T675, L675, k675, n675⟩, -, X675, ⟨Lc675, hQ675, l675, y675, z675⟩, st675⟩ := X672.virtualBack hx (y := (⟨"com/example/unwind/unwind/saga/Position", "equals", "(Ljava/lang/Object;)Z"⟩ : MethodName)) (z := (⟨"com/example/unwind/unwind/saga/Position", "equals", "(Ljava/lang/Object;)Z"⟩ : MethodName)) hown (mvT hZ (hw _ (List.mem_of_getElem? (i := 44) rfl))) (mvT hZ (hw _ (List.mem_of_getElem? (i := 45) rfl))) (notFace_of_selects (args := #[]) (mvT hZ (hw _ (List.mem_of_getElem? (i := 47) rfl)))) (mvT hZ (hw _ (List.mem_of_getElem? (i := 47) rfl))) (mvT hZ (hw _ (List.mem_of_getElem? (i := 46) rfl))) (by decide) (backOf (W := 0) (rm_eqSS l Z a0 hw [] u623 u609 z_STUCK zs z_STUCK za (own_sb zb z_RUNNING z_ROLLING_BACK) (own_sb zc z_RUNNING z_ROLLING_BACK) T622.heap n0 O636 f632 p626 p627 p628 f633 f634 f635) hZ (hw _ (List.mem_of_getElem? (i := 48) rfl)) (hw _ (List.mem_of_getElem? (i := 7) rfl)) (by decide) (by decide)) q675a q675c (g := (mkF m 109 #[.val (.int ia), .val (.int ib), .val (.int ie), .val (.int ig), .val (.int ik), .val (.int zc), .val (.int zb), .val (.int za), .val (.int zs), .val (.ref u609), .val (.ref u623), .val (.int (0 : Int32)), .unset] [(.ref u609), (.ref u623)])) rfl (by rw [hml]; rfl) (Steps.refl _) (argsL := [(.ref u609)]) (rest := []) (lenOf pd7 rfl) rfl (by show 2 * 0 + _ ≤ _; exact Nat.le_of_eq rfl) (hb hby at_109) (fun _ _ => ⟨rfl, hh672, (by decide : 6 + 0 ≤ _), (by decide : 54 + 0 ≤ _)⟩)
              dsimp only [Pt.U, Pt.locs, Pt.cells, Pt.slots] at X675 l675 y675 z675 st675 hQ675
              subst l675 y675 z675
              obtain ⟨rfl, Nq675, hh675⟩ := hQ675
              have N676 := Fr.app N673 Nq675
              refine GoH.via (T' := T675) (f' := (mkF m 112 #[.val (.int ia), .val (.int ib), .val (.int ie), .val (.int ig), .val (.int ik), .val (.int zc), .val (.int zb), .val (.int za), .val (.int zs), .val (.ref u609), .val (.ref u623), .val (.int (0 : Int32)), .unset] [(.int (if z_STUCK = z_STUCK ∧ zs = za ∧ (own_sb zb z_RUNNING z_ROLLING_BACK) = (own_sb zc z_RUNNING z_ROLLING_BACK) then (1 : Int32) else 0))])) st675 ?_
              clear st675 X672 N673 Nq675
              refine GoH.step (T' := T675) (f' := (mkF m 114 #[.val (.int ia), .val (.int ib), .val (.int ie), .val (.int ig), .val (.int ik), .val (.int zc), .val (.int zb), .val (.int za), .val (.int zs), .val (.ref u609), .val (.ref u623), .val (.int (0 : Int32)), .unset] [(.int (0 : Int32)), (.int (if z_STUCK = z_STUCK ∧ zs = za ∧ (own_sb zb z_RUNNING z_ROLLING_BACK) = (own_sb zc z_RUNNING z_ROLLING_BACK) then (1 : Int32) else 0))])) (fun t k => XS.iload X675.here hx rfl (hb hby at_112) rfl k) ?_
              have hc677 : (if z_STUCK = z_STUCK ∧ zs = za ∧ (own_sb zb z_RUNNING z_ROLLING_BACK) = (own_sb zc z_RUNNING z_ROLLING_BACK) then (1 : Int32) else 0) = (0 : Int32) := by
                simp [own_sbI hB hA P10, (Ne.symm hc642)]
              refine GoH.step (T' := T675) (f' := (mkF m 117 #[.val (.int ia), .val (.int ib), .val (.int ie), .val (.int ig), .val (.int ik), .val (.int zc), .val (.int zb), .val (.int za), .val (.int zs), .val (.ref u609), .val (.ref u623), .val (.int (0 : Int32)), .unset] [])) (fun t k => XS.icmpNo X675.here hx rfl (hb hby at_114) rfl (teq hc677).2 k) ?_
              refine GoH.step (T' := T675) (f' := (mkF m 118 #[.val (.int ia), .val (.int ib), .val (.int ie), .val (.int ig), .val (.int ik), .val (.int zc), .val (.int zb), .val (.int za), .val (.int zs), .val (.ref u609), .val (.ref u623), .val (.int (0 : Int32)), .unset] [(.int (1 : Int32))])) (fun t k => XS.iconst X675.here hx rfl (hb hby at_117) k) ?_
              refine GoH.step (T' := T675) (f' := (mkF m 122 #[.val (.int ia), .val (.int ib), .val (.int ie), .val (.int ig), .val (.int ik), .val (.int zc), .val (.int zb), .val (.int za), .val (.int zs), .val (.ref u609), .val (.ref u623), .val (.int (0 : Int32)), .unset] [(.int (1 : Int32))])) (fun t k => XS.goto X675.here hx rfl (pc0 := 118) (pc' := 122) rfl (hb hby at_118) (by decide) (by decide) k) ?_
              refine GoH.step (T' := T675) (f' := (mkF m 124 #[.val (.int ia), .val (.int ib), .val (.int ie), .val (.int ig), .val (.int ik), .val (.int zc), .val (.int zb), .val (.int za), .val (.int zs), .val (.ref u609), .val (.ref u623), .val (.int (0 : Int32)), .val (.int (1 : Int32))] [])) (fun t k => XS.istore X675.here hx rfl (hb hby at_122) rfl (l' := #[.val (.int ia), .val (.int ib), .val (.int ie), .val (.int ig), .val (.int ik), .val (.int zc), .val (.int zb), .val (.int za), .val (.int zs), .val (.ref u609), .val (.ref u623), .val (.int (0 : Int32)), .val (.int (1 : Int32))]) rfl k) ?_
              refine GoH.step (T' := T675) (f' := (mkF m 126 #[.val (.int ia), .val (.int ib), .val (.int ie), .val (.int ig), .val (.int ik), .val (.int zc), .val (.int zb), .val (.int za), .val (.int zs), .val (.ref u609), .val (.ref u623), .val (.int (0 : Int32)), .val (.int (1 : Int32))] [(.int (1 : Int32))])) (fun t k => XS.iload X675.here hx rfl (hb hby at_124) rfl k) ?_
              refine GoH.step (T' := T675) (f' := (mkF m 129 #[.val (.int ia), .val (.int ib), .val (.int ie), .val (.int ig), .val (.int ik), .val (.int zc), .val (.int zb), .val (.int za), .val (.int zs), .val (.ref u609), .val (.ref u623), .val (.int (0 : Int32)), .val (.int (1 : Int32))] [])) (fun t k => XS.ifNo X675.here hx rfl (hb hby at_126) rfl ((if0 _ _).trans (feq (by decide : ¬ ((1 : Int32) = (0 : Int32)))).1) k) ?_
              refine GoH.step (T' := T675) (f' := (mkF m 131 #[.val (.int ia), .val (.int ib), .val (.int ie), .val (.int ig), .val (.int ik), .val (.int zc), .val (.int zb), .val (.int za), .val (.int zs), .val (.ref u609), .val (.ref u623), .val (.int (0 : Int32)), .val (.int (1 : Int32))] [(.ref u609)])) (fun t k => XS.aload X675.here hx rfl (hb hby at_129) rfl rfl k) ?_
              refine GoH.step (T' := T675) (f' := (mkF m 133 #[.val (.int ia), .val (.int ib), .val (.int ie), .val (.int ig), .val (.int ik), .val (.int zc), .val (.int zb), .val (.int za), .val (.int zs), .val (.ref u609), .val (.ref u623), .val (.int (0 : Int32)), .val (.int (1 : Int32))] [(.ref u609), (.ref u609)])) (fun t k => XS.aload X675.here hx rfl (hb hby at_131) rfl rfl k) ?_
              obtain ⟨cq678, kq678, q678a, q678b, q678c⟩ := isOf hZ hh675 f632
              obtain ⟨_, _, ⟨T678, L678, k678, n678⟩, -, X678, ⟨Lc678, hQ678, l678, y678, z678⟩, st678⟩ := X675.virtualBack hx (y := (⟨"com/example/unwind/unwind/saga/Position", "equals", "(Ljava/lang/Object;)Z"⟩ : MethodName)) (z := (⟨"com/example/unwind/unwind/saga/Position", "equals", "(Ljava/lang/Object;)Z"⟩ : MethodName)) hown (mvT hZ (hw _ (List.mem_of_getElem? (i := 44) rfl))) (mvT hZ (hw _ (List.mem_of_getElem? (i := 45) rfl))) (notFace_of_selects (args := #[]) (mvT hZ (hw _ (List.mem_of_getElem? (i := 47) rfl)))) (mvT hZ (hw _ (List.mem_of_getElem? (i := 47) rfl))) (mvT hZ (hw _ (List.mem_of_getElem? (i := 46) rfl))) (by decide) (backOf (W := 0) (rm_eq1S l Z a0 hw [] u609 z_STUCK za (own_sb zc z_RUNNING z_ROLLING_BACK) T622.heap n0 O636 f632 f633 f634 f635) hZ (hw _ (List.mem_of_getElem? (i := 48) rfl)) (hw _ (List.mem_of_getElem? (i := 7) rfl)) (by decide) (by decide)) q678a q678c (g := (mkF m 133 #[.val (.int ia), .val (.int ib), .val (.int ie), .val (.int ig), .val (.int ik), .val (.int zc), .val (.int zb), .val (.int za), .val (.int zs), .val (.ref u609), .val (.ref u623), .val (.int (0 : Int32)), .val (.int (1 : Int32))] [(.ref u609), (.ref u609)])) rfl (by rw [hml]; rfl) (Steps.refl _) (argsL := [(.ref u609)]) (rest := []) (lenOf pd7 rfl) rfl (by show 2 * 0 + _ ≤ _; exact Nat.le_of_eq rfl) (hb hby at_133) (fun _ _ => ⟨rfl, hh675, (by decide : 6 + 0 ≤ _), (by decide : 54 + 0 ≤ _)⟩)
              dsimp only [Pt.U, Pt.locs, Pt.cells, Pt.slots] at X678 l678 y678 z678 st678 hQ678
              subst l678 y678 z678
              obtain ⟨rfl, Nq678, hh678⟩ := hQ678
              have N679 := Fr.app N676 Nq678
              refine GoH.via (T' := T678) (f' := (mkF m 136 #[.val (.int ia), .val (.int ib), .val (.int ie), .val (.int ig), .val (.int ik), .val (.int zc), .val (.int zb), .val (.int za), .val (.int zs), .val (.ref u609), .val (.ref u623), .val (.int (0 : Int32)), .val (.int (1 : Int32))] [(.int (1 : Int32))])) st678 ?_
              clear st678 X675 N676 Nq678
              refine GoH.step (T' := T678) (f' := (mkF m 139 #[.val (.int ia), .val (.int ib), .val (.int ie), .val (.int ig), .val (.int ik), .val (.int zc), .val (.int zb), .val (.int za), .val (.int zs), .val (.ref u609), .val (.ref u623), .val (.int (0 : Int32)), .val (.int (1 : Int32))] [])) (fun t k => XS.ifNo X678.here hx rfl (hb hby at_136) rfl ((if0 _ _).trans (feq (by decide : ¬ ((1 : Int32) = (0 : Int32)))).1) k) ?_
              refine GoH.step (T' := T678) (f' := (mkF m 140 #[.val (.int ia), .val (.int ib), .val (.int ie), .val (.int ig), .val (.int ik), .val (.int zc), .val (.int zb), .val (.int za), .val (.int zs), .val (.ref u609), .val (.ref u623), .val (.int (0 : Int32)), .val (.int (1 : Int32))] [(.int (1 : Int32))])) (fun t k => XS.iconst X678.here hx rfl (hb hby at_139) k) ?_
              refine GoH.step (T' := T678) (f' := (mkF m 144 #[.val (.int ia), .val (.int ib), .val (.int ie), .val (.int ig), .val (.int ik), .val (.int zc), .val (.int zb), .val (.int za), .val (.int zs), .val (.ref u609), .val (.ref u623), .val (.int (0 : Int32)), .val (.int (1 : Int32))] [(.int (1 : Int32))])) (fun t k => XS.goto X678.here hx rfl (pc0 := 140) (pc' := 144) rfl (hb hby at_140) (by decide) (by decide) k) ?_
              refine GoH.step (T' := T678) (f' := (mkF m 146 #[.val (.int ia), .val (.int ib), .val (.int ie), .val (.int ig), .val (.int ik), .val (.int zc), .val (.int zb), .val (.int za), .val (.int zs), .val (.ref u609), .val (.ref u623), .val (.int (0 : Int32)), .val (.int (1 : Int32))] [])) (fun t k => XS.istore X678.here hx rfl (hb hby at_144) rfl (l' := #[.val (.int ia), .val (.int ib), .val (.int ie), .val (.int ig), .val (.int ik), .val (.int zc), .val (.int zb), .val (.int za), .val (.int zs), .val (.ref u609), .val (.ref u623), .val (.int (0 : Int32)), .val (.int (1 : Int32))]) rfl k) ?_
              refine GoH.step (T' := T678) (f' := (mkF m 148 #[.val (.int ia), .val (.int ib), .val (.int ie), .val (.int ig), .val (.int ik), .val (.int zc), .val (.int zb), .val (.int za), .val (.int zs), .val (.ref u609), .val (.ref u623), .val (.int (0 : Int32)), .val (.int (1 : Int32))] [(.int (1 : Int32))])) (fun t k => XS.iload X678.here hx rfl (hb hby at_146) rfl k) ?_
              refine GoH.step (T' := T678) (f' := (mkF m 151 #[.val (.int ia), .val (.int ib), .val (.int ie), .val (.int ig), .val (.int ik), .val (.int zc), .val (.int zb), .val (.int za), .val (.int zs), .val (.ref u609), .val (.ref u623), .val (.int (0 : Int32)), .val (.int (1 : Int32))] [])) (fun t k => XS.ifNo X678.here hx rfl (hb hby at_148) rfl ((if0 _ _).trans (feq (by decide : ¬ ((1 : Int32) = (0 : Int32)))).1) k) ?_
              refine GoH.step (T' := T678) (f' := (mkF m 153 #[.val (.int ia), .val (.int ib), .val (.int ie), .val (.int ig), .val (.int ik), .val (.int zc), .val (.int zb), .val (.int za), .val (.int zs), .val (.ref u609), .val (.ref u623), .val (.int (0 : Int32)), .val (.int (1 : Int32))] [(.ref u609)])) (fun t k => XS.aload X678.here hx rfl (hb hby at_151) rfl rfl k) ?_
              refine GoH.step (T' := T678) (f' := (mkF m 154 #[.val (.int ia), .val (.int ib), .val (.int ie), .val (.int ig), .val (.int ik), .val (.int zc), .val (.int zb), .val (.int za), .val (.int zs), .val (.ref u609), .val (.ref u623), .val (.int (0 : Int32)), .val (.int (1 : Int32))] [.null, (.ref u609)])) (fun t k => XS.aconstNull X678.here hx rfl (hb hby at_153) k) ?_
              obtain ⟨cq680, kq680, q680a, q680b, q680c⟩ := isOf hZ hh678 f632
              obtain ⟨_, _, ⟨T680, L680, k680, n680⟩, -, X680, ⟨Lc680, hQ680, l680, y680, z680⟩, st680⟩ := X678.virtualBack hx (y := (⟨"com/example/unwind/unwind/saga/Position", "equals", "(Ljava/lang/Object;)Z"⟩ : MethodName)) (z := (⟨"com/example/unwind/unwind/saga/Position", "equals", "(Ljava/lang/Object;)Z"⟩ : MethodName)) hown (mvT hZ (hw _ (List.mem_of_getElem? (i := 44) rfl))) (mvT hZ (hw _ (List.mem_of_getElem? (i := 45) rfl))) (notFace_of_selects (args := #[]) (mvT hZ (hw _ (List.mem_of_getElem? (i := 47) rfl)))) (mvT hZ (hw _ (List.mem_of_getElem? (i := 47) rfl))) (mvT hZ (hw _ (List.mem_of_getElem? (i := 46) rfl))) (by decide) (backOf (W := 0) (rm_eqN l Z a0 hw [] u609 T622.heap n0 O636 ) hZ (hw _ (List.mem_of_getElem? (i := 48) rfl)) (hw _ (List.mem_of_getElem? (i := 7) rfl)) (by decide) (by decide)) q680a q680c (g := (mkF m 154 #[.val (.int ia), .val (.int ib), .val (.int ie), .val (.int ig), .val (.int ik), .val (.int zc), .val (.int zb), .val (.int za), .val (.int zs), .val (.ref u609), .val (.ref u623), .val (.int (0 : Int32)), .val (.int (1 : Int32))] [.null, (.ref u609)])) rfl (by rw [hml]; rfl) (Steps.refl _) (argsL := [.null]) (rest := []) (lenOf pd7 rfl) rfl (by show 2 * 0 + _ ≤ _; exact Nat.le_of_eq rfl) (hb hby at_154) (fun _ _ => ⟨rfl, hh678, (by decide : 6 + 0 ≤ _), (by decide : 54 + 0 ≤ _)⟩)
              dsimp only [Pt.U, Pt.locs, Pt.cells, Pt.slots] at X680 l680 y680 z680 st680 hQ680
              subst l680 y680 z680
              obtain ⟨rfl, Nq680, hh680⟩ := hQ680
              have N681 := Fr.app N679 Nq680
              refine GoH.via (T' := T680) (f' := (mkF m 157 #[.val (.int ia), .val (.int ib), .val (.int ie), .val (.int ig), .val (.int ik), .val (.int zc), .val (.int zb), .val (.int za), .val (.int zs), .val (.ref u609), .val (.ref u623), .val (.int (0 : Int32)), .val (.int (1 : Int32))] [(.int (0 : Int32))])) st680 ?_
              clear st680 X678 N679 Nq680
              refine GoH.step (T' := T680) (f' := (mkF m 160 #[.val (.int ia), .val (.int ib), .val (.int ie), .val (.int ig), .val (.int ik), .val (.int zc), .val (.int zb), .val (.int za), .val (.int zs), .val (.ref u609), .val (.ref u623), .val (.int (0 : Int32)), .val (.int (1 : Int32))] [])) (fun t k => XS.ifNo X680.here hx rfl (hb hby at_157) rfl ((if0 _ _).trans (teq (by decide : (0 : Int32) = (0 : Int32))).2) k) ?_
              refine GoH.step (T' := T680) (f' := (mkF m 161 #[.val (.int ia), .val (.int ib), .val (.int ie), .val (.int ig), .val (.int ik), .val (.int zc), .val (.int zb), .val (.int za), .val (.int zs), .val (.ref u609), .val (.ref u623), .val (.int (0 : Int32)), .val (.int (1 : Int32))] [(.int (1 : Int32))])) (fun t k => XS.iconst X680.here hx rfl (hb hby at_160) k) ?_
              refine GoH.step (T' := T680) (f' := (mkF m 165 #[.val (.int ia), .val (.int ib), .val (.int ie), .val (.int ig), .val (.int ik), .val (.int zc), .val (.int zb), .val (.int za), .val (.int zs), .val (.ref u609), .val (.ref u623), .val (.int (0 : Int32)), .val (.int (1 : Int32))] [(.int (1 : Int32))])) (fun t k => XS.goto X680.here hx rfl (pc0 := 161) (pc' := 165) rfl (hb hby at_161) (by decide) (by decide) k) ?_
              refine GoH.step (T' := T680) (f' := (mkF m 167 #[.val (.int ia), .val (.int ib), .val (.int ie), .val (.int ig), .val (.int ik), .val (.int zc), .val (.int zb), .val (.int za), .val (.int zs), .val (.ref u609), .val (.ref u623), .val (.int (0 : Int32)), .val (.int (1 : Int32))] [])) (fun t k => XS.istore X680.here hx rfl (hb hby at_165) rfl (l' := #[.val (.int ia), .val (.int ib), .val (.int ie), .val (.int ig), .val (.int ik), .val (.int zc), .val (.int zb), .val (.int za), .val (.int zs), .val (.ref u609), .val (.ref u623), .val (.int (0 : Int32)), .val (.int (1 : Int32))]) rfl k) ?_
              refine GoH.step (T' := T680) (f' := (mkF m 169 #[.val (.int ia), .val (.int ib), .val (.int ie), .val (.int ig), .val (.int ik), .val (.int zc), .val (.int zb), .val (.int za), .val (.int zs), .val (.ref u609), .val (.ref u623), .val (.int (0 : Int32)), .val (.int (1 : Int32))] [(.int (1 : Int32))])) (fun t k => XS.iload X680.here hx rfl (hb hby at_167) rfl k) ?_
              refine GoH.step (T' := T680) (f' := (mkF m 172 #[.val (.int ia), .val (.int ib), .val (.int ie), .val (.int ig), .val (.int ik), .val (.int zc), .val (.int zb), .val (.int za), .val (.int zs), .val (.ref u609), .val (.ref u623), .val (.int (0 : Int32)), .val (.int (1 : Int32))] [])) (fun t k => XS.ifNo X680.here hx rfl (hb hby at_169) rfl ((if0 _ _).trans (feq (by decide : ¬ ((1 : Int32) = (0 : Int32)))).1) k) ?_
              refine GoH.step (T' := T680) (f' := (mkF m 174 #[.val (.int ia), .val (.int ib), .val (.int ie), .val (.int ig), .val (.int ik), .val (.int zc), .val (.int zb), .val (.int za), .val (.int zs), .val (.ref u609), .val (.ref u623), .val (.int (0 : Int32)), .val (.int (1 : Int32))] [(.ref u609)])) (fun t k => XS.aload X680.here hx rfl (hb hby at_172) rfl rfl k) ?_
              refine GoH.step (T' := T680) (f' := (mkF m 176 #[.val (.int ia), .val (.int ib), .val (.int ie), .val (.int ig), .val (.int ik), .val (.int zc), .val (.int zb), .val (.int za), .val (.int zs), .val (.ref u609), .val (.ref u623), .val (.int (0 : Int32)), .val (.int (1 : Int32))] [(.int za), (.ref u609)])) (fun t k => XS.iload X680.here hx rfl (hb hby at_174) rfl k) ?_
              obtain ⟨_, _, ⟨T682, L682, k682, n682⟩, -, X682, ⟨Lc682, hQ682, l682, y682, z682⟩, st682⟩ := Jvm.LawKit.callS X680 hx (y := (⟨"java/lang/Integer", "valueOf", "(I)Ljava/lang/Integer;"⟩ : MethodName)) hown (mvT hZ (hw _ (List.mem_of_getElem? (i := 51) rfl))) (mvT hZ (hw _ (List.mem_of_getElem? (i := 52) rfl))) (mvT hZ (hw _ (List.mem_of_getElem? (i := 53) rfl))) (mvT hZ (hw _ (List.mem_of_getElem? (i := 54) rfl))) (by decide) (backOf (W := 1) (rm_ival l Z a0 hw [] za wc cc T622.heap n0 O636 P20 P21 hbx (hza)) hZ (hw _ (List.mem_of_getElem? (i := 54) rfl)) (hw _ (List.mem_of_getElem? (i := 53) rfl)) (by decide) (by decide)) (g := (mkF m 176 #[.val (.int ia), .val (.int ib), .val (.int ie), .val (.int ig), .val (.int ik), .val (.int zc), .val (.int zb), .val (.int za), .val (.int zs), .val (.ref u609), .val (.ref u623), .val (.int (0 : Int32)), .val (.int (1 : Int32))] [(.int za), (.ref u609)])) rfl (by rw [hml]; rfl) (argsL := [(.int za)]) (rest := [(.ref u609)]) (lenOf pd8 rfl) rfl (by show 2 * 0 + _ ≤ _; exact Nat.le_of_eq rfl) (hb hby at_176) (fun _ _ => ⟨rfl, hh680, (by decide : 6 + 1 ≤ _), (by decide : 54 + 1 ≤ _)⟩)
              dsimp only [Pt.U, Pt.locs, Pt.cells, Pt.slots] at X682 l682 y682 z682 st682 hQ682
              subst l682 y682 z682
              obtain ⟨u683, rfl, Nq682, hh682, p684⟩ := hQ682
              have N685 := Fr.app N681 Nq682
              have sz686 : ∀ x ∈ ([] : List Addr), Safe Z own_EL T622.vm T622.heap x := sf0
              have CR687 := CR630.trans (CHr.keep hh682 sz686 CR630.1)
              have hk688 := Nat.le_trans hk631 hh682.1
              have f689 := f632.keep hh682
              have f690 := f633.keep hh682 nin0
              have f691 := f634.keep hh682 nin0
              have f692 := f635.keep hh682 nin0
              have f693 := p625.keep hh682
              have f694 := p626.keep hh682 nin0
              have f695 := p627.keep hh682 nin0
              have f696 := p628.keep hh682 nin0
              have O697 := O636.keep hh682 all0
              have K698 := K637.trans hh682 all0
              refine GoH.step (T' := T682) (f' := (mkF m 179 #[.val (.int ia), .val (.int ib), .val (.int ie), .val (.int ig), .val (.int ik), .val (.int zc), .val (.int zb), .val (.int za), .val (.int zs), .val (.ref u609), .val (.ref u623), .val (.int (0 : Int32)), .val (.int (1 : Int32))] [(.ref u683), (.ref u609)])) st682 ?_
              clear st682 X680 N681 Nq682 CR630 hk631 sz686 f633 f634 f635 p626 p627 p628
              obtain ⟨cq699, kq699, q699a, q699b, q699c⟩ := isOf hZ rfl f689
              obtain ⟨_, _, ⟨T699, L699, k699, n699⟩, -, X699, ⟨Lc699, hQ699, l699, y699, z699⟩, st699⟩ := X682.virtualBack hx (y := (⟨"com/example/unwind/unwind/saga/Position", "equals", "(Ljava/lang/Object;)Z"⟩ : MethodName)) (z := (⟨"com/example/unwind/unwind/saga/Position", "equals", "(Ljava/lang/Object;)Z"⟩ : MethodName)) hown (mvT hZ (hw _ (List.mem_of_getElem? (i := 44) rfl))) (mvT hZ (hw _ (List.mem_of_getElem? (i := 45) rfl))) (notFace_of_selects (args := #[]) (mvT hZ (hw _ (List.mem_of_getElem? (i := 47) rfl)))) (mvT hZ (hw _ (List.mem_of_getElem? (i := 47) rfl))) (mvT hZ (hw _ (List.mem_of_getElem? (i := 46) rfl))) (by decide) (backOf (W := 0) (rm_eqI l Z a0 hw [] u609 u683 T682.heap n0 O697 p684) hZ (hw _ (List.mem_of_getElem? (i := 48) rfl)) (hw _ (List.mem_of_getElem? (i := 7) rfl)) (by decide) (by decide)) q699a q699c (g := (mkF m 179 #[.val (.int ia), .val (.int ib), .val (.int ie), .val (.int ig), .val (.int ik), .val (.int zc), .val (.int zb), .val (.int za), .val (.int zs), .val (.ref u609), .val (.ref u623), .val (.int (0 : Int32)), .val (.int (1 : Int32))] [(.ref u683), (.ref u609)])) rfl (by rw [hml]; rfl) (Steps.refl _) (argsL := [(.ref u683)]) (rest := []) (lenOf pd7 rfl) rfl (by show 2 * 0 + _ ≤ _; exact Nat.le_of_eq rfl) (hb hby at_179) (fun _ _ => ⟨rfl, rfl, (by decide : 7 + 0 ≤ _), (by decide : 55 + 0 ≤ _)⟩)
              dsimp only [Pt.U, Pt.locs, Pt.cells, Pt.slots] at X699 l699 y699 z699 st699 hQ699
              subst l699 y699 z699
              obtain ⟨rfl, Nq699, hh699⟩ := hQ699
              have N700 := Fr.app N685 Nq699
              refine GoH.via (T' := T699) (f' := (mkF m 182 #[.val (.int ia), .val (.int ib), .val (.int ie), .val (.int ig), .val (.int ik), .val (.int zc), .val (.int zb), .val (.int za), .val (.int zs), .val (.ref u609), .val (.ref u623), .val (.int (0 : Int32)), .val (.int (1 : Int32))] [(.int (0 : Int32))])) st699 ?_
              clear st699 X682 N685 Nq699
              refine GoH.step (T' := T699) (f' := (mkF m 185 #[.val (.int ia), .val (.int ib), .val (.int ie), .val (.int ig), .val (.int ik), .val (.int zc), .val (.int zb), .val (.int za), .val (.int zs), .val (.ref u609), .val (.ref u623), .val (.int (0 : Int32)), .val (.int (1 : Int32))] [])) (fun t k => XS.ifNo X699.here hx rfl (hb hby at_182) rfl ((if0 _ _).trans (teq (by decide : (0 : Int32) = (0 : Int32))).2) k) ?_
              refine GoH.step (T' := T699) (f' := (mkF m 186 #[.val (.int ia), .val (.int ib), .val (.int ie), .val (.int ig), .val (.int ik), .val (.int zc), .val (.int zb), .val (.int za), .val (.int zs), .val (.ref u609), .val (.ref u623), .val (.int (0 : Int32)), .val (.int (1 : Int32))] [(.int (1 : Int32))])) (fun t k => XS.iconst X699.here hx rfl (hb hby at_185) k) ?_
              refine GoH.step (T' := T699) (f' := (mkF m 190 #[.val (.int ia), .val (.int ib), .val (.int ie), .val (.int ig), .val (.int ik), .val (.int zc), .val (.int zb), .val (.int za), .val (.int zs), .val (.ref u609), .val (.ref u623), .val (.int (0 : Int32)), .val (.int (1 : Int32))] [(.int (1 : Int32))])) (fun t k => XS.goto X699.here hx rfl (pc0 := 186) (pc' := 190) rfl (hb hby at_186) (by decide) (by decide) k) ?_
              refine GoH.step (T' := T699) (f' := (mkF m 192 #[.val (.int ia), .val (.int ib), .val (.int ie), .val (.int ig), .val (.int ik), .val (.int zc), .val (.int zb), .val (.int za), .val (.int zs), .val (.ref u609), .val (.ref u623), .val (.int (0 : Int32)), .val (.int (1 : Int32))] [])) (fun t k => XS.istore X699.here hx rfl (hb hby at_190) rfl (l' := #[.val (.int ia), .val (.int ib), .val (.int ie), .val (.int ig), .val (.int ik), .val (.int zc), .val (.int zb), .val (.int za), .val (.int zs), .val (.ref u609), .val (.ref u623), .val (.int (0 : Int32)), .val (.int (1 : Int32))]) rfl k) ?_
              refine GoH.step (T' := T699) (f' := (mkF m 194 #[.val (.int ia), .val (.int ib), .val (.int ie), .val (.int ig), .val (.int ik), .val (.int zc), .val (.int zb), .val (.int za), .val (.int zs), .val (.ref u609), .val (.ref u623), .val (.int (0 : Int32)), .val (.int (1 : Int32))] [(.int (1 : Int32))])) (fun t k => XS.iload X699.here hx rfl (hb hby at_192) rfl k) ?_
              refine GoH.fin X699 hZ hEL hS622 hk688 CR687 hlk (v := some (.int (nar .boolean (1 : Int32)))) (fun h => by rw [Bd.returns] at h; cases h) (fun fs hr => retN X699 hx (t := .boolean) Bd.returns (by simp) (hb hby at_194) hr) hh699 ?_ (by decide) (by decide)
              exact ⟨rfl, N700, K698⟩
          ·
            refine GoH.step (T' := T622) (f' := (mkF m 90 #[.val (.int ia), .val (.int ib), .val (.int ie), .val (.int ig), .val (.int ik), .val (.int zc), .val (.int zb), .val (.int za), .val (.int zs), .val (.ref u609), .val (.ref u623), .unset, .unset] [])) (fun t k => XS.icmpYes X622.here hx rfl (pc0 := 76) (pc' := 90) rfl (hb hby at_76) rfl (feq hc641).2 (by decide) (by decide) k) ?_
            refine GoH.step (T' := T622) (f' := (mkF m 91 #[.val (.int ia), .val (.int ib), .val (.int ie), .val (.int ig), .val (.int ik), .val (.int zc), .val (.int zb), .val (.int za), .val (.int zs), .val (.ref u609), .val (.ref u623), .unset, .unset] [(.int (0 : Int32))])) (fun t k => XS.iconst X622.here hx rfl (hb hby at_90) k) ?_
            refine GoH.step (T' := T622) (f' := (mkF m 93 #[.val (.int ia), .val (.int ib), .val (.int ie), .val (.int ig), .val (.int ik), .val (.int zc), .val (.int zb), .val (.int za), .val (.int zs), .val (.ref u609), .val (.ref u623), .val (.int (0 : Int32)), .unset] [])) (fun t k => XS.istore X622.here hx rfl (hb hby at_91) rfl (l' := #[.val (.int ia), .val (.int ib), .val (.int ie), .val (.int ig), .val (.int ik), .val (.int zc), .val (.int zb), .val (.int za), .val (.int zs), .val (.ref u609), .val (.ref u623), .val (.int (0 : Int32)), .unset]) rfl k) ?_
            refine GoH.step (T' := T622) (f' := (mkF m 95 #[.val (.int ia), .val (.int ib), .val (.int ie), .val (.int ig), .val (.int ik), .val (.int zc), .val (.int zb), .val (.int za), .val (.int zs), .val (.ref u609), .val (.ref u623), .val (.int (0 : Int32)), .unset] [(.ref u609)])) (fun t k => XS.aload X622.here hx rfl (hb hby at_93) rfl rfl k) ?_
            refine GoH.step (T' := T622) (f' := (mkF m 97 #[.val (.int ia), .val (.int ib), .val (.int ie), .val (.int ig), .val (.int ik), .val (.int zc), .val (.int zb), .val (.int za), .val (.int zs), .val (.ref u609), .val (.ref u623), .val (.int (0 : Int32)), .unset] [(.ref u623), (.ref u609)])) (fun t k => XS.aload X622.here hx rfl (hb hby at_95) rfl rfl k) ?_
            obtain ⟨cq701, kq701, q701a, q701b, q701c⟩ := isOf hZ rfl f632
            obtain ⟨_, _, ⟨T701, L701, k701, n701⟩, -, X701, ⟨Lc701, hQ701, l701, y701, z701⟩, st701⟩ := X622.virtualBack hx (y := (⟨"com/example/unwind/unwind/saga/Position", "equals", "(Ljava/lang/Object;)Z"⟩ : MethodName)) (z := (⟨"com/example/unwind/unwind/saga/Position", "equals", "(Ljava/lang/Object;)Z"⟩ : MethodName)) hown (mvT hZ (hw _ (List.mem_of_getElem? (i := 44) rfl))) (mvT hZ (hw _ (List.mem_of_getElem? (i := 45) rfl))) (notFace_of_selects (args := #[]) (mvT hZ (hw _ (List.mem_of_getElem? (i := 47) rfl)))) (mvT hZ (hw _ (List.mem_of_getElem? (i := 47) rfl))) (mvT hZ (hw _ (List.mem_of_getElem? (i := 46) rfl))) (by decide) (backOf (W := 0) (rm_eqSS l Z a0 hw [] u609 u623 z_STUCK za z_STUCK zs (own_sb zc z_RUNNING z_ROLLING_BACK) (own_sb zb z_RUNNING z_ROLLING_BACK) T622.heap n0 O636 p625 f633 f634 f635 p626 p627 p628) hZ (hw _ (List.mem_of_getElem? (i := 48) rfl)) (hw _ (List.mem_of_getElem? (i := 7) rfl)) (by decide) (by decide)) q701a q701c (g := (mkF m 97 #[.val (.int ia), .val (.int ib), .val (.int ie), .val (.int ig), .val (.int ik), .val (.int zc), .val (.int zb), .val (.int za), .val (.int zs), .val (.ref u609), .val (.ref u623), .val (.int (0 : Int32)), .unset] [(.ref u623), (.ref u609)])) rfl (by rw [hml]; rfl) (Steps.refl _) (argsL := [(.ref u623)]) (rest := []) (lenOf pd7 rfl) rfl (by show 2 * 0 + _ ≤ _; exact Nat.le_of_eq rfl) (hb hby at_97) (fun _ _ => ⟨rfl, rfl, (by decide : 6 + 0 ≤ _), (by decide : 54 + 0 ≤ _)⟩)
            dsimp only [Pt.U, Pt.locs, Pt.cells, Pt.slots] at X701 l701 y701 z701 st701 hQ701
            subst l701 y701 z701
            obtain ⟨rfl, Nq701, hh701⟩ := hQ701
            have N702 := Fr.app N629 Nq701
            refine GoH.via (T' := T701) (f' := (mkF m 100 #[.val (.int ia), .val (.int ib), .val (.int ie), .val (.int ig), .val (.int ik), .val (.int zc), .val (.int zb), .val (.int za), .val (.int zs), .val (.ref u609), .val (.ref u623), .val (.int (0 : Int32)), .unset] [(.int (if z_STUCK = z_STUCK ∧ za = zs ∧ (own_sb zc z_RUNNING z_ROLLING_BACK) = (own_sb zb z_RUNNING z_ROLLING_BACK) then (1 : Int32) else 0))])) st701 ?_
            clear st701 X622 N629 Nq701
            refine GoH.step (T' := T701) (f' := (mkF m 102 #[.val (.int ia), .val (.int ib), .val (.int ie), .val (.int ig), .val (.int ik), .val (.int zc), .val (.int zb), .val (.int za), .val (.int zs), .val (.ref u609), .val (.ref u623), .val (.int (0 : Int32)), .unset] [(.int (0 : Int32)), (.int (if z_STUCK = z_STUCK ∧ za = zs ∧ (own_sb zc z_RUNNING z_ROLLING_BACK) = (own_sb zb z_RUNNING z_ROLLING_BACK) then (1 : Int32) else 0))])) (fun t k => XS.iload X701.here hx rfl (hb hby at_100) rfl k) ?_
            have hc703 : (if z_STUCK = z_STUCK ∧ za = zs ∧ (own_sb zc z_RUNNING z_ROLLING_BACK) = (own_sb zb z_RUNNING z_ROLLING_BACK) then (1 : Int32) else 0) = (0 : Int32) := by
              simp [own_sbI hA hB P10, hc641]
            refine GoH.step (T' := T701) (f' := (mkF m 105 #[.val (.int ia), .val (.int ib), .val (.int ie), .val (.int ig), .val (.int ik), .val (.int zc), .val (.int zb), .val (.int za), .val (.int zs), .val (.ref u609), .val (.ref u623), .val (.int (0 : Int32)), .unset] [])) (fun t k => XS.icmpNo X701.here hx rfl (hb hby at_102) rfl (teq hc703).2 k) ?_
            refine GoH.step (T' := T701) (f' := (mkF m 107 #[.val (.int ia), .val (.int ib), .val (.int ie), .val (.int ig), .val (.int ik), .val (.int zc), .val (.int zb), .val (.int za), .val (.int zs), .val (.ref u609), .val (.ref u623), .val (.int (0 : Int32)), .unset] [(.ref u623)])) (fun t k => XS.aload X701.here hx rfl (hb hby at_105) rfl rfl k) ?_
            refine GoH.step (T' := T701) (f' := (mkF m 109 #[.val (.int ia), .val (.int ib), .val (.int ie), .val (.int ig), .val (.int ik), .val (.int zc), .val (.int zb), .val (.int za), .val (.int zs), .val (.ref u609), .val (.ref u623), .val (.int (0 : Int32)), .unset] [(.ref u609), (.ref u623)])) (fun t k => XS.aload X701.here hx rfl (hb hby at_107) rfl rfl k) ?_
            obtain ⟨cq704, kq704, q704a, q704b, q704c⟩ := isOf hZ hh701 p625
            obtain ⟨_, _, ⟨T704, L704, k704, n704⟩, -, X704, ⟨Lc704, hQ704, l704, y704, z704⟩, st704⟩ := X701.virtualBack hx (y := (⟨"com/example/unwind/unwind/saga/Position", "equals", "(Ljava/lang/Object;)Z"⟩ : MethodName)) (z := (⟨"com/example/unwind/unwind/saga/Position", "equals", "(Ljava/lang/Object;)Z"⟩ : MethodName)) hown (mvT hZ (hw _ (List.mem_of_getElem? (i := 44) rfl))) (mvT hZ (hw _ (List.mem_of_getElem? (i := 45) rfl))) (notFace_of_selects (args := #[]) (mvT hZ (hw _ (List.mem_of_getElem? (i := 47) rfl)))) (mvT hZ (hw _ (List.mem_of_getElem? (i := 47) rfl))) (mvT hZ (hw _ (List.mem_of_getElem? (i := 46) rfl))) (by decide) (backOf (W := 0) (rm_eqSS l Z a0 hw [] u623 u609 z_STUCK zs z_STUCK za (own_sb zb z_RUNNING z_ROLLING_BACK) (own_sb zc z_RUNNING z_ROLLING_BACK) T622.heap n0 O636 f632 p626 p627 p628 f633 f634 f635) hZ (hw _ (List.mem_of_getElem? (i := 48) rfl)) (hw _ (List.mem_of_getElem? (i := 7) rfl)) (by decide) (by decide)) q704a q704c (g := (mkF m 109 #[.val (.int ia), .val (.int ib), .val (.int ie), .val (.int ig), .val (.int ik), .val (.int zc), .val (.int zb), .val (.int za), .val (.int zs), .val (.ref u609), .val (.ref u623), .val (.int (0 : Int32)), .unset] [(.ref u609), (.ref u623)])) rfl (by rw [hml]; rfl) (Steps.refl _) (argsL := [(.ref u609)]) (rest := []) (lenOf pd7 rfl) rfl (by show 2 * 0 + _ ≤ _; exact Nat.le_of_eq rfl) (hb hby at_109) (fun _ _ => ⟨rfl, hh701, (by decide : 6 + 0 ≤ _), (by decide : 54 + 0 ≤ _)⟩)
            dsimp only [Pt.U, Pt.locs, Pt.cells, Pt.slots] at X704 l704 y704 z704 st704 hQ704
            subst l704 y704 z704
            obtain ⟨rfl, Nq704, hh704⟩ := hQ704
            have N705 := Fr.app N702 Nq704
            refine GoH.via (T' := T704) (f' := (mkF m 112 #[.val (.int ia), .val (.int ib), .val (.int ie), .val (.int ig), .val (.int ik), .val (.int zc), .val (.int zb), .val (.int za), .val (.int zs), .val (.ref u609), .val (.ref u623), .val (.int (0 : Int32)), .unset] [(.int (if z_STUCK = z_STUCK ∧ zs = za ∧ (own_sb zb z_RUNNING z_ROLLING_BACK) = (own_sb zc z_RUNNING z_ROLLING_BACK) then (1 : Int32) else 0))])) st704 ?_
            clear st704 X701 N702 Nq704
            refine GoH.step (T' := T704) (f' := (mkF m 114 #[.val (.int ia), .val (.int ib), .val (.int ie), .val (.int ig), .val (.int ik), .val (.int zc), .val (.int zb), .val (.int za), .val (.int zs), .val (.ref u609), .val (.ref u623), .val (.int (0 : Int32)), .unset] [(.int (0 : Int32)), (.int (if z_STUCK = z_STUCK ∧ zs = za ∧ (own_sb zb z_RUNNING z_ROLLING_BACK) = (own_sb zc z_RUNNING z_ROLLING_BACK) then (1 : Int32) else 0))])) (fun t k => XS.iload X704.here hx rfl (hb hby at_112) rfl k) ?_
            have hc706 : (if z_STUCK = z_STUCK ∧ zs = za ∧ (own_sb zb z_RUNNING z_ROLLING_BACK) = (own_sb zc z_RUNNING z_ROLLING_BACK) then (1 : Int32) else 0) = (0 : Int32) := by
              simp [own_sbI hB hA P10, (Ne.symm hc641)]
            refine GoH.step (T' := T704) (f' := (mkF m 117 #[.val (.int ia), .val (.int ib), .val (.int ie), .val (.int ig), .val (.int ik), .val (.int zc), .val (.int zb), .val (.int za), .val (.int zs), .val (.ref u609), .val (.ref u623), .val (.int (0 : Int32)), .unset] [])) (fun t k => XS.icmpNo X704.here hx rfl (hb hby at_114) rfl (teq hc706).2 k) ?_
            refine GoH.step (T' := T704) (f' := (mkF m 118 #[.val (.int ia), .val (.int ib), .val (.int ie), .val (.int ig), .val (.int ik), .val (.int zc), .val (.int zb), .val (.int za), .val (.int zs), .val (.ref u609), .val (.ref u623), .val (.int (0 : Int32)), .unset] [(.int (1 : Int32))])) (fun t k => XS.iconst X704.here hx rfl (hb hby at_117) k) ?_
            refine GoH.step (T' := T704) (f' := (mkF m 122 #[.val (.int ia), .val (.int ib), .val (.int ie), .val (.int ig), .val (.int ik), .val (.int zc), .val (.int zb), .val (.int za), .val (.int zs), .val (.ref u609), .val (.ref u623), .val (.int (0 : Int32)), .unset] [(.int (1 : Int32))])) (fun t k => XS.goto X704.here hx rfl (pc0 := 118) (pc' := 122) rfl (hb hby at_118) (by decide) (by decide) k) ?_
            refine GoH.step (T' := T704) (f' := (mkF m 124 #[.val (.int ia), .val (.int ib), .val (.int ie), .val (.int ig), .val (.int ik), .val (.int zc), .val (.int zb), .val (.int za), .val (.int zs), .val (.ref u609), .val (.ref u623), .val (.int (0 : Int32)), .val (.int (1 : Int32))] [])) (fun t k => XS.istore X704.here hx rfl (hb hby at_122) rfl (l' := #[.val (.int ia), .val (.int ib), .val (.int ie), .val (.int ig), .val (.int ik), .val (.int zc), .val (.int zb), .val (.int za), .val (.int zs), .val (.ref u609), .val (.ref u623), .val (.int (0 : Int32)), .val (.int (1 : Int32))]) rfl k) ?_
            refine GoH.step (T' := T704) (f' := (mkF m 126 #[.val (.int ia), .val (.int ib), .val (.int ie), .val (.int ig), .val (.int ik), .val (.int zc), .val (.int zb), .val (.int za), .val (.int zs), .val (.ref u609), .val (.ref u623), .val (.int (0 : Int32)), .val (.int (1 : Int32))] [(.int (1 : Int32))])) (fun t k => XS.iload X704.here hx rfl (hb hby at_124) rfl k) ?_
            refine GoH.step (T' := T704) (f' := (mkF m 129 #[.val (.int ia), .val (.int ib), .val (.int ie), .val (.int ig), .val (.int ik), .val (.int zc), .val (.int zb), .val (.int za), .val (.int zs), .val (.ref u609), .val (.ref u623), .val (.int (0 : Int32)), .val (.int (1 : Int32))] [])) (fun t k => XS.ifNo X704.here hx rfl (hb hby at_126) rfl ((if0 _ _).trans (feq (by decide : ¬ ((1 : Int32) = (0 : Int32)))).1) k) ?_
            refine GoH.step (T' := T704) (f' := (mkF m 131 #[.val (.int ia), .val (.int ib), .val (.int ie), .val (.int ig), .val (.int ik), .val (.int zc), .val (.int zb), .val (.int za), .val (.int zs), .val (.ref u609), .val (.ref u623), .val (.int (0 : Int32)), .val (.int (1 : Int32))] [(.ref u609)])) (fun t k => XS.aload X704.here hx rfl (hb hby at_129) rfl rfl k) ?_
            refine GoH.step (T' := T704) (f' := (mkF m 133 #[.val (.int ia), .val (.int ib), .val (.int ie), .val (.int ig), .val (.int ik), .val (.int zc), .val (.int zb), .val (.int za), .val (.int zs), .val (.ref u609), .val (.ref u623), .val (.int (0 : Int32)), .val (.int (1 : Int32))] [(.ref u609), (.ref u609)])) (fun t k => XS.aload X704.here hx rfl (hb hby at_131) rfl rfl k) ?_
            obtain ⟨cq707, kq707, q707a, q707b, q707c⟩ := isOf hZ hh704 f632
            obtain ⟨_, _, ⟨T707, L707, k707, n707⟩, -, X707, ⟨Lc707, hQ707, l707, y707, z707⟩, st707⟩ := X704.virtualBack hx (y := (⟨"com/example/unwind/unwind/saga/Position", "equals", "(Ljava/lang/Object;)Z"⟩ : MethodName)) (z := (⟨"com/example/unwind/unwind/saga/Position", "equals", "(Ljava/lang/Object;)Z"⟩ : MethodName)) hown (mvT hZ (hw _ (List.mem_of_getElem? (i := 44) rfl))) (mvT hZ (hw _ (List.mem_of_getElem? (i := 45) rfl))) (notFace_of_selects (args := #[]) (mvT hZ (hw _ (List.mem_of_getElem? (i := 47) rfl)))) (mvT hZ (hw _ (List.mem_of_getElem? (i := 47) rfl))) (mvT hZ (hw _ (List.mem_of_getElem? (i := 46) rfl))) (by decide) (backOf (W := 0) (rm_eq1S l Z a0 hw [] u609 z_STUCK za (own_sb zc z_RUNNING z_ROLLING_BACK) T622.heap n0 O636 f632 f633 f634 f635) hZ (hw _ (List.mem_of_getElem? (i := 48) rfl)) (hw _ (List.mem_of_getElem? (i := 7) rfl)) (by decide) (by decide)) q707a q707c (g := (mkF m 133 #[.val (.int ia), .val (.int ib), .val (.int ie), .val (.int ig), .val (.int ik), .val (.int zc), .val (.int zb), .val (.int za), .val (.int zs), .val (.ref u609), .val (.ref u623), .val (.int (0 : Int32)), .val (.int (1 : Int32))] [(.ref u609), (.ref u609)])) rfl (by rw [hml]; rfl) (Steps.refl _) (argsL := [(.ref u609)]) (rest := []) (lenOf pd7 rfl) rfl (by show 2 * 0 + _ ≤ _; exact Nat.le_of_eq rfl) (hb hby at_133) (fun _ _ => ⟨rfl, hh704, (by decide : 6 + 0 ≤ _), (by decide : 54 + 0 ≤ _)⟩)
            dsimp only [Pt.U, Pt.locs, Pt.cells, Pt.slots] at X707 l707 y707 z707 st707 hQ707
            subst l707 y707 z707
            obtain ⟨rfl, Nq707, hh707⟩ := hQ707
            have N708 := Fr.app N705 Nq707
            refine GoH.via (T' := T707) (f' := (mkF m 136 #[.val (.int ia), .val (.int ib), .val (.int ie), .val (.int ig), .val (.int ik), .val (.int zc), .val (.int zb), .val (.int za), .val (.int zs), .val (.ref u609), .val (.ref u623), .val (.int (0 : Int32)), .val (.int (1 : Int32))] [(.int (1 : Int32))])) st707 ?_
            clear st707 X704 N705 Nq707
            refine GoH.step (T' := T707) (f' := (mkF m 139 #[.val (.int ia), .val (.int ib), .val (.int ie), .val (.int ig), .val (.int ik), .val (.int zc), .val (.int zb), .val (.int za), .val (.int zs), .val (.ref u609), .val (.ref u623), .val (.int (0 : Int32)), .val (.int (1 : Int32))] [])) (fun t k => XS.ifNo X707.here hx rfl (hb hby at_136) rfl ((if0 _ _).trans (feq (by decide : ¬ ((1 : Int32) = (0 : Int32)))).1) k) ?_
            refine GoH.step (T' := T707) (f' := (mkF m 140 #[.val (.int ia), .val (.int ib), .val (.int ie), .val (.int ig), .val (.int ik), .val (.int zc), .val (.int zb), .val (.int za), .val (.int zs), .val (.ref u609), .val (.ref u623), .val (.int (0 : Int32)), .val (.int (1 : Int32))] [(.int (1 : Int32))])) (fun t k => XS.iconst X707.here hx rfl (hb hby at_139) k) ?_
            refine GoH.step (T' := T707) (f' := (mkF m 144 #[.val (.int ia), .val (.int ib), .val (.int ie), .val (.int ig), .val (.int ik), .val (.int zc), .val (.int zb), .val (.int za), .val (.int zs), .val (.ref u609), .val (.ref u623), .val (.int (0 : Int32)), .val (.int (1 : Int32))] [(.int (1 : Int32))])) (fun t k => XS.goto X707.here hx rfl (pc0 := 140) (pc' := 144) rfl (hb hby at_140) (by decide) (by decide) k) ?_
            refine GoH.step (T' := T707) (f' := (mkF m 146 #[.val (.int ia), .val (.int ib), .val (.int ie), .val (.int ig), .val (.int ik), .val (.int zc), .val (.int zb), .val (.int za), .val (.int zs), .val (.ref u609), .val (.ref u623), .val (.int (0 : Int32)), .val (.int (1 : Int32))] [])) (fun t k => XS.istore X707.here hx rfl (hb hby at_144) rfl (l' := #[.val (.int ia), .val (.int ib), .val (.int ie), .val (.int ig), .val (.int ik), .val (.int zc), .val (.int zb), .val (.int za), .val (.int zs), .val (.ref u609), .val (.ref u623), .val (.int (0 : Int32)), .val (.int (1 : Int32))]) rfl k) ?_
            refine GoH.step (T' := T707) (f' := (mkF m 148 #[.val (.int ia), .val (.int ib), .val (.int ie), .val (.int ig), .val (.int ik), .val (.int zc), .val (.int zb), .val (.int za), .val (.int zs), .val (.ref u609), .val (.ref u623), .val (.int (0 : Int32)), .val (.int (1 : Int32))] [(.int (1 : Int32))])) (fun t k => XS.iload X707.here hx rfl (hb hby at_146) rfl k) ?_
            refine GoH.step (T' := T707) (f' := (mkF m 151 #[.val (.int ia), .val (.int ib), .val (.int ie), .val (.int ig), .val (.int ik), .val (.int zc), .val (.int zb), .val (.int za), .val (.int zs), .val (.ref u609), .val (.ref u623), .val (.int (0 : Int32)), .val (.int (1 : Int32))] [])) (fun t k => XS.ifNo X707.here hx rfl (hb hby at_148) rfl ((if0 _ _).trans (feq (by decide : ¬ ((1 : Int32) = (0 : Int32)))).1) k) ?_
            refine GoH.step (T' := T707) (f' := (mkF m 153 #[.val (.int ia), .val (.int ib), .val (.int ie), .val (.int ig), .val (.int ik), .val (.int zc), .val (.int zb), .val (.int za), .val (.int zs), .val (.ref u609), .val (.ref u623), .val (.int (0 : Int32)), .val (.int (1 : Int32))] [(.ref u609)])) (fun t k => XS.aload X707.here hx rfl (hb hby at_151) rfl rfl k) ?_
            refine GoH.step (T' := T707) (f' := (mkF m 154 #[.val (.int ia), .val (.int ib), .val (.int ie), .val (.int ig), .val (.int ik), .val (.int zc), .val (.int zb), .val (.int za), .val (.int zs), .val (.ref u609), .val (.ref u623), .val (.int (0 : Int32)), .val (.int (1 : Int32))] [.null, (.ref u609)])) (fun t k => XS.aconstNull X707.here hx rfl (hb hby at_153) k) ?_
            obtain ⟨cq709, kq709, q709a, q709b, q709c⟩ := isOf hZ hh707 f632
            obtain ⟨_, _, ⟨T709, L709, k709, n709⟩, -, X709, ⟨Lc709, hQ709, l709, y709, z709⟩, st709⟩ := X707.virtualBack hx (y := (⟨"com/example/unwind/unwind/saga/Position", "equals", "(Ljava/lang/Object;)Z"⟩ : MethodName)) (z := (⟨"com/example/unwind/unwind/saga/Position", "equals", "(Ljava/lang/Object;)Z"⟩ : MethodName)) hown (mvT hZ (hw _ (List.mem_of_getElem? (i := 44) rfl))) (mvT hZ (hw _ (List.mem_of_getElem? (i := 45) rfl))) (notFace_of_selects (args := #[]) (mvT hZ (hw _ (List.mem_of_getElem? (i := 47) rfl)))) (mvT hZ (hw _ (List.mem_of_getElem? (i := 47) rfl))) (mvT hZ (hw _ (List.mem_of_getElem? (i := 46) rfl))) (by decide) (backOf (W := 0) (rm_eqN l Z a0 hw [] u609 T622.heap n0 O636 ) hZ (hw _ (List.mem_of_getElem? (i := 48) rfl)) (hw _ (List.mem_of_getElem? (i := 7) rfl)) (by decide) (by decide)) q709a q709c (g := (mkF m 154 #[.val (.int ia), .val (.int ib), .val (.int ie), .val (.int ig), .val (.int ik), .val (.int zc), .val (.int zb), .val (.int za), .val (.int zs), .val (.ref u609), .val (.ref u623), .val (.int (0 : Int32)), .val (.int (1 : Int32))] [.null, (.ref u609)])) rfl (by rw [hml]; rfl) (Steps.refl _) (argsL := [.null]) (rest := []) (lenOf pd7 rfl) rfl (by show 2 * 0 + _ ≤ _; exact Nat.le_of_eq rfl) (hb hby at_154) (fun _ _ => ⟨rfl, hh707, (by decide : 6 + 0 ≤ _), (by decide : 54 + 0 ≤ _)⟩)
            dsimp only [Pt.U, Pt.locs, Pt.cells, Pt.slots] at X709 l709 y709 z709 st709 hQ709
            subst l709 y709 z709
            obtain ⟨rfl, Nq709, hh709⟩ := hQ709
            have N710 := Fr.app N708 Nq709
            refine GoH.via (T' := T709) (f' := (mkF m 157 #[.val (.int ia), .val (.int ib), .val (.int ie), .val (.int ig), .val (.int ik), .val (.int zc), .val (.int zb), .val (.int za), .val (.int zs), .val (.ref u609), .val (.ref u623), .val (.int (0 : Int32)), .val (.int (1 : Int32))] [(.int (0 : Int32))])) st709 ?_
            clear st709 X707 N708 Nq709
            refine GoH.step (T' := T709) (f' := (mkF m 160 #[.val (.int ia), .val (.int ib), .val (.int ie), .val (.int ig), .val (.int ik), .val (.int zc), .val (.int zb), .val (.int za), .val (.int zs), .val (.ref u609), .val (.ref u623), .val (.int (0 : Int32)), .val (.int (1 : Int32))] [])) (fun t k => XS.ifNo X709.here hx rfl (hb hby at_157) rfl ((if0 _ _).trans (teq (by decide : (0 : Int32) = (0 : Int32))).2) k) ?_
            refine GoH.step (T' := T709) (f' := (mkF m 161 #[.val (.int ia), .val (.int ib), .val (.int ie), .val (.int ig), .val (.int ik), .val (.int zc), .val (.int zb), .val (.int za), .val (.int zs), .val (.ref u609), .val (.ref u623), .val (.int (0 : Int32)), .val (.int (1 : Int32))] [(.int (1 : Int32))])) (fun t k => XS.iconst X709.here hx rfl (hb hby at_160) k) ?_
            refine GoH.step (T' := T709) (f' := (mkF m 165 #[.val (.int ia), .val (.int ib), .val (.int ie), .val (.int ig), .val (.int ik), .val (.int zc), .val (.int zb), .val (.int za), .val (.int zs), .val (.ref u609), .val (.ref u623), .val (.int (0 : Int32)), .val (.int (1 : Int32))] [(.int (1 : Int32))])) (fun t k => XS.goto X709.here hx rfl (pc0 := 161) (pc' := 165) rfl (hb hby at_161) (by decide) (by decide) k) ?_
            refine GoH.step (T' := T709) (f' := (mkF m 167 #[.val (.int ia), .val (.int ib), .val (.int ie), .val (.int ig), .val (.int ik), .val (.int zc), .val (.int zb), .val (.int za), .val (.int zs), .val (.ref u609), .val (.ref u623), .val (.int (0 : Int32)), .val (.int (1 : Int32))] [])) (fun t k => XS.istore X709.here hx rfl (hb hby at_165) rfl (l' := #[.val (.int ia), .val (.int ib), .val (.int ie), .val (.int ig), .val (.int ik), .val (.int zc), .val (.int zb), .val (.int za), .val (.int zs), .val (.ref u609), .val (.ref u623), .val (.int (0 : Int32)), .val (.int (1 : Int32))]) rfl k) ?_
            refine GoH.step (T' := T709) (f' := (mkF m 169 #[.val (.int ia), .val (.int ib), .val (.int ie), .val (.int ig), .val (.int ik), .val (.int zc), .val (.int zb), .val (.int za), .val (.int zs), .val (.ref u609), .val (.ref u623), .val (.int (0 : Int32)), .val (.int (1 : Int32))] [(.int (1 : Int32))])) (fun t k => XS.iload X709.here hx rfl (hb hby at_167) rfl k) ?_
            refine GoH.step (T' := T709) (f' := (mkF m 172 #[.val (.int ia), .val (.int ib), .val (.int ie), .val (.int ig), .val (.int ik), .val (.int zc), .val (.int zb), .val (.int za), .val (.int zs), .val (.ref u609), .val (.ref u623), .val (.int (0 : Int32)), .val (.int (1 : Int32))] [])) (fun t k => XS.ifNo X709.here hx rfl (hb hby at_169) rfl ((if0 _ _).trans (feq (by decide : ¬ ((1 : Int32) = (0 : Int32)))).1) k) ?_
            refine GoH.step (T' := T709) (f' := (mkF m 174 #[.val (.int ia), .val (.int ib), .val (.int ie), .val (.int ig), .val (.int ik), .val (.int zc), .val (.int zb), .val (.int za), .val (.int zs), .val (.ref u609), .val (.ref u623), .val (.int (0 : Int32)), .val (.int (1 : Int32))] [(.ref u609)])) (fun t k => XS.aload X709.here hx rfl (hb hby at_172) rfl rfl k) ?_
            refine GoH.step (T' := T709) (f' := (mkF m 176 #[.val (.int ia), .val (.int ib), .val (.int ie), .val (.int ig), .val (.int ik), .val (.int zc), .val (.int zb), .val (.int za), .val (.int zs), .val (.ref u609), .val (.ref u623), .val (.int (0 : Int32)), .val (.int (1 : Int32))] [(.int za), (.ref u609)])) (fun t k => XS.iload X709.here hx rfl (hb hby at_174) rfl k) ?_
            obtain ⟨_, _, ⟨T711, L711, k711, n711⟩, -, X711, ⟨Lc711, hQ711, l711, y711, z711⟩, st711⟩ := Jvm.LawKit.callS X709 hx (y := (⟨"java/lang/Integer", "valueOf", "(I)Ljava/lang/Integer;"⟩ : MethodName)) hown (mvT hZ (hw _ (List.mem_of_getElem? (i := 51) rfl))) (mvT hZ (hw _ (List.mem_of_getElem? (i := 52) rfl))) (mvT hZ (hw _ (List.mem_of_getElem? (i := 53) rfl))) (mvT hZ (hw _ (List.mem_of_getElem? (i := 54) rfl))) (by decide) (backOf (W := 1) (rm_ival l Z a0 hw [] za wc cc T622.heap n0 O636 P20 P21 hbx (hza)) hZ (hw _ (List.mem_of_getElem? (i := 54) rfl)) (hw _ (List.mem_of_getElem? (i := 53) rfl)) (by decide) (by decide)) (g := (mkF m 176 #[.val (.int ia), .val (.int ib), .val (.int ie), .val (.int ig), .val (.int ik), .val (.int zc), .val (.int zb), .val (.int za), .val (.int zs), .val (.ref u609), .val (.ref u623), .val (.int (0 : Int32)), .val (.int (1 : Int32))] [(.int za), (.ref u609)])) rfl (by rw [hml]; rfl) (argsL := [(.int za)]) (rest := [(.ref u609)]) (lenOf pd8 rfl) rfl (by show 2 * 0 + _ ≤ _; exact Nat.le_of_eq rfl) (hb hby at_176) (fun _ _ => ⟨rfl, hh709, (by decide : 6 + 1 ≤ _), (by decide : 54 + 1 ≤ _)⟩)
            dsimp only [Pt.U, Pt.locs, Pt.cells, Pt.slots] at X711 l711 y711 z711 st711 hQ711
            subst l711 y711 z711
            obtain ⟨u712, rfl, Nq711, hh711, p713⟩ := hQ711
            have N714 := Fr.app N710 Nq711
            have sz715 : ∀ x ∈ ([] : List Addr), Safe Z own_EL T622.vm T622.heap x := sf0
            have CR716 := CR630.trans (CHr.keep hh711 sz715 CR630.1)
            have hk717 := Nat.le_trans hk631 hh711.1
            have f718 := f632.keep hh711
            have f719 := f633.keep hh711 nin0
            have f720 := f634.keep hh711 nin0
            have f721 := f635.keep hh711 nin0
            have f722 := p625.keep hh711
            have f723 := p626.keep hh711 nin0
            have f724 := p627.keep hh711 nin0
            have f725 := p628.keep hh711 nin0
            have O726 := O636.keep hh711 all0
            have K727 := K637.trans hh711 all0
            refine GoH.step (T' := T711) (f' := (mkF m 179 #[.val (.int ia), .val (.int ib), .val (.int ie), .val (.int ig), .val (.int ik), .val (.int zc), .val (.int zb), .val (.int za), .val (.int zs), .val (.ref u609), .val (.ref u623), .val (.int (0 : Int32)), .val (.int (1 : Int32))] [(.ref u712), (.ref u609)])) st711 ?_
            clear st711 X709 N710 Nq711 CR630 hk631 sz715 f633 f634 f635 p626 p627 p628
            obtain ⟨cq728, kq728, q728a, q728b, q728c⟩ := isOf hZ rfl f718
            obtain ⟨_, _, ⟨T728, L728, k728, n728⟩, -, X728, ⟨Lc728, hQ728, l728, y728, z728⟩, st728⟩ := X711.virtualBack hx (y := (⟨"com/example/unwind/unwind/saga/Position", "equals", "(Ljava/lang/Object;)Z"⟩ : MethodName)) (z := (⟨"com/example/unwind/unwind/saga/Position", "equals", "(Ljava/lang/Object;)Z"⟩ : MethodName)) hown (mvT hZ (hw _ (List.mem_of_getElem? (i := 44) rfl))) (mvT hZ (hw _ (List.mem_of_getElem? (i := 45) rfl))) (notFace_of_selects (args := #[]) (mvT hZ (hw _ (List.mem_of_getElem? (i := 47) rfl)))) (mvT hZ (hw _ (List.mem_of_getElem? (i := 47) rfl))) (mvT hZ (hw _ (List.mem_of_getElem? (i := 46) rfl))) (by decide) (backOf (W := 0) (rm_eqI l Z a0 hw [] u609 u712 T711.heap n0 O726 p713) hZ (hw _ (List.mem_of_getElem? (i := 48) rfl)) (hw _ (List.mem_of_getElem? (i := 7) rfl)) (by decide) (by decide)) q728a q728c (g := (mkF m 179 #[.val (.int ia), .val (.int ib), .val (.int ie), .val (.int ig), .val (.int ik), .val (.int zc), .val (.int zb), .val (.int za), .val (.int zs), .val (.ref u609), .val (.ref u623), .val (.int (0 : Int32)), .val (.int (1 : Int32))] [(.ref u712), (.ref u609)])) rfl (by rw [hml]; rfl) (Steps.refl _) (argsL := [(.ref u712)]) (rest := []) (lenOf pd7 rfl) rfl (by show 2 * 0 + _ ≤ _; exact Nat.le_of_eq rfl) (hb hby at_179) (fun _ _ => ⟨rfl, rfl, (by decide : 7 + 0 ≤ _), (by decide : 55 + 0 ≤ _)⟩)
            dsimp only [Pt.U, Pt.locs, Pt.cells, Pt.slots] at X728 l728 y728 z728 st728 hQ728
            subst l728 y728 z728
            obtain ⟨rfl, Nq728, hh728⟩ := hQ728
            have N729 := Fr.app N714 Nq728
            refine GoH.via (T' := T728) (f' := (mkF m 182 #[.val (.int ia), .val (.int ib), .val (.int ie), .val (.int ig), .val (.int ik), .val (.int zc), .val (.int zb), .val (.int za), .val (.int zs), .val (.ref u609), .val (.ref u623), .val (.int (0 : Int32)), .val (.int (1 : Int32))] [(.int (0 : Int32))])) st728 ?_
            clear st728 X711 N714 Nq728
            refine GoH.step (T' := T728) (f' := (mkF m 185 #[.val (.int ia), .val (.int ib), .val (.int ie), .val (.int ig), .val (.int ik), .val (.int zc), .val (.int zb), .val (.int za), .val (.int zs), .val (.ref u609), .val (.ref u623), .val (.int (0 : Int32)), .val (.int (1 : Int32))] [])) (fun t k => XS.ifNo X728.here hx rfl (hb hby at_182) rfl ((if0 _ _).trans (teq (by decide : (0 : Int32) = (0 : Int32))).2) k) ?_
            refine GoH.step (T' := T728) (f' := (mkF m 186 #[.val (.int ia), .val (.int ib), .val (.int ie), .val (.int ig), .val (.int ik), .val (.int zc), .val (.int zb), .val (.int za), .val (.int zs), .val (.ref u609), .val (.ref u623), .val (.int (0 : Int32)), .val (.int (1 : Int32))] [(.int (1 : Int32))])) (fun t k => XS.iconst X728.here hx rfl (hb hby at_185) k) ?_
            refine GoH.step (T' := T728) (f' := (mkF m 190 #[.val (.int ia), .val (.int ib), .val (.int ie), .val (.int ig), .val (.int ik), .val (.int zc), .val (.int zb), .val (.int za), .val (.int zs), .val (.ref u609), .val (.ref u623), .val (.int (0 : Int32)), .val (.int (1 : Int32))] [(.int (1 : Int32))])) (fun t k => XS.goto X728.here hx rfl (pc0 := 186) (pc' := 190) rfl (hb hby at_186) (by decide) (by decide) k) ?_
            refine GoH.step (T' := T728) (f' := (mkF m 192 #[.val (.int ia), .val (.int ib), .val (.int ie), .val (.int ig), .val (.int ik), .val (.int zc), .val (.int zb), .val (.int za), .val (.int zs), .val (.ref u609), .val (.ref u623), .val (.int (0 : Int32)), .val (.int (1 : Int32))] [])) (fun t k => XS.istore X728.here hx rfl (hb hby at_190) rfl (l' := #[.val (.int ia), .val (.int ib), .val (.int ie), .val (.int ig), .val (.int ik), .val (.int zc), .val (.int zb), .val (.int za), .val (.int zs), .val (.ref u609), .val (.ref u623), .val (.int (0 : Int32)), .val (.int (1 : Int32))]) rfl k) ?_
            refine GoH.step (T' := T728) (f' := (mkF m 194 #[.val (.int ia), .val (.int ib), .val (.int ie), .val (.int ig), .val (.int ik), .val (.int zc), .val (.int zb), .val (.int za), .val (.int zs), .val (.ref u609), .val (.ref u623), .val (.int (0 : Int32)), .val (.int (1 : Int32))] [(.int (1 : Int32))])) (fun t k => XS.iload X728.here hx rfl (hb hby at_192) rfl k) ?_
            refine GoH.fin X728 hZ hEL hS622 hk717 CR716 hlk (v := some (.int (nar .boolean (1 : Int32)))) (fun h => by rw [Bd.returns] at h; cases h) (fun fs hr => retN X728 hx (t := .boolean) Bd.returns (by simp) (hb hby at_194) hr) hh728 ?_ (by decide) (by decide)
            exact ⟨rfl, N729, K727⟩
    by_cases hc730 : (ik &&& (1 : Int32)) = (0 : Int32)
    ·
      refine GoH.step (T' := s₁) (f' := (mkF m 48 #[.val (.int ia), .val (.int ib), .val (.int ie), .val (.int ig), .val (.int ik), .val (.int ((ia &&& (2147483647 : Int32)) % (6 : Int32))), .val (.int zb), .val (.int (ie &&& (2147483647 : Int32))), .unset, .unset, .unset, .unset, .unset] [])) (fun t k => XS.ifYes X0.here hx rfl (pc0 := 40) (pc' := 48) rfl (hb hby at_40) rfl ((if0 _ _).trans (teq hc730).1) (by decide) (by decide) k) ?_
      refine GoH.step (T' := s₁) (f' := (mkF m 49 #[.val (.int ia), .val (.int ib), .val (.int ie), .val (.int ig), .val (.int ik), .val (.int ((ia &&& (2147483647 : Int32)) % (6 : Int32))), .val (.int zb), .val (.int (ie &&& (2147483647 : Int32))), .unset, .unset, .unset, .unset, .unset] [(.int ig)])) (fun t k => XS.iloadN X0.here hx rfl (hb hby at_48) rfl k) ?_
      refine GoH.step (T' := s₁) (f' := (mkF m 51 #[.val (.int ia), .val (.int ib), .val (.int ie), .val (.int ig), .val (.int ik), .val (.int ((ia &&& (2147483647 : Int32)) % (6 : Int32))), .val (.int zb), .val (.int (ie &&& (2147483647 : Int32))), .unset, .unset, .unset, .unset, .unset] [(.int (2147483647 : Int32)), (.int ig)])) (fun t k => X0.ldcInt hx hown (mvT hZ (hw _ (List.mem_of_getElem? (i := 0) rfl))) (g := (mkF m 49 #[.val (.int ia), .val (.int ib), .val (.int ie), .val (.int ig), .val (.int ik), .val (.int ((ia &&& (2147483647 : Int32)) % (6 : Int32))), .val (.int zb), .val (.int (ie &&& (2147483647 : Int32))), .unset, .unset, .unset, .unset, .unset] [(.int ig)])) rfl (hb hby at_49) t k) ?_
      refine GoH.step (T' := s₁) (f' := (mkF m 52 #[.val (.int ia), .val (.int ib), .val (.int ie), .val (.int ig), .val (.int ik), .val (.int ((ia &&& (2147483647 : Int32)) % (6 : Int32))), .val (.int zb), .val (.int (ie &&& (2147483647 : Int32))), .unset, .unset, .unset, .unset, .unset] [(.int (ig &&& (2147483647 : Int32)))])) (fun t k => XS.iand X0.here hx rfl (hb hby at_51) rfl k) ?_
      exact Kc362 ((ig &&& (2147483647 : Int32))) (own_nonneg _)
    ·
      refine GoH.step (T' := s₁) (f' := (mkF m 43 #[.val (.int ia), .val (.int ib), .val (.int ie), .val (.int ig), .val (.int ik), .val (.int ((ia &&& (2147483647 : Int32)) % (6 : Int32))), .val (.int zb), .val (.int (ie &&& (2147483647 : Int32))), .unset, .unset, .unset, .unset, .unset] [])) (fun t k => XS.ifNo X0.here hx rfl (hb hby at_40) rfl ((if0 _ _).trans (feq hc730).1) k) ?_
      refine GoH.step (T' := s₁) (f' := (mkF m 45 #[.val (.int ia), .val (.int ib), .val (.int ie), .val (.int ig), .val (.int ik), .val (.int ((ia &&& (2147483647 : Int32)) % (6 : Int32))), .val (.int zb), .val (.int (ie &&& (2147483647 : Int32))), .unset, .unset, .unset, .unset, .unset] [(.int (ie &&& (2147483647 : Int32)))])) (fun t k => XS.iload X0.here hx rfl (hb hby at_43) rfl k) ?_
      refine GoH.step (T' := s₁) (f' := (mkF m 52 #[.val (.int ia), .val (.int ib), .val (.int ie), .val (.int ig), .val (.int ik), .val (.int ((ia &&& (2147483647 : Int32)) % (6 : Int32))), .val (.int zb), .val (.int (ie &&& (2147483647 : Int32))), .unset, .unset, .unset, .unset, .unset] [(.int (ie &&& (2147483647 : Int32)))])) (fun t k => XS.goto X0.here hx rfl (pc0 := 45) (pc' := 52) rfl (hb hby at_45) (by decide) (by decide) k) ?_
      exact Kc362 ((ie &&& (2147483647 : Int32))) (own_nonneg _)
  by_cases hc731 : (ik &&& (2 : Int32)) = (0 : Int32)
  ·
    refine GoH.step (T' := s₁) (f' := (mkF m 21 #[.val (.int ia), .val (.int ib), .val (.int ie), .val (.int ig), .val (.int ik), .val (.int ((ia &&& (2147483647 : Int32)) % (6 : Int32))), .unset, .unset, .unset, .unset, .unset, .unset, .unset] [])) (fun t k => XS.ifYes X0.here hx rfl (pc0 := 13) (pc' := 21) rfl (hb hby at_13) rfl ((if0 _ _).trans (teq hc731).1) (by decide) (by decide) k) ?_
    refine GoH.step (T' := s₁) (f' := (mkF m 22 #[.val (.int ia), .val (.int ib), .val (.int ie), .val (.int ig), .val (.int ik), .val (.int ((ia &&& (2147483647 : Int32)) % (6 : Int32))), .unset, .unset, .unset, .unset, .unset, .unset, .unset] [(.int ib)])) (fun t k => XS.iloadN X0.here hx rfl (hb hby at_21) rfl k) ?_
    refine GoH.step (T' := s₁) (f' := (mkF m 24 #[.val (.int ia), .val (.int ib), .val (.int ie), .val (.int ig), .val (.int ik), .val (.int ((ia &&& (2147483647 : Int32)) % (6 : Int32))), .unset, .unset, .unset, .unset, .unset, .unset, .unset] [(.int (2147483647 : Int32)), (.int ib)])) (fun t k => X0.ldcInt hx hown (mvT hZ (hw _ (List.mem_of_getElem? (i := 0) rfl))) (g := (mkF m 22 #[.val (.int ia), .val (.int ib), .val (.int ie), .val (.int ig), .val (.int ik), .val (.int ((ia &&& (2147483647 : Int32)) % (6 : Int32))), .unset, .unset, .unset, .unset, .unset, .unset, .unset] [(.int ib)])) rfl (hb hby at_22) t k) ?_
    refine GoH.step (T' := s₁) (f' := (mkF m 25 #[.val (.int ia), .val (.int ib), .val (.int ie), .val (.int ig), .val (.int ik), .val (.int ((ia &&& (2147483647 : Int32)) % (6 : Int32))), .unset, .unset, .unset, .unset, .unset, .unset, .unset] [(.int (ib &&& (2147483647 : Int32)))])) (fun t k => XS.iand X0.here hx rfl (hb hby at_24) rfl k) ?_
    refine GoH.step (T' := s₁) (f' := (mkF m 27 #[.val (.int ia), .val (.int ib), .val (.int ie), .val (.int ig), .val (.int ik), .val (.int ((ia &&& (2147483647 : Int32)) % (6 : Int32))), .unset, .unset, .unset, .unset, .unset, .unset, .unset] [(.int (6 : Int32)), (.int (ib &&& (2147483647 : Int32)))])) (fun t k => XS.bipush X0.here hx rfl (hb hby at_25) k) ?_
    refine GoH.step (T' := s₁) (f' := (mkF m 28 #[.val (.int ia), .val (.int ib), .val (.int ie), .val (.int ig), .val (.int ik), .val (.int ((ia &&& (2147483647 : Int32)) % (6 : Int32))), .unset, .unset, .unset, .unset, .unset, .unset, .unset] [(.int ((ib &&& (2147483647 : Int32)) % (6 : Int32)))])) (fun t k => iremM X0 hx rfl (hb hby at_27) rfl (by decide) k) ?_
    exact Kc360 (((ib &&& (2147483647 : Int32)) % (6 : Int32))) (own_m6 ib)
  ·
    refine GoH.step (T' := s₁) (f' := (mkF m 16 #[.val (.int ia), .val (.int ib), .val (.int ie), .val (.int ig), .val (.int ik), .val (.int ((ia &&& (2147483647 : Int32)) % (6 : Int32))), .unset, .unset, .unset, .unset, .unset, .unset, .unset] [])) (fun t k => XS.ifNo X0.here hx rfl (hb hby at_13) rfl ((if0 _ _).trans (feq hc731).1) k) ?_
    refine GoH.step (T' := s₁) (f' := (mkF m 18 #[.val (.int ia), .val (.int ib), .val (.int ie), .val (.int ig), .val (.int ik), .val (.int ((ia &&& (2147483647 : Int32)) % (6 : Int32))), .unset, .unset, .unset, .unset, .unset, .unset, .unset] [(.int ((ia &&& (2147483647 : Int32)) % (6 : Int32)))])) (fun t k => XS.iload X0.here hx rfl (hb hby at_16) rfl k) ?_
    refine GoH.step (T' := s₁) (f' := (mkF m 28 #[.val (.int ia), .val (.int ib), .val (.int ie), .val (.int ig), .val (.int ik), .val (.int ((ia &&& (2147483647 : Int32)) % (6 : Int32))), .unset, .unset, .unset, .unset, .unset, .unset, .unset] [(.int ((ia &&& (2147483647 : Int32)) % (6 : Int32)))])) (fun t k => XS.goto X0.here hx rfl (pc0 := 18) (pc' := 28) rfl (hb hby at_18) (by decide) (by decide) k) ?_
    exact Kc360 (((ia &&& (2147483647 : Int32)) % (6 : Int32))) (own_m6 ia)
set_option maxRecDepth 65536 in
set_option maxHeartbeats 40000000 in
theorem comes_1 {Post : Tables → Env → Array Value → State → Outcome → State → Prop} (hpost : ∀ tb e args s v u, (limb_1_1.after args s (.returned v) u = true ∧ limb_1_2.after args s (.returned v) u = true ∧ True) → ReturnedEndW s (.returned v) u (Jvm.fieldLocs frame_1_writes args s ++ Jvm.arrayLocs frame_1_arrays args s ++ Jvm.staticLocs frame_1_statics s) 16 1152 → Post tb e args s (.returned v) u) :
    ArmFor flags0 classFile x code maxLocals ret World_1 tables_1 room_1 Calls_1 rest_1 Pre_1 Post := by
  intro l hfl _ _ p e ha hc hk s m args below hf hA hF happ hP
  obtain ⟨hcalls, hrest, hpre⟩ := hP
  obtain ⟨-, -, -, hnamed, -, -, -, hat⟩ := (Spec.applies_iff hf).mp happ
  obtain ⟨hg, hn⟩ := and_e (Cond.before_iff.mp (show (Jvm.Cond.and given_1 narrow_1).before args s = true from hpre))
  obtain ⟨c1, c2⟩ := and_e hg
  obtain ⟨c3, c4⟩ := and_e c2
  obtain ⟨c5, c6⟩ := and_e c4
  obtain ⟨c7, c8⟩ := and_e c6
  obtain ⟨c9, c10⟩ := and_e c8
  obtain ⟨c11, c12⟩ := and_e hn
  obtain ⟨c13, c14⟩ := and_e c12
  obtain ⟨c15, c16⟩ := and_e c14
  obtain ⟨c17, c18⟩ := and_e c16
  obtain ⟨c19, c20⟩ := and_e c18
  obtain ⟨c21, c22⟩ := and_e c20
  obtain ⟨c23, c24⟩ := and_e c22
  obtain ⟨c25, c26⟩ := and_e c24
  obtain ⟨c27, c28⟩ := and_e c26
  obtain ⟨w0, w1, w2, w3, w4, rfl⟩ : ∃ w0 w1 w2 w3 w4 : Value, args = #[w0, w1, w2, w3, w4] := by
    have hs : args.size = 5 := by simpa [Cond.value, given_1] using c1
    obtain ⟨L⟩ := args
    match L, hs with
    | [w0, w1, w2, w3, w4], _ => exact ⟨w0, w1, w2, w3, w4, rfl⟩
  have hw := fun d (hd : d ∈ tables_1) => atoms_spec (ws := Jvm.Cond.code x code maxLocals ret :: tables_1) hat d (List.mem_cons_of_mem _ hd)
  have hfit : Fit s := fun {y c} hc i hi => by
    obtain ⟨ha, rfl⟩ := Array.getElem?_eq_some_iff.mp hc
    have q := List.all_eq_true.mp ((Array.all_eq_true_iff_forall_mem.mp hF) _ (Array.getElem_mem ha)) i (List.mem_range.mpr hi)
    simpa [Array.getElem?_eq_getElem hi] using q
  obtain ⟨i0, ei0⟩ := is_v c3
  obtain rfl : w0 = (.int i0) := Option.some.inj ei0
  obtain ⟨i1, ei1⟩ := is_v c5
  obtain rfl : w1 = (.int i1) := Option.some.inj ei1
  obtain ⟨i2, ei2⟩ := is_v c7
  obtain rfl : w2 = (.int i2) := Option.some.inj ei2
  obtain ⟨i3, ei3⟩ := is_v c9
  obtain rfl : w3 = (.int i3) := Option.some.inj ei3
  obtain ⟨i4, ei4⟩ := is_v c10
  obtain rfl : w4 = (.int i4) := Option.some.inj ei4
  obtain ⟨hsets, hown0⟩ := atoms_of _ (rest_1_c_eq ▸ (show rest_1_c.before _ s = true from hrest))
  have hEL : EW s #[.int i0, .int i1, .int i2, .int i3, .int i4] own_EL := EW.nil
  have hCH : CHv s own_EL s.vm s.heap := fun p hp => by cases hp
  have evh := eqv_i (Term.int_eval (127)) (Cond.before_iff.mp (hsets _ (List.mem_of_getElem? (i := 3) rfl)))
  have Shi := Sta.start evh (Or.inl (hsets _ (List.mem_of_getElem? (i := 1) rfl)))
  obtain ⟨zca, evc⟩ := arr_v (Cond.before_iff.mp (hsets _ (List.mem_of_getElem? (i := 4) rfl)))
  have Sca := Sta.start evc (Or.inr ⟨(hw _ (List.mem_of_getElem? (i := 56) rfl)), (hsets _ (List.mem_of_getElem? (i := 2) rfl))⟩)
  obtain ⟨zcc, Aca⟩ := Arr.start evc (Cond.before_iff.mp (hsets _ (List.mem_of_getElem? (i := 4) rfl)))
  have hln := own_len evc (Aca.fin (Vm.Alike.refl _)) (eqv_i (Term.int_eval (256)) (Cond.before_iff.mp (hsets _ (List.mem_of_getElem? (i := 6) rfl))))
  have hbx : Bxs s zca zcc "java/lang/Integer" "I" (256 : Int32) own_val := Bxs.start (fun idx => evc) Aca hln.1 hln.2 (by decide) (Cond.before_iff.mp (hsets _ (List.mem_of_getElem? (i := 7) rfl))) (fun X j nj hq => eqv_i (by simp [Term.eval, idx_at nj, (back32 nj).1]) hq)
  obtain ⟨z_RUNNING, ev_z_RUNNING⟩ := exa_v c11
  have S_z_RUNNING := Sta.start ev_z_RUNNING (Or.inr ⟨(hw _ (List.mem_of_getElem? (i := 9) rfl)), (hw _ (List.mem_of_getElem? (i := 10) rfl))⟩)
  have E_z_RUNNING := Exa.start ev_z_RUNNING c11
  obtain ⟨z_STUCK, ev_z_STUCK⟩ := exa_v c13
  have S_z_STUCK := Sta.start ev_z_STUCK (Or.inr ⟨(hw _ (List.mem_of_getElem? (i := 9) rfl)), (hw _ (List.mem_of_getElem? (i := 41) rfl))⟩)
  have E_z_STUCK := Exa.start ev_z_STUCK c13
  obtain ⟨z_ROLLED_BACK, ev_z_ROLLED_BACK⟩ := exa_v c19
  have S_z_ROLLED_BACK := Sta.start ev_z_ROLLED_BACK (Or.inr ⟨(hw _ (List.mem_of_getElem? (i := 9) rfl)), (hw _ (List.mem_of_getElem? (i := 43) rfl))⟩)
  have E_z_ROLLED_BACK := Exa.start ev_z_ROLLED_BACK c19
  obtain ⟨z_COMPLETED, ev_z_COMPLETED⟩ := exa_v c23
  have S_z_COMPLETED := Sta.start ev_z_COMPLETED (Or.inr ⟨(hw _ (List.mem_of_getElem? (i := 9) rfl)), (hw _ (List.mem_of_getElem? (i := 62) rfl))⟩)
  have E_z_COMPLETED := Exa.start ev_z_COMPLETED c23
  obtain ⟨z_ROLLING_BACK, ev_z_ROLLING_BACK⟩ := exa_v c27
  have S_z_ROLLING_BACK := Sta.start ev_z_ROLLING_BACK (Or.inr ⟨(hw _ (List.mem_of_getElem? (i := 9) rfl)), (hw _ (List.mem_of_getElem? (i := 83) rfl))⟩)
  have E_z_ROLLING_BACK := Exa.start ev_z_ROLLING_BACK c27
  have F_z_RUNNING : Fld s s.heap z_RUNNING "java/lang/Enum" "ordinal" "I" (.int (0 : Int32)) := own_fld_start ev_z_RUNNING c15
  have F_z_STUCK : Fld s s.heap z_STUCK "java/lang/Enum" "ordinal" "I" (.int (2 : Int32)) := own_fld_start ev_z_STUCK c17
  have F_z_ROLLED_BACK : Fld s s.heap z_ROLLED_BACK "java/lang/Enum" "ordinal" "I" (.int (4 : Int32)) := own_fld_start ev_z_ROLLED_BACK c21
  have F_z_COMPLETED : Fld s s.heap z_COMPLETED "java/lang/Enum" "ordinal" "I" (.int (3 : Int32)) := own_fld_start ev_z_COMPLETED c25
  have F_z_ROLLING_BACK : Fld s s.heap z_ROLLING_BACK "java/lang/Enum" "ordinal" "I" (.int (1 : Int32)) := own_fld_start ev_z_ROLLING_BACK c28
  obtain ⟨n, o, h1, h2, h3, _, L, rfl, ⟨rfl, N, -⟩, -, hq⟩ := rm_law l s _ hw tables_1 i0 i1 i2 i3 i4 z_RUNNING z_ROLLING_BACK z_STUCK z_COMPLETED z_ROLLED_BACK zca zcc s.heap s.heap.size (Old.start s) hEL S_z_RUNNING S_z_ROLLING_BACK S_z_STUCK S_z_COMPLETED S_z_ROLLED_BACK E_z_RUNNING E_z_ROLLING_BACK E_z_STUCK E_z_COMPLETED E_z_ROLLED_BACK (F_z_RUNNING.ne F_z_ROLLING_BACK (by decide)) (F_z_RUNNING.ne F_z_STUCK (by decide)) (F_z_RUNNING.ne F_z_COMPLETED (by decide)) (F_z_RUNNING.ne F_z_ROLLED_BACK (by decide)) (F_z_ROLLING_BACK.ne F_z_STUCK (by decide)) (F_z_ROLLING_BACK.ne F_z_COMPLETED (by decide)) (F_z_ROLLING_BACK.ne F_z_ROLLED_BACK (by decide)) (F_z_STUCK.ne F_z_COMPLETED (by decide)) (F_z_STUCK.ne F_z_ROLLED_BACK (by decide)) (F_z_COMPLETED.ne F_z_ROLLED_BACK (by decide)) Shi Sca hbx p e ha hc hk s m _ below hf ((Spec.applies_iff_loose hf).mp happ).1 ⟨rfl, State.Warmed39.refl s, rfl, hCH⟩ trivial
  refine ⟨n, _, h1, h2, h3, hpost _ _ _ _ _ _ ⟨Cond.after_iff.mpr rfl, Cond.after_iff.mpr (eq_i res_at (Term.int_eval (1)) rfl), trivial⟩ ⟨hq.1, hq.2.1, hq.2.2.1, (hq.2.2.2.sift fun y hy => Or.inr (N y hy)).mono (by decide) (by decide)⟩⟩
theorem main_1_1 : Claimed_1_1 := comes_1 fun _ _ _ _ _ _ h hF => ⟨h.1, hF⟩
theorem main_1_2 : Claimed_1_2 := comes_1 fun _ _ _ _ _ _ h hF => ⟨h.2.1, hF⟩
end Jvm.Pilot.@@N@@
namespace Jvm.Pilot.@@N@@
open Jvm Jvm.ClassFile Sem Op Lib Jvm.Free Jvm.Stand Jvm.Pilot.@@N@@.Jvm.D
/-! MADE BY PROGRAM (witnessworld.py) out of the Statement's table words and the real class files: 21 classes; the members and pool entries that the words name. The judged class is class 1, her method 2. -/
namespace start1
open Jvm.ClassFile
def u (s : String) : CpInfo := .utf8 (stringToUtf16 s)
/-- a pool by its gaps: so many unusable entries, then the entry; so many at the end -/
def gap : Nat → List CpInfo → List CpInfo
  | 0, r => r
  | n + 1, r => .unusable :: gap n r
def poolList (es : List (Nat × CpInfo)) (last : Nat) : List CpInfo := es.foldr (fun e r => gap e.1 (e.2 :: r)) (gap last [])
def pool (es : List (Nat × CpInfo)) (last : Nat) : Array CpInfo := ⟨poolList es last⟩
def fileOf (pool : Array CpInfo) (this : Nat) (attrs : Array Attribute := #[]) (ms : Array MethodInfo := #[]) (fl : Nat := 33) (sup : Nat := 0) (ifs : Array Nat := #[]) (fds : Array FieldInfo := #[]) : ClassFile where
  minorVersion := 0
  majorVersion := 65
  constantPool := pool
  accessFlags := fl
  thisClass := this
  superClass := sup
  interfaces := ifs
  fields := fds
  methods := ms
  attributes := attrs
def plain (name : String) (sup : Option ClassId) : Class where
  name := name
  kind := .ordinary
  loader := none
  accessFlags := 33
  super := sup
  interfaces := #[]
  cf := none
  fields := #[]
  methods := #[]
  instanceTypes := #[]
  staticTypes := #[]
  resolved := #[]
  callSites := []
  init := .initialized
  statics := none
  mirror := none

def pool0 : Array CpInfo := pool [(5, u "<init>"), (0, u "()V"), (1, .class_ 10), (1, u "java/lang/Object")] 113

def k0c0 : Code := { maxStack := 0, maxLocals := 1, code := object_method_1_code, exceptionTable := #[], attributes := #[] }
def k0m0 : Method := { name := "<init>", desc := "()V", sig := { parameters := [], returnType := none }, accessFlags := 1, code := some k0c0 }
/-- java/lang/Object -/
def k0 : Class := { plain "java/lang/Object" none with
  accessFlags := 33
  interfaces := #[]
  cf := some (fileOf pool0 8 #[] #[{ accessFlags := 1, nameIndex := 5, descriptorIndex := 6, attributes := #[] }] 33 0 #[] #[])
  fields := #[]
  methods := #[k0m0]
  instanceTypes := #[]
  staticTypes := #[]
  resolved := Array.replicate 124 none
  statics := none }

def pool1 : Array CpInfo := pool [(2, .class_ 4), (1, u "java/lang/Object"), (0, u "<init>"), (0, u "()V"), (0, .class_ 8), (0, u "com/example/unwind/unwind/saga/Position"), (0, .fieldref 10 11), (0, .class_ 12), (0, .nameAndType 13 14), (0, u "com/example/unwind/unwind/saga/SagaState"), (0, u "RUNNING"), (0, u "Lcom/example/unwind/unwind/saga/SagaState;"), (0, .methodref 7 16), (0, .nameAndType 5 17), (0, u "(Lcom/example/unwind/unwind/saga/SagaState;I)V"), (0, .fieldref 10 19), (0, .nameAndType 20 14), (0, u "ROLLING_BACK"), (0, .fieldref 10 22), (0, .nameAndType 23 14), (0, u "COMPLETED"), (0, .fieldref 10 25), (0, .nameAndType 26 14), (0, u "ROLLED_BACK"), (0, .methodref 7 28), (0, .nameAndType 29 30), (0, u "stuck"), (0, u "(ILcom/example/unwind/unwind/saga/SagaState;)Lcom/example/unwind/unwind/saga/Position;"), (0, .integer 2147483647), (0, .methodref 33 34), (0, .class_ 35), (0, .nameAndType 36 37), (0, u "com/example/unwind/unwind/saga/PositionEqualsPinLaw"), (0, u "make"), (0, u "(II)Lcom/example/unwind/unwind/saga/Position;"), (0, .methodref 7 39), (0, .nameAndType 40 41), (0, u "equals"), (0, u "(Ljava/lang/Object;)Z"), (0, .methodref 43 44), (0, .class_ 45), (0, .nameAndType 46 47), (0, u "java/lang/Integer"), (0, u "valueOf"), (0, u "(I)Ljava/lang/Integer;"), (3, u "law"), (0, u "(IIIII)Z")] 2

def k1m0 : Method := { name := "<init>", desc := "()V", sig := { parameters := [], returnType := none }, accessFlags := 2, code := none }
def k1c1 : Code := { maxStack := 4, maxLocals := 2, code := method_2_code, exceptionTable := #[], attributes := #[] }
def k1m1 : Method := { name := "make", desc := "(II)Lcom/example/unwind/unwind/saga/Position;", sig := { parameters := [.int, .int], returnType := some (.object "com/example/unwind/unwind/saga/Position") }, accessFlags := 10, code := some k1c1 }
def k1c2 : Code := { maxStack := 2, maxLocals := 13, code := code, exceptionTable := #[], attributes := #[] }
def k1m2 : Method := { name := "law", desc := "(IIIII)Z", sig := { parameters := [.int, .int, .int, .int, .int], returnType := some .boolean }, accessFlags := 9, code := some k1c2 }
/-- com/example/unwind/unwind/saga/PositionEqualsPinLaw -/
def k1 : Class := { plain "com/example/unwind/unwind/saga/PositionEqualsPinLaw" (some 0) with
  accessFlags := 49
  interfaces := #[]
  cf := some (fileOf pool1 33 #[] #[{ accessFlags := 2, nameIndex := 5, descriptorIndex := 6, attributes := #[] }, { accessFlags := 10, nameIndex := 36, descriptorIndex := 37, attributes := #[] }, { accessFlags := 9, nameIndex := 51, descriptorIndex := 52, attributes := #[] }] 49 2 #[] #[])
  fields := #[]
  methods := #[k1m0, k1m1, k1m2]
  instanceTypes := #[]
  staticTypes := #[]
  resolved := Array.replicate 55 none
  statics := none }

def pool2 : Array CpInfo := pool [(1, .methodref 2 3), (0, .class_ 4), (0, .nameAndType 5 6), (0, u "com/example/unwind/unwind/saga/Position"), (0, u "<init>"), (0, u "(Lcom/example/unwind/unwind/saga/SagaState;ILcom/example/unwind/unwind/saga/SagaState;)V"), (0, .fieldref 8 9), (0, .class_ 10), (0, .nameAndType 11 12), (0, u "com/example/unwind/unwind/saga/SagaState"), (0, u "STUCK"), (0, u "Lcom/example/unwind/unwind/saga/SagaState;"), (7, .methodref 21 22), (0, .class_ 23), (0, .nameAndType 5 24), (0, u "java/lang/Object"), (0, u "()V"), (0, .string 26), (0, u "state"), (0, .methodref 28 29), (0, .class_ 30), (0, .nameAndType 31 32), (0, u "java/util/Objects"), (0, u "requireNonNull"), (0, u "(Ljava/lang/Object;Ljava/lang/String;)Ljava/lang/Object;"), (0, .fieldref 2 34), (0, .nameAndType 26 12), (4, .fieldref 2 40), (0, .nameAndType 41 42), (0, u "step"), (0, u "I"), (0, .fieldref 2 44), (0, .nameAndType 45 12), (0, u "stuckIn"), (0, .fieldref 8 47), (0, .nameAndType 48 12), (0, u "RUNNING"), (0, .fieldref 8 50), (0, .nameAndType 51 12), (0, u "ROLLING_BACK"), (30, u "(Lcom/example/unwind/unwind/saga/SagaState;I)V"), (3, u "stuck"), (0, u "(ILcom/example/unwind/unwind/saga/SagaState;)Lcom/example/unwind/unwind/saga/Position;"), (5, u "equals"), (0, u "(Ljava/lang/Object;)Z")] 26

def k2c0 : Code := { maxStack := 4, maxLocals := 3, code := prog_14_method_1_code, exceptionTable := #[], attributes := #[] }
def k2m0 : Method := { name := "<init>", desc := "(Lcom/example/unwind/unwind/saga/SagaState;I)V", sig := { parameters := [(.object "com/example/unwind/unwind/saga/SagaState"), .int], returnType := none }, accessFlags := 1, code := some k2c0 }
def k2c1 : Code := { maxStack := 3, maxLocals := 4, code := prog_14_method_2_code, exceptionTable := #[], attributes := #[] }
def k2m1 : Method := { name := "<init>", desc := "(Lcom/example/unwind/unwind/saga/SagaState;ILcom/example/unwind/unwind/saga/SagaState;)V", sig := { parameters := [(.object "com/example/unwind/unwind/saga/SagaState"), .int, (.object "com/example/unwind/unwind/saga/SagaState")], returnType := none }, accessFlags := 2, code := some k2c1 }
def k2c2 : Code := { maxStack := 5, maxLocals := 2, code := prog_14_method_3_code, exceptionTable := #[], attributes := #[] }
def k2m2 : Method := { name := "stuck", desc := "(ILcom/example/unwind/unwind/saga/SagaState;)Lcom/example/unwind/unwind/saga/Position;", sig := { parameters := [.int, (.object "com/example/unwind/unwind/saga/SagaState")], returnType := some (.object "com/example/unwind/unwind/saga/Position") }, accessFlags := 9, code := some k2c2 }
def k2c3 : Code := { maxStack := 2, maxLocals := 3, code := prog_14_method_7_code, exceptionTable := #[], attributes := #[] }
def k2m3 : Method := { name := "equals", desc := "(Ljava/lang/Object;)Z", sig := { parameters := [(.object "java/lang/Object")], returnType := some .boolean }, accessFlags := 1, code := some k2c3 }
/-- com/example/unwind/unwind/saga/Position -/
def k2 : Class := { plain "com/example/unwind/unwind/saga/Position" (some 0) with
  accessFlags := 33
  interfaces := #[]
  cf := some (fileOf pool2 2 #[] #[{ accessFlags := 1, nameIndex := 5, descriptorIndex := 82, attributes := #[] }, { accessFlags := 2, nameIndex := 5, descriptorIndex := 6, attributes := #[] }, { accessFlags := 9, nameIndex := 86, descriptorIndex := 87, attributes := #[] }, { accessFlags := 1, nameIndex := 93, descriptorIndex := 94, attributes := #[] }] 33 21 #[] #[{ accessFlags := 18, nameIndex := 26, descriptorIndex := 12, attributes := #[] }, { accessFlags := 18, nameIndex := 41, descriptorIndex := 42, attributes := #[] }, { accessFlags := 18, nameIndex := 45, descriptorIndex := 12, attributes := #[] }])
  fields := #[{ name := "state", type := (.object "com/example/unwind/unwind/saga/SagaState"), accessFlags := 18, slot := 0, constantValue := 0 }, { name := "step", type := .int, accessFlags := 18, slot := 1, constantValue := 0 }, { name := "stuckIn", type := (.object "com/example/unwind/unwind/saga/SagaState"), accessFlags := 18, slot := 2, constantValue := 0 }]
  methods := #[k2m0, k2m1, k2m2, k2m3]
  instanceTypes := #[(.object "com/example/unwind/unwind/saga/SagaState"), .int, (.object "com/example/unwind/unwind/saga/SagaState")]
  staticTypes := #[]
  resolved := Array.replicate 121 none
  statics := none }

def pool3 : Array CpInfo := pool [(1, .class_ 2), (0, u "java/lang/constant/Constable"), (0, .class_ 4), (0, u "java/lang/Object")] 6

/-- java/lang/constant/Constable -/
def k3 : Class := { plain "java/lang/constant/Constable" (some 0) with
  accessFlags := 1537
  interfaces := #[]
  cf := some (fileOf pool3 1 #[] #[] 1537 3 #[] #[])
  fields := #[]
  methods := #[]
  instanceTypes := #[]
  staticTypes := #[]
  resolved := Array.replicate 11 none
  statics := none }

def pool4 : Array CpInfo := pool [(1, .class_ 2), (0, u "java/lang/Comparable"), (0, .class_ 4), (0, u "java/lang/Object")] 7

/-- java/lang/Comparable -/
def k4 : Class := { plain "java/lang/Comparable" (some 0) with
  accessFlags := 1537
  interfaces := #[]
  cf := some (fileOf pool4 1 #[] #[] 1537 3 #[] #[])
  fields := #[]
  methods := #[]
  instanceTypes := #[]
  staticTypes := #[]
  resolved := Array.replicate 12 none
  statics := none }

def pool5 : Array CpInfo := pool [(1, .class_ 2), (0, u "java/io/Serializable"), (0, .class_ 4), (0, u "java/lang/Object")] 2

/-- java/io/Serializable -/
def k5 : Class := { plain "java/io/Serializable" (some 0) with
  accessFlags := 1537
  interfaces := #[]
  cf := some (fileOf pool5 1 #[] #[] 1537 3 #[] #[])
  fields := #[]
  methods := #[]
  instanceTypes := #[]
  staticTypes := #[]
  resolved := Array.replicate 7 none
  statics := none }

def pool6 : Array CpInfo := pool [(2, .class_ 4), (1, u "java/lang/Enum"), (0, u "name"), (0, u "Ljava/lang/String;"), (2, u "ordinal"), (0, u "I"), (1, .class_ 14), (1, u "java/lang/Object"), (4, u "hash"), (86, .class_ 108), (1, u "java/lang/Enum$EnumDesc"), (2, .class_ 112), (0, u "java/lang/constant/Constable"), (0, .class_ 114), (0, u "java/lang/Comparable"), (0, .class_ 116), (0, u "java/io/Serializable")] 87

/-- java/lang/Enum -/
def k6 : Class := { plain "java/lang/Enum" (some 0) with
  accessFlags := 1057
  interfaces := #[3, 4, 5]
  cf := some (fileOf pool6 2 #[.nestMembers #[106]] #[] 1057 12 #[111, 113, 115] #[{ accessFlags := 18, nameIndex := 5, descriptorIndex := 6, attributes := #[] }, { accessFlags := 18, nameIndex := 9, descriptorIndex := 10, attributes := #[] }, { accessFlags := 2, nameIndex := 19, descriptorIndex := 10, attributes := #[] }])
  fields := #[{ name := "name", type := (.object "java/lang/String"), accessFlags := 18, slot := 0, constantValue := 0 }, { name := "ordinal", type := .int, accessFlags := 18, slot := 1, constantValue := 0 }, { name := "hash", type := .int, accessFlags := 2, slot := 2, constantValue := 0 }]
  methods := #[]
  instanceTypes := #[(.object "java/lang/String"), .int, .int]
  staticTypes := #[]
  resolved := Array.replicate 204 none
  statics := none }

def pool7 : Array CpInfo := pool [(1, .class_ 2), (0, u "com/example/unwind/unwind/saga/SagaState"), (2, u "RUNNING"), (0, u "Lcom/example/unwind/unwind/saga/SagaState;"), (2, u "ROLLING_BACK"), (2, u "STUCK"), (2, u "COMPLETED"), (2, u "ROLLED_BACK"), (2, u "$VALUES"), (0, u "[Lcom/example/unwind/unwind/saga/SagaState;"), (6, .class_ 31), (1, u "java/lang/Enum"), (8, u "label"), (0, u "Ljava/lang/String;"), (2, u "ended"), (0, u "Z")] 76

/-- com/example/unwind/unwind/saga/SagaState -/
def k7 : Class := { plain "com/example/unwind/unwind/saga/SagaState" (some 6) with
  accessFlags := 16433
  interfaces := #[]
  cf := some (fileOf pool7 1 #[] #[] 16433 29 #[] #[{ accessFlags := 16409, nameIndex := 5, descriptorIndex := 6, attributes := #[] }, { accessFlags := 16409, nameIndex := 9, descriptorIndex := 6, attributes := #[] }, { accessFlags := 16409, nameIndex := 12, descriptorIndex := 6, attributes := #[] }, { accessFlags := 16409, nameIndex := 15, descriptorIndex := 6, attributes := #[] }, { accessFlags := 16409, nameIndex := 18, descriptorIndex := 6, attributes := #[] }, { accessFlags := 18, nameIndex := 40, descriptorIndex := 41, attributes := #[] }, { accessFlags := 18, nameIndex := 44, descriptorIndex := 45, attributes := #[] }, { accessFlags := 4122, nameIndex := 21, descriptorIndex := 22, attributes := #[] }])
  fields := #[{ name := "RUNNING", type := (.object "com/example/unwind/unwind/saga/SagaState"), accessFlags := 16409, slot := 0, constantValue := 0 }, { name := "ROLLING_BACK", type := (.object "com/example/unwind/unwind/saga/SagaState"), accessFlags := 16409, slot := 1, constantValue := 0 }, { name := "STUCK", type := (.object "com/example/unwind/unwind/saga/SagaState"), accessFlags := 16409, slot := 2, constantValue := 0 }, { name := "COMPLETED", type := (.object "com/example/unwind/unwind/saga/SagaState"), accessFlags := 16409, slot := 3, constantValue := 0 }, { name := "ROLLED_BACK", type := (.object "com/example/unwind/unwind/saga/SagaState"), accessFlags := 16409, slot := 4, constantValue := 0 }, { name := "label", type := (.object "java/lang/String"), accessFlags := 18, slot := 3, constantValue := 0 }, { name := "ended", type := .boolean, accessFlags := 18, slot := 4, constantValue := 0 }, { name := "$VALUES", type := (.array (.object "com/example/unwind/unwind/saga/SagaState")), accessFlags := 4122, slot := 5, constantValue := 0 }]
  methods := #[]
  instanceTypes := #[(.object "java/lang/String"), .int, .int, (.object "java/lang/String"), .boolean]
  staticTypes := #[(.object "com/example/unwind/unwind/saga/SagaState"), (.object "com/example/unwind/unwind/saga/SagaState"), (.object "com/example/unwind/unwind/saga/SagaState"), (.object "com/example/unwind/unwind/saga/SagaState"), (.object "com/example/unwind/unwind/saga/SagaState"), (.array (.object "com/example/unwind/unwind/saga/SagaState"))]
  resolved := Array.replicate 122 none
  statics := some 0 }

def pool8 : Array CpInfo := pool [(2, .class_ 4), (1, u "java/lang/CharSequence"), (42, .class_ 48), (0, u "java/lang/CharSequence$1CodePointIterator"), (10, .class_ 60), (0, u "java/lang/CharSequence$1CharIterator"), (5, .class_ 67), (0, u "java/lang/Object")] 63

/-- java/lang/CharSequence -/
def k8 : Class := { plain "java/lang/CharSequence" (some 0) with
  accessFlags := 1537
  interfaces := #[]
  cf := some (fileOf pool8 2 #[.nestMembers #[47, 59]] #[] 1537 66 #[] #[])
  fields := #[]
  methods := #[]
  instanceTypes := #[]
  staticTypes := #[]
  resolved := Array.replicate 131 none
  statics := none }

def pool9 : Array CpInfo := pool [(1, .class_ 2), (0, u "java/lang/constant/ConstantDesc"), (0, .class_ 4), (0, u "java/lang/Object")] 32

/-- java/lang/constant/ConstantDesc -/
def k9 : Class := { plain "java/lang/constant/ConstantDesc" (some 0) with
  accessFlags := 1537
  interfaces := #[]
  cf := some (fileOf pool9 1 #[] #[] 1537 3 #[] #[])
  fields := #[]
  methods := #[]
  instanceTypes := #[]
  staticTypes := #[]
  resolved := Array.replicate 37 none
  statics := none }

def pool10 : Array CpInfo := pool [(2, .class_ 4), (1, u "java/lang/Object"), (0, u "<init>"), (0, u "()V"), (3, .class_ 12), (1, u "java/lang/String"), (0, u "value"), (0, u "[B"), (2, u "coder"), (0, u "B"), (2, u "hash"), (0, u "I"), (2, u "hashIsZero"), (0, u "Z"), (13, u "COMPACT_STRINGS"), (534, .class_ 576), (0, u "java/lang/CharSequence"), (22, u "CASE_INSENSITIVE_ORDER"), (0, u "Ljava/util/Comparator;"), (500, u "serialPersistentFields"), (0, u "[Ljava/io/ObjectStreamField;"), (0, .class_ 1104), (0, u "java/lang/String$CaseInsensitiveComparator"), (1, .class_ 1107), (0, u "java/io/Serializable"), (0, .class_ 1109), (0, u "java/lang/Comparable"), (0, .class_ 1111), (0, u "java/lang/constant/Constable"), (0, .class_ 1113), (0, u "java/lang/constant/ConstantDesc"), (2, u "serialVersionUID"), (0, u "J"), (3, u "REPL"), (0, u "C"), (2, u "LATIN1"), (1, u "UTF16")] 323

def k10m0 : Method := { name := "<init>", desc := "()V", sig := { parameters := [], returnType := none }, accessFlags := 1, code := none }
/-- java/lang/String -/
def k10 : Class := { plain "java/lang/String" (some 0) with
  accessFlags := 49
  interfaces := #[5, 4, 8, 3, 9]
  cf := some (fileOf pool10 10 #[.nestMembers #[1103]] #[{ accessFlags := 1, nameIndex := 5, descriptorIndex := 6, attributes := #[] }] 49 2 #[1106, 1108, 575, 1110, 1112] #[{ accessFlags := 18, nameIndex := 13, descriptorIndex := 14, attributes := #[] }, { accessFlags := 18, nameIndex := 17, descriptorIndex := 18, attributes := #[] }, { accessFlags := 2, nameIndex := 21, descriptorIndex := 22, attributes := #[] }, { accessFlags := 2, nameIndex := 25, descriptorIndex := 26, attributes := #[] }, { accessFlags := 26, nameIndex := 1116, descriptorIndex := 1117, attributes := #[] }, { accessFlags := 24, nameIndex := 40, descriptorIndex := 26, attributes := #[] }, { accessFlags := 26, nameIndex := 1101, descriptorIndex := 1102, attributes := #[] }, { accessFlags := 26, nameIndex := 1121, descriptorIndex := 1122, attributes := #[] }, { accessFlags := 25, nameIndex := 599, descriptorIndex := 600, attributes := #[] }, { accessFlags := 24, nameIndex := 1125, descriptorIndex := 18, attributes := #[] }, { accessFlags := 24, nameIndex := 1127, descriptorIndex := 18, attributes := #[] }])
  fields := #[{ name := "value", type := (.array .byte), accessFlags := 18, slot := 0, constantValue := 0 }, { name := "coder", type := .byte, accessFlags := 18, slot := 1, constantValue := 0 }, { name := "hash", type := .int, accessFlags := 2, slot := 2, constantValue := 0 }, { name := "hashIsZero", type := .boolean, accessFlags := 2, slot := 3, constantValue := 0 }, { name := "serialVersionUID", type := .long, accessFlags := 26, slot := 0, constantValue := 0 }, { name := "COMPACT_STRINGS", type := .boolean, accessFlags := 24, slot := 1, constantValue := 0 }, { name := "serialPersistentFields", type := (.array (.object "java/io/ObjectStreamField")), accessFlags := 26, slot := 2, constantValue := 0 }, { name := "REPL", type := .char, accessFlags := 26, slot := 3, constantValue := 0 }, { name := "CASE_INSENSITIVE_ORDER", type := (.object "java/util/Comparator"), accessFlags := 25, slot := 4, constantValue := 0 }, { name := "LATIN1", type := .byte, accessFlags := 24, slot := 5, constantValue := 0 }, { name := "UTF16", type := .byte, accessFlags := 24, slot := 6, constantValue := 0 }]
  methods := #[k10m0]
  instanceTypes := #[(.array .byte), .byte, .int, .boolean]
  staticTypes := #[.long, .boolean, (.array (.object "java/io/ObjectStreamField")), .char, (.object "java/util/Comparator"), .byte, .byte]
  resolved := Array.replicate 1451 none
  statics := none }

def pool11 : Array CpInfo := pool [(2, .class_ 4), (1, u "java/lang/Object"), (0, u "<init>"), (0, u "()V"), (35, .class_ 44), (1, u "java/util/Objects"), (0, u "requireNonNull"), (48, u "(Ljava/lang/Object;Ljava/lang/String;)Ljava/lang/Object;")] 89

def k11m0 : Method := { name := "<init>", desc := "()V", sig := { parameters := [], returnType := none }, accessFlags := 2, code := none }
def k11c1 : Code := { maxStack := 3, maxLocals := 2, code := jdk_31_method_11_code, exceptionTable := #[], attributes := #[] }
def k11m1 : Method := { name := "requireNonNull", desc := "(Ljava/lang/Object;Ljava/lang/String;)Ljava/lang/Object;", sig := { parameters := [(.object "java/lang/Object"), (.object "java/lang/String")], returnType := some (.object "java/lang/Object") }, accessFlags := 9, code := some k11c1 }
/-- java/util/Objects -/
def k11 : Class := { plain "java/util/Objects" (some 0) with
  accessFlags := 49
  interfaces := #[]
  cf := some (fileOf pool11 42 #[] #[{ accessFlags := 2, nameIndex := 5, descriptorIndex := 6, attributes := #[] }, { accessFlags := 9, nameIndex := 45, descriptorIndex := 94, attributes := #[] }] 49 2 #[] #[])
  fields := #[]
  methods := #[k11m0, k11m1]
  instanceTypes := #[]
  staticTypes := #[]
  resolved := Array.replicate 184 none
  statics := none }

def pool12 : Array CpInfo := pool [(1, .methodref 2 3), (0, .class_ 4), (0, .nameAndType 5 6), (0, u "java/lang/Object"), (0, u "<init>"), (0, u "()V"), (1, .class_ 10), (1, u "java/lang/Number"), (2, .class_ 14), (0, u "java/io/Serializable"), (0, u "serialVersionUID"), (0, u "J")] 20

def k12c0 : Code := { maxStack := 1, maxLocals := 1, code := jdk_18_method_1_code, exceptionTable := #[], attributes := #[] }
def k12m0 : Method := { name := "<init>", desc := "()V", sig := { parameters := [], returnType := none }, accessFlags := 1, code := some k12c0 }
/-- java/lang/Number -/
def k12 : Class := { plain "java/lang/Number" (some 0) with
  accessFlags := 1057
  interfaces := #[5]
  cf := some (fileOf pool12 8 #[] #[{ accessFlags := 1, nameIndex := 5, descriptorIndex := 6, attributes := #[] }] 1057 2 #[13] #[{ accessFlags := 26, nameIndex := 15, descriptorIndex := 16, attributes := #[] }])
  fields := #[{ name := "serialVersionUID", type := .long, accessFlags := 26, slot := 0, constantValue := 0 }]
  methods := #[k12m0]
  instanceTypes := #[]
  staticTypes := #[.long]
  resolved := Array.replicate 37 none
  statics := none }

def pool13 : Array CpInfo := pool [(1, .class_ 2), (0, u "java/lang/Integer"), (16, u "digits"), (0, u "[C"), (46, u "<init>"), (17, u "DigitOnes"), (0, u "[B"), (2, u "DigitTens"), (10, .nameAndType 67 101), (0, u "()V"), (85, u "valueOf"), (0, u "(I)Ljava/lang/Integer;"), (0, .class_ 190), (0, u "java/lang/Integer$IntegerCache"), (0, .fieldref 189 192), (0, .nameAndType 193 194), (0, u "high"), (0, u "I"), (0, .fieldref 189 196), (0, .nameAndType 197 198), (0, u "cache"), (0, u "[Ljava/lang/Integer;"), (0, .methodref 1 200), (0, .nameAndType 67 201), (0, u "(I)V"), (0, .methodref 203 100), (0, .class_ 204), (0, u "java/lang/Number"), (0, .fieldref 1 206), (0, .nameAndType 207 194), (0, u "value"), (94, u "TYPE"), (0, u "Ljava/lang/Class;"), (0, .class_ 305), (0, u "java/lang/Comparable"), (0, .class_ 307), (0, u "java/lang/constant/Constable"), (0, .class_ 309), (0, u "java/lang/constant/ConstantDesc"), (0, u "MIN_VALUE"), (1, u "MAX_VALUE"), (3, u "SIZE"), (1, u "BYTES"), (1, u "serialVersionUID"), (0, u "J")] 131

def k13c0 : Code := { maxStack := 3, maxLocals := 1, code := jdk_33_method_22_code, exceptionTable := #[], attributes := #[] }
def k13m0 : Method := { name := "valueOf", desc := "(I)Ljava/lang/Integer;", sig := { parameters := [.int], returnType := some (.object "java/lang/Integer") }, accessFlags := 9, code := some k13c0 }
def k13c1 : Code := { maxStack := 2, maxLocals := 2, code := jdk_33_method_23_code, exceptionTable := #[], attributes := #[] }
def k13m1 : Method := { name := "<init>", desc := "(I)V", sig := { parameters := [.int], returnType := none }, accessFlags := 1, code := some k13c1 }
/-- java/lang/Integer -/
def k13 : Class := { plain "java/lang/Integer" (some 12) with
  accessFlags := 49
  interfaces := #[4, 3, 9]
  cf := some (fileOf pool13 1 #[.nestMembers #[189]] #[{ accessFlags := 9, nameIndex := 187, descriptorIndex := 188, attributes := #[] }, { accessFlags := 1, nameIndex := 67, descriptorIndex := 201, attributes := #[] }] 49 203 #[304, 306, 308] #[{ accessFlags := 25, nameIndex := 310, descriptorIndex := 194, attributes := #[] }, { accessFlags := 25, nameIndex := 312, descriptorIndex := 194, attributes := #[] }, { accessFlags := 25, nameIndex := 302, descriptorIndex := 303, attributes := #[] }, { accessFlags := 24, nameIndex := 19, descriptorIndex := 20, attributes := #[] }, { accessFlags := 24, nameIndex := 89, descriptorIndex := 86, attributes := #[] }, { accessFlags := 24, nameIndex := 85, descriptorIndex := 86, attributes := #[] }, { accessFlags := 18, nameIndex := 207, descriptorIndex := 194, attributes := #[] }, { accessFlags := 25, nameIndex := 316, descriptorIndex := 194, attributes := #[] }, { accessFlags := 25, nameIndex := 318, descriptorIndex := 194, attributes := #[] }, { accessFlags := 26, nameIndex := 320, descriptorIndex := 321, attributes := #[] }])
  fields := #[{ name := "MIN_VALUE", type := .int, accessFlags := 25, slot := 0, constantValue := 0 }, { name := "MAX_VALUE", type := .int, accessFlags := 25, slot := 1, constantValue := 0 }, { name := "TYPE", type := (.object "java/lang/Class"), accessFlags := 25, slot := 2, constantValue := 0 }, { name := "digits", type := (.array .char), accessFlags := 24, slot := 3, constantValue := 0 }, { name := "DigitTens", type := (.array .byte), accessFlags := 24, slot := 4, constantValue := 0 }, { name := "DigitOnes", type := (.array .byte), accessFlags := 24, slot := 5, constantValue := 0 }, { name := "value", type := .int, accessFlags := 18, slot := 0, constantValue := 0 }, { name := "SIZE", type := .int, accessFlags := 25, slot := 6, constantValue := 0 }, { name := "BYTES", type := .int, accessFlags := 25, slot := 7, constantValue := 0 }, { name := "serialVersionUID", type := .long, accessFlags := 26, slot := 8, constantValue := 0 }]
  methods := #[k13m0, k13m1]
  instanceTypes := #[.int]
  staticTypes := #[.int, .int, (.object "java/lang/Class"), (.array .char), (.array .byte), (.array .byte), .int, .int, .long]
  resolved := Array.replicate 453 none
  statics := none }

def pool14 : Array CpInfo := pool [(2, .class_ 4), (1, u "java/lang/Object"), (0, u "<init>"), (0, u "()V"), (0, .class_ 8), (0, u "java/lang/Integer"), (7, .class_ 18), (1, u "java/lang/Integer$IntegerCache"), (0, u "$assertionsDisabled"), (0, u "Z"), (26, u "high"), (0, u "I"), (8, u "archivedCache"), (0, u "[Ljava/lang/Integer;"), (12, u "cache"), (0, u "low")] 27

def k14m0 : Method := { name := "<init>", desc := "()V", sig := { parameters := [], returnType := none }, accessFlags := 2, code := none }
/-- java/lang/Integer$IntegerCache -/
def k14 : Class := { plain "java/lang/Integer$IntegerCache" (some 0) with
  accessFlags := 48
  interfaces := #[]
  cf := some (fileOf pool14 16 #[.nestHost 7] #[{ accessFlags := 2, nameIndex := 5, descriptorIndex := 6, attributes := #[] }] 48 2 #[] #[{ accessFlags := 24, nameIndex := 72, descriptorIndex := 48, attributes := #[] }, { accessFlags := 24, nameIndex := 47, descriptorIndex := 48, attributes := #[] }, { accessFlags := 24, nameIndex := 71, descriptorIndex := 58, attributes := #[] }, { accessFlags := 8, nameIndex := 57, descriptorIndex := 58, attributes := #[] }, { accessFlags := 4120, nameIndex := 19, descriptorIndex := 20, attributes := #[] }])
  fields := #[{ name := "low", type := .int, accessFlags := 24, slot := 0, constantValue := 0 }, { name := "high", type := .int, accessFlags := 24, slot := 1, constantValue := 0 }, { name := "cache", type := (.array (.object "java/lang/Integer")), accessFlags := 24, slot := 2, constantValue := 0 }, { name := "archivedCache", type := (.array (.object "java/lang/Integer")), accessFlags := 8, slot := 3, constantValue := 0 }, { name := "$assertionsDisabled", type := .boolean, accessFlags := 4120, slot := 4, constantValue := 0 }]
  methods := #[k14m0]
  instanceTypes := #[]
  staticTypes := #[.int, .int, (.array (.object "java/lang/Integer")), (.array (.object "java/lang/Integer")), .boolean]
  resolved := Array.replicate 100 none
  statics := some 1 }

def pool15 : Array CpInfo := pool [(1, u "java/lang/Cloneable"), (0, .class_ 1), (0, u "java/lang/Object"), (0, .class_ 3)] 3

/-- java/lang/Cloneable -/
def k15 : Class := { plain "java/lang/Cloneable" (some 0) with
  accessFlags := 1537
  interfaces := #[]
  cf := some (fileOf pool15 2 #[] #[] 1537 4 #[] #[])
  fields := #[]
  methods := #[]
  instanceTypes := #[]
  staticTypes := #[]
  resolved := Array.replicate 8 none
  statics := none }

/-- the primitive byte -/
def k16 : Class := { plain "byte" none with kind := .primitive 'B', accessFlags := 0x411 }
/-- [B -/
def k17 : Class := { plain "[B" (some 0) with kind := .array 16 .byte, interfaces := #[15, 5], accessFlags := 1041 }

/-- the primitive int -/
def k18 : Class := { plain "int" none with kind := .primitive 'I', accessFlags := 0x411 }
/-- [I -/
def k19 : Class := { plain "[I" (some 0) with kind := .array 18 .int, interfaces := #[15, 5], accessFlags := 1041 }

/-- [Ljava/lang/Integer; -/
def k20 : Class := { plain "[Ljava/lang/Integer;" (some 0) with kind := .array 13 (.object "java/lang/Integer"), interfaces := #[15, 5], accessFlags := 1041 }

def heap : Heap := #[{ cls := 7, slots := #[.ref 3, .ref 7, .ref 4, .ref 6, .ref 5, .null], vm := .statics 7 },
  { cls := 14, slots := #[.int 0, .int 127, .ref 2, .null, .int 0], vm := .statics 14 },
  { cls := 20, slots := #[.ref 8, .ref 9, .ref 10, .ref 11, .ref 12, .ref 13, .ref 14, .ref 15, .ref 16, .ref 17, .ref 18, .ref 19, .ref 20, .ref 21, .ref 22, .ref 23, .ref 24, .ref 25, .ref 26, .ref 27, .ref 28, .ref 29, .ref 30, .ref 31, .ref 32, .ref 33, .ref 34, .ref 35, .ref 36, .ref 37, .ref 38, .ref 39, .ref 40, .ref 41, .ref 42, .ref 43, .ref 44, .ref 45, .ref 46, .ref 47, .ref 48, .ref 49, .ref 50, .ref 51, .ref 52, .ref 53, .ref 54, .ref 55, .ref 56, .ref 57, .ref 58, .ref 59, .ref 60, .ref 61, .ref 62, .ref 63, .ref 64, .ref 65, .ref 66, .ref 67, .ref 68, .ref 69, .ref 70, .ref 71, .ref 72, .ref 73, .ref 74, .ref 75, .ref 76, .ref 77, .ref 78, .ref 79, .ref 80, .ref 81, .ref 82, .ref 83, .ref 84, .ref 85, .ref 86, .ref 87, .ref 88, .ref 89, .ref 90, .ref 91, .ref 92, .ref 93, .ref 94, .ref 95, .ref 96, .ref 97, .ref 98, .ref 99, .ref 100, .ref 101, .ref 102, .ref 103, .ref 104, .ref 105, .ref 106, .ref 107, .ref 108, .ref 109, .ref 110, .ref 111, .ref 112, .ref 113, .ref 114, .ref 115, .ref 116, .ref 117, .ref 118, .ref 119, .ref 120, .ref 121, .ref 122, .ref 123, .ref 124, .ref 125, .ref 126, .ref 127, .ref 128, .ref 129, .ref 130, .ref 131, .ref 132, .ref 133, .ref 134, .ref 135, .ref 136, .ref 137, .ref 138, .ref 139, .ref 140, .ref 141, .ref 142, .ref 143, .ref 144, .ref 145, .ref 146, .ref 147, .ref 148, .ref 149, .ref 150, .ref 151, .ref 152, .ref 153, .ref 154, .ref 155, .ref 156, .ref 157, .ref 158, .ref 159, .ref 160, .ref 161, .ref 162, .ref 163, .ref 164, .ref 165, .ref 166, .ref 167, .ref 168, .ref 169, .ref 170, .ref 171, .ref 172, .ref 173, .ref 174, .ref 175, .ref 176, .ref 177, .ref 178, .ref 179, .ref 180, .ref 181, .ref 182, .ref 183, .ref 184, .ref 185, .ref 186, .ref 187, .ref 188, .ref 189, .ref 190, .ref 191, .ref 192, .ref 193, .ref 194, .ref 195, .ref 196, .ref 197, .ref 198, .ref 199, .ref 200, .ref 201, .ref 202, .ref 203, .ref 204, .ref 205, .ref 206, .ref 207, .ref 208, .ref 209, .ref 210, .ref 211, .ref 212, .ref 213, .ref 214, .ref 215, .ref 216, .ref 217, .ref 218, .ref 219, .ref 220, .ref 221, .ref 222, .ref 223, .ref 224, .ref 225, .ref 226, .ref 227, .ref 228, .ref 229, .ref 230, .ref 231, .ref 232, .ref 233, .ref 234, .ref 235, .ref 236, .ref 237, .ref 238, .ref 239, .ref 240, .ref 241, .ref 242, .ref 243, .ref 244, .ref 245, .ref 246, .ref 247, .ref 248, .ref 249, .ref 250, .ref 251, .ref 252, .ref 253, .ref 254, .ref 255, .ref 256, .ref 257, .ref 258, .ref 259, .ref 260, .ref 261, .ref 262, .ref 263], vm := .none },
  { cls := 7, slots := #[.null, .int 0, .int 0, .null, .int 0], vm := .none },
  { cls := 7, slots := #[.null, .int 2, .int 0, .null, .int 0], vm := .none },
  { cls := 7, slots := #[.null, .int 4, .int 0, .null, .int 0], vm := .none },
  { cls := 7, slots := #[.null, .int 3, .int 0, .null, .int 0], vm := .none },
  { cls := 7, slots := #[.null, .int 1, .int 0, .null, .int 0], vm := .none },
  { cls := 13, slots := #[.int (-128)], vm := .none },
  { cls := 13, slots := #[.int (-127)], vm := .none },
  { cls := 13, slots := #[.int (-126)], vm := .none },
  { cls := 13, slots := #[.int (-125)], vm := .none },
  { cls := 13, slots := #[.int (-124)], vm := .none },
  { cls := 13, slots := #[.int (-123)], vm := .none },
  { cls := 13, slots := #[.int (-122)], vm := .none },
  { cls := 13, slots := #[.int (-121)], vm := .none },
  { cls := 13, slots := #[.int (-120)], vm := .none },
  { cls := 13, slots := #[.int (-119)], vm := .none },
  { cls := 13, slots := #[.int (-118)], vm := .none },
  { cls := 13, slots := #[.int (-117)], vm := .none },
  { cls := 13, slots := #[.int (-116)], vm := .none },
  { cls := 13, slots := #[.int (-115)], vm := .none },
  { cls := 13, slots := #[.int (-114)], vm := .none },
  { cls := 13, slots := #[.int (-113)], vm := .none },
  { cls := 13, slots := #[.int (-112)], vm := .none },
  { cls := 13, slots := #[.int (-111)], vm := .none },
  { cls := 13, slots := #[.int (-110)], vm := .none },
  { cls := 13, slots := #[.int (-109)], vm := .none },
  { cls := 13, slots := #[.int (-108)], vm := .none },
  { cls := 13, slots := #[.int (-107)], vm := .none },
  { cls := 13, slots := #[.int (-106)], vm := .none },
  { cls := 13, slots := #[.int (-105)], vm := .none },
  { cls := 13, slots := #[.int (-104)], vm := .none },
  { cls := 13, slots := #[.int (-103)], vm := .none },
  { cls := 13, slots := #[.int (-102)], vm := .none },
  { cls := 13, slots := #[.int (-101)], vm := .none },
  { cls := 13, slots := #[.int (-100)], vm := .none },
  { cls := 13, slots := #[.int (-99)], vm := .none },
  { cls := 13, slots := #[.int (-98)], vm := .none },
  { cls := 13, slots := #[.int (-97)], vm := .none },
  { cls := 13, slots := #[.int (-96)], vm := .none },
  { cls := 13, slots := #[.int (-95)], vm := .none },
  { cls := 13, slots := #[.int (-94)], vm := .none },
  { cls := 13, slots := #[.int (-93)], vm := .none },
  { cls := 13, slots := #[.int (-92)], vm := .none },
  { cls := 13, slots := #[.int (-91)], vm := .none },
  { cls := 13, slots := #[.int (-90)], vm := .none },
  { cls := 13, slots := #[.int (-89)], vm := .none },
  { cls := 13, slots := #[.int (-88)], vm := .none },
  { cls := 13, slots := #[.int (-87)], vm := .none },
  { cls := 13, slots := #[.int (-86)], vm := .none },
  { cls := 13, slots := #[.int (-85)], vm := .none },
  { cls := 13, slots := #[.int (-84)], vm := .none },
  { cls := 13, slots := #[.int (-83)], vm := .none },
  { cls := 13, slots := #[.int (-82)], vm := .none },
  { cls := 13, slots := #[.int (-81)], vm := .none },
  { cls := 13, slots := #[.int (-80)], vm := .none },
  { cls := 13, slots := #[.int (-79)], vm := .none },
  { cls := 13, slots := #[.int (-78)], vm := .none },
  { cls := 13, slots := #[.int (-77)], vm := .none },
  { cls := 13, slots := #[.int (-76)], vm := .none },
  { cls := 13, slots := #[.int (-75)], vm := .none },
  { cls := 13, slots := #[.int (-74)], vm := .none },
  { cls := 13, slots := #[.int (-73)], vm := .none },
  { cls := 13, slots := #[.int (-72)], vm := .none },
  { cls := 13, slots := #[.int (-71)], vm := .none },
  { cls := 13, slots := #[.int (-70)], vm := .none },
  { cls := 13, slots := #[.int (-69)], vm := .none },
  { cls := 13, slots := #[.int (-68)], vm := .none },
  { cls := 13, slots := #[.int (-67)], vm := .none },
  { cls := 13, slots := #[.int (-66)], vm := .none },
  { cls := 13, slots := #[.int (-65)], vm := .none },
  { cls := 13, slots := #[.int (-64)], vm := .none },
  { cls := 13, slots := #[.int (-63)], vm := .none },
  { cls := 13, slots := #[.int (-62)], vm := .none },
  { cls := 13, slots := #[.int (-61)], vm := .none },
  { cls := 13, slots := #[.int (-60)], vm := .none },
  { cls := 13, slots := #[.int (-59)], vm := .none },
  { cls := 13, slots := #[.int (-58)], vm := .none },
  { cls := 13, slots := #[.int (-57)], vm := .none },
  { cls := 13, slots := #[.int (-56)], vm := .none },
  { cls := 13, slots := #[.int (-55)], vm := .none },
  { cls := 13, slots := #[.int (-54)], vm := .none },
  { cls := 13, slots := #[.int (-53)], vm := .none },
  { cls := 13, slots := #[.int (-52)], vm := .none },
  { cls := 13, slots := #[.int (-51)], vm := .none },
  { cls := 13, slots := #[.int (-50)], vm := .none },
  { cls := 13, slots := #[.int (-49)], vm := .none },
  { cls := 13, slots := #[.int (-48)], vm := .none },
  { cls := 13, slots := #[.int (-47)], vm := .none },
  { cls := 13, slots := #[.int (-46)], vm := .none },
  { cls := 13, slots := #[.int (-45)], vm := .none },
  { cls := 13, slots := #[.int (-44)], vm := .none },
  { cls := 13, slots := #[.int (-43)], vm := .none },
  { cls := 13, slots := #[.int (-42)], vm := .none },
  { cls := 13, slots := #[.int (-41)], vm := .none },
  { cls := 13, slots := #[.int (-40)], vm := .none },
  { cls := 13, slots := #[.int (-39)], vm := .none },
  { cls := 13, slots := #[.int (-38)], vm := .none },
  { cls := 13, slots := #[.int (-37)], vm := .none },
  { cls := 13, slots := #[.int (-36)], vm := .none },
  { cls := 13, slots := #[.int (-35)], vm := .none },
  { cls := 13, slots := #[.int (-34)], vm := .none },
  { cls := 13, slots := #[.int (-33)], vm := .none },
  { cls := 13, slots := #[.int (-32)], vm := .none },
  { cls := 13, slots := #[.int (-31)], vm := .none },
  { cls := 13, slots := #[.int (-30)], vm := .none },
  { cls := 13, slots := #[.int (-29)], vm := .none },
  { cls := 13, slots := #[.int (-28)], vm := .none },
  { cls := 13, slots := #[.int (-27)], vm := .none },
  { cls := 13, slots := #[.int (-26)], vm := .none },
  { cls := 13, slots := #[.int (-25)], vm := .none },
  { cls := 13, slots := #[.int (-24)], vm := .none },
  { cls := 13, slots := #[.int (-23)], vm := .none },
  { cls := 13, slots := #[.int (-22)], vm := .none },
  { cls := 13, slots := #[.int (-21)], vm := .none },
  { cls := 13, slots := #[.int (-20)], vm := .none },
  { cls := 13, slots := #[.int (-19)], vm := .none },
  { cls := 13, slots := #[.int (-18)], vm := .none },
  { cls := 13, slots := #[.int (-17)], vm := .none },
  { cls := 13, slots := #[.int (-16)], vm := .none },
  { cls := 13, slots := #[.int (-15)], vm := .none },
  { cls := 13, slots := #[.int (-14)], vm := .none },
  { cls := 13, slots := #[.int (-13)], vm := .none },
  { cls := 13, slots := #[.int (-12)], vm := .none },
  { cls := 13, slots := #[.int (-11)], vm := .none },
  { cls := 13, slots := #[.int (-10)], vm := .none },
  { cls := 13, slots := #[.int (-9)], vm := .none },
  { cls := 13, slots := #[.int (-8)], vm := .none },
  { cls := 13, slots := #[.int (-7)], vm := .none },
  { cls := 13, slots := #[.int (-6)], vm := .none },
  { cls := 13, slots := #[.int (-5)], vm := .none },
  { cls := 13, slots := #[.int (-4)], vm := .none },
  { cls := 13, slots := #[.int (-3)], vm := .none },
  { cls := 13, slots := #[.int (-2)], vm := .none },
  { cls := 13, slots := #[.int (-1)], vm := .none },
  { cls := 13, slots := #[.int 0], vm := .none },
  { cls := 13, slots := #[.int 1], vm := .none },
  { cls := 13, slots := #[.int 2], vm := .none },
  { cls := 13, slots := #[.int 3], vm := .none },
  { cls := 13, slots := #[.int 4], vm := .none },
  { cls := 13, slots := #[.int 5], vm := .none },
  { cls := 13, slots := #[.int 6], vm := .none },
  { cls := 13, slots := #[.int 7], vm := .none },
  { cls := 13, slots := #[.int 8], vm := .none },
  { cls := 13, slots := #[.int 9], vm := .none },
  { cls := 13, slots := #[.int 10], vm := .none },
  { cls := 13, slots := #[.int 11], vm := .none },
  { cls := 13, slots := #[.int 12], vm := .none },
  { cls := 13, slots := #[.int 13], vm := .none },
  { cls := 13, slots := #[.int 14], vm := .none },
  { cls := 13, slots := #[.int 15], vm := .none },
  { cls := 13, slots := #[.int 16], vm := .none },
  { cls := 13, slots := #[.int 17], vm := .none },
  { cls := 13, slots := #[.int 18], vm := .none },
  { cls := 13, slots := #[.int 19], vm := .none },
  { cls := 13, slots := #[.int 20], vm := .none },
  { cls := 13, slots := #[.int 21], vm := .none },
  { cls := 13, slots := #[.int 22], vm := .none },
  { cls := 13, slots := #[.int 23], vm := .none },
  { cls := 13, slots := #[.int 24], vm := .none },
  { cls := 13, slots := #[.int 25], vm := .none },
  { cls := 13, slots := #[.int 26], vm := .none },
  { cls := 13, slots := #[.int 27], vm := .none },
  { cls := 13, slots := #[.int 28], vm := .none },
  { cls := 13, slots := #[.int 29], vm := .none },
  { cls := 13, slots := #[.int 30], vm := .none },
  { cls := 13, slots := #[.int 31], vm := .none },
  { cls := 13, slots := #[.int 32], vm := .none },
  { cls := 13, slots := #[.int 33], vm := .none },
  { cls := 13, slots := #[.int 34], vm := .none },
  { cls := 13, slots := #[.int 35], vm := .none },
  { cls := 13, slots := #[.int 36], vm := .none },
  { cls := 13, slots := #[.int 37], vm := .none },
  { cls := 13, slots := #[.int 38], vm := .none },
  { cls := 13, slots := #[.int 39], vm := .none },
  { cls := 13, slots := #[.int 40], vm := .none },
  { cls := 13, slots := #[.int 41], vm := .none },
  { cls := 13, slots := #[.int 42], vm := .none },
  { cls := 13, slots := #[.int 43], vm := .none },
  { cls := 13, slots := #[.int 44], vm := .none },
  { cls := 13, slots := #[.int 45], vm := .none },
  { cls := 13, slots := #[.int 46], vm := .none },
  { cls := 13, slots := #[.int 47], vm := .none },
  { cls := 13, slots := #[.int 48], vm := .none },
  { cls := 13, slots := #[.int 49], vm := .none },
  { cls := 13, slots := #[.int 50], vm := .none },
  { cls := 13, slots := #[.int 51], vm := .none },
  { cls := 13, slots := #[.int 52], vm := .none },
  { cls := 13, slots := #[.int 53], vm := .none },
  { cls := 13, slots := #[.int 54], vm := .none },
  { cls := 13, slots := #[.int 55], vm := .none },
  { cls := 13, slots := #[.int 56], vm := .none },
  { cls := 13, slots := #[.int 57], vm := .none },
  { cls := 13, slots := #[.int 58], vm := .none },
  { cls := 13, slots := #[.int 59], vm := .none },
  { cls := 13, slots := #[.int 60], vm := .none },
  { cls := 13, slots := #[.int 61], vm := .none },
  { cls := 13, slots := #[.int 62], vm := .none },
  { cls := 13, slots := #[.int 63], vm := .none },
  { cls := 13, slots := #[.int 64], vm := .none },
  { cls := 13, slots := #[.int 65], vm := .none },
  { cls := 13, slots := #[.int 66], vm := .none },
  { cls := 13, slots := #[.int 67], vm := .none },
  { cls := 13, slots := #[.int 68], vm := .none },
  { cls := 13, slots := #[.int 69], vm := .none },
  { cls := 13, slots := #[.int 70], vm := .none },
  { cls := 13, slots := #[.int 71], vm := .none },
  { cls := 13, slots := #[.int 72], vm := .none },
  { cls := 13, slots := #[.int 73], vm := .none },
  { cls := 13, slots := #[.int 74], vm := .none },
  { cls := 13, slots := #[.int 75], vm := .none },
  { cls := 13, slots := #[.int 76], vm := .none },
  { cls := 13, slots := #[.int 77], vm := .none },
  { cls := 13, slots := #[.int 78], vm := .none },
  { cls := 13, slots := #[.int 79], vm := .none },
  { cls := 13, slots := #[.int 80], vm := .none },
  { cls := 13, slots := #[.int 81], vm := .none },
  { cls := 13, slots := #[.int 82], vm := .none },
  { cls := 13, slots := #[.int 83], vm := .none },
  { cls := 13, slots := #[.int 84], vm := .none },
  { cls := 13, slots := #[.int 85], vm := .none },
  { cls := 13, slots := #[.int 86], vm := .none },
  { cls := 13, slots := #[.int 87], vm := .none },
  { cls := 13, slots := #[.int 88], vm := .none },
  { cls := 13, slots := #[.int 89], vm := .none },
  { cls := 13, slots := #[.int 90], vm := .none },
  { cls := 13, slots := #[.int 91], vm := .none },
  { cls := 13, slots := #[.int 92], vm := .none },
  { cls := 13, slots := #[.int 93], vm := .none },
  { cls := 13, slots := #[.int 94], vm := .none },
  { cls := 13, slots := #[.int 95], vm := .none },
  { cls := 13, slots := #[.int 96], vm := .none },
  { cls := 13, slots := #[.int 97], vm := .none },
  { cls := 13, slots := #[.int 98], vm := .none },
  { cls := 13, slots := #[.int 99], vm := .none },
  { cls := 13, slots := #[.int 100], vm := .none },
  { cls := 13, slots := #[.int 101], vm := .none },
  { cls := 13, slots := #[.int 102], vm := .none },
  { cls := 13, slots := #[.int 103], vm := .none },
  { cls := 13, slots := #[.int 104], vm := .none },
  { cls := 13, slots := #[.int 105], vm := .none },
  { cls := 13, slots := #[.int 106], vm := .none },
  { cls := 13, slots := #[.int 107], vm := .none },
  { cls := 13, slots := #[.int 108], vm := .none },
  { cls := 13, slots := #[.int 109], vm := .none },
  { cls := 13, slots := #[.int 110], vm := .none },
  { cls := 13, slots := #[.int 111], vm := .none },
  { cls := 13, slots := #[.int 112], vm := .none },
  { cls := 13, slots := #[.int 113], vm := .none },
  { cls := 13, slots := #[.int 114], vm := .none },
  { cls := 13, slots := #[.int 115], vm := .none },
  { cls := 13, slots := #[.int 116], vm := .none },
  { cls := 13, slots := #[.int 117], vm := .none },
  { cls := 13, slots := #[.int 118], vm := .none },
  { cls := 13, slots := #[.int 119], vm := .none },
  { cls := 13, slots := #[.int 120], vm := .none },
  { cls := 13, slots := #[.int 121], vm := .none },
  { cls := 13, slots := #[.int 122], vm := .none },
  { cls := 13, slots := #[.int 123], vm := .none },
  { cls := 13, slots := #[.int 124], vm := .none },
  { cls := 13, slots := #[.int 125], vm := .none },
  { cls := 13, slots := #[.int 126], vm := .none },
  { cls := 13, slots := #[.int 127], vm := .none }]
def classes : Array Class := #[k0, k1, k2, k3, k4, k5, k6, k7, k8, k9, k10, k11, k12, k13, k14, k15, k16, k17, k18, k19, k20]
def interned : List (Array UInt16 × Addr) := []
def slotsUsed : Nat := 548
def theMethod : MethodId := ⟨1, 2⟩
def args0 : Array Value := #[.int 5, .int 5, .int 5, .int 5, .int 5]
def aboutOver (below : List Frame) : State where
  vm := { classes := classes, interned := interned.toArray }
  heap := heap
  slotsUsed := slotsUsed
  threads := #[{ frames := .invoking theMethod args0 :: below }]
def below0 : List Frame := [.native { method := ⟨0, 0⟩, args := #[] }]
def about1 : State := aboutOver below0
def p0 : Program := .bare "" "" ""
def e0 : Env := launch0.env 0 0 0
theorem w_frames : about1.frames = Frame.invoking theMethod args0 :: below0 := rfl
set_option maxRecDepth 65536 in
theorem w_args : argsFit about1.vm theMethod args0 = true := by decide +kernel
set_option maxRecDepth 65536 in
theorem w_heap : heapFits about1 = true := by decide +kernel
set_option maxRecDepth 65536 in
theorem w_runnable : about1.curStatus? = some .runnable := by decide +kernel
set_option maxRecDepth 65536 in
theorem w_alone : about1.alone = true := by decide +kernel
set_option maxRecDepth 65536 in
theorem w_named : about1.methodNamed? x = some theMethod := by decide +kernel
set_option maxRecDepth 65536 in
theorem w_hears : about1.hears theMethod below0 = true := by decide +kernel
set_option maxRecDepth 65536 in
theorem w_ripe : about1.ripe theMethod args0 below0 = true := by decide +kernel
theorem w_running : about1.status = .running := rfl
set_option maxRecDepth 65536 in
theorem w_room : about1.hasRoom e0.platform room_1 = true :=
  launch0.hasRoom_least _ room_1 (by decide +kernel) (by decide +kernel) (by decide +kernel) (by decide +kernel) (by decide +kernel) (by decide +kernel)
theorem allAtoms_all (ts : List Jvm.Cond) (a : Array Jvm.Value) (st : Jvm.State) : (allAtoms ts).before a st = ts.all (fun c => c.before a st) := by
  induction ts with
  | nil => rfl
  | cons c t ih =>
    show (Jvm.Cond.and c (allAtoms t)).before a st = _
    rw [Jvm.Cond.before_and, ih, List.all_cons]
def words1 : List Jvm.Cond := Jvm.Cond.code x code maxLocals ret :: tables_1
/-- a 'code' word, met by the world's own term for the bytes: nothing is compared byte by byte -/
theorem code_word {y : MethodName} {bytes : ByteArray} {mx : Nat} {rt : Option FieldType} {a : Array Value} {s : State} {m : MethodId} {meth : Method} {c : Code} (h1 : s.methodNamed? y = some m) (h2 : s.vm.method? m = some meth) (h3 : meth.code = some c) (h4 : c.code = bytes)
    (h5 : (c.maxLocals == mx && c.exceptionTable.isEmpty && decide (c.maxStack ≤ mostOperands) && decide (meth.sig.returnType = rt) && !meth.locks && decide (parseMethodDescriptor y.desc = some meth.sig)) = true) : (Jvm.Cond.code y bytes mx rt).before a s = true := by
  simp only [Bool.and_eq_true, beq_iff_eq, Bool.not_eq_true', decide_eq_true_eq] at h5
  obtain ⟨⟨⟨⟨⟨g1, g2⟩, g3⟩, g4⟩, g5⟩, g6⟩ := h5
  simp [Cond.before, Cond.holds, Cond.value, h1, h2, h3, h4, g1, g2, g3, g4, g5, g6]
def isCode : Jvm.Cond → Bool
  | .code _ _ _ _ => true
  | _ => false
theorem all_split {L : List Jvm.Cond} {P : Jvm.Cond → Bool} (h1 : L.all (fun c => isCode c || P c) = true) (h2 : ∀ c ∈ L.filter isCode, P c = true) : L.all P = true := by
  refine List.all_eq_true.mpr fun c hc => ?_
  have h := List.all_eq_true.mp h1 c hc
  rcases Bool.eq_false_or_eq_true (isCode c) with hi | hi
  · exact h2 c (List.mem_filter.mpr ⟨hc, hi⟩)
  · simpa [hi] using h
set_option maxRecDepth 65536 in
theorem w_c0 : (Jvm.Cond.code x code maxLocals ret).before args0 about1 = true := code_word (m := ⟨1, 2⟩) (meth := k1m2) (c := k1c2) (by decide +kernel) rfl rfl rfl (by decide +kernel)
set_option maxRecDepth 65536 in
theorem w_c1 : (Jvm.Cond.code ({ cls := "com/example/unwind/unwind/saga/PositionEqualsPinLaw", name := "make", desc := "(II)Lcom/example/unwind/unwind/saga/Position;" } : Jvm.MethodName) method_2_code (2 : Nat) (Option.some (Jvm.ClassFile.FieldType.object "com/example/unwind/unwind/saga/Position"))).before args0 about1 = true := code_word (m := ⟨1, 1⟩) (meth := k1m1) (c := k1c1) (by decide +kernel) rfl rfl rfl (by decide +kernel)
set_option maxRecDepth 65536 in
theorem w_c2 : (Jvm.Cond.code ({ cls := "com/example/unwind/unwind/saga/Position", name := "<init>", desc := "(Lcom/example/unwind/unwind/saga/SagaState;I)V" } : Jvm.MethodName) prog_14_method_1_code (3 : Nat) (Option.none : Option Jvm.ClassFile.FieldType)).before args0 about1 = true := code_word (m := ⟨2, 0⟩) (meth := k2m0) (c := k2c0) (by decide +kernel) rfl rfl rfl (by decide +kernel)
set_option maxRecDepth 65536 in
theorem w_c3 : (Jvm.Cond.code ({ cls := "com/example/unwind/unwind/saga/Position", name := "<init>", desc := "(Lcom/example/unwind/unwind/saga/SagaState;ILcom/example/unwind/unwind/saga/SagaState;)V" } : Jvm.MethodName) prog_14_method_2_code (4 : Nat) (Option.none : Option Jvm.ClassFile.FieldType)).before args0 about1 = true := code_word (m := ⟨2, 1⟩) (meth := k2m1) (c := k2c1) (by decide +kernel) rfl rfl rfl (by decide +kernel)
set_option maxRecDepth 65536 in
theorem w_c4 : (Jvm.Cond.code ({ cls := "java/lang/Object", name := "<init>", desc := "()V" } : Jvm.MethodName) object_method_1_code (1 : Nat) (Option.none : Option Jvm.ClassFile.FieldType)).before args0 about1 = true := code_word (m := ⟨0, 0⟩) (meth := k0m0) (c := k0c0) (by decide +kernel) rfl rfl rfl (by decide +kernel)
set_option maxRecDepth 65536 in
theorem w_c5 : (Jvm.Cond.code ({ cls := "java/util/Objects", name := "requireNonNull", desc := "(Ljava/lang/Object;Ljava/lang/String;)Ljava/lang/Object;" } : Jvm.MethodName) jdk_31_method_11_code (2 : Nat) (Option.some (Jvm.ClassFile.FieldType.object "java/lang/Object"))).before args0 about1 = true := code_word (m := ⟨11, 1⟩) (meth := k11m1) (c := k11c1) (by decide +kernel) rfl rfl rfl (by decide +kernel)
set_option maxRecDepth 65536 in
theorem w_c6 : (Jvm.Cond.code ({ cls := "com/example/unwind/unwind/saga/Position", name := "equals", desc := "(Ljava/lang/Object;)Z" } : Jvm.MethodName) prog_14_method_7_code (3 : Nat) (Option.some Jvm.ClassFile.FieldType.boolean)).before args0 about1 = true := code_word (m := ⟨2, 3⟩) (meth := k2m3) (c := k2c3) (by decide +kernel) rfl rfl rfl (by decide +kernel)
set_option maxRecDepth 65536 in
theorem w_c7 : (Jvm.Cond.code ({ cls := "java/lang/Integer", name := "valueOf", desc := "(I)Ljava/lang/Integer;" } : Jvm.MethodName) jdk_33_method_22_code (1 : Nat) (Option.some (Jvm.ClassFile.FieldType.object "java/lang/Integer"))).before args0 about1 = true := code_word (m := ⟨13, 0⟩) (meth := k13m0) (c := k13c0) (by decide +kernel) rfl rfl rfl (by decide +kernel)
set_option maxRecDepth 65536 in
theorem w_c8 : (Jvm.Cond.code ({ cls := "com/example/unwind/unwind/saga/Position", name := "stuck", desc := "(ILcom/example/unwind/unwind/saga/SagaState;)Lcom/example/unwind/unwind/saga/Position;" } : Jvm.MethodName) prog_14_method_3_code (2 : Nat) (Option.some (Jvm.ClassFile.FieldType.object "com/example/unwind/unwind/saga/Position"))).before args0 about1 = true := code_word (m := ⟨2, 2⟩) (meth := k2m2) (c := k2c2) (by decide +kernel) rfl rfl rfl (by decide +kernel)
set_option maxRecDepth 65536 in
theorem w_c9 : (Jvm.Cond.code ({ cls := "java/lang/Integer", name := "<init>", desc := "(I)V" } : Jvm.MethodName) jdk_33_method_23_code (2 : Nat) (Option.none : Option Jvm.ClassFile.FieldType)).before args0 about1 = true := code_word (m := ⟨13, 1⟩) (meth := k13m1) (c := k13c1) (by decide +kernel) rfl rfl rfl (by decide +kernel)
set_option maxRecDepth 65536 in
theorem w_c10 : (Jvm.Cond.code ({ cls := "java/lang/Number", name := "<init>", desc := "()V" } : Jvm.MethodName) jdk_18_method_1_code (1 : Nat) (Option.none : Option Jvm.ClassFile.FieldType)).before args0 about1 = true := code_word (m := ⟨12, 0⟩) (meth := k12m0) (c := k12c0) (by decide +kernel) rfl rfl rfl (by decide +kernel)
def codes1 : List Jvm.Cond := [Jvm.Cond.code x code maxLocals ret, Jvm.Cond.code ({ cls := "com/example/unwind/unwind/saga/PositionEqualsPinLaw", name := "make", desc := "(II)Lcom/example/unwind/unwind/saga/Position;" } : Jvm.MethodName) method_2_code (2 : Nat) (Option.some (Jvm.ClassFile.FieldType.object "com/example/unwind/unwind/saga/Position")), Jvm.Cond.code ({ cls := "com/example/unwind/unwind/saga/Position", name := "<init>", desc := "(Lcom/example/unwind/unwind/saga/SagaState;I)V" } : Jvm.MethodName) prog_14_method_1_code (3 : Nat) (Option.none : Option Jvm.ClassFile.FieldType), Jvm.Cond.code ({ cls := "com/example/unwind/unwind/saga/Position", name := "<init>", desc := "(Lcom/example/unwind/unwind/saga/SagaState;ILcom/example/unwind/unwind/saga/SagaState;)V" } : Jvm.MethodName) prog_14_method_2_code (4 : Nat) (Option.none : Option Jvm.ClassFile.FieldType), Jvm.Cond.code ({ cls := "java/lang/Object", name := "<init>", desc := "()V" } : Jvm.MethodName) object_method_1_code (1 : Nat) (Option.none : Option Jvm.ClassFile.FieldType), Jvm.Cond.code ({ cls := "java/util/Objects", name := "requireNonNull", desc := "(Ljava/lang/Object;Ljava/lang/String;)Ljava/lang/Object;" } : Jvm.MethodName) jdk_31_method_11_code (2 : Nat) (Option.some (Jvm.ClassFile.FieldType.object "java/lang/Object")), Jvm.Cond.code ({ cls := "com/example/unwind/unwind/saga/Position", name := "equals", desc := "(Ljava/lang/Object;)Z" } : Jvm.MethodName) prog_14_method_7_code (3 : Nat) (Option.some Jvm.ClassFile.FieldType.boolean), Jvm.Cond.code ({ cls := "java/lang/Integer", name := "valueOf", desc := "(I)Ljava/lang/Integer;" } : Jvm.MethodName) jdk_33_method_22_code (1 : Nat) (Option.some (Jvm.ClassFile.FieldType.object "java/lang/Integer")), Jvm.Cond.code ({ cls := "com/example/unwind/unwind/saga/Position", name := "stuck", desc := "(ILcom/example/unwind/unwind/saga/SagaState;)Lcom/example/unwind/unwind/saga/Position;" } : Jvm.MethodName) prog_14_method_3_code (2 : Nat) (Option.some (Jvm.ClassFile.FieldType.object "com/example/unwind/unwind/saga/Position")), Jvm.Cond.code ({ cls := "java/lang/Integer", name := "<init>", desc := "(I)V" } : Jvm.MethodName) jdk_33_method_23_code (2 : Nat) (Option.none : Option Jvm.ClassFile.FieldType), Jvm.Cond.code ({ cls := "java/lang/Number", name := "<init>", desc := "()V" } : Jvm.MethodName) jdk_18_method_1_code (1 : Nat) (Option.none : Option Jvm.ClassFile.FieldType)]
set_option maxRecDepth 65536 in
theorem codes_eq : words1.filter isCode = codes1 := rfl
theorem w_codes : ∀ c ∈ words1.filter isCode, c.before args0 about1 = true := by
  rw [codes_eq]
  intro c hc
  simp only [codes1, List.mem_cons, List.not_mem_nil, or_false] at hc
  rcases hc with rfl | rfl | rfl | rfl | rfl | rfl | rfl | rfl | rfl | rfl | rfl
  · exact w_c0
  · exact w_c1
  · exact w_c2
  · exact w_c3
  · exact w_c4
  · exact w_c5
  · exact w_c6
  · exact w_c7
  · exact w_c8
  · exact w_c9
  · exact w_c10
set_option maxRecDepth 65536 in
theorem w_t1 : (words1.take 24).all (fun c => isCode c || c.before args0 about1) = true := by decide +kernel
set_option maxRecDepth 65536 in
theorem w_t2 : ((words1.drop 24).take 24).all (fun c => isCode c || c.before args0 about1) = true := by decide +kernel
set_option maxRecDepth 65536 in
theorem w_t3 : (((words1.drop 24).drop 24).take 24).all (fun c => isCode c || c.before args0 about1) = true := by decide +kernel
set_option maxRecDepth 65536 in
theorem w_t4 : (((words1.drop 24).drop 24).drop 24).all (fun c => isCode c || c.before args0 about1) = true := by decide +kernel
theorem w_tables : (allAtoms (Jvm.Cond.code x code maxLocals ret :: tables_1)).before args0 about1 = true := by
  rw [allAtoms_all]
  show words1.all (fun c => c.before args0 about1) = true
  refine all_split ?_ w_codes
  rw [← List.take_append_drop 24 words1, List.all_append, w_t1, ← List.take_append_drop 24 (words1.drop 24), List.all_append, w_t2, ← List.take_append_drop 24 ((words1.drop 24).drop 24), List.all_append, w_t3, w_t4]
  rfl
set_option maxRecDepth 65536 in
theorem w_rest : rest_1_c.before args0 about1 = true := by decide +kernel
set_option maxRecDepth 65536 in
theorem w_case : (Jvm.Cond.and given_1 narrow_1).before args0 about1 = true := by decide +kernel
theorem w_applies : (headSpec (Jvm.Cond.code x code maxLocals ret :: tables_1) room_1).applies x e0.platform about1 = true :=
  (Spec.applies_iff w_frames).mpr ⟨w_running, w_runnable, w_alone, w_named, w_hears, w_ripe, w_room, w_tables⟩
theorem atStart : AtStart classFile x code maxLocals ret World_1 tables_1 room_1 Calls_1 rest_1 Pre_1 launch0 p0 e0 about1 theMethod args0 below0 :=
  ⟨lists_1, trivial, launch0.admits_env _ _ _, launch0.least_env, fairChoices_fair.cas, fairChoices_fair.clock, w_frames, w_args, w_heap, w_applies, trivial, w_rest, w_case⟩
end start1
theorem witness_1 : WitnessClaimed_1 := ⟨start1.p0, start1.e0, start1.about1, start1.theMethod, start1.args0, start1.below0, start1.atStart⟩
end Jvm.Pilot.@@N@@
