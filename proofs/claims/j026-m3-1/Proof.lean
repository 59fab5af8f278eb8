import JvmDerived
import JvmDerived.Pilot.@@N@@Statement
import JvmDerived.Pilot.@@N@@Code
set_option linter.unusedVariables false
set_option linter.unusedSimpArgs false
namespace Jvm.RoadKit
open Sem ClassFile Op Lib Jvm.Stand Jvm.Free Jvm.LawKit
section New
variable {p : Program} {l : Launch} {e : Env} {R : Room} {s : State} {m : MethodId} {args : Array Value} {below : List Frame} {meth : Method} {c : Code} {T : State} {locs : List Loc} {cells slots : Nat}
theorem retI (X : Stand p l e R s m args below meth c T locs cells slots) (hx : p.tables.exec = Jvm.exec) {pc : Nat} {Ls : Array Slot} {z : Int32} {rest : List Value} (hret : meth.sig.returnType = some .int) (hd : decode c.code pc = .ok (.ireturn, 1)) {fs : List Frame}
    (hl : ∀ (f : JFrame) (acts : List Action), f.method = m → f.locked = none → f.entered = [] → (doReturn e (T.setTop f) acts (some (.int z))).1 = T.setFrames fs) : Steps p.tables e below (T.setTop (mkF m pc Ls (.int z :: rest))) (T.setFrames fs) := by
  have hm' : T.vm.method? m = some meth := X.method'
  have hn : narrow .int (.int z) = .int z := rfl
  show Steps p.tables e below (T.setTop { method := m, pc := pc, locals := Ls, stack := _ :: rest, locked := none }) _
  jvm_step X.here [X.here.top, hx, hd, hm', hret, hn]
  first | (intro acts; rw [hl _ acts rfl rfl rfl]) | rw [hl _ _ rfl rfl rfl]
  exact Steps.refl _
end New
end Jvm.RoadKit
namespace Jvm.Pilot.@@N@@
open Jvm Jvm.ClassFile Sem Op Lib Jvm.Free Jvm.Stand Jvm.LawKit Jvm.RoadKit Bundle Jvm.Pilot.@@N@@.Jvm.D
section Own
variable {p : Program} {l : Launch} {e : Env} {R : Room} {s : State} {m : MethodId} {args : Array Value} {below : List Frame} {meth : Method} {c : Code} {T T' : State} {locs : List Loc} {cells slots : Nat} {f f' : JFrame} {Q : Option Value → Heap → List Loc → Prop} {ck sk : Nat} {h : Heap} {Z : State}
/-- from here the run comes to its end, and leaves what Q says -/
def Go (p : Program) (e : Env) (below : List Frame) (s : State) (Q : Option Value → Heap → List Loc → Prop) (ck sk : Nat) (T : State) (f : JFrame) : Prop :=
  ∃ s₂ o, Steps p.tables e below (T.setTop f) s₂ ∧ s₂.status = .running ∧ Ended s₂ below o ∧ ∃ v L, o = .returned v ∧ Q v s₂.heap L ∧ FrameEnd s o s₂ L ck sk
theorem Go.step (st : ∀ t, Steps p.tables e below (T'.setTop f') t → Steps p.tables e below (T.setTop f) t) (k : Go p e below s Q ck sk T' f') : Go p e below s Q ck sk T f := by
  obtain ⟨s₂, o, h1, r⟩ := k; exact ⟨s₂, o, st _ h1, r⟩
theorem Go.via (st : Steps p.tables e below (T.setTop f) (T'.setTop f')) (k : Go p e below s Q ck sk T' f') : Go p e below s Q ck sk T f := by
  obtain ⟨s₂, o, h1, r⟩ := k; exact ⟨s₂, o, st.trans h1, r⟩
theorem Go.retI (X : Stand p l e R s m args below meth c T locs cells slots) (hx : p.tables.exec = Jvm.exec) (hlk : meth.locks = false) {pc : Nat} {Ls : Array Slot} {z : Int32} {rest : List Value} (hret : meth.sig.returnType = some .int) (hd : decode c.code pc = .ok (.ireturn, 1)) (eT : T.heap = h) (hq : Q (some (.int z)) h locs) (hck : cells ≤ ck) (hsk : slots ≤ sk) : Go p e below s Q ck sk T (mkF m pc Ls (.int z :: rest)) := by
  subst eT
  obtain ⟨fs, hr, hrun, hended, hW, hsame⟩ := X.leave (v := some (.int z)) (fun h => by rw [hret] at h; cases h) hlk
  exact ⟨_, _, Jvm.RoadKit.retI X hx hret hd hr, hrun, hended, _, _, rfl, hq, ⟨_, rfl⟩, hW, hsame.mono hck hsk⟩
theorem Go.retZ (X : Stand p l e R s m args below meth c T locs cells slots) (hx : p.tables.exec = Jvm.exec) (hlk : meth.locks = false) {pc : Nat} {Ls : Array Slot} {z : Int32} {rest : List Value} {t : FieldType} (hret : meth.sig.returnType = some t) (ht : t = .boolean ∨ t = .byte ∨ t = .char ∨ t = .short) (hd : decode c.code pc = .ok (.ireturn, 1)) (eT : T.heap = h) (hq : Q (some (.int (nar t z))) h locs) (hck : cells ≤ ck) (hsk : slots ≤ sk) : Go p e below s Q ck sk T (mkF m pc Ls (.int z :: rest)) := by
  subst eT
  obtain ⟨fs, hr, hrun, hended, hW, hsame⟩ := X.leave (v := some (.int (nar t z))) (fun h => by rw [hret] at h; cases h) hlk
  exact ⟨_, _, retN X hx hret ht hd hr, hrun, hended, _, _, rfl, hq, ⟨_, rfl⟩, hW, hsame.mono hck hsk⟩
theorem Go.retV (X : Stand p l e R s m args below meth c T locs cells slots) (hx : p.tables.exec = Jvm.exec) (hlk : meth.locks = false) {pc : Nat} {Ls : Array Slot} (hret : meth.sig.returnType = none) (hd : decode c.code pc = .ok (.return_, 1)) (eT : T.heap = h) (hq : Q none h locs) (hck : cells ≤ ck) (hsk : slots ≤ sk) : Go p e below s Q ck sk T (mkF m pc Ls []) := by
  subst eT
  obtain ⟨fs, hr, hrun, hended, hW, hsame⟩ := X.leave (v := none) (fun _ => rfl) hlk
  exact ⟨_, _, X.returnOut hx hret hd hr, hrun, hended, _, _, rfl, hq, ⟨_, rfl⟩, hW, hsame.mono hck hsk⟩
theorem Go.retJ (X : Stand p l e R s m args below meth c T locs cells slots) (hx : p.tables.exec = Jvm.exec) (hlk : meth.locks = false) {pc : Nat} {Ls : Array Slot} {z : Int64} {rest : List Value} (hret : meth.sig.returnType = some .long) (hd : decode c.code pc = .ok (.lreturn, 1)) (eT : T.heap = h) (hq : Q (some (.long z)) h locs) (hck : cells ≤ ck) (hsk : slots ≤ sk) : Go p e below s Q ck sk T (mkF m pc Ls (.long z :: rest)) := by
  subst eT
  obtain ⟨fs, hr, hrun, hended, hW, hsame⟩ := X.leave (v := some (.long z)) (fun h => by rw [hret] at h; cases h) hlk
  exact ⟨_, _, retOut X hx hret rfl (Or.inr (Or.inl ⟨rfl, rfl, _, rfl⟩)) hd hr, hrun, hended, _, _, rfl, hq, ⟨_, rfl⟩, hW, hsame.mono hck hsk⟩
theorem own_nar_ref {t : FieldType} {w : Value} (h1 : t.isReference = true) (h2 : w.isRef = true) : narrow t w = w := by
  cases t <;> first | (cases h1; done) | (cases w <;> first | rfl | (cases h2; done))
theorem Go.retA (X : Stand p l e R s m args below meth c T locs cells slots) (hx : p.tables.exec = Jvm.exec) (hlk : meth.locks = false) {pc : Nat} {Ls : Array Slot} {w : Value} {rest : List Value} {t : FieldType} (hret : meth.sig.returnType = some t) (ht : t.isReference = true) (hw : w.isRef = true) (hd : decode c.code pc = .ok (.areturn, 1)) (eT : T.heap = h) (hq : Q (some w) h locs) (hck : cells ≤ ck) (hsk : slots ≤ sk) : Go p e below s Q ck sk T (mkF m pc Ls (w :: rest)) := by
  subst eT
  obtain ⟨fs, hr, hrun, hended, hW, hsame⟩ := X.leave (v := some w) (fun h => by rw [hret] at h; cases h) hlk
  exact ⟨_, _, retOut X hx hret (own_nar_ref ht hw) (Or.inr (Or.inr (Or.inr (Or.inr ⟨rfl, ht, hw⟩)))) hd hr, hrun, hended, _, _, rfl, hq, ⟨_, rfl⟩, hW, hsame.mono hck hsk⟩
theorem own_old_le {n0 : Nat} (o : Old Z n0 h) : n0 ≤ h.size := o.1 ▸ o.2.1
theorem own_alen (X : Stand p l e R s m args below meth c T locs cells slots) (hx : p.tables.exec = Jvm.exec) (hZ : Z.Warmed39 s.vm) (eT : T.heap = h) {a : Addr} {cl : Cell} {ty : FieldType} (A : Arr Z h a cl ty) {z : Int32} (S : cl.slots.size = z.toNatClampNeg) (N : ¬ z < 0) {g : JFrame} (hg : g.method = m) {rest : List Value} (hs : g.stack = .ref a :: rest) (hd : decode c.code g.pc = .ok (.arraylength, 1)) {t : State}
    (k : Steps p.tables e below (T.setTop { g with pc := g.pc + 1, stack := .int z :: rest }) t) : Steps p.tables e below (T.setTop g) t :=
  X.arraylength hx (by rw [eT]; exact A.1) (State.isArrayOf_alike hZ.alike A.2.1) hg hs hd _ (by rw [len_of S N]; exact k)
theorem own_fld_start {args : Array Value} {s : State} {t : Term} {a : Addr} {C n d : String} {k : Int32} (ev : t.eval args s none [] s = some (.ref a)) (h : (Jvm.Cond.eq (.field t C n d) (.int k)).value args s none s [] = some true) : Fld s s.heap a C n d (.int k) := by
  refine Fld.start ?_
  rw [← fld_at ev]
  obtain ⟨x, y, h1, h2, h3, h4⟩ := cmp_v (Or.inl h)
  have h2' : (Value.int k) = y := Option.some.inj h2
  subst h2'
  obtain ⟨z, rfl⟩ := h4
  have q := gotT (Jvm.Cond.eq_ints h1 h2) h
  rw [h1, q]
theorem own_nar8 (z : Int32) : z.toInt8.toInt32.toInt8.toInt32 = z.toInt8.toInt32 := by simp
end Own
section OwnH
variable {p : Program} {l : Launch} {e : Env} {R : Room} {s : State} {m : MethodId} {args : Array Value} {below : List Frame} {meth : Method} {c : Code} {T T' : State} {locs : List Loc} {cells slots : Nat} {f f' : JFrame} {Q : Option Value → Heap → List Loc → Prop} {ck sk : Nat} {h : Heap} {Z : State} {EL : List (String × Nat)} {a0 : Array Value} {vm0 : Vm} {k0 : Nat}
/-- as Go, where String constants may be loaded on the way -/
def GoH (p : Program) (e : Env) (below : List Frame) (s : State) (Z : State) (EL : List (String × Nat)) (Q : Option Value → Heap → List Loc → Prop) (ck sk : Nat) (T : State) (f : JFrame) : Prop :=
  ∃ s₂ o, Steps p.tables e below (T.setTop f) s₂ ∧ s₂.status = .running ∧ Ended s₂ below o ∧ ∃ v L, o = .returned v ∧ Q v s₂.heap L ∧ CHr Z EL s.vm s.heap s₂.vm s₂.heap ∧ ReturnedEndW s o s₂ L ck sk
theorem GoH.step (st : ∀ t, Steps p.tables e below (T'.setTop f') t → Steps p.tables e below (T.setTop f) t) (k : GoH p e below s Z EL Q ck sk T' f') : GoH p e below s Z EL Q ck sk T f := by
  obtain ⟨s₂, o, h1, r⟩ := k; exact ⟨s₂, o, st _ h1, r⟩
theorem GoH.via (st : Steps p.tables e below (T.setTop f) (T'.setTop f')) (k : GoH p e below s Z EL Q ck sk T' f') : GoH p e below s Z EL Q ck sk T f := by
  obtain ⟨s₂, o, h1, r⟩ := k; exact ⟨s₂, o, st.trans h1, r⟩
theorem GoH.fin (X : Stand p l e R (s.setVm vm0) m args below meth c T locs cells slots) (hZ : Z.Warmed39 vm0) (hEL : EW Z a0 EL) (hS : s.Since vm0 k0) (hk : k0 ≤ h.size) (hC : CHr Z EL s.vm s.heap vm0 h) (hlk : meth.locks = false) {v : Option Value} (hv : meth.sig.returnType = none → v = none)
    (hst : ∀ fs, (∀ (f : JFrame) (acts : List Action), f.method = m → f.locked = none → f.entered = [] → (doReturn e (T.setTop f) acts v).1 = T.setFrames fs) → Steps p.tables e below (T.setTop f) (T.setFrames fs)) (eT : T.heap = h) (hq : Q v h locs) (hck : cells ≤ ck) (hsk : slots ≤ sk) : GoH p e below s Z EL Q ck sk T f := by
  subst eT
  obtain ⟨fs, hr, hrun, hended, hE⟩ := X.leaveW hS hk hv hlk
  exact ⟨_, _, hst fs hr, hrun, hended, _, _, rfl, hq, (show CHr Z EL s.vm s.heap (T.setFrames fs).vm (T.setFrames fs).heap from (hC.trans (CHv.at X hZ hEL hC.1) : CHr Z EL s.vm s.heap T.vm T.heap)), hE.1, hE.2.1, hE.2.2.1, hE.2.2.2.mono hck hsk⟩
theorem own_wS (hw : ∀ d ∈ tables_1, d.before a0 Z = true) : ∀ a ∈ Bundle.stringAtoms, a.before a0 Z = true := fun d hd => hw d ((by decide +kernel : ∀ w ∈ Bundle.stringAtoms, w ∈ tables_1) d hd)
theorem own_fcast {a : Addr} {C n d : String} {v w : Value} (e : v = w) (F : Fld Z h a C n d v) : Fld Z h a C n d w := e ▸ F
end OwnH
def own_EL : List (String × Nat) := [("com/example/unwind/unwind/store/LaneEqualsPinLaw", 7)]
theorem own_ns_root {Z : State} {a0 : Array Value} {O K : String} {n : Nat} (w : (Jvm.Cond.noSuperclass O).before a0 Z = true) (wi : (Jvm.Cond.instantiable K n).before a0 Z = true) (hn : O ≠ K) : NS Z O K := by
  obtain ⟨c, k, h1, h2, h3, -, -⟩ := Cond.noSuperclass_spec w
  obtain ⟨t, kt, g1, -⟩ := Cond.instantiable_spec wi
  have ne := ids_ne h1 g1 hn
  refine ⟨c, t, h1, g1, fun fuel => ?_⟩
  cases fuel with
  | zero => rfl
  | succ f => simp [Vm.isSubclassAux, ne, h2, h3]
theorem own_ns_no {Z : State} {a0 : Array Value} {C S K : String} {n : Nat} (w : (Jvm.Cond.superclass C S).before a0 Z = true) (wi : (Jvm.Cond.instantiable K n).before a0 Z = true) (m : NS Z C K) (hn : C ≠ K) : ∃ c t, Z.vm.findClass C = some c ∧ Z.vm.findClass K = some t ∧ Z.vm.assignable c t = false := by
  obtain ⟨c, t, h0, g0, n3⟩ := m
  obtain ⟨p, k, kp, h1, h2, h3, h4, h5, -, h7⟩ := Cond.superclass_spec h0 w
  obtain ⟨t', kt, g1, g2, g3, g4, -⟩ := Cond.instantiable_spec wi
  cases g0.symm.trans g1
  have ne := ids_ne h0 g0 hn
  have g5 : kt.isInterface = false := by cases hq : kt.isInterface <;> simp [hq] at g4 ⊢
  refine ⟨c, t, h0, g0, ?_⟩
  show Z.vm.assignableAux (255 + 1) c t = false
  simp [Vm.assignableAux, ne, h2, g2, h5, g3, g5, Vm.isSubclass, n3]
theorem own_vcast {Z : State} {h : Heap} {a : Addr} {k : ClassId} {ty : FieldType} {z z' : Int32} {vs vs' : List Value} {d : Value} (hz : z = z') (hv : vs = vs') (F : Arv Z h a k ty z vs d) : Arv Z h a k ty z' vs' d := hz ▸ hv ▸ F
theorem own_fld_eq {Z : State} {h : Heap} {a : Addr} {C n d : String} {v w : Value} (F : Fld Z h a C n d v) (G : Fld Z h a C n d w) : v = w := by
  by_cases q : v = w
  · exact q
  · exact absurd rfl (F.ne G q)
theorem own_len32 {n : Nat} (h : n ≤ 3) : (Int32.ofNat n).toNatClampNeg = n := by
  have : n = 0 ∨ n = 1 ∨ n = 2 ∨ n = 3 := by omega
  rcases this with rfl | rfl | rfl | rfl <;> decide
theorem own_arv_eq {Z : State} {h : Heap} {a : Addr} {k k' : ClassId} {xs ys : List Int32} (hx : xs.length ≤ 3) (hy : ys.length ≤ 3) (A : Arv Z h a k .byte (Int32.ofNat xs.length) (xs.map Value.int) (.int (0 : Int32))) (B : Arv Z h a k' .byte (Int32.ofNat ys.length) (ys.map Value.int) (.int (0 : Int32))) : xs = ys := by
  by_cases hl : xs.length = ys.length
  · apply List.ext_getElem hl
    intro i h1 h2
    by_cases q : xs[i] = ys[i]
    · exact q
    · refine absurd rfl (arv_ne A B (Or.inr ⟨i, ?_, ?_⟩))
      · rw [own_len32 hx]; exact h1
      · simpa [h1, h2] using q
  · exact absurd rfl (arv_ne A B (Or.inl (by rw [own_len32 hx, own_len32 hy]; exact hl)))
/-- one String, met twice: it bears one text -/
theorem own_str_eq {Z : State} {h : Heap} {a b va vb : Addr} {k k' : ClassId} {xs ys : List Int32} (e : a = b) (hx : xs.length ≤ 3) (hy : ys.length ≤ 3) (F : Fld Z h a "java/lang/String" "value" "[B" (.ref va)) (A : Arv Z h va k .byte (Int32.ofNat xs.length) (xs.map Value.int) (.int (0 : Int32))) (G : Fld Z h b "java/lang/String" "value" "[B" (.ref vb)) (B : Arv Z h vb k' .byte (Int32.ofNat ys.length) (ys.map Value.int) (.int (0 : Int32))) : xs = ys := by
  subst e
  have q := own_fld_eq F G
  cases q
  exact own_arv_eq hx hy A B
theorem own_i2c (x : Int32) : nar .char ((x &&& (255 : Int32)).toUInt32.toUInt16.toUInt32.toInt32) = x &&& (255 : Int32) := by
  rw [i2c_mask]; exact i2c_mask x
theorem own_c8 (x : Int32) : ¬ ((255 : Int32) < nar .char ((x &&& (255 : Int32)).toUInt32.toUInt16.toUInt32.toInt32)) := by
  rw [own_i2c, Int32.lt_iff_toInt_lt]
  have h := c_and x 255 (by decide)
  omega
theorem own_if1 {P : Prop} [Decidable P] (h : ¬ (if P then (1 : Int32) else 0) = (0 : Int32)) : (if P then (1 : Int32) else 0) = 1 := by
  by_cases q : P
  · exact if_pos q
  · exact absurd (if_neg q) h
theorem own_f1 {A B C D : List Int32} (h : (if A = B then (1 : Int32) else 0) = (0 : Int32)) : (if A = B ∧ C = D then (1 : Int32) else 0) = (0 : Int32) := if_neg fun q => absurd h (by rw [if_pos q.1]; decide)
theorem own_f1s {A B C D : List Int32} (h : (if A = B then (1 : Int32) else 0) = (0 : Int32)) : (if B = A ∧ D = C then (1 : Int32) else 0) = (0 : Int32) := if_neg fun q => absurd h (by rw [if_pos q.1.symm]; decide)
theorem own_f2 {A B C D : List Int32} (h' : ¬ (if A = B then (1 : Int32) else 0) = (0 : Int32)) (h : (if C = D then (1 : Int32) else 0) = (0 : Int32)) : (if A = B ∧ C = D then (1 : Int32) else 0) = (0 : Int32) := if_neg fun q => absurd h (by rw [if_pos q.2]; decide)
theorem own_f2s {A B C D : List Int32} (h' : ¬ (if A = B then (1 : Int32) else 0) = (0 : Int32)) (h : (if C = D then (1 : Int32) else 0) = (0 : Int32)) : (if B = A ∧ D = C then (1 : Int32) else 0) = (0 : Int32) := if_neg fun q => absurd h (by rw [if_pos q.2.symm]; decide)
theorem own_is {A B : List Int32} (h : ¬ (if A = B then (1 : Int32) else 0) = (0 : Int32)) : A = B := by
  by_cases q : A = B
  · exact q
  · exact absurd (if_neg q) h
theorem own_f3 {A B C D : List Int32} (h : ¬ (if A = B then (1 : Int32) else 0) = (0 : Int32)) (h' : ¬ (if C = D then (1 : Int32) else 0) = (0 : Int32)) : (if A = B ∧ C = D then (1 : Int32) else 0) = (1 : Int32) := if_pos ⟨own_is h, own_is h'⟩
theorem own_f3s {A B C D : List Int32} (h : ¬ (if A = B then (1 : Int32) else 0) = (0 : Int32)) (h' : ¬ (if C = D then (1 : Int32) else 0) = (0 : Int32)) : (if B = A ∧ D = C then (1 : Int32) else 0) = (1 : Int32) := if_pos ⟨(own_is h).symm, (own_is h').symm⟩
def own_str (x : Int32) : List Int32 := if (((x.toUInt32 >>> ((16 : Int32) &&& 31).toUInt32).toInt32) &&& (3 : Int32)) = 0 then [] else if (((x.toUInt32 >>> ((16 : Int32) &&& 31).toUInt32).toInt32) &&& (3 : Int32)) = 1 then [(((x &&& (255 : Int32)).toUInt32.toUInt16.toUInt32.toInt32).toInt8.toInt32)] else [((nar .char ((x &&& (255 : Int32)).toUInt32.toUInt16.toUInt32.toInt32)).toInt8.toInt32), ((nar .char ((((x.toUInt32 >>> ((8 : Int32) &&& 31).toUInt32).toInt32) &&& (255 : Int32)).toUInt32.toUInt16.toUInt32.toInt32)).toInt8.toInt32)]
theorem own_strlen (x : Int32) : (own_str x).length ≤ 3 := by
  unfold own_str; split
  · simp
  · split <;> simp
theorem own_c8i (x : Int32) : ¬ ((255 : Int32) < (x &&& (255 : Int32)).toUInt32.toUInt16.toUInt32.toInt32) := by
  rw [i2c_mask, Int32.lt_iff_toInt_lt]
  have h := c_and x 255 (by decide)
  omega
theorem d9_0 : decode jdk_52_method_21_code 0 = .ok (.iconst 0, 1) := by decide +kernel
theorem d9_1 : decode jdk_52_method_21_code 1 = .ok (.istore 5, 2) := by decide +kernel
theorem d9_3 : decode jdk_52_method_21_code 3 = .ok (.iload 5, 2) := by decide +kernel
theorem d9_5 : decode jdk_52_method_21_code 5 = .ok (.iload 4, 2) := by decide +kernel
theorem d9_7 : decode jdk_52_method_21_code 7 = .ok (.if_icmp .ge 37, 3) := by decide +kernel
theorem d9_10 : decode jdk_52_method_21_code 10 = .ok (.aload_n 0, 1) := by decide +kernel
theorem d9_11 : decode jdk_52_method_21_code 11 = .ok (.iload_n 1, 1) := by decide +kernel
theorem d9_12 : decode jdk_52_method_21_code 12 = .ok (.caload, 1) := by decide +kernel
theorem d9_13 : decode jdk_52_method_21_code 13 = .ok (.istore 6, 2) := by decide +kernel
theorem d9_15 : decode jdk_52_method_21_code 15 = .ok (.iload 6, 2) := by decide +kernel
theorem d9_17 : decode jdk_52_method_21_code 17 = .ok (.sipush 255, 3) := by decide +kernel
theorem d9_20 : decode jdk_52_method_21_code 20 = .ok (.if_icmp .le 6, 3) := by decide +kernel
theorem d9_26 : decode jdk_52_method_21_code 26 = .ok (.aload_n 2, 1) := by decide +kernel
theorem d9_27 : decode jdk_52_method_21_code 27 = .ok (.iload_n 3, 1) := by decide +kernel
theorem d9_28 : decode jdk_52_method_21_code 28 = .ok (.iload 6, 2) := by decide +kernel
theorem d9_30 : decode jdk_52_method_21_code 30 = .ok (.i2b, 1) := by decide +kernel
theorem d9_31 : decode jdk_52_method_21_code 31 = .ok (.bastore, 1) := by decide +kernel
theorem d9_32 : decode jdk_52_method_21_code 32 = .ok (.iinc 1 1, 3) := by decide +kernel
theorem d9_35 : decode jdk_52_method_21_code 35 = .ok (.iinc 3 1, 3) := by decide +kernel
theorem d9_38 : decode jdk_52_method_21_code 38 = .ok (.iinc 5 1, 3) := by decide +kernel
theorem d9_41 : decode jdk_52_method_21_code 41 = .ok (.goto (-38), 3) := by decide +kernel
theorem d9_44 : decode jdk_52_method_21_code 44 = .ok (.iload 4, 2) := by decide +kernel
theorem d9_46 : decode jdk_52_method_21_code 46 = .ok (.ireturn, 1) := by decide +kernel
theorem pn_java_lang_StringUTF16 : plainName "java/lang/StringUTF16" = true := by first | (simp [plainName, overriddenIn]; done) | decide +kernel
theorem ef_cpr2 (m : MethodId) (bc : Addr) (bb : Addr) : entryFrame m #[(.ref bc), (.int (0 : Int32)), (.ref bb), (.int (0 : Int32)), (.int (2 : Int32))] 7 = mkF m 0 #[.val (.ref bc), .val (.int (0 : Int32)), .val (.ref bb), .val (.int (0 : Int32)), .val (.int (2 : Int32)), .unset, .unset] [] := by first | (simp [entryFrame, mkF, argsToLocals, Value.category]; done) | rfl
def Q_cpr2 (Z : State) (bc : Addr) (bb : Addr) (kc : ClassId) (cc0 : Int32) (cc1 : Int32) (kb : ClassId) (h0 : Heap) (n0 : Nat) (v : Option Value) (h : Heap) (L : List Loc) : Prop := v = some (.int (2 : Int32)) ∧ Fr n0 L ∧ Keep h0 h [bb] ∧ Arv Z h bb kb .byte (2 : Int32) [(.int (cc0.toInt8.toInt32)), (.int (cc1.toInt8.toInt32))] (.int (0 : Int32))
set_option maxRecDepth 65536 in
set_option maxHeartbeats 40000000 in
theorem rm_cpr2 (l : Launch) (Z : State) (a0 : Array Value) (hw : ∀ d ∈ tables_1, d.before a0 Z = true) (ws : List Jvm.Cond) (bc : Addr) (bb : Addr) (kc : ClassId) (cc0 : Int32) (cc1 : Int32) (kb : ClassId) (h0 : Heap) (n0 : Nat) (O0 : Old Z n0 h0) (P0 : Arv Z h0 bc kc .char (2 : Int32) [(.int cc0), (.int cc1)] (.int (0 : Int32))) (P1 : Arv Z h0 bb kb .byte (2 : Int32) [(.int (0 : Int32)), (.int (0 : Int32))] (.int (0 : Int32))) (P2 : n0 ≤ bb) (P3 : bc ≠ bb) (hc0 : ¬ ((255 : Int32) < cc0)) (hc1 : ¬ ((255 : Int32) < cc1)) :
    MetFree l (⟨"java/lang/StringUTF16", "compress", "([CI[BII)I"⟩ : MethodName) (head1 (Jvm.Cond.code (⟨"java/lang/StringUTF16", "compress", "([CI[BII)I"⟩ : MethodName) jdk_52_method_21_code 7 (some .int) :: ws) ({ frames := 0, cells := 0, slots := 0, locals := 0 } : Room)) (fun a U => a = #[(.ref bc), (.int (0 : Int32)), (.ref bb), (.int (0 : Int32)), (.int (2 : Int32))] ∧ Z.Warmed39 U.vm ∧ U.heap = h0) (fun _ _ _ _ _ => True) (fun _ U o U' => ∃ v L, o = .returned v ∧ Q_cpr2 Z bc bb kc cc0 cc1 kb h0 n0 v U'.heap L ∧ FrameEnd U o U' L ({ frames := 0, cells := 0, slots := 0, locals := 0 } : Room).cells ({ frames := 0, cells := 0, slots := 0, locals := 0 } : Room).slots) := by
  refine MetFree.of_bodySF (plainFor_of_name pn_java_lang_StringUTF16) hisR ?_
  intro p e s m args below meth c s₁ Bd hml0 hP hK
  obtain ⟨rfl, hZ, hh⟩ := hP
  have hx := Bd.exec
  have hby := Bd.bytes
  have hml : c.maxLocals = 7 := hml0
  have hown : s.vm.findClass "java/lang/StringUTF16" = some m.cls := findClass_of_methodNamed Bd.named
  have hnm := (name_of_methodNamed Bd.named Bd.method).1
  have hlk : meth.locks = false := BodyLoose.notSynchronized Bd
  have X0 : Stand p l e ({ frames := 0, cells := 0, slots := 0, locals := 0 } : Room) s m #[(.ref bc), (.int (0 : Int32)), (.ref bb), (.int (0 : Int32)), (.int (2 : Int32))] below meth c s₁ [] 0 0 := Stand.of_body Bd
  have e0 : s₁.heap = h0 := by rw [← hh, Bd.state]; rfl
  have N0 := Fr.nil n0
  have K0 := Keep.refl h0 [bb]
  rw [ef_cpr2 m bc bb]
  show Go p e below s (fun v h L => Q_cpr2 Z bc bb kc cc0 cc1 kb h0 n0 v h L) ({ frames := 0, cells := 0, slots := 0, locals := 0 } : Room).cells ({ frames := 0, cells := 0, slots := 0, locals := 0 } : Room).slots s₁ (mkF m 0 #[.val (.ref bc), .val (.int (0 : Int32)), .val (.ref bb), .val (.int (0 : Int32)), .val (.int (2 : Int32)), .unset, .unset] [])
  refine Go.step (T' := s₁) (f' := (mkF m 1 #[.val (.ref bc), .val (.int (0 : Int32)), .val (.ref bb), .val (.int (0 : Int32)), .val (.int (2 : Int32)), .unset, .unset] [(.int (0 : Int32))])) (fun t k => XS.iconst X0.here hx rfl (hb hby d9_0) k) ?_
  refine Go.step (T' := s₁) (f' := (mkF m 3 #[.val (.ref bc), .val (.int (0 : Int32)), .val (.ref bb), .val (.int (0 : Int32)), .val (.int (2 : Int32)), .val (.int (0 : Int32)), .unset] [])) (fun t k => XS.istore X0.here hx rfl (hb hby d9_1) rfl (l' := #[.val (.ref bc), .val (.int (0 : Int32)), .val (.ref bb), .val (.int (0 : Int32)), .val (.int (2 : Int32)), .val (.int (0 : Int32)), .unset]) rfl k) ?_
  refine Go.step (T' := s₁) (f' := (mkF m 5 #[.val (.ref bc), .val (.int (0 : Int32)), .val (.ref bb), .val (.int (0 : Int32)), .val (.int (2 : Int32)), .val (.int (0 : Int32)), .unset] [(.int (0 : Int32))])) (fun t k => XS.iload X0.here hx rfl (hb hby d9_3) rfl k) ?_
  refine Go.step (T' := s₁) (f' := (mkF m 7 #[.val (.ref bc), .val (.int (0 : Int32)), .val (.ref bb), .val (.int (0 : Int32)), .val (.int (2 : Int32)), .val (.int (0 : Int32)), .unset] [(.int (2 : Int32)), (.int (0 : Int32))])) (fun t k => XS.iload X0.here hx rfl (hb hby d9_5) rfl k) ?_
  refine Go.step (T' := s₁) (f' := (mkF m 10 #[.val (.ref bc), .val (.int (0 : Int32)), .val (.ref bb), .val (.int (0 : Int32)), .val (.int (2 : Int32)), .val (.int (0 : Int32)), .unset] [])) (fun t k => XS.icmpNo X0.here hx rfl (hb hby d9_7) rfl (tlt (by decide : (0 : Int32) < (2 : Int32))).2.1 k) ?_
  refine Go.step (T' := s₁) (f' := (mkF m 11 #[.val (.ref bc), .val (.int (0 : Int32)), .val (.ref bb), .val (.int (0 : Int32)), .val (.int (2 : Int32)), .val (.int (0 : Int32)), .unset] [(.ref bc)])) (fun t k => XS.aloadN X0.here hx rfl (hb hby d9_10) rfl rfl k) ?_
  refine Go.step (T' := s₁) (f' := (mkF m 12 #[.val (.ref bc), .val (.int (0 : Int32)), .val (.ref bb), .val (.int (0 : Int32)), .val (.int (2 : Int32)), .val (.int (0 : Int32)), .unset] [(.int (0 : Int32)), (.ref bc)])) (fun t k => XS.iloadN X0.here hx rfl (hb hby d9_11) rfl k) ?_
  obtain ⟨ca1, Aa1, qa1, Sa1, Na1, Ha1, Ga1⟩ := id P0
  have ia1 : ¬ ((0 : Int32) < 0 ∨ ca1.slots.size ≤ ((0 : Int32)).toNatClampNeg) := inb_of Sa1 ⟨by decide, by decide⟩
  have va1 := Ha1.at (v := (.int cc0)) ia1 rfl
  refine Go.step (T' := s₁) (f' := (mkF m 13 #[.val (.ref bc), .val (.int (0 : Int32)), .val (.ref bb), .val (.int (0 : Int32)), .val (.int (2 : Int32)), .val (.int (0 : Int32)), .unset] [(.int cc0)])) (fun t k => X0.caload hx (j := (0 : Int32)) (v := (.int cc0)) (by rw [e0]; exact Aa1.1) (State.isArrayOf_alike hZ.alike Aa1.2.1) Aa1.2.2 ia1 va1 (g := (mkF m 12 #[.val (.ref bc), .val (.int (0 : Int32)), .val (.ref bb), .val (.int (0 : Int32)), .val (.int (2 : Int32)), .val (.int (0 : Int32)), .unset] [(.int (0 : Int32)), (.ref bc)])) rfl rfl (hb hby d9_12) t k) ?_
  refine Go.step (T' := s₁) (f' := (mkF m 15 #[.val (.ref bc), .val (.int (0 : Int32)), .val (.ref bb), .val (.int (0 : Int32)), .val (.int (2 : Int32)), .val (.int (0 : Int32)), .val (.int cc0)] [])) (fun t k => XS.istore X0.here hx rfl (hb hby d9_13) rfl (l' := #[.val (.ref bc), .val (.int (0 : Int32)), .val (.ref bb), .val (.int (0 : Int32)), .val (.int (2 : Int32)), .val (.int (0 : Int32)), .val (.int cc0)]) rfl k) ?_
  refine Go.step (T' := s₁) (f' := (mkF m 17 #[.val (.ref bc), .val (.int (0 : Int32)), .val (.ref bb), .val (.int (0 : Int32)), .val (.int (2 : Int32)), .val (.int (0 : Int32)), .val (.int cc0)] [(.int cc0)])) (fun t k => XS.iload X0.here hx rfl (hb hby d9_15) rfl k) ?_
  refine Go.step (T' := s₁) (f' := (mkF m 20 #[.val (.ref bc), .val (.int (0 : Int32)), .val (.ref bb), .val (.int (0 : Int32)), .val (.int (2 : Int32)), .val (.int (0 : Int32)), .val (.int cc0)] [(.int (255 : Int32)), (.int cc0)])) (fun t k => XS.sipush X0.here hx rfl (hb hby d9_17) k) ?_
  refine Go.step (T' := s₁) (f' := (mkF m 26 #[.val (.ref bc), .val (.int (0 : Int32)), .val (.ref bb), .val (.int (0 : Int32)), .val (.int (2 : Int32)), .val (.int (0 : Int32)), .val (.int cc0)] [])) (fun t k => XS.icmpYes X0.here hx rfl (pc0 := 20) (pc' := 26) rfl (hb hby d9_20) rfl (flt hc0).2.2.2 (by decide) (by decide) k) ?_
  refine Go.step (T' := s₁) (f' := (mkF m 27 #[.val (.ref bc), .val (.int (0 : Int32)), .val (.ref bb), .val (.int (0 : Int32)), .val (.int (2 : Int32)), .val (.int (0 : Int32)), .val (.int cc0)] [(.ref bb)])) (fun t k => XS.aloadN X0.here hx rfl (hb hby d9_26) rfl rfl k) ?_
  refine Go.step (T' := s₁) (f' := (mkF m 28 #[.val (.ref bc), .val (.int (0 : Int32)), .val (.ref bb), .val (.int (0 : Int32)), .val (.int (2 : Int32)), .val (.int (0 : Int32)), .val (.int cc0)] [(.int (0 : Int32)), (.ref bb)])) (fun t k => XS.iloadN X0.here hx rfl (hb hby d9_27) rfl k) ?_
  refine Go.step (T' := s₁) (f' := (mkF m 30 #[.val (.ref bc), .val (.int (0 : Int32)), .val (.ref bb), .val (.int (0 : Int32)), .val (.int (2 : Int32)), .val (.int (0 : Int32)), .val (.int cc0)] [(.int cc0), (.int (0 : Int32)), (.ref bb)])) (fun t k => XS.iload X0.here hx rfl (hb hby d9_28) rfl k) ?_
  refine Go.step (T' := s₁) (f' := (mkF m 31 #[.val (.ref bc), .val (.int (0 : Int32)), .val (.ref bb), .val (.int (0 : Int32)), .val (.int (2 : Int32)), .val (.int (0 : Int32)), .val (.int cc0)] [(.int (cc0.toInt8.toInt32)), (.int (0 : Int32)), (.ref bb)])) (fun t k => XS.i2b X0.here hx rfl (hb hby d9_30) rfl k) ?_
  obtain ⟨ca2, Aa2, qa2, Sa2, Na2, Ha2, Ga2⟩ := id P1
  have ia2 : ¬ ((0 : Int32) < 0 ∨ ca2.slots.size ≤ ((0 : Int32)).toNatClampNeg) := inb_of Sa2 ⟨by decide, by decide⟩
  obtain ⟨T3, h3, X3, e3, W3, st3⟩ := stB X0 hx hZ e0 Aa2 (j := (0 : Int32)) ia2 (g := (mkF m 31 #[.val (.ref bc), .val (.int (0 : Int32)), .val (.ref bb), .val (.int (0 : Int32)), .val (.int (2 : Int32)), .val (.int (0 : Int32)), .val (.int cc0)] [(.int (cc0.toInt8.toInt32)), (.int (0 : Int32)), (.ref bb)])) rfl rfl (hb hby d9_31)
  have f4 := Arv.set Aa2 qa2 Sa2 Na2 Ha2 Ga2 (fits_nar_byte _) W3 0 rfl (Nat.le_of_ble_eq_true rfl)
  rw [own_nar8] at f4
  have f5 : Arv Z h3 bb kb .byte (2 : Int32) [(.int (cc0.toInt8.toInt32)), (.int (0 : Int32))] (.int (0 : Int32)) := f4
  have f6 := P0.other W3 P3
  have O7 := O0.wr W3 P2
  have K8 := K0.wr W3 (Or.inl (List.mem_of_getElem? (i := 0) rfl))
  have N9 := Fr.snoc X3 N0 P2
  refine Go.step (T' := T3) (f' := (mkF m 32 #[.val (.ref bc), .val (.int (0 : Int32)), .val (.ref bb), .val (.int (0 : Int32)), .val (.int (2 : Int32)), .val (.int (0 : Int32)), .val (.int cc0)] [])) st3 ?_
  clear st3 X0
  refine Go.step (T' := T3) (f' := (mkF m 35 #[.val (.ref bc), .val (.int ((0 : Int32) + (1 : Int32))), .val (.ref bb), .val (.int (0 : Int32)), .val (.int (2 : Int32)), .val (.int (0 : Int32)), .val (.int cc0)] [])) (fun t k => XS.iinc X3.here hx rfl (hb hby d9_32) rfl (l' := #[.val (.ref bc), .val (.int ((0 : Int32) + (1 : Int32))), .val (.ref bb), .val (.int (0 : Int32)), .val (.int (2 : Int32)), .val (.int (0 : Int32)), .val (.int cc0)]) rfl k) ?_
  rw [show ((0 : Int32) + (1 : Int32)) = (1 : Int32) from by decide]
  refine Go.step (T' := T3) (f' := (mkF m 38 #[.val (.ref bc), .val (.int (1 : Int32)), .val (.ref bb), .val (.int ((0 : Int32) + (1 : Int32))), .val (.int (2 : Int32)), .val (.int (0 : Int32)), .val (.int cc0)] [])) (fun t k => XS.iinc X3.here hx rfl (hb hby d9_35) rfl (l' := #[.val (.ref bc), .val (.int (1 : Int32)), .val (.ref bb), .val (.int ((0 : Int32) + (1 : Int32))), .val (.int (2 : Int32)), .val (.int (0 : Int32)), .val (.int cc0)]) rfl k) ?_
  rw [show ((0 : Int32) + (1 : Int32)) = (1 : Int32) from by decide]
  refine Go.step (T' := T3) (f' := (mkF m 41 #[.val (.ref bc), .val (.int (1 : Int32)), .val (.ref bb), .val (.int (1 : Int32)), .val (.int (2 : Int32)), .val (.int ((0 : Int32) + (1 : Int32))), .val (.int cc0)] [])) (fun t k => XS.iinc X3.here hx rfl (hb hby d9_38) rfl (l' := #[.val (.ref bc), .val (.int (1 : Int32)), .val (.ref bb), .val (.int (1 : Int32)), .val (.int (2 : Int32)), .val (.int ((0 : Int32) + (1 : Int32))), .val (.int cc0)]) rfl k) ?_
  rw [show ((0 : Int32) + (1 : Int32)) = (1 : Int32) from by decide]
  refine Go.step (T' := T3) (f' := (mkF m 3 #[.val (.ref bc), .val (.int (1 : Int32)), .val (.ref bb), .val (.int (1 : Int32)), .val (.int (2 : Int32)), .val (.int (1 : Int32)), .val (.int cc0)] [])) (fun t k => XS.goto X3.here hx rfl (pc0 := 41) (pc' := 3) rfl (hb hby d9_41) (by decide) (by decide) k) ?_
  refine Go.step (T' := T3) (f' := (mkF m 5 #[.val (.ref bc), .val (.int (1 : Int32)), .val (.ref bb), .val (.int (1 : Int32)), .val (.int (2 : Int32)), .val (.int (1 : Int32)), .val (.int cc0)] [(.int (1 : Int32))])) (fun t k => XS.iload X3.here hx rfl (hb hby d9_3) rfl k) ?_
  refine Go.step (T' := T3) (f' := (mkF m 7 #[.val (.ref bc), .val (.int (1 : Int32)), .val (.ref bb), .val (.int (1 : Int32)), .val (.int (2 : Int32)), .val (.int (1 : Int32)), .val (.int cc0)] [(.int (2 : Int32)), (.int (1 : Int32))])) (fun t k => XS.iload X3.here hx rfl (hb hby d9_5) rfl k) ?_
  refine Go.step (T' := T3) (f' := (mkF m 10 #[.val (.ref bc), .val (.int (1 : Int32)), .val (.ref bb), .val (.int (1 : Int32)), .val (.int (2 : Int32)), .val (.int (1 : Int32)), .val (.int cc0)] [])) (fun t k => XS.icmpNo X3.here hx rfl (hb hby d9_7) rfl (tlt (by decide : (1 : Int32) < (2 : Int32))).2.1 k) ?_
  refine Go.step (T' := T3) (f' := (mkF m 11 #[.val (.ref bc), .val (.int (1 : Int32)), .val (.ref bb), .val (.int (1 : Int32)), .val (.int (2 : Int32)), .val (.int (1 : Int32)), .val (.int cc0)] [(.ref bc)])) (fun t k => XS.aloadN X3.here hx rfl (hb hby d9_10) rfl rfl k) ?_
  refine Go.step (T' := T3) (f' := (mkF m 12 #[.val (.ref bc), .val (.int (1 : Int32)), .val (.ref bb), .val (.int (1 : Int32)), .val (.int (2 : Int32)), .val (.int (1 : Int32)), .val (.int cc0)] [(.int (1 : Int32)), (.ref bc)])) (fun t k => XS.iloadN X3.here hx rfl (hb hby d9_11) rfl k) ?_
  obtain ⟨ca10, Aa10, qa10, Sa10, Na10, Ha10, Ga10⟩ := id f6
  have ia10 : ¬ ((1 : Int32) < 0 ∨ ca10.slots.size ≤ ((1 : Int32)).toNatClampNeg) := inb_of Sa10 ⟨by decide, by decide⟩
  have va10 := Ha10.at (v := (.int cc1)) ia10 rfl
  refine Go.step (T' := T3) (f' := (mkF m 13 #[.val (.ref bc), .val (.int (1 : Int32)), .val (.ref bb), .val (.int (1 : Int32)), .val (.int (2 : Int32)), .val (.int (1 : Int32)), .val (.int cc0)] [(.int cc1)])) (fun t k => X3.caload hx (j := (1 : Int32)) (v := (.int cc1)) (by rw [e3]; exact Aa10.1) (State.isArrayOf_alike hZ.alike Aa10.2.1) Aa10.2.2 ia10 va10 (g := (mkF m 12 #[.val (.ref bc), .val (.int (1 : Int32)), .val (.ref bb), .val (.int (1 : Int32)), .val (.int (2 : Int32)), .val (.int (1 : Int32)), .val (.int cc0)] [(.int (1 : Int32)), (.ref bc)])) rfl rfl (hb hby d9_12) t k) ?_
  refine Go.step (T' := T3) (f' := (mkF m 15 #[.val (.ref bc), .val (.int (1 : Int32)), .val (.ref bb), .val (.int (1 : Int32)), .val (.int (2 : Int32)), .val (.int (1 : Int32)), .val (.int cc1)] [])) (fun t k => XS.istore X3.here hx rfl (hb hby d9_13) rfl (l' := #[.val (.ref bc), .val (.int (1 : Int32)), .val (.ref bb), .val (.int (1 : Int32)), .val (.int (2 : Int32)), .val (.int (1 : Int32)), .val (.int cc1)]) rfl k) ?_
  refine Go.step (T' := T3) (f' := (mkF m 17 #[.val (.ref bc), .val (.int (1 : Int32)), .val (.ref bb), .val (.int (1 : Int32)), .val (.int (2 : Int32)), .val (.int (1 : Int32)), .val (.int cc1)] [(.int cc1)])) (fun t k => XS.iload X3.here hx rfl (hb hby d9_15) rfl k) ?_
  refine Go.step (T' := T3) (f' := (mkF m 20 #[.val (.ref bc), .val (.int (1 : Int32)), .val (.ref bb), .val (.int (1 : Int32)), .val (.int (2 : Int32)), .val (.int (1 : Int32)), .val (.int cc1)] [(.int (255 : Int32)), (.int cc1)])) (fun t k => XS.sipush X3.here hx rfl (hb hby d9_17) k) ?_
  refine Go.step (T' := T3) (f' := (mkF m 26 #[.val (.ref bc), .val (.int (1 : Int32)), .val (.ref bb), .val (.int (1 : Int32)), .val (.int (2 : Int32)), .val (.int (1 : Int32)), .val (.int cc1)] [])) (fun t k => XS.icmpYes X3.here hx rfl (pc0 := 20) (pc' := 26) rfl (hb hby d9_20) rfl (flt hc1).2.2.2 (by decide) (by decide) k) ?_
  refine Go.step (T' := T3) (f' := (mkF m 27 #[.val (.ref bc), .val (.int (1 : Int32)), .val (.ref bb), .val (.int (1 : Int32)), .val (.int (2 : Int32)), .val (.int (1 : Int32)), .val (.int cc1)] [(.ref bb)])) (fun t k => XS.aloadN X3.here hx rfl (hb hby d9_26) rfl rfl k) ?_
  refine Go.step (T' := T3) (f' := (mkF m 28 #[.val (.ref bc), .val (.int (1 : Int32)), .val (.ref bb), .val (.int (1 : Int32)), .val (.int (2 : Int32)), .val (.int (1 : Int32)), .val (.int cc1)] [(.int (1 : Int32)), (.ref bb)])) (fun t k => XS.iloadN X3.here hx rfl (hb hby d9_27) rfl k) ?_
  refine Go.step (T' := T3) (f' := (mkF m 30 #[.val (.ref bc), .val (.int (1 : Int32)), .val (.ref bb), .val (.int (1 : Int32)), .val (.int (2 : Int32)), .val (.int (1 : Int32)), .val (.int cc1)] [(.int cc1), (.int (1 : Int32)), (.ref bb)])) (fun t k => XS.iload X3.here hx rfl (hb hby d9_28) rfl k) ?_
  refine Go.step (T' := T3) (f' := (mkF m 31 #[.val (.ref bc), .val (.int (1 : Int32)), .val (.ref bb), .val (.int (1 : Int32)), .val (.int (2 : Int32)), .val (.int (1 : Int32)), .val (.int cc1)] [(.int (cc1.toInt8.toInt32)), (.int (1 : Int32)), (.ref bb)])) (fun t k => XS.i2b X3.here hx rfl (hb hby d9_30) rfl k) ?_
  obtain ⟨ca11, Aa11, qa11, Sa11, Na11, Ha11, Ga11⟩ := id f5
  have ia11 : ¬ ((1 : Int32) < 0 ∨ ca11.slots.size ≤ ((1 : Int32)).toNatClampNeg) := inb_of Sa11 ⟨by decide, by decide⟩
  obtain ⟨T12, h12, X12, e12, W12, st12⟩ := stB X3 hx hZ e3 Aa11 (j := (1 : Int32)) ia11 (g := (mkF m 31 #[.val (.ref bc), .val (.int (1 : Int32)), .val (.ref bb), .val (.int (1 : Int32)), .val (.int (2 : Int32)), .val (.int (1 : Int32)), .val (.int cc1)] [(.int (cc1.toInt8.toInt32)), (.int (1 : Int32)), (.ref bb)])) rfl rfl (hb hby d9_31)
  have f13 := Arv.set Aa11 qa11 Sa11 Na11 Ha11 Ga11 (fits_nar_byte _) W12 1 rfl (Nat.le_of_ble_eq_true rfl)
  rw [own_nar8] at f13
  have f14 : Arv Z h12 bb kb .byte (2 : Int32) [(.int (cc0.toInt8.toInt32)), (.int (cc1.toInt8.toInt32))] (.int (0 : Int32)) := f13
  have f15 := f6.other W12 P3
  have O16 := O7.wr W12 P2
  have K17 := K8.wr W12 (Or.inl (List.mem_of_getElem? (i := 0) rfl))
  have N18 := Fr.snoc X12 N9 P2
  refine Go.step (T' := T12) (f' := (mkF m 32 #[.val (.ref bc), .val (.int (1 : Int32)), .val (.ref bb), .val (.int (1 : Int32)), .val (.int (2 : Int32)), .val (.int (1 : Int32)), .val (.int cc1)] [])) st12 ?_
  clear st12 X3 f6 O7 K8 N9
  refine Go.step (T' := T12) (f' := (mkF m 35 #[.val (.ref bc), .val (.int ((1 : Int32) + (1 : Int32))), .val (.ref bb), .val (.int (1 : Int32)), .val (.int (2 : Int32)), .val (.int (1 : Int32)), .val (.int cc1)] [])) (fun t k => XS.iinc X12.here hx rfl (hb hby d9_32) rfl (l' := #[.val (.ref bc), .val (.int ((1 : Int32) + (1 : Int32))), .val (.ref bb), .val (.int (1 : Int32)), .val (.int (2 : Int32)), .val (.int (1 : Int32)), .val (.int cc1)]) rfl k) ?_
  rw [show ((1 : Int32) + (1 : Int32)) = (2 : Int32) from by decide]
  refine Go.step (T' := T12) (f' := (mkF m 38 #[.val (.ref bc), .val (.int (2 : Int32)), .val (.ref bb), .val (.int ((1 : Int32) + (1 : Int32))), .val (.int (2 : Int32)), .val (.int (1 : Int32)), .val (.int cc1)] [])) (fun t k => XS.iinc X12.here hx rfl (hb hby d9_35) rfl (l' := #[.val (.ref bc), .val (.int (2 : Int32)), .val (.ref bb), .val (.int ((1 : Int32) + (1 : Int32))), .val (.int (2 : Int32)), .val (.int (1 : Int32)), .val (.int cc1)]) rfl k) ?_
  rw [show ((1 : Int32) + (1 : Int32)) = (2 : Int32) from by decide]
  refine Go.step (T' := T12) (f' := (mkF m 41 #[.val (.ref bc), .val (.int (2 : Int32)), .val (.ref bb), .val (.int (2 : Int32)), .val (.int (2 : Int32)), .val (.int ((1 : Int32) + (1 : Int32))), .val (.int cc1)] [])) (fun t k => XS.iinc X12.here hx rfl (hb hby d9_38) rfl (l' := #[.val (.ref bc), .val (.int (2 : Int32)), .val (.ref bb), .val (.int (2 : Int32)), .val (.int (2 : Int32)), .val (.int ((1 : Int32) + (1 : Int32))), .val (.int cc1)]) rfl k) ?_
  rw [show ((1 : Int32) + (1 : Int32)) = (2 : Int32) from by decide]
  refine Go.step (T' := T12) (f' := (mkF m 3 #[.val (.ref bc), .val (.int (2 : Int32)), .val (.ref bb), .val (.int (2 : Int32)), .val (.int (2 : Int32)), .val (.int (2 : Int32)), .val (.int cc1)] [])) (fun t k => XS.goto X12.here hx rfl (pc0 := 41) (pc' := 3) rfl (hb hby d9_41) (by decide) (by decide) k) ?_
  refine Go.step (T' := T12) (f' := (mkF m 5 #[.val (.ref bc), .val (.int (2 : Int32)), .val (.ref bb), .val (.int (2 : Int32)), .val (.int (2 : Int32)), .val (.int (2 : Int32)), .val (.int cc1)] [(.int (2 : Int32))])) (fun t k => XS.iload X12.here hx rfl (hb hby d9_3) rfl k) ?_
  refine Go.step (T' := T12) (f' := (mkF m 7 #[.val (.ref bc), .val (.int (2 : Int32)), .val (.ref bb), .val (.int (2 : Int32)), .val (.int (2 : Int32)), .val (.int (2 : Int32)), .val (.int cc1)] [(.int (2 : Int32)), (.int (2 : Int32))])) (fun t k => XS.iload X12.here hx rfl (hb hby d9_5) rfl k) ?_
  refine Go.step (T' := T12) (f' := (mkF m 44 #[.val (.ref bc), .val (.int (2 : Int32)), .val (.ref bb), .val (.int (2 : Int32)), .val (.int (2 : Int32)), .val (.int (2 : Int32)), .val (.int cc1)] [])) (fun t k => XS.icmpYes X12.here hx rfl (pc0 := 7) (pc' := 44) rfl (hb hby d9_7) rfl (flt (by decide : ¬ ((2 : Int32) < (2 : Int32)))).2.1 (by decide) (by decide) k) ?_
  refine Go.step (T' := T12) (f' := (mkF m 46 #[.val (.ref bc), .val (.int (2 : Int32)), .val (.ref bb), .val (.int (2 : Int32)), .val (.int (2 : Int32)), .val (.int (2 : Int32)), .val (.int cc1)] [(.int (2 : Int32))])) (fun t k => XS.iload X12.here hx rfl (hb hby d9_44) rfl k) ?_
  refine Go.retI X12 hx hlk Bd.returns (hb hby d9_46) e12 ?_ (by decide) (by decide)
  exact ⟨rfl, N18, K17, f14⟩
theorem d8_0 : decode jdk_52_method_16_code 0 = .ok (.iload_n 2, 1) := by decide +kernel
theorem d8_1 : decode jdk_52_method_16_code 1 = .ok (.newarray .byte, 2) := by decide +kernel
theorem d8_3 : decode jdk_52_method_16_code 3 = .ok (.astore_n 3, 1) := by decide +kernel
theorem d8_4 : decode jdk_52_method_16_code 4 = .ok (.aload_n 0, 1) := by decide +kernel
theorem d8_5 : decode jdk_52_method_16_code 5 = .ok (.iload_n 1, 1) := by decide +kernel
theorem d8_6 : decode jdk_52_method_16_code 6 = .ok (.aload_n 3, 1) := by decide +kernel
theorem d8_7 : decode jdk_52_method_16_code 7 = .ok (.iconst 0, 1) := by decide +kernel
theorem d8_8 : decode jdk_52_method_16_code 8 = .ok (.iload_n 2, 1) := by decide +kernel
theorem d8_9 : decode jdk_52_method_16_code 9 = .ok (.invokestatic 115, 3) := by decide +kernel
theorem d8_12 : decode jdk_52_method_16_code 12 = .ok (.istore 4, 2) := by decide +kernel
theorem d8_14 : decode jdk_52_method_16_code 14 = .ok (.iload 4, 2) := by decide +kernel
theorem d8_16 : decode jdk_52_method_16_code 16 = .ok (.iload_n 2, 1) := by decide +kernel
theorem d8_17 : decode jdk_52_method_16_code 17 = .ok (.if_icmp .eq 40, 3) := by decide +kernel
theorem d8_57 : decode jdk_52_method_16_code 57 = .ok (.aload_n 3, 1) := by decide +kernel
theorem d8_58 : decode jdk_52_method_16_code 58 = .ok (.areturn, 1) := by decide +kernel
theorem pd0 : parseMethodDescriptor "([CI[BII)I" = some ⟨[(.array .char), .int, (.array .byte), .int, .int], some .int⟩ := by decide +kernel
theorem ef_cmp2 (m : MethodId) (bc : Addr) : entryFrame m #[(.ref bc), (.int (0 : Int32)), (.int (2 : Int32))] 6 = mkF m 0 #[.val (.ref bc), .val (.int (0 : Int32)), .val (.int (2 : Int32)), .unset, .unset, .unset] [] := by first | (simp [entryFrame, mkF, argsToLocals, Value.category]; done) | rfl
def Q_cmp2 (Z : State) (bc : Addr) (kc : ClassId) (cc0 : Int32) (cc1 : Int32) (h0 : Heap) (n0 : Nat) (v : Option Value) (h : Heap) (L : List Loc) : Prop := ∃ bb : Addr, ∃ kb : ClassId, v = some (.ref bb) ∧ Fr n0 L ∧ Keep h0 h [] ∧ h0.size ≤ bb ∧ Arv Z h bb kb .byte (2 : Int32) [(.int (cc0.toInt8.toInt32)), (.int (cc1.toInt8.toInt32))] (.int (0 : Int32))
set_option maxRecDepth 65536 in
set_option maxHeartbeats 40000000 in
theorem rm_cmp2 (l : Launch) (Z : State) (a0 : Array Value) (hw : ∀ d ∈ tables_1, d.before a0 Z = true) (ws : List Jvm.Cond) (bc : Addr) (kc : ClassId) (cc0 : Int32) (cc1 : Int32) (h0 : Heap) (n0 : Nat) (O0 : Old Z n0 h0) (P0 : Arv Z h0 bc kc .char (2 : Int32) [(.int cc0), (.int cc1)] (.int (0 : Int32))) (hc0 : ¬ ((255 : Int32) < cc0)) (hc1 : ¬ ((255 : Int32) < cc1)) :
    MetFree l (⟨"java/lang/StringUTF16", "compress", "([CII)[B"⟩ : MethodName) (head1 (Jvm.Cond.code (⟨"java/lang/StringUTF16", "compress", "([CII)[B"⟩ : MethodName) jdk_52_method_16_code 6 (some (.array .byte)) :: ws) ({ frames := 1, cells := 1, slots := 2, locals := 18 } : Room)) (fun a U => a = #[(.ref bc), (.int (0 : Int32)), (.int (2 : Int32))] ∧ Z.Warmed39 U.vm ∧ U.heap = h0) (fun _ _ _ _ _ => True) (fun _ U o U' => ∃ v L, o = .returned v ∧ Q_cmp2 Z bc kc cc0 cc1 h0 n0 v U'.heap L ∧ FrameEnd U o U' L ({ frames := 1, cells := 1, slots := 2, locals := 18 } : Room).cells ({ frames := 1, cells := 1, slots := 2, locals := 18 } : Room).slots) := by
  refine MetFree.of_bodySF (plainFor_of_name pn_java_lang_StringUTF16) hisR ?_
  intro p e s m args below meth c s₁ Bd hml0 hP hK
  obtain ⟨rfl, hZ, hh⟩ := hP
  have hx := Bd.exec
  have hby := Bd.bytes
  have hml : c.maxLocals = 6 := hml0
  have hown : s.vm.findClass "java/lang/StringUTF16" = some m.cls := findClass_of_methodNamed Bd.named
  have hnm := (name_of_methodNamed Bd.named Bd.method).1
  have hlk : meth.locks = false := BodyLoose.notSynchronized Bd
  have X0 : Stand p l e ({ frames := 1, cells := 1, slots := 2, locals := 18 } : Room) s m #[(.ref bc), (.int (0 : Int32)), (.int (2 : Int32))] below meth c s₁ [] 0 0 := Stand.of_body Bd
  have e0 : s₁.heap = h0 := by rw [← hh, Bd.state]; rfl
  have N0 := Fr.nil n0
  have K0 := Keep.refl h0 []
  rw [ef_cmp2 m bc]
  show Go p e below s (fun v h L => Q_cmp2 Z bc kc cc0 cc1 h0 n0 v h L) ({ frames := 1, cells := 1, slots := 2, locals := 18 } : Room).cells ({ frames := 1, cells := 1, slots := 2, locals := 18 } : Room).slots s₁ (mkF m 0 #[.val (.ref bc), .val (.int (0 : Int32)), .val (.int (2 : Int32)), .unset, .unset, .unset] [])
  refine Go.step (T' := s₁) (f' := (mkF m 1 #[.val (.ref bc), .val (.int (0 : Int32)), .val (.int (2 : Int32)), .unset, .unset, .unset] [(.int (2 : Int32))])) (fun t k => XS.iloadN X0.here hx rfl (hb hby d8_0) rfl k) ?_
  obtain ⟨T19, h19, k19, X19, e19, E19, A19, Y19, st19⟩ := newPE X0 hx hZ (hw _ (List.mem_of_getElem? (i := 7) rfl)) e0 (g := (mkF m 1 #[.val (.ref bc), .val (.int (0 : Int32)), .val (.int (2 : Int32)), .unset, .unset, .unset] [(.int (2 : Int32))])) rfl (hb hby d8_1) rfl (by decide) (cap := 2) (by decide) (by decide) (by decide) (by decide) (ad := "[B") (by decide)
  obtain ⟨b19, g19⟩ : ∃ z, z = h0.size := ⟨_, rfl⟩
  rw [← g19] at A19 Y19 st19
  have g20 : n0 ≤ b19 := Nat.le_trans (own_old_le O0) (Nat.le_of_eq g19.symm)
  have g21 : h0.size ≤ b19 := Nat.le_trans K0.1 (Nat.le_of_eq g19.symm)
  have ne22 : bc ≠ b19 := Nat.ne_of_lt (Nat.lt_of_lt_of_le P0.lt (Nat.le_of_eq g19.symm))
  have f23 := P0.ext E19
  have O24 := O0.ext E19
  have K25 := K0.ext E19
  have f26 : Arv Z h19 b19 k19 .byte (2 : Int32) [(.int (0 : Int32)), (.int (0 : Int32))] (.int (0 : Int32)) := (Arv.new A19 (by decide)).pad (pad_rep [] (.int (0 : Int32)) 2)
  refine Go.step (T' := T19) (f' := (mkF m 3 #[.val (.ref bc), .val (.int (0 : Int32)), .val (.int (2 : Int32)), .unset, .unset, .unset] [(.ref b19)])) st19 ?_
  clear st19 X0
  refine Go.step (T' := T19) (f' := (mkF m 4 #[.val (.ref bc), .val (.int (0 : Int32)), .val (.int (2 : Int32)), .val (.ref b19), .unset, .unset] [])) (fun t k => XS.astoreN X19.here hx rfl (hb hby d8_3) rfl rfl (l' := #[.val (.ref bc), .val (.int (0 : Int32)), .val (.int (2 : Int32)), .val (.ref b19), .unset, .unset]) rfl k) ?_
  refine Go.step (T' := T19) (f' := (mkF m 5 #[.val (.ref bc), .val (.int (0 : Int32)), .val (.int (2 : Int32)), .val (.ref b19), .unset, .unset] [(.ref bc)])) (fun t k => XS.aloadN X19.here hx rfl (hb hby d8_4) rfl rfl k) ?_
  refine Go.step (T' := T19) (f' := (mkF m 6 #[.val (.ref bc), .val (.int (0 : Int32)), .val (.int (2 : Int32)), .val (.ref b19), .unset, .unset] [(.int (0 : Int32)), (.ref bc)])) (fun t k => XS.iloadN X19.here hx rfl (hb hby d8_5) rfl k) ?_
  refine Go.step (T' := T19) (f' := (mkF m 7 #[.val (.ref bc), .val (.int (0 : Int32)), .val (.int (2 : Int32)), .val (.ref b19), .unset, .unset] [(.ref b19), (.int (0 : Int32)), (.ref bc)])) (fun t k => XS.aloadN X19.here hx rfl (hb hby d8_6) rfl rfl k) ?_
  refine Go.step (T' := T19) (f' := (mkF m 8 #[.val (.ref bc), .val (.int (0 : Int32)), .val (.int (2 : Int32)), .val (.ref b19), .unset, .unset] [(.int (0 : Int32)), (.ref b19), (.int (0 : Int32)), (.ref bc)])) (fun t k => XS.iconst X19.here hx rfl (hb hby d8_7) k) ?_
  refine Go.step (T' := T19) (f' := (mkF m 9 #[.val (.ref bc), .val (.int (0 : Int32)), .val (.int (2 : Int32)), .val (.ref b19), .unset, .unset] [(.int (2 : Int32)), (.int (0 : Int32)), (.ref b19), (.int (0 : Int32)), (.ref bc)])) (fun t k => XS.iloadN X19.here hx rfl (hb hby d8_8) rfl k) ?_
  obtain ⟨_, _, ⟨T27, L27, k27, n27⟩, -, X27, ⟨Lc27, hQ27, l27, y27, z27⟩, st27⟩ := Jvm.LawKit.callS X19 hx (y := (⟨"java/lang/StringUTF16", "compress", "([CI[BII)I"⟩ : MethodName)) hown (mvT hZ (hw _ (List.mem_of_getElem? (i := 55) rfl))) (mvT hZ (hw _ (List.mem_of_getElem? (i := 56) rfl))) (mvT hZ (hw _ (List.mem_of_getElem? (i := 53) rfl))) (mvT hZ (hw _ (List.mem_of_getElem? (i := 57) rfl))) (by decide) (backOf (W := 0) (rm_cpr2 l Z a0 hw [] bc b19 kc cc0 cc1 k19 h19 n0 O24 f23 f26 g20 ne22 hc0 hc1) hZ (hw _ (List.mem_of_getElem? (i := 57) rfl)) (hw _ (List.mem_of_getElem? (i := 53) rfl)) (by decide) (by decide)) (g := (mkF m 9 #[.val (.ref bc), .val (.int (0 : Int32)), .val (.int (2 : Int32)), .val (.ref b19), .unset, .unset] [(.int (2 : Int32)), (.int (0 : Int32)), (.ref b19), (.int (0 : Int32)), (.ref bc)])) rfl (by rw [hml]; rfl) (argsL := [(.ref bc), (.int (0 : Int32)), (.ref b19), (.int (0 : Int32)), (.int (2 : Int32))]) (rest := []) (lenOf pd0 rfl) rfl (by show 2 * 0 + _ ≤ _; exact Nat.le_of_eq rfl) (hb hby d8_9) (fun _ _ => ⟨rfl, e19, (by decide : 1 + 0 ≤ _), (by decide : 2 + 0 ≤ _)⟩)
  dsimp only [Pt.U, Pt.locs, Pt.cells, Pt.slots] at X27 l27 y27 z27 st27 hQ27
  subst l27 y27 z27
  obtain ⟨rfl, Nq27, hh27, p28⟩ := hQ27
  have N29 := Fr.app N0 Nq27
  have f30 := f23.keep hh27 (ninS ne22 nin0)
  have f31 := Y19.keep hh27
  have O32 := O24.keep hh27 (allS g20 all0)
  have K33 := K25.trans hh27 (allS (Or.inr g21) all0)
  refine Go.step (T' := T27) (f' := (mkF m 12 #[.val (.ref bc), .val (.int (0 : Int32)), .val (.int (2 : Int32)), .val (.ref b19), .unset, .unset] [(.int (2 : Int32))])) st27 ?_
  clear st27 X19 Nq27
  refine Go.step (T' := T27) (f' := (mkF m 14 #[.val (.ref bc), .val (.int (0 : Int32)), .val (.int (2 : Int32)), .val (.ref b19), .val (.int (2 : Int32)), .unset] [])) (fun t k => XS.istore X27.here hx rfl (hb hby d8_12) rfl (l' := #[.val (.ref bc), .val (.int (0 : Int32)), .val (.int (2 : Int32)), .val (.ref b19), .val (.int (2 : Int32)), .unset]) rfl k) ?_
  refine Go.step (T' := T27) (f' := (mkF m 16 #[.val (.ref bc), .val (.int (0 : Int32)), .val (.int (2 : Int32)), .val (.ref b19), .val (.int (2 : Int32)), .unset] [(.int (2 : Int32))])) (fun t k => XS.iload X27.here hx rfl (hb hby d8_14) rfl k) ?_
  refine Go.step (T' := T27) (f' := (mkF m 17 #[.val (.ref bc), .val (.int (0 : Int32)), .val (.int (2 : Int32)), .val (.ref b19), .val (.int (2 : Int32)), .unset] [(.int (2 : Int32)), (.int (2 : Int32))])) (fun t k => XS.iloadN X27.here hx rfl (hb hby d8_16) rfl k) ?_
  refine Go.step (T' := T27) (f' := (mkF m 57 #[.val (.ref bc), .val (.int (0 : Int32)), .val (.int (2 : Int32)), .val (.ref b19), .val (.int (2 : Int32)), .unset] [])) (fun t k => XS.icmpYes X27.here hx rfl (pc0 := 17) (pc' := 57) rfl (hb hby d8_17) rfl (teq (by decide : (2 : Int32) = (2 : Int32))).1 (by decide) (by decide) k) ?_
  refine Go.step (T' := T27) (f' := (mkF m 58 #[.val (.ref bc), .val (.int (0 : Int32)), .val (.int (2 : Int32)), .val (.ref b19), .val (.int (2 : Int32)), .unset] [(.ref b19)])) (fun t k => XS.aloadN X27.here hx rfl (hb hby d8_57) rfl rfl k) ?_
  refine Go.retA X27 hx hlk Bd.returns rfl rfl (hb hby d8_58) rfl ?_ (by decide) (by decide)
  exact ⟨b19, k19, rfl, N29, K33, g21, p28⟩
theorem d10_0 : decode jdk_52_method_15_code 0 = .ok (.iload_n 1, 1) := by decide +kernel
theorem d10_1 : decode jdk_52_method_15_code 1 = .ok (.aload_n 0, 1) := by decide +kernel
theorem d10_2 : decode jdk_52_method_15_code 2 = .ok (.arraylength, 1) := by decide +kernel
theorem d10_3 : decode jdk_52_method_15_code 3 = .ok (.isub, 1) := by decide +kernel
theorem d10_4 : decode jdk_52_method_15_code 4 = .ok (.bipush 31, 2) := by decide +kernel
theorem d10_6 : decode jdk_52_method_15_code 6 = .ok (.iushr, 1) := by decide +kernel
theorem d10_7 : decode jdk_52_method_15_code 7 = .ok (.i2b, 1) := by decide +kernel
theorem d10_8 : decode jdk_52_method_15_code 8 = .ok (.ireturn, 1) := by decide +kernel
theorem ef_cod2 (m : MethodId) (bb : Addr) : entryFrame m #[(.ref bb), (.int (2 : Int32))] 2 = mkF m 0 #[.val (.ref bb), .val (.int (2 : Int32))] [] := by first | (simp [entryFrame, mkF, argsToLocals, Value.category]; done) | rfl
def Q_cod2 (Z : State) (bb : Addr) (kb : ClassId) (v0 : Int32) (v1 : Int32) (h0 : Heap) (n0 : Nat) (v : Option Value) (h : Heap) (L : List Loc) : Prop := v = some (.int (0 : Int32)) ∧ Fr n0 L ∧ h = h0
set_option maxRecDepth 65536 in
set_option maxHeartbeats 40000000 in
theorem rm_cod2 (l : Launch) (Z : State) (a0 : Array Value) (hw : ∀ d ∈ tables_1, d.before a0 Z = true) (ws : List Jvm.Cond) (bb : Addr) (kb : ClassId) (v0 : Int32) (v1 : Int32) (h0 : Heap) (n0 : Nat) (O0 : Old Z n0 h0) (P0 : Arv Z h0 bb kb .byte (2 : Int32) [(.int v0), (.int v1)] (.int (0 : Int32))) :
    MetFree l (⟨"java/lang/StringUTF16", "coderFromArrayLen", "([BI)B"⟩ : MethodName) (head1 (Jvm.Cond.code (⟨"java/lang/StringUTF16", "coderFromArrayLen", "([BI)B"⟩ : MethodName) jdk_52_method_15_code 2 (some .byte) :: ws) ({ frames := 0, cells := 0, slots := 0, locals := 0 } : Room)) (fun a U => a = #[(.ref bb), (.int (2 : Int32))] ∧ Z.Warmed39 U.vm ∧ U.heap = h0) (fun _ _ _ _ _ => True) (fun _ U o U' => ∃ v L, o = .returned v ∧ Q_cod2 Z bb kb v0 v1 h0 n0 v U'.heap L ∧ FrameEnd U o U' L ({ frames := 0, cells := 0, slots := 0, locals := 0 } : Room).cells ({ frames := 0, cells := 0, slots := 0, locals := 0 } : Room).slots) := by
  refine MetFree.of_bodySF (plainFor_of_name pn_java_lang_StringUTF16) hisR ?_
  intro p e s m args below meth c s₁ Bd hml0 hP hK
  obtain ⟨rfl, hZ, hh⟩ := hP
  have hx := Bd.exec
  have hby := Bd.bytes
  have hml : c.maxLocals = 2 := hml0
  have hown : s.vm.findClass "java/lang/StringUTF16" = some m.cls := findClass_of_methodNamed Bd.named
  have hnm := (name_of_methodNamed Bd.named Bd.method).1
  have hlk : meth.locks = false := BodyLoose.notSynchronized Bd
  have X0 : Stand p l e ({ frames := 0, cells := 0, slots := 0, locals := 0 } : Room) s m #[(.ref bb), (.int (2 : Int32))] below meth c s₁ [] 0 0 := Stand.of_body Bd
  have e0 : s₁.heap = h0 := by rw [← hh, Bd.state]; rfl
  have N0 := Fr.nil n0
  rw [ef_cod2 m bb]
  show Go p e below s (fun v h L => Q_cod2 Z bb kb v0 v1 h0 n0 v h L) ({ frames := 0, cells := 0, slots := 0, locals := 0 } : Room).cells ({ frames := 0, cells := 0, slots := 0, locals := 0 } : Room).slots s₁ (mkF m 0 #[.val (.ref bb), .val (.int (2 : Int32))] [])
  refine Go.step (T' := s₁) (f' := (mkF m 1 #[.val (.ref bb), .val (.int (2 : Int32))] [(.int (2 : Int32))])) (fun t k => XS.iloadN X0.here hx rfl (hb hby d10_0) rfl k) ?_
  refine Go.step (T' := s₁) (f' := (mkF m 2 #[.val (.ref bb), .val (.int (2 : Int32))] [(.ref bb), (.int (2 : Int32))])) (fun t k => XS.aloadN X0.here hx rfl (hb hby d10_1) rfl rfl k) ?_
  obtain ⟨ca34, Aa34, qa34, Sa34, Na34, Ha34, Ga34⟩ := id P0
  refine Go.step (T' := s₁) (f' := (mkF m 3 #[.val (.ref bb), .val (.int (2 : Int32))] [(.int (2 : Int32)), (.int (2 : Int32))])) (fun t k => own_alen X0 hx hZ e0 Aa34 Sa34 Na34 (g := (mkF m 2 #[.val (.ref bb), .val (.int (2 : Int32))] [(.ref bb), (.int (2 : Int32))])) rfl rfl (hb hby d10_2) k) ?_
  refine Go.step (T' := s₁) (f' := (mkF m 4 #[.val (.ref bb), .val (.int (2 : Int32))] [(.int ((2 : Int32) - (2 : Int32)))])) (fun t k => XS.isub X0.here hx rfl (hb hby d10_3) rfl k) ?_
  rw [show ((2 : Int32) - (2 : Int32)) = (0 : Int32) from by decide]
  refine Go.step (T' := s₁) (f' := (mkF m 6 #[.val (.ref bb), .val (.int (2 : Int32))] [(.int (31 : Int32)), (.int (0 : Int32))])) (fun t k => XS.bipush X0.here hx rfl (hb hby d10_4) k) ?_
  refine Go.step (T' := s₁) (f' := (mkF m 7 #[.val (.ref bb), .val (.int (2 : Int32))] [(.int (((0 : Int32).toUInt32 >>> ((31 : Int32) &&& 31).toUInt32).toInt32))])) (fun t k => XS.iushr X0.here hx rfl (hb hby d10_6) rfl k) ?_
  rw [show (((0 : Int32).toUInt32 >>> ((31 : Int32) &&& 31).toUInt32).toInt32) = (0 : Int32) from by decide]
  refine Go.step (T' := s₁) (f' := (mkF m 8 #[.val (.ref bb), .val (.int (2 : Int32))] [(.int ((0 : Int32).toInt8.toInt32))])) (fun t k => XS.i2b X0.here hx rfl (hb hby d10_7) rfl k) ?_
  rw [show ((0 : Int32).toInt8.toInt32) = (0 : Int32) from by decide]
  refine Go.retZ X0 hx hlk (t := .byte) Bd.returns (by simp) (hb hby d10_8) e0 ?_ (by decide) (by decide)
  exact ⟨rfl, N0, rfl⟩
theorem d7_0 : decode jdk_42_method_149_code 0 = .ok (.aload_n 0, 1) := by decide +kernel
theorem d7_1 : decode jdk_42_method_149_code 1 = .ok (.invokespecial 1, 3) := by decide +kernel
theorem d7_4 : decode jdk_42_method_149_code 4 = .ok (.iload_n 3, 1) := by decide +kernel
theorem d7_5 : decode jdk_42_method_149_code 5 = .ok (.ifCond .ne 22, 3) := by decide +kernel
theorem d7_27 : decode jdk_42_method_149_code 27 = .ok (.getstatic 38, 3) := by decide +kernel
theorem d7_30 : decode jdk_42_method_149_code 30 = .ok (.ifCond .eq 28, 3) := by decide +kernel
theorem d7_33 : decode jdk_42_method_149_code 33 = .ok (.aload_n 1, 1) := by decide +kernel
theorem d7_34 : decode jdk_42_method_149_code 34 = .ok (.iload_n 2, 1) := by decide +kernel
theorem d7_35 : decode jdk_42_method_149_code 35 = .ok (.iload_n 3, 1) := by decide +kernel
theorem d7_36 : decode jdk_42_method_149_code 36 = .ok (.invokestatic 177, 3) := by decide +kernel
theorem d7_39 : decode jdk_42_method_149_code 39 = .ok (.astore 5, 2) := by decide +kernel
theorem d7_41 : decode jdk_42_method_149_code 41 = .ok (.aload_n 0, 1) := by decide +kernel
theorem d7_42 : decode jdk_42_method_149_code 42 = .ok (.aload 5, 2) := by decide +kernel
theorem d7_44 : decode jdk_42_method_149_code 44 = .ok (.iload_n 3, 1) := by decide +kernel
theorem d7_45 : decode jdk_42_method_149_code 45 = .ok (.invokestatic 47, 3) := by decide +kernel
theorem d7_48 : decode jdk_42_method_149_code 48 = .ok (.putfield 15, 3) := by decide +kernel
theorem d7_51 : decode jdk_42_method_149_code 51 = .ok (.aload_n 0, 1) := by decide +kernel
theorem d7_52 : decode jdk_42_method_149_code 52 = .ok (.aload 5, 2) := by decide +kernel
theorem d7_54 : decode jdk_42_method_149_code 54 = .ok (.putfield 9, 3) := by decide +kernel
theorem d7_57 : decode jdk_42_method_149_code 57 = .ok (.return_, 1) := by decide +kernel
theorem pn_java_lang_String : plainName "java/lang/String" = true := by first | (simp [plainName, overriddenIn]; done) | decide +kernel
theorem pd1 : parseMethodDescriptor "([CII)[B" = some ⟨[(.array .char), .int, .int], some (.array .byte)⟩ := by decide +kernel
theorem pd2 : parseMethodDescriptor "([BI)B" = some ⟨[(.array .byte), .int], some .byte⟩ := by decide +kernel
theorem ef_ini4_2 (m : MethodId) (ba : Addr) (bc : Addr) : entryFrame m #[(.ref ba), (.ref bc), (.int (0 : Int32)), (.int (2 : Int32)), .null] 6 = mkF m 0 #[.val (.ref ba), .val (.ref bc), .val (.int (0 : Int32)), .val (.int (2 : Int32)), .val .null, .unset] [] := by first | (simp [entryFrame, mkF, argsToLocals, Value.category]; done) | rfl
def Q_ini4_2 (Z : State) (ba : Addr) (bc : Addr) (kc : ClassId) (cc0 : Int32) (cc1 : Int32) (u0 : Value) (u1 : Value) (wz : Int32) (h0 : Heap) (n0 : Nat) (v : Option Value) (h : Heap) (L : List Loc) : Prop := ∃ bb : Addr, ∃ kb : ClassId, v = none ∧ Fr n0 L ∧ Keep h0 h [ba] ∧ Exa Z h ba "java/lang/String" ∧ Fld Z h ba "java/lang/String" "value" "[B" (.ref bb) ∧ Fld Z h ba "java/lang/String" "coder" "B" (.int (0 : Int32)) ∧ h0.size ≤ bb ∧ Arv Z h bb kb .byte (2 : Int32) [(.int (cc0.toInt8.toInt32)), (.int (cc1.toInt8.toInt32))] (.int (0 : Int32))
set_option maxRecDepth 65536 in
set_option maxHeartbeats 40000000 in
theorem rm_ini4_2 (l : Launch) (Z : State) (a0 : Array Value) (hw : ∀ d ∈ tables_1, d.before a0 Z = true) (ws : List Jvm.Cond) (ba : Addr) (bc : Addr) (kc : ClassId) (cc0 : Int32) (cc1 : Int32) (u0 : Value) (u1 : Value) (wz : Int32) (h0 : Heap) (n0 : Nat) (O0 : Old Z n0 h0) (P0 : Exa Z h0 ba "java/lang/String") (P1 : Fld Z h0 ba "java/lang/String" "value" "[B" u0) (P2 : Fld Z h0 ba "java/lang/String" "coder" "B" u1) (P3 : n0 ≤ ba) (P4 : Arv Z h0 bc kc .char (2 : Int32) [(.int cc0), (.int cc1)] (.int (0 : Int32))) (P5 : bc ≠ ba) (P6 : Sta Z Z.heap "java/lang/String" "COMPACT_STRINGS" "Z" (.int wz)) (hwz : ¬ (wz = (0 : Int32))) (hc0 : ¬ ((255 : Int32) < cc0)) (hc1 : ¬ ((255 : Int32) < cc1)) :
    MetFree l (⟨"java/lang/String", "<init>", "([CIILjava/lang/Void;)V"⟩ : MethodName) (head1 (Jvm.Cond.code (⟨"java/lang/String", "<init>", "([CIILjava/lang/Void;)V"⟩ : MethodName) jdk_42_method_149_code 6 none :: ws) ({ frames := 2, cells := 1, slots := 2, locals := 35 } : Room)) (fun a U => a = #[(.ref ba), (.ref bc), (.int (0 : Int32)), (.int (2 : Int32)), .null] ∧ Z.Warmed39 U.vm ∧ U.heap = h0) (fun _ _ _ _ _ => True) (fun _ U o U' => ∃ v L, o = .returned v ∧ Q_ini4_2 Z ba bc kc cc0 cc1 u0 u1 wz h0 n0 v U'.heap L ∧ FrameEnd U o U' L ({ frames := 2, cells := 1, slots := 2, locals := 35 } : Room).cells ({ frames := 2, cells := 1, slots := 2, locals := 35 } : Room).slots) := by
  refine MetFree.of_bodySF (plainFor_of_name pn_java_lang_String) hisR ?_
  intro p e s m args below meth c s₁ Bd hml0 hP hK
  obtain ⟨rfl, hZ, hh⟩ := hP
  have hx := Bd.exec
  have hby := Bd.bytes
  have hml : c.maxLocals = 6 := hml0
  have hown : s.vm.findClass "java/lang/String" = some m.cls := findClass_of_methodNamed Bd.named
  have hnm := (name_of_methodNamed Bd.named Bd.method).1
  have hlk : meth.locks = false := BodyLoose.notSynchronized Bd
  have X0 : Stand p l e ({ frames := 2, cells := 1, slots := 2, locals := 35 } : Room) s m #[(.ref ba), (.ref bc), (.int (0 : Int32)), (.int (2 : Int32)), .null] below meth c s₁ [] 0 0 := Stand.of_body Bd
  have e0 : s₁.heap = h0 := by rw [← hh, Bd.state]; rfl
  have N0 := Fr.nil n0
  have K0 := Keep.refl h0 [ba]
  rw [ef_ini4_2 m ba bc]
  show Go p e below s (fun v h L => Q_ini4_2 Z ba bc kc cc0 cc1 u0 u1 wz h0 n0 v h L) ({ frames := 2, cells := 1, slots := 2, locals := 35 } : Room).cells ({ frames := 2, cells := 1, slots := 2, locals := 35 } : Room).slots s₁ (mkF m 0 #[.val (.ref ba), .val (.ref bc), .val (.int (0 : Int32)), .val (.int (2 : Int32)), .val .null, .unset] [])
  refine Go.step (T' := s₁) (f' := (mkF m 1 #[.val (.ref ba), .val (.ref bc), .val (.int (0 : Int32)), .val (.int (2 : Int32)), .val .null, .unset] [(.ref ba)])) (fun t k => XS.aloadN X0.here hx rfl (hb hby d7_0) rfl rfl k) ?_
  obtain ⟨T35, X35, e35, st35⟩ := initO X0 hx hZ hown (hw _ (List.mem_of_getElem? (i := 49) rfl)) (hw _ (List.mem_of_getElem? (i := 19) rfl)) (hw _ (List.mem_of_getElem? (i := 20) rfl)) e0 (g := (mkF m 1 #[.val (.ref ba), .val (.ref bc), .val (.int (0 : Int32)), .val (.int (2 : Int32)), .val .null, .unset] [(.ref ba)])) rfl (by rw [hml]; rfl) rfl (hb hby d7_1) (by decide) (W := 0) (by show 2 * 0 + _ ≤ _; exact Nat.le_of_eq rfl) (by decide)
  refine Go.step (T' := T35) (f' := (mkF m 4 #[.val (.ref ba), .val (.ref bc), .val (.int (0 : Int32)), .val (.int (2 : Int32)), .val .null, .unset] [])) st35 ?_
  clear st35 X0
  refine Go.step (T' := T35) (f' := (mkF m 5 #[.val (.ref ba), .val (.ref bc), .val (.int (0 : Int32)), .val (.int (2 : Int32)), .val .null, .unset] [(.int (2 : Int32))])) (fun t k => XS.iloadN X35.here hx rfl (hb hby d7_4) rfl k) ?_
  refine Go.step (T' := T35) (f' := (mkF m 27 #[.val (.ref ba), .val (.ref bc), .val (.int (0 : Int32)), .val (.int (2 : Int32)), .val .null, .unset] [])) (fun t k => XS.ifYes X35.here hx rfl (pc0 := 5) (pc' := 27) rfl (hb hby d7_5) rfl ((if0 _ _).trans (feq (by decide : ¬ ((2 : Int32) = (0 : Int32)))).2) (by decide) (by decide) k) ?_
  obtain ⟨T36, X36, e36, st36⟩ := getS2 X35 hx hZ hown (host := "") (Or.inl (hw _ (List.mem_of_getElem? (i := 50) rfl))) Via.refl e35 (P6.ext O0.2) (g := (mkF m 27 #[.val (.ref ba), .val (.ref bc), .val (.int (0 : Int32)), .val (.int (2 : Int32)), .val .null, .unset] [])) rfl (hb hby d7_27)
  refine Go.step (T' := T36) (f' := (mkF m 30 #[.val (.ref ba), .val (.ref bc), .val (.int (0 : Int32)), .val (.int (2 : Int32)), .val .null, .unset] [(.int wz)])) st36 ?_
  clear st36 X35
  refine Go.step (T' := T36) (f' := (mkF m 33 #[.val (.ref ba), .val (.ref bc), .val (.int (0 : Int32)), .val (.int (2 : Int32)), .val .null, .unset] [])) (fun t k => XS.ifNo X36.here hx rfl (hb hby d7_30) rfl ((if0 _ _).trans (feq hwz).1) k) ?_
  refine Go.step (T' := T36) (f' := (mkF m 34 #[.val (.ref ba), .val (.ref bc), .val (.int (0 : Int32)), .val (.int (2 : Int32)), .val .null, .unset] [(.ref bc)])) (fun t k => XS.aloadN X36.here hx rfl (hb hby d7_33) rfl rfl k) ?_
  refine Go.step (T' := T36) (f' := (mkF m 35 #[.val (.ref ba), .val (.ref bc), .val (.int (0 : Int32)), .val (.int (2 : Int32)), .val .null, .unset] [(.int (0 : Int32)), (.ref bc)])) (fun t k => XS.iloadN X36.here hx rfl (hb hby d7_34) rfl k) ?_
  refine Go.step (T' := T36) (f' := (mkF m 36 #[.val (.ref ba), .val (.ref bc), .val (.int (0 : Int32)), .val (.int (2 : Int32)), .val .null, .unset] [(.int (2 : Int32)), (.int (0 : Int32)), (.ref bc)])) (fun t k => XS.iloadN X36.here hx rfl (hb hby d7_35) rfl k) ?_
  obtain ⟨_, _, ⟨T37, L37, k37, n37⟩, -, X37, ⟨Lc37, hQ37, l37, y37, z37⟩, st37⟩ := Jvm.LawKit.callS X36 hx (y := (⟨"java/lang/StringUTF16", "compress", "([CII)[B"⟩ : MethodName)) hown (mvT hZ (hw _ (List.mem_of_getElem? (i := 51) rfl))) (mvT hZ (hw _ (List.mem_of_getElem? (i := 52) rfl))) (mvT hZ (hw _ (List.mem_of_getElem? (i := 53) rfl))) (mvT hZ (hw _ (List.mem_of_getElem? (i := 54) rfl))) (by decide) (backOf (W := 0) (rm_cmp2 l Z a0 hw [] bc kc cc0 cc1 h0 n0 O0 P4 hc0 hc1) hZ (hw _ (List.mem_of_getElem? (i := 54) rfl)) (hw _ (List.mem_of_getElem? (i := 53) rfl)) (by decide) (by decide)) (g := (mkF m 36 #[.val (.ref ba), .val (.ref bc), .val (.int (0 : Int32)), .val (.int (2 : Int32)), .val .null, .unset] [(.int (2 : Int32)), (.int (0 : Int32)), (.ref bc)])) rfl (by rw [hml]; rfl) (argsL := [(.ref bc), (.int (0 : Int32)), (.int (2 : Int32))]) (rest := []) (lenOf pd1 rfl) rfl (by show 2 * 0 + _ ≤ _; exact Nat.le_of_eq rfl) (hb hby d7_36) (fun _ _ => ⟨rfl, e36, (by decide : 0 + 1 ≤ _), (by decide : 0 + 2 ≤ _)⟩)
  dsimp only [Pt.U, Pt.locs, Pt.cells, Pt.slots] at X37 l37 y37 z37 st37 hQ37
  subst l37 y37 z37
  obtain ⟨u38, u39, rfl, Nq37, hh37, p40, p41⟩ := hQ37
  have N42 := Fr.app N0 Nq37
  have f43 := P0.keep hh37
  have f44 := P1.keep hh37 nin0
  have f45 := P2.keep hh37 nin0
  have f46 := P4.keep hh37 nin0
  have O47 := O0.keep hh37 all0
  have K48 := K0.trans hh37 all0
  have g49 : n0 ≤ u38 := Nat.le_trans (own_old_le O0) p40
  have g50 : h0.size ≤ u38 := Nat.le_trans K0.1 p40
  have ne51 : ba ≠ u38 := Nat.ne_of_lt (Nat.lt_of_lt_of_le P0.lt p40)
  have ne52 : bc ≠ u38 := Nat.ne_of_lt (Nat.lt_of_lt_of_le P4.lt p40)
  refine Go.step (T' := T37) (f' := (mkF m 39 #[.val (.ref ba), .val (.ref bc), .val (.int (0 : Int32)), .val (.int (2 : Int32)), .val .null, .unset] [(.ref u38)])) st37 ?_
  clear st37 X36 Nq37
  refine Go.step (T' := T37) (f' := (mkF m 41 #[.val (.ref ba), .val (.ref bc), .val (.int (0 : Int32)), .val (.int (2 : Int32)), .val .null, .val (.ref u38)] [])) (fun t k => XS.astore X37.here hx rfl (hb hby d7_39) rfl rfl (l' := #[.val (.ref ba), .val (.ref bc), .val (.int (0 : Int32)), .val (.int (2 : Int32)), .val .null, .val (.ref u38)]) rfl k) ?_
  refine Go.step (T' := T37) (f' := (mkF m 42 #[.val (.ref ba), .val (.ref bc), .val (.int (0 : Int32)), .val (.int (2 : Int32)), .val .null, .val (.ref u38)] [(.ref ba)])) (fun t k => XS.aloadN X37.here hx rfl (hb hby d7_41) rfl rfl k) ?_
  refine Go.step (T' := T37) (f' := (mkF m 44 #[.val (.ref ba), .val (.ref bc), .val (.int (0 : Int32)), .val (.int (2 : Int32)), .val .null, .val (.ref u38)] [(.ref u38), (.ref ba)])) (fun t k => XS.aload X37.here hx rfl (hb hby d7_42) rfl rfl k) ?_
  refine Go.step (T' := T37) (f' := (mkF m 45 #[.val (.ref ba), .val (.ref bc), .val (.int (0 : Int32)), .val (.int (2 : Int32)), .val .null, .val (.ref u38)] [(.int (2 : Int32)), (.ref u38), (.ref ba)])) (fun t k => XS.iloadN X37.here hx rfl (hb hby d7_44) rfl k) ?_
  obtain ⟨_, _, ⟨T53, L53, k53, n53⟩, -, X53, ⟨Lc53, hQ53, l53, y53, z53⟩, st53⟩ := Jvm.LawKit.callS X37 hx (y := (⟨"java/lang/StringUTF16", "coderFromArrayLen", "([BI)B"⟩ : MethodName)) hown (mvT hZ (hw _ (List.mem_of_getElem? (i := 58) rfl))) (mvT hZ (hw _ (List.mem_of_getElem? (i := 59) rfl))) (mvT hZ (hw _ (List.mem_of_getElem? (i := 53) rfl))) (mvT hZ (hw _ (List.mem_of_getElem? (i := 60) rfl))) (by decide) (backOf (W := 1) (rm_cod2 l Z a0 hw [] u38 u39 (cc0.toInt8.toInt32) (cc1.toInt8.toInt32) T37.heap n0 O47 p41) hZ (hw _ (List.mem_of_getElem? (i := 60) rfl)) (hw _ (List.mem_of_getElem? (i := 53) rfl)) (by decide) (by decide)) (g := (mkF m 45 #[.val (.ref ba), .val (.ref bc), .val (.int (0 : Int32)), .val (.int (2 : Int32)), .val .null, .val (.ref u38)] [(.int (2 : Int32)), (.ref u38), (.ref ba)])) rfl (by rw [hml]; rfl) (argsL := [(.ref u38), (.int (2 : Int32))]) (rest := [(.ref ba)]) (lenOf pd2 rfl) rfl (by show 2 * 0 + _ ≤ _; exact Nat.le_of_eq rfl) (hb hby d7_45) (fun _ _ => ⟨rfl, rfl, (by decide : 1 + 0 ≤ _), (by decide : 2 + 0 ≤ _)⟩)
  dsimp only [Pt.U, Pt.locs, Pt.cells, Pt.slots] at X53 l53 y53 z53 st53 hQ53
  subst l53 y53 z53
  obtain ⟨rfl, Nq53, hh53⟩ := hQ53
  have N54 := Fr.app N42 Nq53
  refine Go.step (T' := T53) (f' := (mkF m 48 #[.val (.ref ba), .val (.ref bc), .val (.int (0 : Int32)), .val (.int (2 : Int32)), .val .null, .val (.ref u38)] [(.int (0 : Int32)), (.ref ba)])) st53 ?_
  clear st53 X37 N42 Nq53
  obtain ⟨T55, h55, X55, e55, W55, st55⟩ := putFN X53 hx hZ hown (hw _ (List.mem_of_getElem? (i := 61) rfl)) Via.refl hh53 f45 f43 (Or.inr ⟨(hw _ (List.mem_of_getElem? (i := 9) rfl)), rfl, hnm⟩) (hw _ (List.mem_of_getElem? (i := 6) rfl)) (ty := .byte) (v' := (.int (0 : Int32))) (by decide) rfl (by decide) (g := (mkF m 48 #[.val (.ref ba), .val (.ref bc), .val (.int (0 : Int32)), .val (.int (2 : Int32)), .val .null, .val (.ref u38)] [(.int (0 : Int32)), (.ref ba)])) rfl rfl (hb hby d7_48)
  have f56 := f45.same W55
  have f57 := f43.wr W55
  have f58 := f44.other W55 (Or.inr (slot_ne (Or.inr (hw _ (List.mem_of_getElem? (i := 8) rfl))) (Or.inr (hw _ (List.mem_of_getElem? (i := 9) rfl))) (by decide) (t := (.array .byte)) (t' := .byte) (by decide) (by decide)))
  have f59 := f46.other W55 P5
  have f60 := p41.other W55 (Ne.symm ne51)
  have O61 := O47.wr W55 P3
  have K62 := K48.wr W55 (Or.inl (List.mem_of_getElem? (i := 0) rfl))
  have N63 := Fr.snoc X55 N54 P3
  refine Go.step (T' := T55) (f' := (mkF m 51 #[.val (.ref ba), .val (.ref bc), .val (.int (0 : Int32)), .val (.int (2 : Int32)), .val .null, .val (.ref u38)] [])) st55 ?_
  clear st55 X53 f43 f44 f46 p41 O47 K48 N54
  refine Go.step (T' := T55) (f' := (mkF m 52 #[.val (.ref ba), .val (.ref bc), .val (.int (0 : Int32)), .val (.int (2 : Int32)), .val .null, .val (.ref u38)] [(.ref ba)])) (fun t k => XS.aloadN X55.here hx rfl (hb hby d7_51) rfl rfl k) ?_
  refine Go.step (T' := T55) (f' := (mkF m 54 #[.val (.ref ba), .val (.ref bc), .val (.int (0 : Int32)), .val (.int (2 : Int32)), .val .null, .val (.ref u38)] [(.ref u38), (.ref ba)])) (fun t k => XS.aload X55.here hx rfl (hb hby d7_52) rfl rfl k) ?_
  obtain ⟨T64, h64, X64, e64, W64, st64⟩ := putF X55 hx hZ hown (host := "") (Or.inl (hw _ (List.mem_of_getElem? (i := 62) rfl))) Via.refl e55 f58 f57 (Or.inr ⟨(hw _ (List.mem_of_getElem? (i := 8) rfl)), rfl, hnm⟩) (hw _ (List.mem_of_getElem? (i := 6) rfl)) (ty := (.array .byte)) (by decide) rfl rfl (g := (mkF m 54 #[.val (.ref ba), .val (.ref bc), .val (.int (0 : Int32)), .val (.int (2 : Int32)), .val .null, .val (.ref u38)] [(.ref u38), (.ref ba)])) rfl rfl (hb hby d7_54)
  have f65 := f58.same W64
  have f66 := f57.wr W64
  have f67 := f59.other W64 P5
  have f68 := f60.other W64 (Ne.symm ne51)
  have f69 := f56.other W64 (Or.inr (slot_ne (Or.inr (hw _ (List.mem_of_getElem? (i := 9) rfl))) (Or.inr (hw _ (List.mem_of_getElem? (i := 8) rfl))) (by decide) (t := .byte) (t' := (.array .byte)) (by decide) (by decide)))
  have O70 := O61.wr W64 P3
  have K71 := K62.wr W64 (Or.inl (List.mem_of_getElem? (i := 0) rfl))
  have N72 := Fr.snoc X64 N63 P3
  refine Go.step (T' := T64) (f' := (mkF m 57 #[.val (.ref ba), .val (.ref bc), .val (.int (0 : Int32)), .val (.int (2 : Int32)), .val .null, .val (.ref u38)] [])) st64 ?_
  clear st64 X55 f57 f59 f60 f56 O61 K62 N63
  refine Go.retV X64 hx hlk Bd.returns (hb hby d7_57) e64 ?_ (by decide) (by decide)
  exact ⟨u38, u39, rfl, N72, K71, f66, f65, f69, g50, f68⟩
theorem d6_0 : decode jdk_42_method_3_code 0 = .ok (.aload_n 0, 1) := by decide +kernel
theorem d6_1 : decode jdk_42_method_3_code 1 = .ok (.aload_n 1, 1) := by decide +kernel
theorem d6_2 : decode jdk_42_method_3_code 2 = .ok (.iconst 0, 1) := by decide +kernel
theorem d6_3 : decode jdk_42_method_3_code 3 = .ok (.aload_n 1, 1) := by decide +kernel
theorem d6_4 : decode jdk_42_method_3_code 4 = .ok (.arraylength, 1) := by decide +kernel
theorem d6_5 : decode jdk_42_method_3_code 5 = .ok (.aconst_null, 1) := by decide +kernel
theorem d6_6 : decode jdk_42_method_3_code 6 = .ok (.invokespecial 27, 3) := by decide +kernel
theorem d6_9 : decode jdk_42_method_3_code 9 = .ok (.return_, 1) := by decide +kernel
theorem pd3 : parseMethodDescriptor "([CIILjava/lang/Void;)V" = some ⟨[(.array .char), .int, .int, (.object "java/lang/Void")], none⟩ := by decide +kernel
theorem ef_ini1_2 (m : MethodId) (ba : Addr) (bc : Addr) : entryFrame m #[(.ref ba), (.ref bc)] 2 = mkF m 0 #[.val (.ref ba), .val (.ref bc)] [] := by first | (simp [entryFrame, mkF, argsToLocals, Value.category]; done) | rfl
def Q_ini1_2 (Z : State) (ba : Addr) (bc : Addr) (kc : ClassId) (cc0 : Int32) (cc1 : Int32) (u0 : Value) (u1 : Value) (wz : Int32) (h0 : Heap) (n0 : Nat) (v : Option Value) (h : Heap) (L : List Loc) : Prop := ∃ bb : Addr, ∃ kb : ClassId, v = none ∧ Fr n0 L ∧ Keep h0 h [ba] ∧ Exa Z h ba "java/lang/String" ∧ Fld Z h ba "java/lang/String" "value" "[B" (.ref bb) ∧ Fld Z h ba "java/lang/String" "coder" "B" (.int (0 : Int32)) ∧ h0.size ≤ bb ∧ Arv Z h bb kb .byte (2 : Int32) [(.int (cc0.toInt8.toInt32)), (.int (cc1.toInt8.toInt32))] (.int (0 : Int32))
set_option maxRecDepth 65536 in
set_option maxHeartbeats 40000000 in
theorem rm_ini1_2 (l : Launch) (Z : State) (a0 : Array Value) (hw : ∀ d ∈ tables_1, d.before a0 Z = true) (ws : List Jvm.Cond) (ba : Addr) (bc : Addr) (kc : ClassId) (cc0 : Int32) (cc1 : Int32) (u0 : Value) (u1 : Value) (wz : Int32) (h0 : Heap) (n0 : Nat) (O0 : Old Z n0 h0) (P0 : Exa Z h0 ba "java/lang/String") (P1 : Fld Z h0 ba "java/lang/String" "value" "[B" u0) (P2 : Fld Z h0 ba "java/lang/String" "coder" "B" u1) (P3 : n0 ≤ ba) (P4 : Arv Z h0 bc kc .char (2 : Int32) [(.int cc0), (.int cc1)] (.int (0 : Int32))) (P5 : bc ≠ ba) (P6 : Sta Z Z.heap "java/lang/String" "COMPACT_STRINGS" "Z" (.int wz)) (hwz : ¬ (wz = (0 : Int32))) (hc0 : ¬ ((255 : Int32) < cc0)) (hc1 : ¬ ((255 : Int32) < cc1)) :
    MetFree l (⟨"java/lang/String", "<init>", "([C)V"⟩ : MethodName) (head1 (Jvm.Cond.code (⟨"java/lang/String", "<init>", "([C)V"⟩ : MethodName) jdk_42_method_3_code 2 none :: ws) ({ frames := 3, cells := 1, slots := 2, locals := 52 } : Room)) (fun a U => a = #[(.ref ba), (.ref bc)] ∧ Z.Warmed39 U.vm ∧ U.heap = h0) (fun _ _ _ _ _ => True) (fun _ U o U' => ∃ v L, o = .returned v ∧ Q_ini1_2 Z ba bc kc cc0 cc1 u0 u1 wz h0 n0 v U'.heap L ∧ FrameEnd U o U' L ({ frames := 3, cells := 1, slots := 2, locals := 52 } : Room).cells ({ frames := 3, cells := 1, slots := 2, locals := 52 } : Room).slots) := by
  refine MetFree.of_bodySF (plainFor_of_name pn_java_lang_String) hisR ?_
  intro p e s m args below meth c s₁ Bd hml0 hP hK
  obtain ⟨rfl, hZ, hh⟩ := hP
  have hx := Bd.exec
  have hby := Bd.bytes
  have hml : c.maxLocals = 2 := hml0
  have hown : s.vm.findClass "java/lang/String" = some m.cls := findClass_of_methodNamed Bd.named
  have hnm := (name_of_methodNamed Bd.named Bd.method).1
  have hlk : meth.locks = false := BodyLoose.notSynchronized Bd
  have X0 : Stand p l e ({ frames := 3, cells := 1, slots := 2, locals := 52 } : Room) s m #[(.ref ba), (.ref bc)] below meth c s₁ [] 0 0 := Stand.of_body Bd
  have e0 : s₁.heap = h0 := by rw [← hh, Bd.state]; rfl
  have N0 := Fr.nil n0
  have K0 := Keep.refl h0 [ba]
  rw [ef_ini1_2 m ba bc]
  show Go p e below s (fun v h L => Q_ini1_2 Z ba bc kc cc0 cc1 u0 u1 wz h0 n0 v h L) ({ frames := 3, cells := 1, slots := 2, locals := 52 } : Room).cells ({ frames := 3, cells := 1, slots := 2, locals := 52 } : Room).slots s₁ (mkF m 0 #[.val (.ref ba), .val (.ref bc)] [])
  refine Go.step (T' := s₁) (f' := (mkF m 1 #[.val (.ref ba), .val (.ref bc)] [(.ref ba)])) (fun t k => XS.aloadN X0.here hx rfl (hb hby d6_0) rfl rfl k) ?_
  refine Go.step (T' := s₁) (f' := (mkF m 2 #[.val (.ref ba), .val (.ref bc)] [(.ref bc), (.ref ba)])) (fun t k => XS.aloadN X0.here hx rfl (hb hby d6_1) rfl rfl k) ?_
  refine Go.step (T' := s₁) (f' := (mkF m 3 #[.val (.ref ba), .val (.ref bc)] [(.int (0 : Int32)), (.ref bc), (.ref ba)])) (fun t k => XS.iconst X0.here hx rfl (hb hby d6_2) k) ?_
  refine Go.step (T' := s₁) (f' := (mkF m 4 #[.val (.ref ba), .val (.ref bc)] [(.ref bc), (.int (0 : Int32)), (.ref bc), (.ref ba)])) (fun t k => XS.aloadN X0.here hx rfl (hb hby d6_3) rfl rfl k) ?_
  obtain ⟨ca73, Aa73, qa73, Sa73, Na73, Ha73, Ga73⟩ := id P4
  refine Go.step (T' := s₁) (f' := (mkF m 5 #[.val (.ref ba), .val (.ref bc)] [(.int (2 : Int32)), (.int (0 : Int32)), (.ref bc), (.ref ba)])) (fun t k => own_alen X0 hx hZ e0 Aa73 Sa73 Na73 (g := (mkF m 4 #[.val (.ref ba), .val (.ref bc)] [(.ref bc), (.int (0 : Int32)), (.ref bc), (.ref ba)])) rfl rfl (hb hby d6_4) k) ?_
  refine Go.step (T' := s₁) (f' := (mkF m 6 #[.val (.ref ba), .val (.ref bc)] [.null, (.int (2 : Int32)), (.int (0 : Int32)), (.ref bc), (.ref ba)])) (fun t k => XS.aconstNull X0.here hx rfl (hb hby d6_5) k) ?_
  obtain ⟨_, _, ⟨T74, L74, k74, n74⟩, -, X74, ⟨Lc74, hQ74, l74, y74, z74⟩, st74⟩ := X0.specialBack hx (y := (⟨"java/lang/String", "<init>", "([CIILjava/lang/Void;)V"⟩ : MethodName)) rfl hown (mvT hZ (hw _ (List.mem_of_getElem? (i := 45) rfl))) (mvT hZ (hw _ (List.mem_of_getElem? (i := 46) rfl))) (mvT hZ (hw _ (List.mem_of_getElem? (i := 48) rfl))) (by decide) (backOf (W := 0) (rm_ini4_2 l Z a0 hw [] ba bc kc cc0 cc1 u0 u1 wz h0 n0 O0 P0 P1 P2 P3 P4 P5 P6 hwz hc0 hc1) hZ (hw _ (List.mem_of_getElem? (i := 48) rfl)) (hw _ (List.mem_of_getElem? (i := 5) rfl)) (by decide) (by decide)) (g := (mkF m 6 #[.val (.ref ba), .val (.ref bc)] [.null, (.int (2 : Int32)), (.int (0 : Int32)), (.ref bc), (.ref ba)])) rfl (by rw [hml]; rfl) (Steps.refl _) (a := ba) (argsL := [(.ref bc), (.int (0 : Int32)), (.int (2 : Int32)), .null]) (rest := []) (lenOf pd3 rfl) rfl (by show 2 * 0 + _ ≤ _; exact Nat.le_of_eq rfl) (hb hby d6_6) (fun _ _ => ⟨rfl, e0, (by decide : 0 + 1 ≤ _), (by decide : 0 + 2 ≤ _)⟩)
  dsimp only [Pt.U, Pt.locs, Pt.cells, Pt.slots] at X74 l74 y74 z74 st74 hQ74
  subst l74 y74 z74
  obtain ⟨u75, u76, rfl, Nq74, hh74, p77, p78, p79, p80, p81⟩ := hQ74
  have N82 := Fr.app N0 Nq74
  have f83 := P0.keep hh74
  have f84 := P4.keep hh74 (ninS P5 nin0)
  have O85 := O0.keep hh74 (allS P3 all0)
  have K86 := K0.trans hh74 (allS (Or.inl (List.mem_of_getElem? (i := 0) rfl)) all0)
  have g87 : n0 ≤ u75 := Nat.le_trans (own_old_le O0) p80
  have g88 : h0.size ≤ u75 := Nat.le_trans K0.1 p80
  have ne89 : ba ≠ u75 := Nat.ne_of_lt (Nat.lt_of_lt_of_le P0.lt p80)
  have ne90 : bc ≠ u75 := Nat.ne_of_lt (Nat.lt_of_lt_of_le P4.lt p80)
  refine Go.via (T' := T74) (f' := (mkF m 9 #[.val (.ref ba), .val (.ref bc)] [])) st74 ?_
  clear st74 X0 Nq74
  refine Go.retV X74 hx hlk Bd.returns (hb hby d6_9) rfl ?_ (by decide) (by decide)
  exact ⟨u75, u76, rfl, N82, K86, p77, p78, p79, g88, p81⟩
theorem d11_0 : decode jdk_43_method_13_code 0 = .ok (.aload_n 0, 1) := by decide +kernel
theorem d11_1 : decode jdk_43_method_13_code 1 = .ok (.arraylength, 1) := by decide +kernel
theorem d11_2 : decode jdk_43_method_13_code 2 = .ok (.aload_n 1, 1) := by decide +kernel
theorem d11_3 : decode jdk_43_method_13_code 3 = .ok (.arraylength, 1) := by decide +kernel
theorem d11_4 : decode jdk_43_method_13_code 4 = .ok (.if_icmp .ne 30, 3) := by decide +kernel
theorem d11_7 : decode jdk_43_method_13_code 7 = .ok (.iconst 0, 1) := by decide +kernel
theorem d11_8 : decode jdk_43_method_13_code 8 = .ok (.istore_n 2, 1) := by decide +kernel
theorem d11_9 : decode jdk_43_method_13_code 9 = .ok (.iload_n 2, 1) := by decide +kernel
theorem d11_10 : decode jdk_43_method_13_code 10 = .ok (.aload_n 0, 1) := by decide +kernel
theorem d11_11 : decode jdk_43_method_13_code 11 = .ok (.arraylength, 1) := by decide +kernel
theorem d11_12 : decode jdk_43_method_13_code 12 = .ok (.if_icmp .ge 20, 3) := by decide +kernel
theorem d11_15 : decode jdk_43_method_13_code 15 = .ok (.aload_n 0, 1) := by decide +kernel
theorem d11_16 : decode jdk_43_method_13_code 16 = .ok (.iload_n 2, 1) := by decide +kernel
theorem d11_17 : decode jdk_43_method_13_code 17 = .ok (.baload, 1) := by decide +kernel
theorem d11_18 : decode jdk_43_method_13_code 18 = .ok (.aload_n 1, 1) := by decide +kernel
theorem d11_19 : decode jdk_43_method_13_code 19 = .ok (.iload_n 2, 1) := by decide +kernel
theorem d11_20 : decode jdk_43_method_13_code 20 = .ok (.baload, 1) := by decide +kernel
theorem d11_21 : decode jdk_43_method_13_code 21 = .ok (.if_icmp .eq 5, 3) := by decide +kernel
theorem d11_24 : decode jdk_43_method_13_code 24 = .ok (.iconst 0, 1) := by decide +kernel
theorem d11_25 : decode jdk_43_method_13_code 25 = .ok (.ireturn, 1) := by decide +kernel
theorem d11_26 : decode jdk_43_method_13_code 26 = .ok (.iinc 2 1, 3) := by decide +kernel
theorem d11_29 : decode jdk_43_method_13_code 29 = .ok (.goto (-20), 3) := by decide +kernel
theorem d11_32 : decode jdk_43_method_13_code 32 = .ok (.iconst 1, 1) := by decide +kernel
theorem d11_33 : decode jdk_43_method_13_code 33 = .ok (.ireturn, 1) := by decide +kernel
theorem d11_34 : decode jdk_43_method_13_code 34 = .ok (.iconst 0, 1) := by decide +kernel
theorem d11_35 : decode jdk_43_method_13_code 35 = .ok (.ireturn, 1) := by decide +kernel
theorem pn_java_lang_StringLatin1 : plainName "java/lang/StringLatin1" = true := by first | (simp [plainName, overriddenIn]; done) | decide +kernel
theorem ef_leq (m : MethodId) (ba : Addr) (bb : Addr) : entryFrame m #[(.ref ba), (.ref bb)] 3 = mkF m 0 #[.val (.ref ba), .val (.ref bb), .unset] [] := by first | (simp [entryFrame, mkF, argsToLocals, Value.category]; done) | rfl
def Q_leq (Z : State) (ba : Addr) (bb : Addr) (ka : ClassId) (kb : ClassId) (xs : List Int32) (ys : List Int32) (h0 : Heap) (n0 : Nat) (v : Option Value) (h : Heap) (L : List Loc) : Prop := v = some (.int (if xs = ys then (1 : Int32) else 0)) ∧ Fr n0 L ∧ h = h0
set_option maxRecDepth 65536 in
set_option maxHeartbeats 40000000 in
theorem rm_leq (l : Launch) (Z : State) (a0 : Array Value) (hw : ∀ d ∈ tables_1, d.before a0 Z = true) (ws : List Jvm.Cond) (ba : Addr) (bb : Addr) (ka : ClassId) (kb : ClassId) (xs : List Int32) (ys : List Int32) (h0 : Heap) (n0 : Nat) (O0 : Old Z n0 h0) (P0 : Arv Z h0 ba ka .byte (Int32.ofNat xs.length) (xs.map Value.int) (.int (0 : Int32))) (P1 : Arv Z h0 bb kb .byte (Int32.ofNat ys.length) (ys.map Value.int) (.int (0 : Int32))) (hlx : xs.length ≤ 3) (hly : ys.length ≤ 3) :
    MetFree l (⟨"java/lang/StringLatin1", "equals", "([B[B)Z"⟩ : MethodName) (head1 (Jvm.Cond.code (⟨"java/lang/StringLatin1", "equals", "([B[B)Z"⟩ : MethodName) jdk_43_method_13_code 3 (some .boolean) :: ws) ({ frames := 0, cells := 0, slots := 0, locals := 0 } : Room)) (fun a U => a = #[(.ref ba), (.ref bb)] ∧ Z.Warmed39 U.vm ∧ U.heap = h0) (fun _ _ _ _ _ => True) (fun _ U o U' => ∃ v L, o = .returned v ∧ Q_leq Z ba bb ka kb xs ys h0 n0 v U'.heap L ∧ FrameEnd U o U' L ({ frames := 0, cells := 0, slots := 0, locals := 0 } : Room).cells ({ frames := 0, cells := 0, slots := 0, locals := 0 } : Room).slots) := by
  refine MetFree.of_bodySF (plainFor_of_name pn_java_lang_StringLatin1) hisR ?_
  intro p e s m args below meth c s₁ Bd hml0 hP hK
  obtain ⟨rfl, hZ, hh⟩ := hP
  have hx := Bd.exec
  have hby := Bd.bytes
  have hml : c.maxLocals = 3 := hml0
  have hown : s.vm.findClass "java/lang/StringLatin1" = some m.cls := findClass_of_methodNamed Bd.named
  have hnm := (name_of_methodNamed Bd.named Bd.method).1
  have hlk : meth.locks = false := BodyLoose.notSynchronized Bd
  have X0 : Stand p l e ({ frames := 0, cells := 0, slots := 0, locals := 0 } : Room) s m #[(.ref ba), (.ref bb)] below meth c s₁ [] 0 0 := Stand.of_body Bd
  have e0 : s₁.heap = h0 := by rw [← hh, Bd.state]; rfl
  have N0 := Fr.nil n0
  rw [ef_leq m ba bb]
  show Go p e below s (fun v h L => Q_leq Z ba bb ka kb xs ys h0 n0 v h L) ({ frames := 0, cells := 0, slots := 0, locals := 0 } : Room).cells ({ frames := 0, cells := 0, slots := 0, locals := 0 } : Room).slots s₁ (mkF m 0 #[.val (.ref ba), .val (.ref bb), .unset] [])
  rcases xs with _ | ⟨x0, _ | ⟨x1, _ | ⟨x2, _ | ⟨x3, xs⟩⟩⟩⟩
  ·
    rcases ys with _ | ⟨y0, _ | ⟨y1, _ | ⟨y2, _ | ⟨y3, ys⟩⟩⟩⟩
    ·
      have f91 : Arv Z h0 ba ka .byte (0 : Int32) [] (.int (0 : Int32)) := P0
      have f92 : Arv Z h0 bb kb .byte (0 : Int32) [] (.int (0 : Int32)) := P1
      refine Go.step (T' := s₁) (f' := (mkF m 1 #[.val (.ref ba), .val (.ref bb), .unset] [(.ref ba)])) (fun t k => XS.aloadN X0.here hx rfl (hb hby d11_0) rfl rfl k) ?_
      obtain ⟨ca93, Aa93, qa93, Sa93, Na93, Ha93, Ga93⟩ := id f91
      refine Go.step (T' := s₁) (f' := (mkF m 2 #[.val (.ref ba), .val (.ref bb), .unset] [(.int (0 : Int32))])) (fun t k => own_alen X0 hx hZ e0 Aa93 Sa93 Na93 (g := (mkF m 1 #[.val (.ref ba), .val (.ref bb), .unset] [(.ref ba)])) rfl rfl (hb hby d11_1) k) ?_
      refine Go.step (T' := s₁) (f' := (mkF m 3 #[.val (.ref ba), .val (.ref bb), .unset] [(.ref bb), (.int (0 : Int32))])) (fun t k => XS.aloadN X0.here hx rfl (hb hby d11_2) rfl rfl k) ?_
      obtain ⟨ca94, Aa94, qa94, Sa94, Na94, Ha94, Ga94⟩ := id f92
      refine Go.step (T' := s₁) (f' := (mkF m 4 #[.val (.ref ba), .val (.ref bb), .unset] [(.int (0 : Int32)), (.int (0 : Int32))])) (fun t k => own_alen X0 hx hZ e0 Aa94 Sa94 Na94 (g := (mkF m 3 #[.val (.ref ba), .val (.ref bb), .unset] [(.ref bb), (.int (0 : Int32))])) rfl rfl (hb hby d11_3) k) ?_
      refine Go.step (T' := s₁) (f' := (mkF m 7 #[.val (.ref ba), .val (.ref bb), .unset] [])) (fun t k => XS.icmpNo X0.here hx rfl (hb hby d11_4) rfl (teq (by decide : (0 : Int32) = (0 : Int32))).2 k) ?_
      refine Go.step (T' := s₁) (f' := (mkF m 8 #[.val (.ref ba), .val (.ref bb), .unset] [(.int (0 : Int32))])) (fun t k => XS.iconst X0.here hx rfl (hb hby d11_7) k) ?_
      refine Go.step (T' := s₁) (f' := (mkF m 9 #[.val (.ref ba), .val (.ref bb), .val (.int (0 : Int32))] [])) (fun t k => XS.istoreN X0.here hx rfl (hb hby d11_8) rfl (l' := #[.val (.ref ba), .val (.ref bb), .val (.int (0 : Int32))]) rfl k) ?_
      refine Go.step (T' := s₁) (f' := (mkF m 10 #[.val (.ref ba), .val (.ref bb), .val (.int (0 : Int32))] [(.int (0 : Int32))])) (fun t k => XS.iloadN X0.here hx rfl (hb hby d11_9) rfl k) ?_
      refine Go.step (T' := s₁) (f' := (mkF m 11 #[.val (.ref ba), .val (.ref bb), .val (.int (0 : Int32))] [(.ref ba), (.int (0 : Int32))])) (fun t k => XS.aloadN X0.here hx rfl (hb hby d11_10) rfl rfl k) ?_
      obtain ⟨ca95, Aa95, qa95, Sa95, Na95, Ha95, Ga95⟩ := id f91
      refine Go.step (T' := s₁) (f' := (mkF m 12 #[.val (.ref ba), .val (.ref bb), .val (.int (0 : Int32))] [(.int (0 : Int32)), (.int (0 : Int32))])) (fun t k => own_alen X0 hx hZ e0 Aa95 Sa95 Na95 (g := (mkF m 11 #[.val (.ref ba), .val (.ref bb), .val (.int (0 : Int32))] [(.ref ba), (.int (0 : Int32))])) rfl rfl (hb hby d11_11) k) ?_
      refine Go.step (T' := s₁) (f' := (mkF m 32 #[.val (.ref ba), .val (.ref bb), .val (.int (0 : Int32))] [])) (fun t k => XS.icmpYes X0.here hx rfl (pc0 := 12) (pc' := 32) rfl (hb hby d11_12) rfl (flt (by decide : ¬ ((0 : Int32) < (0 : Int32)))).2.1 (by decide) (by decide) k) ?_
      refine Go.step (T' := s₁) (f' := (mkF m 33 #[.val (.ref ba), .val (.ref bb), .val (.int (0 : Int32))] [(.int (1 : Int32))])) (fun t k => XS.iconst X0.here hx rfl (hb hby d11_32) k) ?_
      refine Go.retZ X0 hx hlk (t := .boolean) Bd.returns (by simp) (hb hby d11_33) e0 ?_ (by decide) (by decide)
      exact ⟨by simp [nar], N0, rfl⟩
    ·
      have f96 : Arv Z h0 ba ka .byte (0 : Int32) [] (.int (0 : Int32)) := P0
      have f97 : Arv Z h0 bb kb .byte (1 : Int32) [(.int y0)] (.int (0 : Int32)) := P1
      refine Go.step (T' := s₁) (f' := (mkF m 1 #[.val (.ref ba), .val (.ref bb), .unset] [(.ref ba)])) (fun t k => XS.aloadN X0.here hx rfl (hb hby d11_0) rfl rfl k) ?_
      obtain ⟨ca98, Aa98, qa98, Sa98, Na98, Ha98, Ga98⟩ := id f96
      refine Go.step (T' := s₁) (f' := (mkF m 2 #[.val (.ref ba), .val (.ref bb), .unset] [(.int (0 : Int32))])) (fun t k => own_alen X0 hx hZ e0 Aa98 Sa98 Na98 (g := (mkF m 1 #[.val (.ref ba), .val (.ref bb), .unset] [(.ref ba)])) rfl rfl (hb hby d11_1) k) ?_
      refine Go.step (T' := s₁) (f' := (mkF m 3 #[.val (.ref ba), .val (.ref bb), .unset] [(.ref bb), (.int (0 : Int32))])) (fun t k => XS.aloadN X0.here hx rfl (hb hby d11_2) rfl rfl k) ?_
      obtain ⟨ca99, Aa99, qa99, Sa99, Na99, Ha99, Ga99⟩ := id f97
      refine Go.step (T' := s₁) (f' := (mkF m 4 #[.val (.ref ba), .val (.ref bb), .unset] [(.int (1 : Int32)), (.int (0 : Int32))])) (fun t k => own_alen X0 hx hZ e0 Aa99 Sa99 Na99 (g := (mkF m 3 #[.val (.ref ba), .val (.ref bb), .unset] [(.ref bb), (.int (0 : Int32))])) rfl rfl (hb hby d11_3) k) ?_
      refine Go.step (T' := s₁) (f' := (mkF m 34 #[.val (.ref ba), .val (.ref bb), .unset] [])) (fun t k => XS.icmpYes X0.here hx rfl (pc0 := 4) (pc' := 34) rfl (hb hby d11_4) rfl (feq (by decide : ¬ ((0 : Int32) = (1 : Int32)))).2 (by decide) (by decide) k) ?_
      refine Go.step (T' := s₁) (f' := (mkF m 35 #[.val (.ref ba), .val (.ref bb), .unset] [(.int (0 : Int32))])) (fun t k => XS.iconst X0.here hx rfl (hb hby d11_34) k) ?_
      refine Go.retZ X0 hx hlk (t := .boolean) Bd.returns (by simp) (hb hby d11_35) e0 ?_ (by decide) (by decide)
      exact ⟨by simp [nar], N0, rfl⟩
    ·
      have f100 : Arv Z h0 ba ka .byte (0 : Int32) [] (.int (0 : Int32)) := P0
      have f101 : Arv Z h0 bb kb .byte (2 : Int32) [(.int y0), (.int y1)] (.int (0 : Int32)) := P1
      refine Go.step (T' := s₁) (f' := (mkF m 1 #[.val (.ref ba), .val (.ref bb), .unset] [(.ref ba)])) (fun t k => XS.aloadN X0.here hx rfl (hb hby d11_0) rfl rfl k) ?_
      obtain ⟨ca102, Aa102, qa102, Sa102, Na102, Ha102, Ga102⟩ := id f100
      refine Go.step (T' := s₁) (f' := (mkF m 2 #[.val (.ref ba), .val (.ref bb), .unset] [(.int (0 : Int32))])) (fun t k => own_alen X0 hx hZ e0 Aa102 Sa102 Na102 (g := (mkF m 1 #[.val (.ref ba), .val (.ref bb), .unset] [(.ref ba)])) rfl rfl (hb hby d11_1) k) ?_
      refine Go.step (T' := s₁) (f' := (mkF m 3 #[.val (.ref ba), .val (.ref bb), .unset] [(.ref bb), (.int (0 : Int32))])) (fun t k => XS.aloadN X0.here hx rfl (hb hby d11_2) rfl rfl k) ?_
      obtain ⟨ca103, Aa103, qa103, Sa103, Na103, Ha103, Ga103⟩ := id f101
      refine Go.step (T' := s₁) (f' := (mkF m 4 #[.val (.ref ba), .val (.ref bb), .unset] [(.int (2 : Int32)), (.int (0 : Int32))])) (fun t k => own_alen X0 hx hZ e0 Aa103 Sa103 Na103 (g := (mkF m 3 #[.val (.ref ba), .val (.ref bb), .unset] [(.ref bb), (.int (0 : Int32))])) rfl rfl (hb hby d11_3) k) ?_
      refine Go.step (T' := s₁) (f' := (mkF m 34 #[.val (.ref ba), .val (.ref bb), .unset] [])) (fun t k => XS.icmpYes X0.here hx rfl (pc0 := 4) (pc' := 34) rfl (hb hby d11_4) rfl (feq (by decide : ¬ ((0 : Int32) = (2 : Int32)))).2 (by decide) (by decide) k) ?_
      refine Go.step (T' := s₁) (f' := (mkF m 35 #[.val (.ref ba), .val (.ref bb), .unset] [(.int (0 : Int32))])) (fun t k => XS.iconst X0.here hx rfl (hb hby d11_34) k) ?_
      refine Go.retZ X0 hx hlk (t := .boolean) Bd.returns (by simp) (hb hby d11_35) e0 ?_ (by decide) (by decide)
      exact ⟨by simp [nar], N0, rfl⟩
    ·
      have f104 : Arv Z h0 ba ka .byte (0 : Int32) [] (.int (0 : Int32)) := P0
      have f105 : Arv Z h0 bb kb .byte (3 : Int32) [(.int y0), (.int y1), (.int y2)] (.int (0 : Int32)) := P1
      refine Go.step (T' := s₁) (f' := (mkF m 1 #[.val (.ref ba), .val (.ref bb), .unset] [(.ref ba)])) (fun t k => XS.aloadN X0.here hx rfl (hb hby d11_0) rfl rfl k) ?_
      obtain ⟨ca106, Aa106, qa106, Sa106, Na106, Ha106, Ga106⟩ := id f104
      refine Go.step (T' := s₁) (f' := (mkF m 2 #[.val (.ref ba), .val (.ref bb), .unset] [(.int (0 : Int32))])) (fun t k => own_alen X0 hx hZ e0 Aa106 Sa106 Na106 (g := (mkF m 1 #[.val (.ref ba), .val (.ref bb), .unset] [(.ref ba)])) rfl rfl (hb hby d11_1) k) ?_
      refine Go.step (T' := s₁) (f' := (mkF m 3 #[.val (.ref ba), .val (.ref bb), .unset] [(.ref bb), (.int (0 : Int32))])) (fun t k => XS.aloadN X0.here hx rfl (hb hby d11_2) rfl rfl k) ?_
      obtain ⟨ca107, Aa107, qa107, Sa107, Na107, Ha107, Ga107⟩ := id f105
      refine Go.step (T' := s₁) (f' := (mkF m 4 #[.val (.ref ba), .val (.ref bb), .unset] [(.int (3 : Int32)), (.int (0 : Int32))])) (fun t k => own_alen X0 hx hZ e0 Aa107 Sa107 Na107 (g := (mkF m 3 #[.val (.ref ba), .val (.ref bb), .unset] [(.ref bb), (.int (0 : Int32))])) rfl rfl (hb hby d11_3) k) ?_
      refine Go.step (T' := s₁) (f' := (mkF m 34 #[.val (.ref ba), .val (.ref bb), .unset] [])) (fun t k => XS.icmpYes X0.here hx rfl (pc0 := 4) (pc' := 34) rfl (hb hby d11_4) rfl (feq (by decide : ¬ ((0 : Int32) = (3 : Int32)))).2 (by decide) (by decide) k) ?_
      refine Go.step (T' := s₁) (f' := (mkF m 35 #[.val (.ref ba), .val (.ref bb), .unset] [(.int (0 : Int32))])) (fun t k => XS.iconst X0.here hx rfl (hb hby d11_34) k) ?_
      refine Go.retZ X0 hx hlk (t := .boolean) Bd.returns (by simp) (hb hby d11_35) e0 ?_ (by decide) (by decide)
      exact ⟨by simp [nar], N0, rfl⟩
    ·
      exact absurd hly (by simp)
  ·
    rcases ys with _ | ⟨y0, _ | ⟨y1, _ | ⟨y2, _ | ⟨y3, ys⟩⟩⟩⟩
    ·
      have f108 : Arv Z h0 ba ka .byte (1 : Int32) [(.int x0)] (.int (0 : Int32)) := P0
      have f109 : Arv Z h0 bb kb .byte (0 : Int32) [] (.int (0 : Int32)) := P1
      refine Go.step (T' := s₁) (f' := (mkF m 1 #[.val (.ref ba), .val (.ref bb), .unset] [(.ref ba)])) (fun t k => XS.aloadN X0.here hx rfl (hb hby d11_0) rfl rfl k) ?_
      obtain ⟨ca110, Aa110, qa110, Sa110, Na110, Ha110, Ga110⟩ := id f108
      refine Go.step (T' := s₁) (f' := (mkF m 2 #[.val (.ref ba), .val (.ref bb), .unset] [(.int (1 : Int32))])) (fun t k => own_alen X0 hx hZ e0 Aa110 Sa110 Na110 (g := (mkF m 1 #[.val (.ref ba), .val (.ref bb), .unset] [(.ref ba)])) rfl rfl (hb hby d11_1) k) ?_
      refine Go.step (T' := s₁) (f' := (mkF m 3 #[.val (.ref ba), .val (.ref bb), .unset] [(.ref bb), (.int (1 : Int32))])) (fun t k => XS.aloadN X0.here hx rfl (hb hby d11_2) rfl rfl k) ?_
      obtain ⟨ca111, Aa111, qa111, Sa111, Na111, Ha111, Ga111⟩ := id f109
      refine Go.step (T' := s₁) (f' := (mkF m 4 #[.val (.ref ba), .val (.ref bb), .unset] [(.int (0 : Int32)), (.int (1 : Int32))])) (fun t k => own_alen X0 hx hZ e0 Aa111 Sa111 Na111 (g := (mkF m 3 #[.val (.ref ba), .val (.ref bb), .unset] [(.ref bb), (.int (1 : Int32))])) rfl rfl (hb hby d11_3) k) ?_
      refine Go.step (T' := s₁) (f' := (mkF m 34 #[.val (.ref ba), .val (.ref bb), .unset] [])) (fun t k => XS.icmpYes X0.here hx rfl (pc0 := 4) (pc' := 34) rfl (hb hby d11_4) rfl (feq (by decide : ¬ ((1 : Int32) = (0 : Int32)))).2 (by decide) (by decide) k) ?_
      refine Go.step (T' := s₁) (f' := (mkF m 35 #[.val (.ref ba), .val (.ref bb), .unset] [(.int (0 : Int32))])) (fun t k => XS.iconst X0.here hx rfl (hb hby d11_34) k) ?_
      refine Go.retZ X0 hx hlk (t := .boolean) Bd.returns (by simp) (hb hby d11_35) e0 ?_ (by decide) (by decide)
      exact ⟨by simp [nar], N0, rfl⟩
    ·
      have f112 : Arv Z h0 ba ka .byte (1 : Int32) [(.int x0)] (.int (0 : Int32)) := P0
      have f113 : Arv Z h0 bb kb .byte (1 : Int32) [(.int y0)] (.int (0 : Int32)) := P1
      refine Go.step (T' := s₁) (f' := (mkF m 1 #[.val (.ref ba), .val (.ref bb), .unset] [(.ref ba)])) (fun t k => XS.aloadN X0.here hx rfl (hb hby d11_0) rfl rfl k) ?_
      obtain ⟨ca114, Aa114, qa114, Sa114, Na114, Ha114, Ga114⟩ := id f112
      refine Go.step (T' := s₁) (f' := (mkF m 2 #[.val (.ref ba), .val (.ref bb), .unset] [(.int (1 : Int32))])) (fun t k => own_alen X0 hx hZ e0 Aa114 Sa114 Na114 (g := (mkF m 1 #[.val (.ref ba), .val (.ref bb), .unset] [(.ref ba)])) rfl rfl (hb hby d11_1) k) ?_
      refine Go.step (T' := s₁) (f' := (mkF m 3 #[.val (.ref ba), .val (.ref bb), .unset] [(.ref bb), (.int (1 : Int32))])) (fun t k => XS.aloadN X0.here hx rfl (hb hby d11_2) rfl rfl k) ?_
      obtain ⟨ca115, Aa115, qa115, Sa115, Na115, Ha115, Ga115⟩ := id f113
      refine Go.step (T' := s₁) (f' := (mkF m 4 #[.val (.ref ba), .val (.ref bb), .unset] [(.int (1 : Int32)), (.int (1 : Int32))])) (fun t k => own_alen X0 hx hZ e0 Aa115 Sa115 Na115 (g := (mkF m 3 #[.val (.ref ba), .val (.ref bb), .unset] [(.ref bb), (.int (1 : Int32))])) rfl rfl (hb hby d11_3) k) ?_
      refine Go.step (T' := s₁) (f' := (mkF m 7 #[.val (.ref ba), .val (.ref bb), .unset] [])) (fun t k => XS.icmpNo X0.here hx rfl (hb hby d11_4) rfl (teq (by decide : (1 : Int32) = (1 : Int32))).2 k) ?_
      refine Go.step (T' := s₁) (f' := (mkF m 8 #[.val (.ref ba), .val (.ref bb), .unset] [(.int (0 : Int32))])) (fun t k => XS.iconst X0.here hx rfl (hb hby d11_7) k) ?_
      refine Go.step (T' := s₁) (f' := (mkF m 9 #[.val (.ref ba), .val (.ref bb), .val (.int (0 : Int32))] [])) (fun t k => XS.istoreN X0.here hx rfl (hb hby d11_8) rfl (l' := #[.val (.ref ba), .val (.ref bb), .val (.int (0 : Int32))]) rfl k) ?_
      refine Go.step (T' := s₁) (f' := (mkF m 10 #[.val (.ref ba), .val (.ref bb), .val (.int (0 : Int32))] [(.int (0 : Int32))])) (fun t k => XS.iloadN X0.here hx rfl (hb hby d11_9) rfl k) ?_
      refine Go.step (T' := s₁) (f' := (mkF m 11 #[.val (.ref ba), .val (.ref bb), .val (.int (0 : Int32))] [(.ref ba), (.int (0 : Int32))])) (fun t k => XS.aloadN X0.here hx rfl (hb hby d11_10) rfl rfl k) ?_
      obtain ⟨ca116, Aa116, qa116, Sa116, Na116, Ha116, Ga116⟩ := id f112
      refine Go.step (T' := s₁) (f' := (mkF m 12 #[.val (.ref ba), .val (.ref bb), .val (.int (0 : Int32))] [(.int (1 : Int32)), (.int (0 : Int32))])) (fun t k => own_alen X0 hx hZ e0 Aa116 Sa116 Na116 (g := (mkF m 11 #[.val (.ref ba), .val (.ref bb), .val (.int (0 : Int32))] [(.ref ba), (.int (0 : Int32))])) rfl rfl (hb hby d11_11) k) ?_
      refine Go.step (T' := s₁) (f' := (mkF m 15 #[.val (.ref ba), .val (.ref bb), .val (.int (0 : Int32))] [])) (fun t k => XS.icmpNo X0.here hx rfl (hb hby d11_12) rfl (tlt (by decide : (0 : Int32) < (1 : Int32))).2.1 k) ?_
      refine Go.step (T' := s₁) (f' := (mkF m 16 #[.val (.ref ba), .val (.ref bb), .val (.int (0 : Int32))] [(.ref ba)])) (fun t k => XS.aloadN X0.here hx rfl (hb hby d11_15) rfl rfl k) ?_
      refine Go.step (T' := s₁) (f' := (mkF m 17 #[.val (.ref ba), .val (.ref bb), .val (.int (0 : Int32))] [(.int (0 : Int32)), (.ref ba)])) (fun t k => XS.iloadN X0.here hx rfl (hb hby d11_16) rfl k) ?_
      obtain ⟨ca117, Aa117, qa117, Sa117, Na117, Ha117, Ga117⟩ := id f112
      have ia117 : ¬ ((0 : Int32) < 0 ∨ ca117.slots.size ≤ ((0 : Int32)).toNatClampNeg) := inb_of Sa117 ⟨by decide, by decide⟩
      have va117 := Ha117.at (v := (.int x0)) ia117 rfl
      refine Go.step (T' := s₁) (f' := (mkF m 18 #[.val (.ref ba), .val (.ref bb), .val (.int (0 : Int32))] [(.int x0)])) (fun t k => X0.baloadBytes hx (j := (0 : Int32)) (v := (.int x0)) (by rw [e0]; exact Aa117.1) (State.isArrayOf_alike hZ.alike Aa117.2.1) Aa117.2.2 ia117 va117 (g := (mkF m 17 #[.val (.ref ba), .val (.ref bb), .val (.int (0 : Int32))] [(.int (0 : Int32)), (.ref ba)])) rfl rfl (hb hby d11_17) t k) ?_
      refine Go.step (T' := s₁) (f' := (mkF m 19 #[.val (.ref ba), .val (.ref bb), .val (.int (0 : Int32))] [(.ref bb), (.int x0)])) (fun t k => XS.aloadN X0.here hx rfl (hb hby d11_18) rfl rfl k) ?_
      refine Go.step (T' := s₁) (f' := (mkF m 20 #[.val (.ref ba), .val (.ref bb), .val (.int (0 : Int32))] [(.int (0 : Int32)), (.ref bb), (.int x0)])) (fun t k => XS.iloadN X0.here hx rfl (hb hby d11_19) rfl k) ?_
      obtain ⟨ca118, Aa118, qa118, Sa118, Na118, Ha118, Ga118⟩ := id f113
      have ia118 : ¬ ((0 : Int32) < 0 ∨ ca118.slots.size ≤ ((0 : Int32)).toNatClampNeg) := inb_of Sa118 ⟨by decide, by decide⟩
      have va118 := Ha118.at (v := (.int y0)) ia118 rfl
      refine Go.step (T' := s₁) (f' := (mkF m 21 #[.val (.ref ba), .val (.ref bb), .val (.int (0 : Int32))] [(.int y0), (.int x0)])) (fun t k => X0.baloadBytes hx (j := (0 : Int32)) (v := (.int y0)) (by rw [e0]; exact Aa118.1) (State.isArrayOf_alike hZ.alike Aa118.2.1) Aa118.2.2 ia118 va118 (g := (mkF m 20 #[.val (.ref ba), .val (.ref bb), .val (.int (0 : Int32))] [(.int (0 : Int32)), (.ref bb), (.int x0)])) rfl rfl (hb hby d11_20) t k) ?_
      by_cases hc119 : x0 = y0
      ·
        refine Go.step (T' := s₁) (f' := (mkF m 26 #[.val (.ref ba), .val (.ref bb), .val (.int (0 : Int32))] [])) (fun t k => XS.icmpYes X0.here hx rfl (pc0 := 21) (pc' := 26) rfl (hb hby d11_21) rfl (teq hc119).1 (by decide) (by decide) k) ?_
        refine Go.step (T' := s₁) (f' := (mkF m 29 #[.val (.ref ba), .val (.ref bb), .val (.int ((0 : Int32) + (1 : Int32)))] [])) (fun t k => XS.iinc X0.here hx rfl (hb hby d11_26) rfl (l' := #[.val (.ref ba), .val (.ref bb), .val (.int ((0 : Int32) + (1 : Int32)))]) rfl k) ?_
        rw [show ((0 : Int32) + (1 : Int32)) = (1 : Int32) from by decide]
        refine Go.step (T' := s₁) (f' := (mkF m 9 #[.val (.ref ba), .val (.ref bb), .val (.int (1 : Int32))] [])) (fun t k => XS.goto X0.here hx rfl (pc0 := 29) (pc' := 9) rfl (hb hby d11_29) (by decide) (by decide) k) ?_
        refine Go.step (T' := s₁) (f' := (mkF m 10 #[.val (.ref ba), .val (.ref bb), .val (.int (1 : Int32))] [(.int (1 : Int32))])) (fun t k => XS.iloadN X0.here hx rfl (hb hby d11_9) rfl k) ?_
        refine Go.step (T' := s₁) (f' := (mkF m 11 #[.val (.ref ba), .val (.ref bb), .val (.int (1 : Int32))] [(.ref ba), (.int (1 : Int32))])) (fun t k => XS.aloadN X0.here hx rfl (hb hby d11_10) rfl rfl k) ?_
        obtain ⟨ca120, Aa120, qa120, Sa120, Na120, Ha120, Ga120⟩ := id f112
        refine Go.step (T' := s₁) (f' := (mkF m 12 #[.val (.ref ba), .val (.ref bb), .val (.int (1 : Int32))] [(.int (1 : Int32)), (.int (1 : Int32))])) (fun t k => own_alen X0 hx hZ e0 Aa120 Sa120 Na120 (g := (mkF m 11 #[.val (.ref ba), .val (.ref bb), .val (.int (1 : Int32))] [(.ref ba), (.int (1 : Int32))])) rfl rfl (hb hby d11_11) k) ?_
        refine Go.step (T' := s₁) (f' := (mkF m 32 #[.val (.ref ba), .val (.ref bb), .val (.int (1 : Int32))] [])) (fun t k => XS.icmpYes X0.here hx rfl (pc0 := 12) (pc' := 32) rfl (hb hby d11_12) rfl (flt (by decide : ¬ ((1 : Int32) < (1 : Int32)))).2.1 (by decide) (by decide) k) ?_
        refine Go.step (T' := s₁) (f' := (mkF m 33 #[.val (.ref ba), .val (.ref bb), .val (.int (1 : Int32))] [(.int (1 : Int32))])) (fun t k => XS.iconst X0.here hx rfl (hb hby d11_32) k) ?_
        refine Go.retZ X0 hx hlk (t := .boolean) Bd.returns (by simp) (hb hby d11_33) e0 ?_ (by decide) (by decide)
        exact ⟨by simp [nar, hc119], N0, rfl⟩
      ·
        refine Go.step (T' := s₁) (f' := (mkF m 24 #[.val (.ref ba), .val (.ref bb), .val (.int (0 : Int32))] [])) (fun t k => XS.icmpNo X0.here hx rfl (hb hby d11_21) rfl (feq hc119).1 k) ?_
        refine Go.step (T' := s₁) (f' := (mkF m 25 #[.val (.ref ba), .val (.ref bb), .val (.int (0 : Int32))] [(.int (0 : Int32))])) (fun t k => XS.iconst X0.here hx rfl (hb hby d11_24) k) ?_
        refine Go.retZ X0 hx hlk (t := .boolean) Bd.returns (by simp) (hb hby d11_25) e0 ?_ (by decide) (by decide)
        exact ⟨by simp [nar, hc119], N0, rfl⟩
    ·
      have f121 : Arv Z h0 ba ka .byte (1 : Int32) [(.int x0)] (.int (0 : Int32)) := P0
      have f122 : Arv Z h0 bb kb .byte (2 : Int32) [(.int y0), (.int y1)] (.int (0 : Int32)) := P1
      refine Go.step (T' := s₁) (f' := (mkF m 1 #[.val (.ref ba), .val (.ref bb), .unset] [(.ref ba)])) (fun t k => XS.aloadN X0.here hx rfl (hb hby d11_0) rfl rfl k) ?_
      obtain ⟨ca123, Aa123, qa123, Sa123, Na123, Ha123, Ga123⟩ := id f121
      refine Go.step (T' := s₁) (f' := (mkF m 2 #[.val (.ref ba), .val (.ref bb), .unset] [(.int (1 : Int32))])) (fun t k => own_alen X0 hx hZ e0 Aa123 Sa123 Na123 (g := (mkF m 1 #[.val (.ref ba), .val (.ref bb), .unset] [(.ref ba)])) rfl rfl (hb hby d11_1) k) ?_
      refine Go.step (T' := s₁) (f' := (mkF m 3 #[.val (.ref ba), .val (.ref bb), .unset] [(.ref bb), (.int (1 : Int32))])) (fun t k => XS.aloadN X0.here hx rfl (hb hby d11_2) rfl rfl k) ?_
      obtain ⟨ca124, Aa124, qa124, Sa124, Na124, Ha124, Ga124⟩ := id f122
      refine Go.step (T' := s₁) (f' := (mkF m 4 #[.val (.ref ba), .val (.ref bb), .unset] [(.int (2 : Int32)), (.int (1 : Int32))])) (fun t k => own_alen X0 hx hZ e0 Aa124 Sa124 Na124 (g := (mkF m 3 #[.val (.ref ba), .val (.ref bb), .unset] [(.ref bb), (.int (1 : Int32))])) rfl rfl (hb hby d11_3) k) ?_
      refine Go.step (T' := s₁) (f' := (mkF m 34 #[.val (.ref ba), .val (.ref bb), .unset] [])) (fun t k => XS.icmpYes X0.here hx rfl (pc0 := 4) (pc' := 34) rfl (hb hby d11_4) rfl (feq (by decide : ¬ ((1 : Int32) = (2 : Int32)))).2 (by decide) (by decide) k) ?_
      refine Go.step (T' := s₁) (f' := (mkF m 35 #[.val (.ref ba), .val (.ref bb), .unset] [(.int (0 : Int32))])) (fun t k => XS.iconst X0.here hx rfl (hb hby d11_34) k) ?_
      refine Go.retZ X0 hx hlk (t := .boolean) Bd.returns (by simp) (hb hby d11_35) e0 ?_ (by decide) (by decide)
      exact ⟨by simp [nar], N0, rfl⟩
    ·
      have f125 : Arv Z h0 ba ka .byte (1 : Int32) [(.int x0)] (.int (0 : Int32)) := P0
      have f126 : Arv Z h0 bb kb .byte (3 : Int32) [(.int y0), (.int y1), (.int y2)] (.int (0 : Int32)) := P1
      refine Go.step (T' := s₁) (f' := (mkF m 1 #[.val (.ref ba), .val (.ref bb), .unset] [(.ref ba)])) (fun t k => XS.aloadN X0.here hx rfl (hb hby d11_0) rfl rfl k) ?_
      obtain ⟨ca127, Aa127, qa127, Sa127, Na127, Ha127, Ga127⟩ := id f125
      refine Go.step (T' := s₁) (f' := (mkF m 2 #[.val (.ref ba), .val (.ref bb), .unset] [(.int (1 : Int32))])) (fun t k => own_alen X0 hx hZ e0 Aa127 Sa127 Na127 (g := (mkF m 1 #[.val (.ref ba), .val (.ref bb), .unset] [(.ref ba)])) rfl rfl (hb hby d11_1) k) ?_
      refine Go.step (T' := s₁) (f' := (mkF m 3 #[.val (.ref ba), .val (.ref bb), .unset] [(.ref bb), (.int (1 : Int32))])) (fun t k => XS.aloadN X0.here hx rfl (hb hby d11_2) rfl rfl k) ?_
      obtain ⟨ca128, Aa128, qa128, Sa128, Na128, Ha128, Ga128⟩ := id f126
      refine Go.step (T' := s₁) (f' := (mkF m 4 #[.val (.ref ba), .val (.ref bb), .unset] [(.int (3 : Int32)), (.int (1 : Int32))])) (fun t k => own_alen X0 hx hZ e0 Aa128 Sa128 Na128 (g := (mkF m 3 #[.val (.ref ba), .val (.ref bb), .unset] [(.ref bb), (.int (1 : Int32))])) rfl rfl (hb hby d11_3) k) ?_
      refine Go.step (T' := s₁) (f' := (mkF m 34 #[.val (.ref ba), .val (.ref bb), .unset] [])) (fun t k => XS.icmpYes X0.here hx rfl (pc0 := 4) (pc' := 34) rfl (hb hby d11_4) rfl (feq (by decide : ¬ ((1 : Int32) = (3 : Int32)))).2 (by decide) (by decide) k) ?_
      refine Go.step (T' := s₁) (f' := (mkF m 35 #[.val (.ref ba), .val (.ref bb), .unset] [(.int (0 : Int32))])) (fun t k => XS.iconst X0.here hx rfl (hb hby d11_34) k) ?_
      refine Go.retZ X0 hx hlk (t := .boolean) Bd.returns (by simp) (hb hby d11_35) e0 ?_ (by decide) (by decide)
      exact ⟨by simp [nar], N0, rfl⟩
    ·
      exact absurd hly (by simp)
  ·
    rcases ys with _ | ⟨y0, _ | ⟨y1, _ | ⟨y2, _ | ⟨y3, ys⟩⟩⟩⟩
    ·
      have f129 : Arv Z h0 ba ka .byte (2 : Int32) [(.int x0), (.int x1)] (.int (0 : Int32)) := P0
      have f130 : Arv Z h0 bb kb .byte (0 : Int32) [] (.int (0 : Int32)) := P1
      refine Go.step (T' := s₁) (f' := (mkF m 1 #[.val (.ref ba), .val (.ref bb), .unset] [(.ref ba)])) (fun t k => XS.aloadN X0.here hx rfl (hb hby d11_0) rfl rfl k) ?_
      obtain ⟨ca131, Aa131, qa131, Sa131, Na131, Ha131, Ga131⟩ := id f129
      refine Go.step (T' := s₁) (f' := (mkF m 2 #[.val (.ref ba), .val (.ref bb), .unset] [(.int (2 : Int32))])) (fun t k => own_alen X0 hx hZ e0 Aa131 Sa131 Na131 (g := (mkF m 1 #[.val (.ref ba), .val (.ref bb), .unset] [(.ref ba)])) rfl rfl (hb hby d11_1) k) ?_
      refine Go.step (T' := s₁) (f' := (mkF m 3 #[.val (.ref ba), .val (.ref bb), .unset] [(.ref bb), (.int (2 : Int32))])) (fun t k => XS.aloadN X0.here hx rfl (hb hby d11_2) rfl rfl k) ?_
      obtain ⟨ca132, Aa132, qa132, Sa132, Na132, Ha132, Ga132⟩ := id f130
      refine Go.step (T' := s₁) (f' := (mkF m 4 #[.val (.ref ba), .val (.ref bb), .unset] [(.int (0 : Int32)), (.int (2 : Int32))])) (fun t k => own_alen X0 hx hZ e0 Aa132 Sa132 Na132 (g := (mkF m 3 #[.val (.ref ba), .val (.ref bb), .unset] [(.ref bb), (.int (2 : Int32))])) rfl rfl (hb hby d11_3) k) ?_
      refine Go.step (T' := s₁) (f' := (mkF m 34 #[.val (.ref ba), .val (.ref bb), .unset] [])) (fun t k => XS.icmpYes X0.here hx rfl (pc0 := 4) (pc' := 34) rfl (hb hby d11_4) rfl (feq (by decide : ¬ ((2 : Int32) = (0 : Int32)))).2 (by decide) (by decide) k) ?_
      refine Go.step (T' := s₁) (f' := (mkF m 35 #[.val (.ref ba), .val (.ref bb), .unset] [(.int (0 : Int32))])) (fun t k => XS.iconst X0.here hx rfl (hb hby d11_34) k) ?_
      refine Go.retZ X0 hx hlk (t := .boolean) Bd.returns (by simp) (hb hby d11_35) e0 ?_ (by decide) (by decide)
      exact ⟨by simp [nar], N0, rfl⟩
    ·
      have f133 : Arv Z h0 ba ka .byte (2 : Int32) [(.int x0), (.int x1)] (.int (0 : Int32)) := P0
      have f134 : Arv Z h0 bb kb .byte (1 : Int32) [(.int y0)] (.int (0 : Int32)) := P1
      refine Go.step (T' := s₁) (f' := (mkF m 1 #[.val (.ref ba), .val (.ref bb), .unset] [(.ref ba)])) (fun t k => XS.aloadN X0.here hx rfl (hb hby d11_0) rfl rfl k) ?_
      obtain ⟨ca135, Aa135, qa135, Sa135, Na135, Ha135, Ga135⟩ := id f133
      refine Go.step (T' := s₁) (f' := (mkF m 2 #[.val (.ref ba), .val (.ref bb), .unset] [(.int (2 : Int32))])) (fun t k => own_alen X0 hx hZ e0 Aa135 Sa135 Na135 (g := (mkF m 1 #[.val (.ref ba), .val (.ref bb), .unset] [(.ref ba)])) rfl rfl (hb hby d11_1) k) ?_
      refine Go.step (T' := s₁) (f' := (mkF m 3 #[.val (.ref ba), .val (.ref bb), .unset] [(.ref bb), (.int (2 : Int32))])) (fun t k => XS.aloadN X0.here hx rfl (hb hby d11_2) rfl rfl k) ?_
      obtain ⟨ca136, Aa136, qa136, Sa136, Na136, Ha136, Ga136⟩ := id f134
      refine Go.step (T' := s₁) (f' := (mkF m 4 #[.val (.ref ba), .val (.ref bb), .unset] [(.int (1 : Int32)), (.int (2 : Int32))])) (fun t k => own_alen X0 hx hZ e0 Aa136 Sa136 Na136 (g := (mkF m 3 #[.val (.ref ba), .val (.ref bb), .unset] [(.ref bb), (.int (2 : Int32))])) rfl rfl (hb hby d11_3) k) ?_
      refine Go.step (T' := s₁) (f' := (mkF m 34 #[.val (.ref ba), .val (.ref bb), .unset] [])) (fun t k => XS.icmpYes X0.here hx rfl (pc0 := 4) (pc' := 34) rfl (hb hby d11_4) rfl (feq (by decide : ¬ ((2 : Int32) = (1 : Int32)))).2 (by decide) (by decide) k) ?_
      refine Go.step (T' := s₁) (f' := (mkF m 35 #[.val (.ref ba), .val (.ref bb), .unset] [(.int (0 : Int32))])) (fun t k => XS.iconst X0.here hx rfl (hb hby d11_34) k) ?_
      refine Go.retZ X0 hx hlk (t := .boolean) Bd.returns (by simp) (hb hby d11_35) e0 ?_ (by decide) (by decide)
      exact ⟨by simp [nar], N0, rfl⟩
    ·
      have f137 : Arv Z h0 ba ka .byte (2 : Int32) [(.int x0), (.int x1)] (.int (0 : Int32)) := P0
      have f138 : Arv Z h0 bb kb .byte (2 : Int32) [(.int y0), (.int y1)] (.int (0 : Int32)) := P1
      refine Go.step (T' := s₁) (f' := (mkF m 1 #[.val (.ref ba), .val (.ref bb), .unset] [(.ref ba)])) (fun t k => XS.aloadN X0.here hx rfl (hb hby d11_0) rfl rfl k) ?_
      obtain ⟨ca139, Aa139, qa139, Sa139, Na139, Ha139, Ga139⟩ := id f137
      refine Go.step (T' := s₁) (f' := (mkF m 2 #[.val (.ref ba), .val (.ref bb), .unset] [(.int (2 : Int32))])) (fun t k => own_alen X0 hx hZ e0 Aa139 Sa139 Na139 (g := (mkF m 1 #[.val (.ref ba), .val (.ref bb), .unset] [(.ref ba)])) rfl rfl (hb hby d11_1) k) ?_
      refine Go.step (T' := s₁) (f' := (mkF m 3 #[.val (.ref ba), .val (.ref bb), .unset] [(.ref bb), (.int (2 : Int32))])) (fun t k => XS.aloadN X0.here hx rfl (hb hby d11_2) rfl rfl k) ?_
      obtain ⟨ca140, Aa140, qa140, Sa140, Na140, Ha140, Ga140⟩ := id f138
      refine Go.step (T' := s₁) (f' := (mkF m 4 #[.val (.ref ba), .val (.ref bb), .unset] [(.int (2 : Int32)), (.int (2 : Int32))])) (fun t k => own_alen X0 hx hZ e0 Aa140 Sa140 Na140 (g := (mkF m 3 #[.val (.ref ba), .val (.ref bb), .unset] [(.ref bb), (.int (2 : Int32))])) rfl rfl (hb hby d11_3) k) ?_
      refine Go.step (T' := s₁) (f' := (mkF m 7 #[.val (.ref ba), .val (.ref bb), .unset] [])) (fun t k => XS.icmpNo X0.here hx rfl (hb hby d11_4) rfl (teq (by decide : (2 : Int32) = (2 : Int32))).2 k) ?_
      refine Go.step (T' := s₁) (f' := (mkF m 8 #[.val (.ref ba), .val (.ref bb), .unset] [(.int (0 : Int32))])) (fun t k => XS.iconst X0.here hx rfl (hb hby d11_7) k) ?_
      refine Go.step (T' := s₁) (f' := (mkF m 9 #[.val (.ref ba), .val (.ref bb), .val (.int (0 : Int32))] [])) (fun t k => XS.istoreN X0.here hx rfl (hb hby d11_8) rfl (l' := #[.val (.ref ba), .val (.ref bb), .val (.int (0 : Int32))]) rfl k) ?_
      refine Go.step (T' := s₁) (f' := (mkF m 10 #[.val (.ref ba), .val (.ref bb), .val (.int (0 : Int32))] [(.int (0 : Int32))])) (fun t k => XS.iloadN X0.here hx rfl (hb hby d11_9) rfl k) ?_
      refine Go.step (T' := s₁) (f' := (mkF m 11 #[.val (.ref ba), .val (.ref bb), .val (.int (0 : Int32))] [(.ref ba), (.int (0 : Int32))])) (fun t k => XS.aloadN X0.here hx rfl (hb hby d11_10) rfl rfl k) ?_
      obtain ⟨ca141, Aa141, qa141, Sa141, Na141, Ha141, Ga141⟩ := id f137
      refine Go.step (T' := s₁) (f' := (mkF m 12 #[.val (.ref ba), .val (.ref bb), .val (.int (0 : Int32))] [(.int (2 : Int32)), (.int (0 : Int32))])) (fun t k => own_alen X0 hx hZ e0 Aa141 Sa141 Na141 (g := (mkF m 11 #[.val (.ref ba), .val (.ref bb), .val (.int (0 : Int32))] [(.ref ba), (.int (0 : Int32))])) rfl rfl (hb hby d11_11) k) ?_
      refine Go.step (T' := s₁) (f' := (mkF m 15 #[.val (.ref ba), .val (.ref bb), .val (.int (0 : Int32))] [])) (fun t k => XS.icmpNo X0.here hx rfl (hb hby d11_12) rfl (tlt (by decide : (0 : Int32) < (2 : Int32))).2.1 k) ?_
      refine Go.step (T' := s₁) (f' := (mkF m 16 #[.val (.ref ba), .val (.ref bb), .val (.int (0 : Int32))] [(.ref ba)])) (fun t k => XS.aloadN X0.here hx rfl (hb hby d11_15) rfl rfl k) ?_
      refine Go.step (T' := s₁) (f' := (mkF m 17 #[.val (.ref ba), .val (.ref bb), .val (.int (0 : Int32))] [(.int (0 : Int32)), (.ref ba)])) (fun t k => XS.iloadN X0.here hx rfl (hb hby d11_16) rfl k) ?_
      obtain ⟨ca142, Aa142, qa142, Sa142, Na142, Ha142, Ga142⟩ := id f137
      have ia142 : ¬ ((0 : Int32) < 0 ∨ ca142.slots.size ≤ ((0 : Int32)).toNatClampNeg) := inb_of Sa142 ⟨by decide, by decide⟩
      have va142 := Ha142.at (v := (.int x0)) ia142 rfl
      refine Go.step (T' := s₁) (f' := (mkF m 18 #[.val (.ref ba), .val (.ref bb), .val (.int (0 : Int32))] [(.int x0)])) (fun t k => X0.baloadBytes hx (j := (0 : Int32)) (v := (.int x0)) (by rw [e0]; exact Aa142.1) (State.isArrayOf_alike hZ.alike Aa142.2.1) Aa142.2.2 ia142 va142 (g := (mkF m 17 #[.val (.ref ba), .val (.ref bb), .val (.int (0 : Int32))] [(.int (0 : Int32)), (.ref ba)])) rfl rfl (hb hby d11_17) t k) ?_
      refine Go.step (T' := s₁) (f' := (mkF m 19 #[.val (.ref ba), .val (.ref bb), .val (.int (0 : Int32))] [(.ref bb), (.int x0)])) (fun t k => XS.aloadN X0.here hx rfl (hb hby d11_18) rfl rfl k) ?_
      refine Go.step (T' := s₁) (f' := (mkF m 20 #[.val (.ref ba), .val (.ref bb), .val (.int (0 : Int32))] [(.int (0 : Int32)), (.ref bb), (.int x0)])) (fun t k => XS.iloadN X0.here hx rfl (hb hby d11_19) rfl k) ?_
      obtain ⟨ca143, Aa143, qa143, Sa143, Na143, Ha143, Ga143⟩ := id f138
      have ia143 : ¬ ((0 : Int32) < 0 ∨ ca143.slots.size ≤ ((0 : Int32)).toNatClampNeg) := inb_of Sa143 ⟨by decide, by decide⟩
      have va143 := Ha143.at (v := (.int y0)) ia143 rfl
      refine Go.step (T' := s₁) (f' := (mkF m 21 #[.val (.ref ba), .val (.ref bb), .val (.int (0 : Int32))] [(.int y0), (.int x0)])) (fun t k => X0.baloadBytes hx (j := (0 : Int32)) (v := (.int y0)) (by rw [e0]; exact Aa143.1) (State.isArrayOf_alike hZ.alike Aa143.2.1) Aa143.2.2 ia143 va143 (g := (mkF m 20 #[.val (.ref ba), .val (.ref bb), .val (.int (0 : Int32))] [(.int (0 : Int32)), (.ref bb), (.int x0)])) rfl rfl (hb hby d11_20) t k) ?_
      by_cases hc144 : x0 = y0
      ·
        refine Go.step (T' := s₁) (f' := (mkF m 26 #[.val (.ref ba), .val (.ref bb), .val (.int (0 : Int32))] [])) (fun t k => XS.icmpYes X0.here hx rfl (pc0 := 21) (pc' := 26) rfl (hb hby d11_21) rfl (teq hc144).1 (by decide) (by decide) k) ?_
        refine Go.step (T' := s₁) (f' := (mkF m 29 #[.val (.ref ba), .val (.ref bb), .val (.int ((0 : Int32) + (1 : Int32)))] [])) (fun t k => XS.iinc X0.here hx rfl (hb hby d11_26) rfl (l' := #[.val (.ref ba), .val (.ref bb), .val (.int ((0 : Int32) + (1 : Int32)))]) rfl k) ?_
        rw [show ((0 : Int32) + (1 : Int32)) = (1 : Int32) from by decide]
        refine Go.step (T' := s₁) (f' := (mkF m 9 #[.val (.ref ba), .val (.ref bb), .val (.int (1 : Int32))] [])) (fun t k => XS.goto X0.here hx rfl (pc0 := 29) (pc' := 9) rfl (hb hby d11_29) (by decide) (by decide) k) ?_
        refine Go.step (T' := s₁) (f' := (mkF m 10 #[.val (.ref ba), .val (.ref bb), .val (.int (1 : Int32))] [(.int (1 : Int32))])) (fun t k => XS.iloadN X0.here hx rfl (hb hby d11_9) rfl k) ?_
        refine Go.step (T' := s₁) (f' := (mkF m 11 #[.val (.ref ba), .val (.ref bb), .val (.int (1 : Int32))] [(.ref ba), (.int (1 : Int32))])) (fun t k => XS.aloadN X0.here hx rfl (hb hby d11_10) rfl rfl k) ?_
        obtain ⟨ca145, Aa145, qa145, Sa145, Na145, Ha145, Ga145⟩ := id f137
        refine Go.step (T' := s₁) (f' := (mkF m 12 #[.val (.ref ba), .val (.ref bb), .val (.int (1 : Int32))] [(.int (2 : Int32)), (.int (1 : Int32))])) (fun t k => own_alen X0 hx hZ e0 Aa145 Sa145 Na145 (g := (mkF m 11 #[.val (.ref ba), .val (.ref bb), .val (.int (1 : Int32))] [(.ref ba), (.int (1 : Int32))])) rfl rfl (hb hby d11_11) k) ?_
        refine Go.step (T' := s₁) (f' := (mkF m 15 #[.val (.ref ba), .val (.ref bb), .val (.int (1 : Int32))] [])) (fun t k => XS.icmpNo X0.here hx rfl (hb hby d11_12) rfl (tlt (by decide : (1 : Int32) < (2 : Int32))).2.1 k) ?_
        refine Go.step (T' := s₁) (f' := (mkF m 16 #[.val (.ref ba), .val (.ref bb), .val (.int (1 : Int32))] [(.ref ba)])) (fun t k => XS.aloadN X0.here hx rfl (hb hby d11_15) rfl rfl k) ?_
        refine Go.step (T' := s₁) (f' := (mkF m 17 #[.val (.ref ba), .val (.ref bb), .val (.int (1 : Int32))] [(.int (1 : Int32)), (.ref ba)])) (fun t k => XS.iloadN X0.here hx rfl (hb hby d11_16) rfl k) ?_
        obtain ⟨ca146, Aa146, qa146, Sa146, Na146, Ha146, Ga146⟩ := id f137
        have ia146 : ¬ ((1 : Int32) < 0 ∨ ca146.slots.size ≤ ((1 : Int32)).toNatClampNeg) := inb_of Sa146 ⟨by decide, by decide⟩
        have va146 := Ha146.at (v := (.int x1)) ia146 rfl
        refine Go.step (T' := s₁) (f' := (mkF m 18 #[.val (.ref ba), .val (.ref bb), .val (.int (1 : Int32))] [(.int x1)])) (fun t k => X0.baloadBytes hx (j := (1 : Int32)) (v := (.int x1)) (by rw [e0]; exact Aa146.1) (State.isArrayOf_alike hZ.alike Aa146.2.1) Aa146.2.2 ia146 va146 (g := (mkF m 17 #[.val (.ref ba), .val (.ref bb), .val (.int (1 : Int32))] [(.int (1 : Int32)), (.ref ba)])) rfl rfl (hb hby d11_17) t k) ?_
        refine Go.step (T' := s₁) (f' := (mkF m 19 #[.val (.ref ba), .val (.ref bb), .val (.int (1 : Int32))] [(.ref bb), (.int x1)])) (fun t k => XS.aloadN X0.here hx rfl (hb hby d11_18) rfl rfl k) ?_
        refine Go.step (T' := s₁) (f' := (mkF m 20 #[.val (.ref ba), .val (.ref bb), .val (.int (1 : Int32))] [(.int (1 : Int32)), (.ref bb), (.int x1)])) (fun t k => XS.iloadN X0.here hx rfl (hb hby d11_19) rfl k) ?_
        obtain ⟨ca147, Aa147, qa147, Sa147, Na147, Ha147, Ga147⟩ := id f138
        have ia147 : ¬ ((1 : Int32) < 0 ∨ ca147.slots.size ≤ ((1 : Int32)).toNatClampNeg) := inb_of Sa147 ⟨by decide, by decide⟩
        have va147 := Ha147.at (v := (.int y1)) ia147 rfl
        refine Go.step (T' := s₁) (f' := (mkF m 21 #[.val (.ref ba), .val (.ref bb), .val (.int (1 : Int32))] [(.int y1), (.int x1)])) (fun t k => X0.baloadBytes hx (j := (1 : Int32)) (v := (.int y1)) (by rw [e0]; exact Aa147.1) (State.isArrayOf_alike hZ.alike Aa147.2.1) Aa147.2.2 ia147 va147 (g := (mkF m 20 #[.val (.ref ba), .val (.ref bb), .val (.int (1 : Int32))] [(.int (1 : Int32)), (.ref bb), (.int x1)])) rfl rfl (hb hby d11_20) t k) ?_
        by_cases hc148 : x1 = y1
        ·
          refine Go.step (T' := s₁) (f' := (mkF m 26 #[.val (.ref ba), .val (.ref bb), .val (.int (1 : Int32))] [])) (fun t k => XS.icmpYes X0.here hx rfl (pc0 := 21) (pc' := 26) rfl (hb hby d11_21) rfl (teq hc148).1 (by decide) (by decide) k) ?_
          refine Go.step (T' := s₁) (f' := (mkF m 29 #[.val (.ref ba), .val (.ref bb), .val (.int ((1 : Int32) + (1 : Int32)))] [])) (fun t k => XS.iinc X0.here hx rfl (hb hby d11_26) rfl (l' := #[.val (.ref ba), .val (.ref bb), .val (.int ((1 : Int32) + (1 : Int32)))]) rfl k) ?_
          rw [show ((1 : Int32) + (1 : Int32)) = (2 : Int32) from by decide]
          refine Go.step (T' := s₁) (f' := (mkF m 9 #[.val (.ref ba), .val (.ref bb), .val (.int (2 : Int32))] [])) (fun t k => XS.goto X0.here hx rfl (pc0 := 29) (pc' := 9) rfl (hb hby d11_29) (by decide) (by decide) k) ?_
          refine Go.step (T' := s₁) (f' := (mkF m 10 #[.val (.ref ba), .val (.ref bb), .val (.int (2 : Int32))] [(.int (2 : Int32))])) (fun t k => XS.iloadN X0.here hx rfl (hb hby d11_9) rfl k) ?_
          refine Go.step (T' := s₁) (f' := (mkF m 11 #[.val (.ref ba), .val (.ref bb), .val (.int (2 : Int32))] [(.ref ba), (.int (2 : Int32))])) (fun t k => XS.aloadN X0.here hx rfl (hb hby d11_10) rfl rfl k) ?_
          obtain ⟨ca149, Aa149, qa149, Sa149, Na149, Ha149, Ga149⟩ := id f137
          refine Go.step (T' := s₁) (f' := (mkF m 12 #[.val (.ref ba), .val (.ref bb), .val (.int (2 : Int32))] [(.int (2 : Int32)), (.int (2 : Int32))])) (fun t k => own_alen X0 hx hZ e0 Aa149 Sa149 Na149 (g := (mkF m 11 #[.val (.ref ba), .val (.ref bb), .val (.int (2 : Int32))] [(.ref ba), (.int (2 : Int32))])) rfl rfl (hb hby d11_11) k) ?_
          refine Go.step (T' := s₁) (f' := (mkF m 32 #[.val (.ref ba), .val (.ref bb), .val (.int (2 : Int32))] [])) (fun t k => XS.icmpYes X0.here hx rfl (pc0 := 12) (pc' := 32) rfl (hb hby d11_12) rfl (flt (by decide : ¬ ((2 : Int32) < (2 : Int32)))).2.1 (by decide) (by decide) k) ?_
          refine Go.step (T' := s₁) (f' := (mkF m 33 #[.val (.ref ba), .val (.ref bb), .val (.int (2 : Int32))] [(.int (1 : Int32))])) (fun t k => XS.iconst X0.here hx rfl (hb hby d11_32) k) ?_
          refine Go.retZ X0 hx hlk (t := .boolean) Bd.returns (by simp) (hb hby d11_33) e0 ?_ (by decide) (by decide)
          exact ⟨by simp [nar, hc144, hc148], N0, rfl⟩
        ·
          refine Go.step (T' := s₁) (f' := (mkF m 24 #[.val (.ref ba), .val (.ref bb), .val (.int (1 : Int32))] [])) (fun t k => XS.icmpNo X0.here hx rfl (hb hby d11_21) rfl (feq hc148).1 k) ?_
          refine Go.step (T' := s₁) (f' := (mkF m 25 #[.val (.ref ba), .val (.ref bb), .val (.int (1 : Int32))] [(.int (0 : Int32))])) (fun t k => XS.iconst X0.here hx rfl (hb hby d11_24) k) ?_
          refine Go.retZ X0 hx hlk (t := .boolean) Bd.returns (by simp) (hb hby d11_25) e0 ?_ (by decide) (by decide)
          exact ⟨by simp [nar, hc144, hc148], N0, rfl⟩
      ·
        refine Go.step (T' := s₁) (f' := (mkF m 24 #[.val (.ref ba), .val (.ref bb), .val (.int (0 : Int32))] [])) (fun t k => XS.icmpNo X0.here hx rfl (hb hby d11_21) rfl (feq hc144).1 k) ?_
        refine Go.step (T' := s₁) (f' := (mkF m 25 #[.val (.ref ba), .val (.ref bb), .val (.int (0 : Int32))] [(.int (0 : Int32))])) (fun t k => XS.iconst X0.here hx rfl (hb hby d11_24) k) ?_
        refine Go.retZ X0 hx hlk (t := .boolean) Bd.returns (by simp) (hb hby d11_25) e0 ?_ (by decide) (by decide)
        exact ⟨by simp [nar, hc144], N0, rfl⟩
    ·
      have f150 : Arv Z h0 ba ka .byte (2 : Int32) [(.int x0), (.int x1)] (.int (0 : Int32)) := P0
      have f151 : Arv Z h0 bb kb .byte (3 : Int32) [(.int y0), (.int y1), (.int y2)] (.int (0 : Int32)) := P1
      refine Go.step (T' := s₁) (f' := (mkF m 1 #[.val (.ref ba), .val (.ref bb), .unset] [(.ref ba)])) (fun t k => XS.aloadN X0.here hx rfl (hb hby d11_0) rfl rfl k) ?_
      obtain ⟨ca152, Aa152, qa152, Sa152, Na152, Ha152, Ga152⟩ := id f150
      refine Go.step (T' := s₁) (f' := (mkF m 2 #[.val (.ref ba), .val (.ref bb), .unset] [(.int (2 : Int32))])) (fun t k => own_alen X0 hx hZ e0 Aa152 Sa152 Na152 (g := (mkF m 1 #[.val (.ref ba), .val (.ref bb), .unset] [(.ref ba)])) rfl rfl (hb hby d11_1) k) ?_
      refine Go.step (T' := s₁) (f' := (mkF m 3 #[.val (.ref ba), .val (.ref bb), .unset] [(.ref bb), (.int (2 : Int32))])) (fun t k => XS.aloadN X0.here hx rfl (hb hby d11_2) rfl rfl k) ?_
      obtain ⟨ca153, Aa153, qa153, Sa153, Na153, Ha153, Ga153⟩ := id f151
      refine Go.step (T' := s₁) (f' := (mkF m 4 #[.val (.ref ba), .val (.ref bb), .unset] [(.int (3 : Int32)), (.int (2 : Int32))])) (fun t k => own_alen X0 hx hZ e0 Aa153 Sa153 Na153 (g := (mkF m 3 #[.val (.ref ba), .val (.ref bb), .unset] [(.ref bb), (.int (2 : Int32))])) rfl rfl (hb hby d11_3) k) ?_
      refine Go.step (T' := s₁) (f' := (mkF m 34 #[.val (.ref ba), .val (.ref bb), .unset] [])) (fun t k => XS.icmpYes X0.here hx rfl (pc0 := 4) (pc' := 34) rfl (hb hby d11_4) rfl (feq (by decide : ¬ ((2 : Int32) = (3 : Int32)))).2 (by decide) (by decide) k) ?_
      refine Go.step (T' := s₁) (f' := (mkF m 35 #[.val (.ref ba), .val (.ref bb), .unset] [(.int (0 : Int32))])) (fun t k => XS.iconst X0.here hx rfl (hb hby d11_34) k) ?_
      refine Go.retZ X0 hx hlk (t := .boolean) Bd.returns (by simp) (hb hby d11_35) e0 ?_ (by decide) (by decide)
      exact ⟨by simp [nar], N0, rfl⟩
    ·
      exact absurd hly (by simp)
  ·
    rcases ys with _ | ⟨y0, _ | ⟨y1, _ | ⟨y2, _ | ⟨y3, ys⟩⟩⟩⟩
    ·
      have f154 : Arv Z h0 ba ka .byte (3 : Int32) [(.int x0), (.int x1), (.int x2)] (.int (0 : Int32)) := P0
      have f155 : Arv Z h0 bb kb .byte (0 : Int32) [] (.int (0 : Int32)) := P1
      refine Go.step (T' := s₁) (f' := (mkF m 1 #[.val (.ref ba), .val (.ref bb), .unset] [(.ref ba)])) (fun t k => XS.aloadN X0.here hx rfl (hb hby d11_0) rfl rfl k) ?_
      obtain ⟨ca156, Aa156, qa156, Sa156, Na156, Ha156, Ga156⟩ := id f154
      refine Go.step (T' := s₁) (f' := (mkF m 2 #[.val (.ref ba), .val (.ref bb), .unset] [(.int (3 : Int32))])) (fun t k => own_alen X0 hx hZ e0 Aa156 Sa156 Na156 (g := (mkF m 1 #[.val (.ref ba), .val (.ref bb), .unset] [(.ref ba)])) rfl rfl (hb hby d11_1) k) ?_
      refine Go.step (T' := s₁) (f' := (mkF m 3 #[.val (.ref ba), .val (.ref bb), .unset] [(.ref bb), (.int (3 : Int32))])) (fun t k => XS.aloadN X0.here hx rfl (hb hby d11_2) rfl rfl k) ?_
      obtain ⟨ca157, Aa157, qa157, Sa157, Na157, Ha157, Ga157⟩ := id f155
      refine Go.step (T' := s₁) (f' := (mkF m 4 #[.val (.ref ba), .val (.ref bb), .unset] [(.int (0 : Int32)), (.int (3 : Int32))])) (fun t k => own_alen X0 hx hZ e0 Aa157 Sa157 Na157 (g := (mkF m 3 #[.val (.ref ba), .val (.ref bb), .unset] [(.ref bb), (.int (3 : Int32))])) rfl rfl (hb hby d11_3) k) ?_
      refine Go.step (T' := s₁) (f' := (mkF m 34 #[.val (.ref ba), .val (.ref bb), .unset] [])) (fun t k => XS.icmpYes X0.here hx rfl (pc0 := 4) (pc' := 34) rfl (hb hby d11_4) rfl (feq (by decide : ¬ ((3 : Int32) = (0 : Int32)))).2 (by decide) (by decide) k) ?_
      refine Go.step (T' := s₁) (f' := (mkF m 35 #[.val (.ref ba), .val (.ref bb), .unset] [(.int (0 : Int32))])) (fun t k => XS.iconst X0.here hx rfl (hb hby d11_34) k) ?_
      refine Go.retZ X0 hx hlk (t := .boolean) Bd.returns (by simp) (hb hby d11_35) e0 ?_ (by decide) (by decide)
      exact ⟨by simp [nar], N0, rfl⟩
    ·
      have f158 : Arv Z h0 ba ka .byte (3 : Int32) [(.int x0), (.int x1), (.int x2)] (.int (0 : Int32)) := P0
      have f159 : Arv Z h0 bb kb .byte (1 : Int32) [(.int y0)] (.int (0 : Int32)) := P1
      refine Go.step (T' := s₁) (f' := (mkF m 1 #[.val (.ref ba), .val (.ref bb), .unset] [(.ref ba)])) (fun t k => XS.aloadN X0.here hx rfl (hb hby d11_0) rfl rfl k) ?_
      obtain ⟨ca160, Aa160, qa160, Sa160, Na160, Ha160, Ga160⟩ := id f158
      refine Go.step (T' := s₁) (f' := (mkF m 2 #[.val (.ref ba), .val (.ref bb), .unset] [(.int (3 : Int32))])) (fun t k => own_alen X0 hx hZ e0 Aa160 Sa160 Na160 (g := (mkF m 1 #[.val (.ref ba), .val (.ref bb), .unset] [(.ref ba)])) rfl rfl (hb hby d11_1) k) ?_
      refine Go.step (T' := s₁) (f' := (mkF m 3 #[.val (.ref ba), .val (.ref bb), .unset] [(.ref bb), (.int (3 : Int32))])) (fun t k => XS.aloadN X0.here hx rfl (hb hby d11_2) rfl rfl k) ?_
      obtain ⟨ca161, Aa161, qa161, Sa161, Na161, Ha161, Ga161⟩ := id f159
      refine Go.step (T' := s₁) (f' := (mkF m 4 #[.val (.ref ba), .val (.ref bb), .unset] [(.int (1 : Int32)), (.int (3 : Int32))])) (fun t k => own_alen X0 hx hZ e0 Aa161 Sa161 Na161 (g := (mkF m 3 #[.val (.ref ba), .val (.ref bb), .unset] [(.ref bb), (.int (3 : Int32))])) rfl rfl (hb hby d11_3) k) ?_
      refine Go.step (T' := s₁) (f' := (mkF m 34 #[.val (.ref ba), .val (.ref bb), .unset] [])) (fun t k => XS.icmpYes X0.here hx rfl (pc0 := 4) (pc' := 34) rfl (hb hby d11_4) rfl (feq (by decide : ¬ ((3 : Int32) = (1 : Int32)))).2 (by decide) (by decide) k) ?_
      refine Go.step (T' := s₁) (f' := (mkF m 35 #[.val (.ref ba), .val (.ref bb), .unset] [(.int (0 : Int32))])) (fun t k => XS.iconst X0.here hx rfl (hb hby d11_34) k) ?_
      refine Go.retZ X0 hx hlk (t := .boolean) Bd.returns (by simp) (hb hby d11_35) e0 ?_ (by decide) (by decide)
      exact ⟨by simp [nar], N0, rfl⟩
    ·
      have f162 : Arv Z h0 ba ka .byte (3 : Int32) [(.int x0), (.int x1), (.int x2)] (.int (0 : Int32)) := P0
      have f163 : Arv Z h0 bb kb .byte (2 : Int32) [(.int y0), (.int y1)] (.int (0 : Int32)) := P1
      refine Go.step (T' := s₁) (f' := (mkF m 1 #[.val (.ref ba), .val (.ref bb), .unset] [(.ref ba)])) (fun t k => XS.aloadN X0.here hx rfl (hb hby d11_0) rfl rfl k) ?_
      obtain ⟨ca164, Aa164, qa164, Sa164, Na164, Ha164, Ga164⟩ := id f162
      refine Go.step (T' := s₁) (f' := (mkF m 2 #[.val (.ref ba), .val (.ref bb), .unset] [(.int (3 : Int32))])) (fun t k => own_alen X0 hx hZ e0 Aa164 Sa164 Na164 (g := (mkF m 1 #[.val (.ref ba), .val (.ref bb), .unset] [(.ref ba)])) rfl rfl (hb hby d11_1) k) ?_
      refine Go.step (T' := s₁) (f' := (mkF m 3 #[.val (.ref ba), .val (.ref bb), .unset] [(.ref bb), (.int (3 : Int32))])) (fun t k => XS.aloadN X0.here hx rfl (hb hby d11_2) rfl rfl k) ?_
      obtain ⟨ca165, Aa165, qa165, Sa165, Na165, Ha165, Ga165⟩ := id f163
      refine Go.step (T' := s₁) (f' := (mkF m 4 #[.val (.ref ba), .val (.ref bb), .unset] [(.int (2 : Int32)), (.int (3 : Int32))])) (fun t k => own_alen X0 hx hZ e0 Aa165 Sa165 Na165 (g := (mkF m 3 #[.val (.ref ba), .val (.ref bb), .unset] [(.ref bb), (.int (3 : Int32))])) rfl rfl (hb hby d11_3) k) ?_
      refine Go.step (T' := s₁) (f' := (mkF m 34 #[.val (.ref ba), .val (.ref bb), .unset] [])) (fun t k => XS.icmpYes X0.here hx rfl (pc0 := 4) (pc' := 34) rfl (hb hby d11_4) rfl (feq (by decide : ¬ ((3 : Int32) = (2 : Int32)))).2 (by decide) (by decide) k) ?_
      refine Go.step (T' := s₁) (f' := (mkF m 35 #[.val (.ref ba), .val (.ref bb), .unset] [(.int (0 : Int32))])) (fun t k => XS.iconst X0.here hx rfl (hb hby d11_34) k) ?_
      refine Go.retZ X0 hx hlk (t := .boolean) Bd.returns (by simp) (hb hby d11_35) e0 ?_ (by decide) (by decide)
      exact ⟨by simp [nar], N0, rfl⟩
    ·
      have f166 : Arv Z h0 ba ka .byte (3 : Int32) [(.int x0), (.int x1), (.int x2)] (.int (0 : Int32)) := P0
      have f167 : Arv Z h0 bb kb .byte (3 : Int32) [(.int y0), (.int y1), (.int y2)] (.int (0 : Int32)) := P1
      refine Go.step (T' := s₁) (f' := (mkF m 1 #[.val (.ref ba), .val (.ref bb), .unset] [(.ref ba)])) (fun t k => XS.aloadN X0.here hx rfl (hb hby d11_0) rfl rfl k) ?_
      obtain ⟨ca168, Aa168, qa168, Sa168, Na168, Ha168, Ga168⟩ := id f166
      refine Go.step (T' := s₁) (f' := (mkF m 2 #[.val (.ref ba), .val (.ref bb), .unset] [(.int (3 : Int32))])) (fun t k => own_alen X0 hx hZ e0 Aa168 Sa168 Na168 (g := (mkF m 1 #[.val (.ref ba), .val (.ref bb), .unset] [(.ref ba)])) rfl rfl (hb hby d11_1) k) ?_
      refine Go.step (T' := s₁) (f' := (mkF m 3 #[.val (.ref ba), .val (.ref bb), .unset] [(.ref bb), (.int (3 : Int32))])) (fun t k => XS.aloadN X0.here hx rfl (hb hby d11_2) rfl rfl k) ?_
      obtain ⟨ca169, Aa169, qa169, Sa169, Na169, Ha169, Ga169⟩ := id f167
      refine Go.step (T' := s₁) (f' := (mkF m 4 #[.val (.ref ba), .val (.ref bb), .unset] [(.int (3 : Int32)), (.int (3 : Int32))])) (fun t k => own_alen X0 hx hZ e0 Aa169 Sa169 Na169 (g := (mkF m 3 #[.val (.ref ba), .val (.ref bb), .unset] [(.ref bb), (.int (3 : Int32))])) rfl rfl (hb hby d11_3) k) ?_
      refine Go.step (T' := s₁) (f' := (mkF m 7 #[.val (.ref ba), .val (.ref bb), .unset] [])) (fun t k => XS.icmpNo X0.here hx rfl (hb hby d11_4) rfl (teq (by decide : (3 : Int32) = (3 : Int32))).2 k) ?_
      refine Go.step (T' := s₁) (f' := (mkF m 8 #[.val (.ref ba), .val (.ref bb), .unset] [(.int (0 : Int32))])) (fun t k => XS.iconst X0.here hx rfl (hb hby d11_7) k) ?_
      refine Go.step (T' := s₁) (f' := (mkF m 9 #[.val (.ref ba), .val (.ref bb), .val (.int (0 : Int32))] [])) (fun t k => XS.istoreN X0.here hx rfl (hb hby d11_8) rfl (l' := #[.val (.ref ba), .val (.ref bb), .val (.int (0 : Int32))]) rfl k) ?_
      refine Go.step (T' := s₁) (f' := (mkF m 10 #[.val (.ref ba), .val (.ref bb), .val (.int (0 : Int32))] [(.int (0 : Int32))])) (fun t k => XS.iloadN X0.here hx rfl (hb hby d11_9) rfl k) ?_
      refine Go.step (T' := s₁) (f' := (mkF m 11 #[.val (.ref ba), .val (.ref bb), .val (.int (0 : Int32))] [(.ref ba), (.int (0 : Int32))])) (fun t k => XS.aloadN X0.here hx rfl (hb hby d11_10) rfl rfl k) ?_
      obtain ⟨ca170, Aa170, qa170, Sa170, Na170, Ha170, Ga170⟩ := id f166
      refine Go.step (T' := s₁) (f' := (mkF m 12 #[.val (.ref ba), .val (.ref bb), .val (.int (0 : Int32))] [(.int (3 : Int32)), (.int (0 : Int32))])) (fun t k => own_alen X0 hx hZ e0 Aa170 Sa170 Na170 (g := (mkF m 11 #[.val (.ref ba), .val (.ref bb), .val (.int (0 : Int32))] [(.ref ba), (.int (0 : Int32))])) rfl rfl (hb hby d11_11) k) ?_
      refine Go.step (T' := s₁) (f' := (mkF m 15 #[.val (.ref ba), .val (.ref bb), .val (.int (0 : Int32))] [])) (fun t k => XS.icmpNo X0.here hx rfl (hb hby d11_12) rfl (tlt (by decide : (0 : Int32) < (3 : Int32))).2.1 k) ?_
      refine Go.step (T' := s₁) (f' := (mkF m 16 #[.val (.ref ba), .val (.ref bb), .val (.int (0 : Int32))] [(.ref ba)])) (fun t k => XS.aloadN X0.here hx rfl (hb hby d11_15) rfl rfl k) ?_
      refine Go.step (T' := s₁) (f' := (mkF m 17 #[.val (.ref ba), .val (.ref bb), .val (.int (0 : Int32))] [(.int (0 : Int32)), (.ref ba)])) (fun t k => XS.iloadN X0.here hx rfl (hb hby d11_16) rfl k) ?_
      obtain ⟨ca171, Aa171, qa171, Sa171, Na171, Ha171, Ga171⟩ := id f166
      have ia171 : ¬ ((0 : Int32) < 0 ∨ ca171.slots.size ≤ ((0 : Int32)).toNatClampNeg) := inb_of Sa171 ⟨by decide, by decide⟩
      have va171 := Ha171.at (v := (.int x0)) ia171 rfl
      refine Go.step (T' := s₁) (f' := (mkF m 18 #[.val (.ref ba), .val (.ref bb), .val (.int (0 : Int32))] [(.int x0)])) (fun t k => X0.baloadBytes hx (j := (0 : Int32)) (v := (.int x0)) (by rw [e0]; exact Aa171.1) (State.isArrayOf_alike hZ.alike Aa171.2.1) Aa171.2.2 ia171 va171 (g := (mkF m 17 #[.val (.ref ba), .val (.ref bb), .val (.int (0 : Int32))] [(.int (0 : Int32)), (.ref ba)])) rfl rfl (hb hby d11_17) t k) ?_
      refine Go.step (T' := s₁) (f' := (mkF m 19 #[.val (.ref ba), .val (.ref bb), .val (.int (0 : Int32))] [(.ref bb), (.int x0)])) (fun t k => XS.aloadN X0.here hx rfl (hb hby d11_18) rfl rfl k) ?_
      refine Go.step (T' := s₁) (f' := (mkF m 20 #[.val (.ref ba), .val (.ref bb), .val (.int (0 : Int32))] [(.int (0 : Int32)), (.ref bb), (.int x0)])) (fun t k => XS.iloadN X0.here hx rfl (hb hby d11_19) rfl k) ?_
      obtain ⟨ca172, Aa172, qa172, Sa172, Na172, Ha172, Ga172⟩ := id f167
      have ia172 : ¬ ((0 : Int32) < 0 ∨ ca172.slots.size ≤ ((0 : Int32)).toNatClampNeg) := inb_of Sa172 ⟨by decide, by decide⟩
      have va172 := Ha172.at (v := (.int y0)) ia172 rfl
      refine Go.step (T' := s₁) (f' := (mkF m 21 #[.val (.ref ba), .val (.ref bb), .val (.int (0 : Int32))] [(.int y0), (.int x0)])) (fun t k => X0.baloadBytes hx (j := (0 : Int32)) (v := (.int y0)) (by rw [e0]; exact Aa172.1) (State.isArrayOf_alike hZ.alike Aa172.2.1) Aa172.2.2 ia172 va172 (g := (mkF m 20 #[.val (.ref ba), .val (.ref bb), .val (.int (0 : Int32))] [(.int (0 : Int32)), (.ref bb), (.int x0)])) rfl rfl (hb hby d11_20) t k) ?_
      by_cases hc173 : x0 = y0
      ·
        refine Go.step (T' := s₁) (f' := (mkF m 26 #[.val (.ref ba), .val (.ref bb), .val (.int (0 : Int32))] [])) (fun t k => XS.icmpYes X0.here hx rfl (pc0 := 21) (pc' := 26) rfl (hb hby d11_21) rfl (teq hc173).1 (by decide) (by decide) k) ?_
        refine Go.step (T' := s₁) (f' := (mkF m 29 #[.val (.ref ba), .val (.ref bb), .val (.int ((0 : Int32) + (1 : Int32)))] [])) (fun t k => XS.iinc X0.here hx rfl (hb hby d11_26) rfl (l' := #[.val (.ref ba), .val (.ref bb), .val (.int ((0 : Int32) + (1 : Int32)))]) rfl k) ?_
        rw [show ((0 : Int32) + (1 : Int32)) = (1 : Int32) from by decide]
        refine Go.step (T' := s₁) (f' := (mkF m 9 #[.val (.ref ba), .val (.ref bb), .val (.int (1 : Int32))] [])) (fun t k => XS.goto X0.here hx rfl (pc0 := 29) (pc' := 9) rfl (hb hby d11_29) (by decide) (by decide) k) ?_
        refine Go.step (T' := s₁) (f' := (mkF m 10 #[.val (.ref ba), .val (.ref bb), .val (.int (1 : Int32))] [(.int (1 : Int32))])) (fun t k => XS.iloadN X0.here hx rfl (hb hby d11_9) rfl k) ?_
        refine Go.step (T' := s₁) (f' := (mkF m 11 #[.val (.ref ba), .val (.ref bb), .val (.int (1 : Int32))] [(.ref ba), (.int (1 : Int32))])) (fun t k => XS.aloadN X0.here hx rfl (hb hby d11_10) rfl rfl k) ?_
        obtain ⟨ca174, Aa174, qa174, Sa174, Na174, Ha174, Ga174⟩ := id f166
        refine Go.step (T' := s₁) (f' := (mkF m 12 #[.val (.ref ba), .val (.ref bb), .val (.int (1 : Int32))] [(.int (3 : Int32)), (.int (1 : Int32))])) (fun t k => own_alen X0 hx hZ e0 Aa174 Sa174 Na174 (g := (mkF m 11 #[.val (.ref ba), .val (.ref bb), .val (.int (1 : Int32))] [(.ref ba), (.int (1 : Int32))])) rfl rfl (hb hby d11_11) k) ?_
        refine Go.step (T' := s₁) (f' := (mkF m 15 #[.val (.ref ba), .val (.ref bb), .val (.int (1 : Int32))] [])) (fun t k => XS.icmpNo X0.here hx rfl (hb hby d11_12) rfl (tlt (by decide : (1 : Int32) < (3 : Int32))).2.1 k) ?_
        refine Go.step (T' := s₁) (f' := (mkF m 16 #[.val (.ref ba), .val (.ref bb), .val (.int (1 : Int32))] [(.ref ba)])) (fun t k => XS.aloadN X0.here hx rfl (hb hby d11_15) rfl rfl k) ?_
        refine Go.step (T' := s₁) (f' := (mkF m 17 #[.val (.ref ba), .val (.ref bb), .val (.int (1 : Int32))] [(.int (1 : Int32)), (.ref ba)])) (fun t k => XS.iloadN X0.here hx rfl (hb hby d11_16) rfl k) ?_
        obtain ⟨ca175, Aa175, qa175, Sa175, Na175, Ha175, Ga175⟩ := id f166
        have ia175 : ¬ ((1 : Int32) < 0 ∨ ca175.slots.size ≤ ((1 : Int32)).toNatClampNeg) := inb_of Sa175 ⟨by decide, by decide⟩
        have va175 := Ha175.at (v := (.int x1)) ia175 rfl
        refine Go.step (T' := s₁) (f' := (mkF m 18 #[.val (.ref ba), .val (.ref bb), .val (.int (1 : Int32))] [(.int x1)])) (fun t k => X0.baloadBytes hx (j := (1 : Int32)) (v := (.int x1)) (by rw [e0]; exact Aa175.1) (State.isArrayOf_alike hZ.alike Aa175.2.1) Aa175.2.2 ia175 va175 (g := (mkF m 17 #[.val (.ref ba), .val (.ref bb), .val (.int (1 : Int32))] [(.int (1 : Int32)), (.ref ba)])) rfl rfl (hb hby d11_17) t k) ?_
        refine Go.step (T' := s₁) (f' := (mkF m 19 #[.val (.ref ba), .val (.ref bb), .val (.int (1 : Int32))] [(.ref bb), (.int x1)])) (fun t k => XS.aloadN X0.here hx rfl (hb hby d11_18) rfl rfl k) ?_
        refine Go.step (T' := s₁) (f' := (mkF m 20 #[.val (.ref ba), .val (.ref bb), .val (.int (1 : Int32))] [(.int (1 : Int32)), (.ref bb), (.int x1)])) (fun t k => XS.iloadN X0.here hx rfl (hb hby d11_19) rfl k) ?_
        obtain ⟨ca176, Aa176, qa176, Sa176, Na176, Ha176, Ga176⟩ := id f167
        have ia176 : ¬ ((1 : Int32) < 0 ∨ ca176.slots.size ≤ ((1 : Int32)).toNatClampNeg) := inb_of Sa176 ⟨by decide, by decide⟩
        have va176 := Ha176.at (v := (.int y1)) ia176 rfl
        refine Go.step (T' := s₁) (f' := (mkF m 21 #[.val (.ref ba), .val (.ref bb), .val (.int (1 : Int32))] [(.int y1), (.int x1)])) (fun t k => X0.baloadBytes hx (j := (1 : Int32)) (v := (.int y1)) (by rw [e0]; exact Aa176.1) (State.isArrayOf_alike hZ.alike Aa176.2.1) Aa176.2.2 ia176 va176 (g := (mkF m 20 #[.val (.ref ba), .val (.ref bb), .val (.int (1 : Int32))] [(.int (1 : Int32)), (.ref bb), (.int x1)])) rfl rfl (hb hby d11_20) t k) ?_
        by_cases hc177 : x1 = y1
        ·
          refine Go.step (T' := s₁) (f' := (mkF m 26 #[.val (.ref ba), .val (.ref bb), .val (.int (1 : Int32))] [])) (fun t k => XS.icmpYes X0.here hx rfl (pc0 := 21) (pc' := 26) rfl (hb hby d11_21) rfl (teq hc177).1 (by decide) (by decide) k) ?_
          refine Go.step (T' := s₁) (f' := (mkF m 29 #[.val (.ref ba), .val (.ref bb), .val (.int ((1 : Int32) + (1 : Int32)))] [])) (fun t k => XS.iinc X0.here hx rfl (hb hby d11_26) rfl (l' := #[.val (.ref ba), .val (.ref bb), .val (.int ((1 : Int32) + (1 : Int32)))]) rfl k) ?_
          rw [show ((1 : Int32) + (1 : Int32)) = (2 : Int32) from by decide]
          refine Go.step (T' := s₁) (f' := (mkF m 9 #[.val (.ref ba), .val (.ref bb), .val (.int (2 : Int32))] [])) (fun t k => XS.goto X0.here hx rfl (pc0 := 29) (pc' := 9) rfl (hb hby d11_29) (by decide) (by decide) k) ?_
          refine Go.step (T' := s₁) (f' := (mkF m 10 #[.val (.ref ba), .val (.ref bb), .val (.int (2 : Int32))] [(.int (2 : Int32))])) (fun t k => XS.iloadN X0.here hx rfl (hb hby d11_9) rfl k) ?_
          refine Go.step (T' := s₁) (f' := (mkF m 11 #[.val (.ref ba), .val (.ref bb), .val (.int (2 : Int32))] [(.ref ba), (.int (2 : Int32))])) (fun t k => XS.aloadN X0.here hx rfl (hb hby d11_10) rfl rfl k) ?_
          obtain ⟨ca178, Aa178, qa178, Sa178, Na178, Ha178, Ga178⟩ := id f166
          refine Go.step (T' := s₁) (f' := (mkF m 12 #[.val (.ref ba), .val (.ref bb), .val (.int (2 : Int32))] [(.int (3 : Int32)), (.int (2 : Int32))])) (fun t k => own_alen X0 hx hZ e0 Aa178 Sa178 Na178 (g := (mkF m 11 #[.val (.ref ba), .val (.ref bb), .val (.int (2 : Int32))] [(.ref ba), (.int (2 : Int32))])) rfl rfl (hb hby d11_11) k) ?_
          refine Go.step (T' := s₁) (f' := (mkF m 15 #[.val (.ref ba), .val (.ref bb), .val (.int (2 : Int32))] [])) (fun t k => XS.icmpNo X0.here hx rfl (hb hby d11_12) rfl (tlt (by decide : (2 : Int32) < (3 : Int32))).2.1 k) ?_
          refine Go.step (T' := s₁) (f' := (mkF m 16 #[.val (.ref ba), .val (.ref bb), .val (.int (2 : Int32))] [(.ref ba)])) (fun t k => XS.aloadN X0.here hx rfl (hb hby d11_15) rfl rfl k) ?_
          refine Go.step (T' := s₁) (f' := (mkF m 17 #[.val (.ref ba), .val (.ref bb), .val (.int (2 : Int32))] [(.int (2 : Int32)), (.ref ba)])) (fun t k => XS.iloadN X0.here hx rfl (hb hby d11_16) rfl k) ?_
          obtain ⟨ca179, Aa179, qa179, Sa179, Na179, Ha179, Ga179⟩ := id f166
          have ia179 : ¬ ((2 : Int32) < 0 ∨ ca179.slots.size ≤ ((2 : Int32)).toNatClampNeg) := inb_of Sa179 ⟨by decide, by decide⟩
          have va179 := Ha179.at (v := (.int x2)) ia179 rfl
          refine Go.step (T' := s₁) (f' := (mkF m 18 #[.val (.ref ba), .val (.ref bb), .val (.int (2 : Int32))] [(.int x2)])) (fun t k => X0.baloadBytes hx (j := (2 : Int32)) (v := (.int x2)) (by rw [e0]; exact Aa179.1) (State.isArrayOf_alike hZ.alike Aa179.2.1) Aa179.2.2 ia179 va179 (g := (mkF m 17 #[.val (.ref ba), .val (.ref bb), .val (.int (2 : Int32))] [(.int (2 : Int32)), (.ref ba)])) rfl rfl (hb hby d11_17) t k) ?_
          refine Go.step (T' := s₁) (f' := (mkF m 19 #[.val (.ref ba), .val (.ref bb), .val (.int (2 : Int32))] [(.ref bb), (.int x2)])) (fun t k => XS.aloadN X0.here hx rfl (hb hby d11_18) rfl rfl k) ?_
          refine Go.step (T' := s₁) (f' := (mkF m 20 #[.val (.ref ba), .val (.ref bb), .val (.int (2 : Int32))] [(.int (2 : Int32)), (.ref bb), (.int x2)])) (fun t k => XS.iloadN X0.here hx rfl (hb hby d11_19) rfl k) ?_
          obtain ⟨ca180, Aa180, qa180, Sa180, Na180, Ha180, Ga180⟩ := id f167
          have ia180 : ¬ ((2 : Int32) < 0 ∨ ca180.slots.size ≤ ((2 : Int32)).toNatClampNeg) := inb_of Sa180 ⟨by decide, by decide⟩
          have va180 := Ha180.at (v := (.int y2)) ia180 rfl
          refine Go.step (T' := s₁) (f' := (mkF m 21 #[.val (.ref ba), .val (.ref bb), .val (.int (2 : Int32))] [(.int y2), (.int x2)])) (fun t k => X0.baloadBytes hx (j := (2 : Int32)) (v := (.int y2)) (by rw [e0]; exact Aa180.1) (State.isArrayOf_alike hZ.alike Aa180.2.1) Aa180.2.2 ia180 va180 (g := (mkF m 20 #[.val (.ref ba), .val (.ref bb), .val (.int (2 : Int32))] [(.int (2 : Int32)), (.ref bb), (.int x2)])) rfl rfl (hb hby d11_20) t k) ?_
          by_cases hc181 : x2 = y2
          ·
            refine Go.step (T' := s₁) (f' := (mkF m 26 #[.val (.ref ba), .val (.ref bb), .val (.int (2 : Int32))] [])) (fun t k => XS.icmpYes X0.here hx rfl (pc0 := 21) (pc' := 26) rfl (hb hby d11_21) rfl (teq hc181).1 (by decide) (by decide) k) ?_
            refine Go.step (T' := s₁) (f' := (mkF m 29 #[.val (.ref ba), .val (.ref bb), .val (.int ((2 : Int32) + (1 : Int32)))] [])) (fun t k => XS.iinc X0.here hx rfl (hb hby d11_26) rfl (l' := #[.val (.ref ba), .val (.ref bb), .val (.int ((2 : Int32) + (1 : Int32)))]) rfl k) ?_
            rw [show ((2 : Int32) + (1 : Int32)) = (3 : Int32) from by decide]
            refine Go.step (T' := s₁) (f' := (mkF m 9 #[.val (.ref ba), .val (.ref bb), .val (.int (3 : Int32))] [])) (fun t k => XS.goto X0.here hx rfl (pc0 := 29) (pc' := 9) rfl (hb hby d11_29) (by decide) (by decide) k) ?_
            refine Go.step (T' := s₁) (f' := (mkF m 10 #[.val (.ref ba), .val (.ref bb), .val (.int (3 : Int32))] [(.int (3 : Int32))])) (fun t k => XS.iloadN X0.here hx rfl (hb hby d11_9) rfl k) ?_
            refine Go.step (T' := s₁) (f' := (mkF m 11 #[.val (.ref ba), .val (.ref bb), .val (.int (3 : Int32))] [(.ref ba), (.int (3 : Int32))])) (fun t k => XS.aloadN X0.here hx rfl (hb hby d11_10) rfl rfl k) ?_
            obtain ⟨ca182, Aa182, qa182, Sa182, Na182, Ha182, Ga182⟩ := id f166
            refine Go.step (T' := s₁) (f' := (mkF m 12 #[.val (.ref ba), .val (.ref bb), .val (.int (3 : Int32))] [(.int (3 : Int32)), (.int (3 : Int32))])) (fun t k => own_alen X0 hx hZ e0 Aa182 Sa182 Na182 (g := (mkF m 11 #[.val (.ref ba), .val (.ref bb), .val (.int (3 : Int32))] [(.ref ba), (.int (3 : Int32))])) rfl rfl (hb hby d11_11) k) ?_
            refine Go.step (T' := s₁) (f' := (mkF m 32 #[.val (.ref ba), .val (.ref bb), .val (.int (3 : Int32))] [])) (fun t k => XS.icmpYes X0.here hx rfl (pc0 := 12) (pc' := 32) rfl (hb hby d11_12) rfl (flt (by decide : ¬ ((3 : Int32) < (3 : Int32)))).2.1 (by decide) (by decide) k) ?_
            refine Go.step (T' := s₁) (f' := (mkF m 33 #[.val (.ref ba), .val (.ref bb), .val (.int (3 : Int32))] [(.int (1 : Int32))])) (fun t k => XS.iconst X0.here hx rfl (hb hby d11_32) k) ?_
            refine Go.retZ X0 hx hlk (t := .boolean) Bd.returns (by simp) (hb hby d11_33) e0 ?_ (by decide) (by decide)
            exact ⟨by simp [nar, hc173, hc177, hc181], N0, rfl⟩
          ·
            refine Go.step (T' := s₁) (f' := (mkF m 24 #[.val (.ref ba), .val (.ref bb), .val (.int (2 : Int32))] [])) (fun t k => XS.icmpNo X0.here hx rfl (hb hby d11_21) rfl (feq hc181).1 k) ?_
            refine Go.step (T' := s₁) (f' := (mkF m 25 #[.val (.ref ba), .val (.ref bb), .val (.int (2 : Int32))] [(.int (0 : Int32))])) (fun t k => XS.iconst X0.here hx rfl (hb hby d11_24) k) ?_
            refine Go.retZ X0 hx hlk (t := .boolean) Bd.returns (by simp) (hb hby d11_25) e0 ?_ (by decide) (by decide)
            exact ⟨by simp [nar, hc173, hc177, hc181], N0, rfl⟩
        ·
          refine Go.step (T' := s₁) (f' := (mkF m 24 #[.val (.ref ba), .val (.ref bb), .val (.int (1 : Int32))] [])) (fun t k => XS.icmpNo X0.here hx rfl (hb hby d11_21) rfl (feq hc177).1 k) ?_
          refine Go.step (T' := s₁) (f' := (mkF m 25 #[.val (.ref ba), .val (.ref bb), .val (.int (1 : Int32))] [(.int (0 : Int32))])) (fun t k => XS.iconst X0.here hx rfl (hb hby d11_24) k) ?_
          refine Go.retZ X0 hx hlk (t := .boolean) Bd.returns (by simp) (hb hby d11_25) e0 ?_ (by decide) (by decide)
          exact ⟨by simp [nar, hc173, hc177], N0, rfl⟩
      ·
        refine Go.step (T' := s₁) (f' := (mkF m 24 #[.val (.ref ba), .val (.ref bb), .val (.int (0 : Int32))] [])) (fun t k => XS.icmpNo X0.here hx rfl (hb hby d11_21) rfl (feq hc173).1 k) ?_
        refine Go.step (T' := s₁) (f' := (mkF m 25 #[.val (.ref ba), .val (.ref bb), .val (.int (0 : Int32))] [(.int (0 : Int32))])) (fun t k => XS.iconst X0.here hx rfl (hb hby d11_24) k) ?_
        refine Go.retZ X0 hx hlk (t := .boolean) Bd.returns (by simp) (hb hby d11_25) e0 ?_ (by decide) (by decide)
        exact ⟨by simp [nar, hc173], N0, rfl⟩
    ·
      exact absurd hly (by simp)
  ·
    exact absurd hlx (by simp)
theorem d4_0 : decode jdk_42_method_66_code 0 = .ok (.aload_n 0, 1) := by decide +kernel
theorem d4_1 : decode jdk_42_method_66_code 1 = .ok (.aload_n 1, 1) := by decide +kernel
theorem d4_2 : decode jdk_42_method_66_code 2 = .ok (.if_acmp .ne 5, 3) := by decide +kernel
theorem d4_5 : decode jdk_42_method_66_code 5 = .ok (.iconst 1, 1) := by decide +kernel
theorem d4_6 : decode jdk_42_method_66_code 6 = .ok (.ireturn, 1) := by decide +kernel
theorem d4_7 : decode jdk_42_method_66_code 7 = .ok (.aload_n 1, 1) := by decide +kernel
theorem d4_8 : decode jdk_42_method_66_code 8 = .ok (.instanceof 10, 3) := by decide +kernel
theorem d4_11 : decode jdk_42_method_66_code 11 = .ok (.ifCond .eq 43, 3) := by decide +kernel
theorem d4_14 : decode jdk_42_method_66_code 14 = .ok (.aload_n 1, 1) := by decide +kernel
theorem d4_15 : decode jdk_42_method_66_code 15 = .ok (.checkcast 10, 3) := by decide +kernel
theorem d4_18 : decode jdk_42_method_66_code 18 = .ok (.astore_n 2, 1) := by decide +kernel
theorem d4_19 : decode jdk_42_method_66_code 19 = .ok (.getstatic 38, 3) := by decide +kernel
theorem d4_22 : decode jdk_42_method_66_code 22 = .ok (.ifCond .eq 14, 3) := by decide +kernel
theorem d4_25 : decode jdk_42_method_66_code 25 = .ok (.aload_n 0, 1) := by decide +kernel
theorem d4_26 : decode jdk_42_method_66_code 26 = .ok (.getfield 15, 3) := by decide +kernel
theorem d4_29 : decode jdk_42_method_66_code 29 = .ok (.aload_n 2, 1) := by decide +kernel
theorem d4_30 : decode jdk_42_method_66_code 30 = .ok (.getfield 15, 3) := by decide +kernel
theorem d4_33 : decode jdk_42_method_66_code 33 = .ok (.if_icmp .ne 21, 3) := by decide +kernel
theorem d4_36 : decode jdk_42_method_66_code 36 = .ok (.aload_n 0, 1) := by decide +kernel
theorem d4_37 : decode jdk_42_method_66_code 37 = .ok (.getfield 9, 3) := by decide +kernel
theorem d4_40 : decode jdk_42_method_66_code 40 = .ok (.aload_n 2, 1) := by decide +kernel
theorem d4_41 : decode jdk_42_method_66_code 41 = .ok (.getfield 9, 3) := by decide +kernel
theorem d4_44 : decode jdk_42_method_66_code 44 = .ok (.invokestatic 541, 3) := by decide +kernel
theorem d4_47 : decode jdk_42_method_66_code 47 = .ok (.ifCond .eq 7, 3) := by decide +kernel
theorem d4_50 : decode jdk_42_method_66_code 50 = .ok (.iconst 1, 1) := by decide +kernel
theorem d4_51 : decode jdk_42_method_66_code 51 = .ok (.goto 4, 3) := by decide +kernel
theorem d4_54 : decode jdk_42_method_66_code 54 = .ok (.iconst 0, 1) := by decide +kernel
theorem d4_55 : decode jdk_42_method_66_code 55 = .ok (.ireturn, 1) := by decide +kernel
theorem pd4 : parseMethodDescriptor "([B[B)Z" = some ⟨[(.array .byte), (.array .byte)], some .boolean⟩ := by decide +kernel
theorem ef_seq (m : MethodId) (ba : Addr) (bb : Addr) : entryFrame m #[(.ref ba), (.ref bb)] 3 = mkF m 0 #[.val (.ref ba), .val (.ref bb), .unset] [] := by first | (simp [entryFrame, mkF, argsToLocals, Value.category]; done) | rfl
def Q_seq (Z : State) (ba : Addr) (bb : Addr) (va : Addr) (vb : Addr) (ka : ClassId) (kb : ClassId) (xs : List Int32) (ys : List Int32) (wz : Int32) (h0 : Heap) (n0 : Nat) (v : Option Value) (h : Heap) (L : List Loc) : Prop := v = some (.int (if xs = ys then (1 : Int32) else 0)) ∧ Fr n0 L ∧ h = h0
set_option maxRecDepth 65536 in
set_option maxHeartbeats 40000000 in
theorem rm_seq (l : Launch) (Z : State) (a0 : Array Value) (hw : ∀ d ∈ tables_1, d.before a0 Z = true) (ws : List Jvm.Cond) (ba : Addr) (bb : Addr) (va : Addr) (vb : Addr) (ka : ClassId) (kb : ClassId) (xs : List Int32) (ys : List Int32) (wz : Int32) (h0 : Heap) (n0 : Nat) (O0 : Old Z n0 h0) (P0 : Fld Z h0 ba "java/lang/String" "value" "[B" (.ref va)) (P1 : Fld Z h0 ba "java/lang/String" "coder" "B" (.int (0 : Int32))) (P2 : Arv Z h0 va ka .byte (Int32.ofNat xs.length) (xs.map Value.int) (.int (0 : Int32))) (P3 : Exa Z h0 bb "java/lang/String") (P4 : Fld Z h0 bb "java/lang/String" "value" "[B" (.ref vb)) (P5 : Fld Z h0 bb "java/lang/String" "coder" "B" (.int (0 : Int32))) (P6 : Arv Z h0 vb kb .byte (Int32.ofNat ys.length) (ys.map Value.int) (.int (0 : Int32))) (P7 : Sta Z Z.heap "java/lang/String" "COMPACT_STRINGS" "Z" (.int wz)) (hwz : ¬ (wz = (0 : Int32))) (hlx : xs.length ≤ 3) (hly : ys.length ≤ 3) :
    MetFree l (⟨"java/lang/String", "equals", "(Ljava/lang/Object;)Z"⟩ : MethodName) (head1 (Jvm.Cond.code (⟨"java/lang/String", "equals", "(Ljava/lang/Object;)Z"⟩ : MethodName) jdk_42_method_66_code 3 (some .boolean) :: ws) ({ frames := 1, cells := 0, slots := 0, locals := 14 } : Room)) (fun a U => a = #[(.ref ba), (.ref bb)] ∧ Z.Warmed39 U.vm ∧ U.heap = h0) (fun _ _ _ _ _ => True) (fun _ U o U' => ∃ v L, o = .returned v ∧ Q_seq Z ba bb va vb ka kb xs ys wz h0 n0 v U'.heap L ∧ FrameEnd U o U' L ({ frames := 1, cells := 0, slots := 0, locals := 14 } : Room).cells ({ frames := 1, cells := 0, slots := 0, locals := 14 } : Room).slots) := by
  refine MetFree.of_bodySF (plainFor_of_name pn_java_lang_String) hisR ?_
  intro p e s m args below meth c s₁ Bd hml0 hP hK
  obtain ⟨rfl, hZ, hh⟩ := hP
  have hx := Bd.exec
  have hby := Bd.bytes
  have hml : c.maxLocals = 3 := hml0
  have hown : s.vm.findClass "java/lang/String" = some m.cls := findClass_of_methodNamed Bd.named
  have hnm := (name_of_methodNamed Bd.named Bd.method).1
  have hlk : meth.locks = false := BodyLoose.notSynchronized Bd
  have X0 : Stand p l e ({ frames := 1, cells := 0, slots := 0, locals := 14 } : Room) s m #[(.ref ba), (.ref bb)] below meth c s₁ [] 0 0 := Stand.of_body Bd
  have e0 : s₁.heap = h0 := by rw [← hh, Bd.state]; rfl
  have N0 := Fr.nil n0
  rw [ef_seq m ba bb]
  show Go p e below s (fun v h L => Q_seq Z ba bb va vb ka kb xs ys wz h0 n0 v h L) ({ frames := 1, cells := 0, slots := 0, locals := 14 } : Room).cells ({ frames := 1, cells := 0, slots := 0, locals := 14 } : Room).slots s₁ (mkF m 0 #[.val (.ref ba), .val (.ref bb), .unset] [])
  refine Go.step (T' := s₁) (f' := (mkF m 1 #[.val (.ref ba), .val (.ref bb), .unset] [(.ref ba)])) (fun t k => XS.aloadN X0.here hx rfl (hb hby d4_0) rfl rfl k) ?_
  refine Go.step (T' := s₁) (f' := (mkF m 2 #[.val (.ref ba), .val (.ref bb), .unset] [(.ref bb), (.ref ba)])) (fun t k => XS.aloadN X0.here hx rfl (hb hby d4_1) rfl rfl k) ?_
  by_cases ha183 : ba = bb
  ·
    refine Go.step (T' := s₁) (f' := (mkF m 5 #[.val (.ref ba), .val (.ref bb), .unset] [])) (fun t k => Jvm.RoadKit.acmp (g := (mkF m 2 #[.val (.ref ba), .val (.ref bb), .unset] [(.ref bb), (.ref ba)])) X0 hx rfl rfl rfl (pc0 := 2) (pc' := 5) (same := true) rfl (hb hby d4_2) rfl (decide_eq_true (congrArg Value.ref ha183)) (by decide) (by decide) k) ?_
    refine Go.step (T' := s₁) (f' := (mkF m 6 #[.val (.ref ba), .val (.ref bb), .unset] [(.int (1 : Int32))])) (fun t k => XS.iconst X0.here hx rfl (hb hby d4_5) k) ?_
    refine Go.retZ X0 hx hlk (t := .boolean) Bd.returns (by simp) (hb hby d4_6) e0 ?_ (by decide) (by decide)
    exact ⟨by rw [if_pos (own_str_eq ha183 hlx hly P0 P2 P4 P6)]; rfl, N0, rfl⟩
  ·
    refine Go.step (T' := s₁) (f' := (mkF m 7 #[.val (.ref ba), .val (.ref bb), .unset] [])) (fun t k => Jvm.RoadKit.acmp (g := (mkF m 2 #[.val (.ref ba), .val (.ref bb), .unset] [(.ref bb), (.ref ba)])) X0 hx rfl rfl rfl (pc0 := 2) (pc' := 7) (same := false) rfl (hb hby d4_2) rfl (decide_eq_false fun q => ha183 (Value.ref.inj q)) (by decide) (by decide) k) ?_
    refine Go.step (T' := s₁) (f' := (mkF m 8 #[.val (.ref ba), .val (.ref bb), .unset] [(.ref bb)])) (fun t k => XS.aloadN X0.here hx rfl (hb hby d4_7) rfl rfl k) ?_
    obtain ⟨T184, X184, e184, st184⟩ := instY X0 hx hZ hown (hw _ (List.mem_of_getElem? (i := 63) rfl)) e0 (Ins.self P3) (g := (mkF m 8 #[.val (.ref ba), .val (.ref bb), .unset] [(.ref bb)])) rfl rfl (hb hby d4_8)
    refine Go.step (T' := T184) (f' := (mkF m 11 #[.val (.ref ba), .val (.ref bb), .unset] [(.int (1 : Int32))])) st184 ?_
    clear st184 X0
    refine Go.step (T' := T184) (f' := (mkF m 14 #[.val (.ref ba), .val (.ref bb), .unset] [])) (fun t k => XS.ifNo X184.here hx rfl (hb hby d4_11) rfl ((if0 _ _).trans (feq (by decide : ¬ ((1 : Int32) = (0 : Int32)))).1) k) ?_
    refine Go.step (T' := T184) (f' := (mkF m 15 #[.val (.ref ba), .val (.ref bb), .unset] [(.ref bb)])) (fun t k => XS.aloadN X184.here hx rfl (hb hby d4_14) rfl rfl k) ?_
    obtain ⟨T185, X185, e185, st185⟩ := castY X184 hx hZ hown (hw _ (List.mem_of_getElem? (i := 63) rfl)) e184 (Ins.self P3) (g := (mkF m 15 #[.val (.ref ba), .val (.ref bb), .unset] [(.ref bb)])) rfl rfl (hb hby d4_15)
    refine Go.step (T' := T185) (f' := (mkF m 18 #[.val (.ref ba), .val (.ref bb), .unset] [(.ref bb)])) st185 ?_
    clear st185 X184
    refine Go.step (T' := T185) (f' := (mkF m 19 #[.val (.ref ba), .val (.ref bb), .val (.ref bb)] [])) (fun t k => XS.astoreN X185.here hx rfl (hb hby d4_18) rfl rfl (l' := #[.val (.ref ba), .val (.ref bb), .val (.ref bb)]) rfl k) ?_
    obtain ⟨T186, X186, e186, st186⟩ := getS2 X185 hx hZ hown (host := "") (Or.inl (hw _ (List.mem_of_getElem? (i := 50) rfl))) Via.refl e185 (P7.ext O0.2) (g := (mkF m 19 #[.val (.ref ba), .val (.ref bb), .val (.ref bb)] [])) rfl (hb hby d4_19)
    refine Go.step (T' := T186) (f' := (mkF m 22 #[.val (.ref ba), .val (.ref bb), .val (.ref bb)] [(.int wz)])) st186 ?_
    clear st186 X185
    refine Go.step (T' := T186) (f' := (mkF m 25 #[.val (.ref ba), .val (.ref bb), .val (.ref bb)] [])) (fun t k => XS.ifNo X186.here hx rfl (hb hby d4_22) rfl ((if0 _ _).trans (feq hwz).1) k) ?_
    refine Go.step (T' := T186) (f' := (mkF m 26 #[.val (.ref ba), .val (.ref bb), .val (.ref bb)] [(.ref ba)])) (fun t k => XS.aloadN X186.here hx rfl (hb hby d4_25) rfl rfl k) ?_
    obtain ⟨T187, X187, e187, st187⟩ := getF X186 hx hZ hown (host := "") (Or.inl (hw _ (List.mem_of_getElem? (i := 61) rfl))) Via.refl e186 P1 (g := (mkF m 26 #[.val (.ref ba), .val (.ref bb), .val (.ref bb)] [(.ref ba)])) rfl rfl (hb hby d4_26)
    refine Go.step (T' := T187) (f' := (mkF m 29 #[.val (.ref ba), .val (.ref bb), .val (.ref bb)] [(.int (0 : Int32))])) st187 ?_
    clear st187 X186
    refine Go.step (T' := T187) (f' := (mkF m 30 #[.val (.ref ba), .val (.ref bb), .val (.ref bb)] [(.ref bb), (.int (0 : Int32))])) (fun t k => XS.aloadN X187.here hx rfl (hb hby d4_29) rfl rfl k) ?_
    obtain ⟨T188, X188, e188, st188⟩ := getF X187 hx hZ hown (host := "") (Or.inl (hw _ (List.mem_of_getElem? (i := 61) rfl))) Via.refl e187 P5 (g := (mkF m 30 #[.val (.ref ba), .val (.ref bb), .val (.ref bb)] [(.ref bb), (.int (0 : Int32))])) rfl rfl (hb hby d4_30)
    refine Go.step (T' := T188) (f' := (mkF m 33 #[.val (.ref ba), .val (.ref bb), .val (.ref bb)] [(.int (0 : Int32)), (.int (0 : Int32))])) st188 ?_
    clear st188 X187
    refine Go.step (T' := T188) (f' := (mkF m 36 #[.val (.ref ba), .val (.ref bb), .val (.ref bb)] [])) (fun t k => XS.icmpNo X188.here hx rfl (hb hby d4_33) rfl (teq (by decide : (0 : Int32) = (0 : Int32))).2 k) ?_
    refine Go.step (T' := T188) (f' := (mkF m 37 #[.val (.ref ba), .val (.ref bb), .val (.ref bb)] [(.ref ba)])) (fun t k => XS.aloadN X188.here hx rfl (hb hby d4_36) rfl rfl k) ?_
    obtain ⟨T189, X189, e189, st189⟩ := getF X188 hx hZ hown (host := "") (Or.inl (hw _ (List.mem_of_getElem? (i := 62) rfl))) Via.refl e188 P0 (g := (mkF m 37 #[.val (.ref ba), .val (.ref bb), .val (.ref bb)] [(.ref ba)])) rfl rfl (hb hby d4_37)
    refine Go.step (T' := T189) (f' := (mkF m 40 #[.val (.ref ba), .val (.ref bb), .val (.ref bb)] [(.ref va)])) st189 ?_
    clear st189 X188
    refine Go.step (T' := T189) (f' := (mkF m 41 #[.val (.ref ba), .val (.ref bb), .val (.ref bb)] [(.ref bb), (.ref va)])) (fun t k => XS.aloadN X189.here hx rfl (hb hby d4_40) rfl rfl k) ?_
    obtain ⟨T190, X190, e190, st190⟩ := getF X189 hx hZ hown (host := "") (Or.inl (hw _ (List.mem_of_getElem? (i := 62) rfl))) Via.refl e189 P4 (g := (mkF m 41 #[.val (.ref ba), .val (.ref bb), .val (.ref bb)] [(.ref bb), (.ref va)])) rfl rfl (hb hby d4_41)
    refine Go.step (T' := T190) (f' := (mkF m 44 #[.val (.ref ba), .val (.ref bb), .val (.ref bb)] [(.ref vb), (.ref va)])) st190 ?_
    clear st190 X189
    obtain ⟨_, _, ⟨T191, L191, k191, n191⟩, -, X191, ⟨Lc191, hQ191, l191, y191, z191⟩, st191⟩ := Jvm.LawKit.callS X190 hx (y := (⟨"java/lang/StringLatin1", "equals", "([B[B)Z"⟩ : MethodName)) hown (mvT hZ (hw _ (List.mem_of_getElem? (i := 64) rfl))) (mvT hZ (hw _ (List.mem_of_getElem? (i := 65) rfl))) (mvT hZ (hw _ (List.mem_of_getElem? (i := 66) rfl))) (mvT hZ (hw _ (List.mem_of_getElem? (i := 67) rfl))) (by decide) (backOf (W := 0) (rm_leq l Z a0 hw [] va vb ka kb xs ys h0 n0 O0 P2 P6 hlx hly) hZ (hw _ (List.mem_of_getElem? (i := 67) rfl)) (hw _ (List.mem_of_getElem? (i := 66) rfl)) (by decide) (by decide)) (g := (mkF m 44 #[.val (.ref ba), .val (.ref bb), .val (.ref bb)] [(.ref vb), (.ref va)])) rfl (by rw [hml]; rfl) (argsL := [(.ref va), (.ref vb)]) (rest := []) (lenOf pd4 rfl) rfl (by show 2 * 0 + _ ≤ _; exact Nat.le_of_eq rfl) (hb hby d4_44) (fun _ _ => ⟨rfl, e190, (by decide : 0 + 0 ≤ _), (by decide : 0 + 0 ≤ _)⟩)
    dsimp only [Pt.U, Pt.locs, Pt.cells, Pt.slots] at X191 l191 y191 z191 st191 hQ191
    subst l191 y191 z191
    obtain ⟨rfl, Nq191, hh191⟩ := hQ191
    have N192 := Fr.app N0 Nq191
    refine Go.step (T' := T191) (f' := (mkF m 47 #[.val (.ref ba), .val (.ref bb), .val (.ref bb)] [(.int (if xs = ys then (1 : Int32) else 0))])) st191 ?_
    clear st191 X190 Nq191
    by_cases hc193 : (if xs = ys then (1 : Int32) else 0) = (0 : Int32)
    ·
      refine Go.step (T' := T191) (f' := (mkF m 54 #[.val (.ref ba), .val (.ref bb), .val (.ref bb)] [])) (fun t k => XS.ifYes X191.here hx rfl (pc0 := 47) (pc' := 54) rfl (hb hby d4_47) rfl ((if0 _ _).trans (teq hc193).1) (by decide) (by decide) k) ?_
      refine Go.step (T' := T191) (f' := (mkF m 55 #[.val (.ref ba), .val (.ref bb), .val (.ref bb)] [(.int (0 : Int32))])) (fun t k => XS.iconst X191.here hx rfl (hb hby d4_54) k) ?_
      refine Go.retZ X191 hx hlk (t := .boolean) Bd.returns (by simp) (hb hby d4_55) hh191 ?_ (by decide) (by decide)
      exact ⟨by rw [hc193]; rfl, N192, rfl⟩
    ·
      refine Go.step (T' := T191) (f' := (mkF m 50 #[.val (.ref ba), .val (.ref bb), .val (.ref bb)] [])) (fun t k => XS.ifNo X191.here hx rfl (hb hby d4_47) rfl ((if0 _ _).trans (feq hc193).1) k) ?_
      refine Go.step (T' := T191) (f' := (mkF m 51 #[.val (.ref ba), .val (.ref bb), .val (.ref bb)] [(.int (1 : Int32))])) (fun t k => XS.iconst X191.here hx rfl (hb hby d4_50) k) ?_
      refine Go.step (T' := T191) (f' := (mkF m 55 #[.val (.ref ba), .val (.ref bb), .val (.ref bb)] [(.int (1 : Int32))])) (fun t k => XS.goto X191.here hx rfl (pc0 := 51) (pc' := 55) rfl (hb hby d4_51) (by decide) (by decide) k) ?_
      refine Go.retZ X191 hx hlk (t := .boolean) Bd.returns (by simp) (hb hby d4_55) hh191 ?_ (by decide) (by decide)
      exact ⟨by rw [own_if1 hc193]; rfl, N192, rfl⟩
theorem ef_seq1 (m : MethodId) (ba : Addr) : entryFrame m #[(.ref ba), (.ref ba)] 3 = mkF m 0 #[.val (.ref ba), .val (.ref ba), .unset] [] := by first | (simp [entryFrame, mkF, argsToLocals, Value.category]; done) | rfl
def Q_seq1 (Z : State) (ba : Addr) (h0 : Heap) (n0 : Nat) (v : Option Value) (h : Heap) (L : List Loc) : Prop := v = some (.int (1 : Int32)) ∧ Fr n0 L ∧ h = h0
set_option maxRecDepth 65536 in
set_option maxHeartbeats 40000000 in
theorem rm_seq1 (l : Launch) (Z : State) (a0 : Array Value) (hw : ∀ d ∈ tables_1, d.before a0 Z = true) (ws : List Jvm.Cond) (ba : Addr) (h0 : Heap) (n0 : Nat) (O0 : Old Z n0 h0) :
    MetFree l (⟨"java/lang/String", "equals", "(Ljava/lang/Object;)Z"⟩ : MethodName) (head1 (Jvm.Cond.code (⟨"java/lang/String", "equals", "(Ljava/lang/Object;)Z"⟩ : MethodName) jdk_42_method_66_code 3 (some .boolean) :: ws) ({ frames := 0, cells := 0, slots := 0, locals := 0 } : Room)) (fun a U => a = #[(.ref ba), (.ref ba)] ∧ Z.Warmed39 U.vm ∧ U.heap = h0) (fun _ _ _ _ _ => True) (fun _ U o U' => ∃ v L, o = .returned v ∧ Q_seq1 Z ba h0 n0 v U'.heap L ∧ FrameEnd U o U' L ({ frames := 0, cells := 0, slots := 0, locals := 0 } : Room).cells ({ frames := 0, cells := 0, slots := 0, locals := 0 } : Room).slots) := by
  refine MetFree.of_bodySF (plainFor_of_name pn_java_lang_String) hisR ?_
  intro p e s m args below meth c s₁ Bd hml0 hP hK
  obtain ⟨rfl, hZ, hh⟩ := hP
  have hx := Bd.exec
  have hby := Bd.bytes
  have hml : c.maxLocals = 3 := hml0
  have hown : s.vm.findClass "java/lang/String" = some m.cls := findClass_of_methodNamed Bd.named
  have hnm := (name_of_methodNamed Bd.named Bd.method).1
  have hlk : meth.locks = false := BodyLoose.notSynchronized Bd
  have X0 : Stand p l e ({ frames := 0, cells := 0, slots := 0, locals := 0 } : Room) s m #[(.ref ba), (.ref ba)] below meth c s₁ [] 0 0 := Stand.of_body Bd
  have e0 : s₁.heap = h0 := by rw [← hh, Bd.state]; rfl
  have N0 := Fr.nil n0
  rw [ef_seq1 m ba]
  show Go p e below s (fun v h L => Q_seq1 Z ba h0 n0 v h L) ({ frames := 0, cells := 0, slots := 0, locals := 0 } : Room).cells ({ frames := 0, cells := 0, slots := 0, locals := 0 } : Room).slots s₁ (mkF m 0 #[.val (.ref ba), .val (.ref ba), .unset] [])
  refine Go.step (T' := s₁) (f' := (mkF m 1 #[.val (.ref ba), .val (.ref ba), .unset] [(.ref ba)])) (fun t k => XS.aloadN X0.here hx rfl (hb hby d4_0) rfl rfl k) ?_
  refine Go.step (T' := s₁) (f' := (mkF m 2 #[.val (.ref ba), .val (.ref ba), .unset] [(.ref ba), (.ref ba)])) (fun t k => XS.aloadN X0.here hx rfl (hb hby d4_1) rfl rfl k) ?_
  refine Go.step (T' := s₁) (f' := (mkF m 5 #[.val (.ref ba), .val (.ref ba), .unset] [])) (fun t k => Jvm.RoadKit.acmp (g := (mkF m 2 #[.val (.ref ba), .val (.ref ba), .unset] [(.ref ba), (.ref ba)])) X0 hx rfl rfl rfl (pc0 := 2) (pc' := 5) (same := true) rfl (hb hby d4_2) rfl (decide_eq_true rfl) (by decide) (by decide) k) ?_
  refine Go.step (T' := s₁) (f' := (mkF m 6 #[.val (.ref ba), .val (.ref ba), .unset] [(.int (1 : Int32))])) (fun t k => XS.iconst X0.here hx rfl (hb hby d4_5) k) ?_
  refine Go.retZ X0 hx hlk (t := .boolean) Bd.returns (by simp) (hb hby d4_6) e0 ?_ (by decide) (by decide)
  exact ⟨rfl, N0, rfl⟩
theorem d13_0 : decode jdk_43_method_3_code 0 = .ok (.iload_n 0, 1) := by decide +kernel
theorem d13_1 : decode jdk_43_method_3_code 1 = .ok (.sipush 255, 3) := by decide +kernel
theorem d13_4 : decode jdk_43_method_3_code 4 = .ok (.if_icmp .gt 7, 3) := by decide +kernel
theorem d13_7 : decode jdk_43_method_3_code 7 = .ok (.iconst 1, 1) := by decide +kernel
theorem d13_8 : decode jdk_43_method_3_code 8 = .ok (.goto 4, 3) := by decide +kernel
theorem d13_12 : decode jdk_43_method_3_code 12 = .ok (.ireturn, 1) := by decide +kernel
theorem ef_can (m : MethodId) (ic : Int32) : entryFrame m #[(.int ic)] 1 = mkF m 0 #[.val (.int ic)] [] := by first | (simp [entryFrame, mkF, argsToLocals, Value.category]; done) | rfl
def Q_can (Z : State) (ic : Int32) (h0 : Heap) (n0 : Nat) (v : Option Value) (h : Heap) (L : List Loc) : Prop := v = some (.int (1 : Int32)) ∧ Fr n0 L ∧ h = h0
set_option maxRecDepth 65536 in
set_option maxHeartbeats 40000000 in
theorem rm_can (l : Launch) (Z : State) (a0 : Array Value) (hw : ∀ d ∈ tables_1, d.before a0 Z = true) (ws : List Jvm.Cond) (ic : Int32) (h0 : Heap) (n0 : Nat) (O0 : Old Z n0 h0) (hic : ¬ ((255 : Int32) < ic)) :
    MetFree l (⟨"java/lang/StringLatin1", "canEncode", "(C)Z"⟩ : MethodName) (head1 (Jvm.Cond.code (⟨"java/lang/StringLatin1", "canEncode", "(C)Z"⟩ : MethodName) jdk_43_method_3_code 1 (some .boolean) :: ws) ({ frames := 0, cells := 0, slots := 0, locals := 0 } : Room)) (fun a U => a = #[(.int ic)] ∧ Z.Warmed39 U.vm ∧ U.heap = h0) (fun _ _ _ _ _ => True) (fun _ U o U' => ∃ v L, o = .returned v ∧ Q_can Z ic h0 n0 v U'.heap L ∧ FrameEnd U o U' L ({ frames := 0, cells := 0, slots := 0, locals := 0 } : Room).cells ({ frames := 0, cells := 0, slots := 0, locals := 0 } : Room).slots) := by
  refine MetFree.of_bodySF (plainFor_of_name pn_java_lang_StringLatin1) hisR ?_
  intro p e s m args below meth c s₁ Bd hml0 hP hK
  obtain ⟨rfl, hZ, hh⟩ := hP
  have hx := Bd.exec
  have hby := Bd.bytes
  have hml : c.maxLocals = 1 := hml0
  have hown : s.vm.findClass "java/lang/StringLatin1" = some m.cls := findClass_of_methodNamed Bd.named
  have hnm := (name_of_methodNamed Bd.named Bd.method).1
  have hlk : meth.locks = false := BodyLoose.notSynchronized Bd
  have X0 : Stand p l e ({ frames := 0, cells := 0, slots := 0, locals := 0 } : Room) s m #[(.int ic)] below meth c s₁ [] 0 0 := Stand.of_body Bd
  have e0 : s₁.heap = h0 := by rw [← hh, Bd.state]; rfl
  have N0 := Fr.nil n0
  rw [ef_can m ic]
  show Go p e below s (fun v h L => Q_can Z ic h0 n0 v h L) ({ frames := 0, cells := 0, slots := 0, locals := 0 } : Room).cells ({ frames := 0, cells := 0, slots := 0, locals := 0 } : Room).slots s₁ (mkF m 0 #[.val (.int ic)] [])
  refine Go.step (T' := s₁) (f' := (mkF m 1 #[.val (.int ic)] [(.int ic)])) (fun t k => XS.iloadN X0.here hx rfl (hb hby d13_0) rfl k) ?_
  refine Go.step (T' := s₁) (f' := (mkF m 4 #[.val (.int ic)] [(.int (255 : Int32)), (.int ic)])) (fun t k => XS.sipush X0.here hx rfl (hb hby d13_1) k) ?_
  refine Go.step (T' := s₁) (f' := (mkF m 7 #[.val (.int ic)] [])) (fun t k => XS.icmpNo X0.here hx rfl (hb hby d13_4) rfl (flt hic).2.2.1 k) ?_
  refine Go.step (T' := s₁) (f' := (mkF m 8 #[.val (.int ic)] [(.int (1 : Int32))])) (fun t k => XS.iconst X0.here hx rfl (hb hby d13_7) k) ?_
  refine Go.step (T' := s₁) (f' := (mkF m 12 #[.val (.int ic)] [(.int (1 : Int32))])) (fun t k => XS.goto X0.here hx rfl (pc0 := 8) (pc' := 12) rfl (hb hby d13_8) (by decide) (by decide) k) ?_
  refine Go.retZ X0 hx hlk (t := .boolean) Bd.returns (by simp) (hb hby d13_12) e0 ?_ (by decide) (by decide)
  exact ⟨rfl, N0, rfl⟩
theorem d14_0 : decode jdk_43_method_46_code 0 = .ok (.iconst 1, 1) := by decide +kernel
theorem d14_1 : decode jdk_43_method_46_code 1 = .ok (.newarray .byte, 2) := by decide +kernel
theorem d14_3 : decode jdk_43_method_46_code 3 = .ok (.dup, 1) := by decide +kernel
theorem d14_4 : decode jdk_43_method_46_code 4 = .ok (.iconst 0, 1) := by decide +kernel
theorem d14_5 : decode jdk_43_method_46_code 5 = .ok (.iload_n 0, 1) := by decide +kernel
theorem d14_6 : decode jdk_43_method_46_code 6 = .ok (.i2b, 1) := by decide +kernel
theorem d14_7 : decode jdk_43_method_46_code 7 = .ok (.bastore, 1) := by decide +kernel
theorem d14_8 : decode jdk_43_method_46_code 8 = .ok (.areturn, 1) := by decide +kernel
theorem ef_tob (m : MethodId) (ic : Int32) : entryFrame m #[(.int ic)] 1 = mkF m 0 #[.val (.int ic)] [] := by first | (simp [entryFrame, mkF, argsToLocals, Value.category]; done) | rfl
def Q_tob (Z : State) (ic : Int32) (h0 : Heap) (n0 : Nat) (v : Option Value) (h : Heap) (L : List Loc) : Prop := ∃ bv : Addr, ∃ kv : ClassId, v = some (.ref bv) ∧ Fr n0 L ∧ Keep h0 h [] ∧ h0.size ≤ bv ∧ Arv Z h bv kv .byte (1 : Int32) [(.int (ic.toInt8.toInt32))] (.int (0 : Int32))
set_option maxRecDepth 65536 in
set_option maxHeartbeats 40000000 in
theorem rm_tob (l : Launch) (Z : State) (a0 : Array Value) (hw : ∀ d ∈ tables_1, d.before a0 Z = true) (ws : List Jvm.Cond) (ic : Int32) (h0 : Heap) (n0 : Nat) (O0 : Old Z n0 h0) :
    MetFree l (⟨"java/lang/StringLatin1", "toBytes", "(C)[B"⟩ : MethodName) (head1 (Jvm.Cond.code (⟨"java/lang/StringLatin1", "toBytes", "(C)[B"⟩ : MethodName) jdk_43_method_46_code 1 (some (.array .byte)) :: ws) ({ frames := 0, cells := 1, slots := 1, locals := 0 } : Room)) (fun a U => a = #[(.int ic)] ∧ Z.Warmed39 U.vm ∧ U.heap = h0) (fun _ _ _ _ _ => True) (fun _ U o U' => ∃ v L, o = .returned v ∧ Q_tob Z ic h0 n0 v U'.heap L ∧ FrameEnd U o U' L ({ frames := 0, cells := 1, slots := 1, locals := 0 } : Room).cells ({ frames := 0, cells := 1, slots := 1, locals := 0 } : Room).slots) := by
  refine MetFree.of_bodySF (plainFor_of_name pn_java_lang_StringLatin1) hisR ?_
  intro p e s m args below meth c s₁ Bd hml0 hP hK
  obtain ⟨rfl, hZ, hh⟩ := hP
  have hx := Bd.exec
  have hby := Bd.bytes
  have hml : c.maxLocals = 1 := hml0
  have hown : s.vm.findClass "java/lang/StringLatin1" = some m.cls := findClass_of_methodNamed Bd.named
  have hnm := (name_of_methodNamed Bd.named Bd.method).1
  have hlk : meth.locks = false := BodyLoose.notSynchronized Bd
  have X0 : Stand p l e ({ frames := 0, cells := 1, slots := 1, locals := 0 } : Room) s m #[(.int ic)] below meth c s₁ [] 0 0 := Stand.of_body Bd
  have e0 : s₁.heap = h0 := by rw [← hh, Bd.state]; rfl
  have N0 := Fr.nil n0
  have K0 := Keep.refl h0 []
  rw [ef_tob m ic]
  show Go p e below s (fun v h L => Q_tob Z ic h0 n0 v h L) ({ frames := 0, cells := 1, slots := 1, locals := 0 } : Room).cells ({ frames := 0, cells := 1, slots := 1, locals := 0 } : Room).slots s₁ (mkF m 0 #[.val (.int ic)] [])
  refine Go.step (T' := s₁) (f' := (mkF m 1 #[.val (.int ic)] [(.int (1 : Int32))])) (fun t k => XS.iconst X0.here hx rfl (hb hby d14_0) k) ?_
  obtain ⟨T194, h194, k194, X194, e194, E194, A194, Y194, st194⟩ := newPE X0 hx hZ (hw _ (List.mem_of_getElem? (i := 7) rfl)) e0 (g := (mkF m 1 #[.val (.int ic)] [(.int (1 : Int32))])) rfl (hb hby d14_1) rfl (by decide) (cap := 1) (by decide) (by decide) (by decide) (by decide) (ad := "[B") (by decide)
  obtain ⟨b194, g194⟩ : ∃ z, z = h0.size := ⟨_, rfl⟩
  rw [← g194] at A194 Y194 st194
  have g195 : n0 ≤ b194 := Nat.le_trans (own_old_le O0) (Nat.le_of_eq g194.symm)
  have g196 : h0.size ≤ b194 := Nat.le_trans K0.1 (Nat.le_of_eq g194.symm)
  have O197 := O0.ext E194
  have K198 := K0.ext E194
  have f199 : Arv Z h194 b194 k194 .byte (1 : Int32) [(.int (0 : Int32))] (.int (0 : Int32)) := (Arv.new A194 (by decide)).pad (pad_rep [] (.int (0 : Int32)) 1)
  refine Go.step (T' := T194) (f' := (mkF m 3 #[.val (.int ic)] [(.ref b194)])) st194 ?_
  clear st194 X0
  refine Go.step (T' := T194) (f' := (mkF m 4 #[.val (.int ic)] [(.ref b194), (.ref b194)])) (fun t k => XS.dup X194.here hx rfl (hb hby d14_3) rfl rfl k) ?_
  refine Go.step (T' := T194) (f' := (mkF m 5 #[.val (.int ic)] [(.int (0 : Int32)), (.ref b194), (.ref b194)])) (fun t k => XS.iconst X194.here hx rfl (hb hby d14_4) k) ?_
  refine Go.step (T' := T194) (f' := (mkF m 6 #[.val (.int ic)] [(.int ic), (.int (0 : Int32)), (.ref b194), (.ref b194)])) (fun t k => XS.iloadN X194.here hx rfl (hb hby d14_5) rfl k) ?_
  refine Go.step (T' := T194) (f' := (mkF m 7 #[.val (.int ic)] [(.int (ic.toInt8.toInt32)), (.int (0 : Int32)), (.ref b194), (.ref b194)])) (fun t k => XS.i2b X194.here hx rfl (hb hby d14_6) rfl k) ?_
  obtain ⟨ca200, Aa200, qa200, Sa200, Na200, Ha200, Ga200⟩ := id f199
  have ia200 : ¬ ((0 : Int32) < 0 ∨ ca200.slots.size ≤ ((0 : Int32)).toNatClampNeg) := inb_of Sa200 ⟨by decide, by decide⟩
  obtain ⟨T201, h201, X201, e201, W201, st201⟩ := stB X194 hx hZ e194 Aa200 (j := (0 : Int32)) ia200 (g := (mkF m 7 #[.val (.int ic)] [(.int (ic.toInt8.toInt32)), (.int (0 : Int32)), (.ref b194), (.ref b194)])) rfl rfl (hb hby d14_7)
  have f202 := Arv.set Aa200 qa200 Sa200 Na200 Ha200 Ga200 (fits_nar_byte _) W201 0 rfl (Nat.le_of_ble_eq_true rfl)
  rw [own_nar8] at f202
  have f203 : Arv Z h201 b194 k194 .byte (1 : Int32) [(.int (ic.toInt8.toInt32))] (.int (0 : Int32)) := f202
  have f204 := Y194.wr W201
  have O205 := O197.wr W201 g195
  have K206 := K198.wr W201 (Or.inr g196)
  have N207 := Fr.snoc X201 N0 g195
  refine Go.step (T' := T201) (f' := (mkF m 8 #[.val (.int ic)] [(.ref b194)])) st201 ?_
  clear st201 X194 Y194 O197 K198
  refine Go.retA X201 hx hlk Bd.returns rfl rfl (hb hby d14_8) e201 ?_ (by decide) (by decide)
  exact ⟨b194, k194, rfl, N207, K206, g196, f203⟩
theorem d15_0 : decode jdk_42_method_151_code 0 = .ok (.aload_n 0, 1) := by decide +kernel
theorem d15_1 : decode jdk_42_method_151_code 1 = .ok (.invokespecial 1, 3) := by decide +kernel
theorem d15_4 : decode jdk_42_method_151_code 4 = .ok (.aload_n 0, 1) := by decide +kernel
theorem d15_5 : decode jdk_42_method_151_code 5 = .ok (.aload_n 1, 1) := by decide +kernel
theorem d15_6 : decode jdk_42_method_151_code 6 = .ok (.putfield 9, 3) := by decide +kernel
theorem d15_9 : decode jdk_42_method_151_code 9 = .ok (.aload_n 0, 1) := by decide +kernel
theorem d15_10 : decode jdk_42_method_151_code 10 = .ok (.iload_n 2, 1) := by decide +kernel
theorem d15_11 : decode jdk_42_method_151_code 11 = .ok (.putfield 15, 3) := by decide +kernel
theorem d15_14 : decode jdk_42_method_151_code 14 = .ok (.return_, 1) := by decide +kernel
theorem ef_inib (m : MethodId) (ba : Addr) (bv : Addr) : entryFrame m #[(.ref ba), (.ref bv), (.int (0 : Int32))] 3 = mkF m 0 #[.val (.ref ba), .val (.ref bv), .val (.int (0 : Int32))] [] := by first | (simp [entryFrame, mkF, argsToLocals, Value.category]; done) | rfl
def Q_inib (Z : State) (ba : Addr) (bv : Addr) (u0 : Value) (u1 : Value) (h0 : Heap) (n0 : Nat) (v : Option Value) (h : Heap) (L : List Loc) : Prop := v = none ∧ Fr n0 L ∧ Keep h0 h [ba] ∧ Exa Z h ba "java/lang/String" ∧ Fld Z h ba "java/lang/String" "value" "[B" (.ref bv) ∧ Fld Z h ba "java/lang/String" "coder" "B" (.int (0 : Int32))
set_option maxRecDepth 65536 in
set_option maxHeartbeats 40000000 in
theorem rm_inib (l : Launch) (Z : State) (a0 : Array Value) (hw : ∀ d ∈ tables_1, d.before a0 Z = true) (ws : List Jvm.Cond) (ba : Addr) (bv : Addr) (u0 : Value) (u1 : Value) (h0 : Heap) (n0 : Nat) (O0 : Old Z n0 h0) (P0 : Exa Z h0 ba "java/lang/String") (P1 : Fld Z h0 ba "java/lang/String" "value" "[B" u0) (P2 : Fld Z h0 ba "java/lang/String" "coder" "B" u1) (P3 : n0 ≤ ba) :
    MetFree l (⟨"java/lang/String", "<init>", "([BB)V"⟩ : MethodName) (head1 (Jvm.Cond.code (⟨"java/lang/String", "<init>", "([BB)V"⟩ : MethodName) jdk_42_method_151_code 3 none :: ws) ({ frames := 1, cells := 0, slots := 0, locals := 12 } : Room)) (fun a U => a = #[(.ref ba), (.ref bv), (.int (0 : Int32))] ∧ Z.Warmed39 U.vm ∧ U.heap = h0) (fun _ _ _ _ _ => True) (fun _ U o U' => ∃ v L, o = .returned v ∧ Q_inib Z ba bv u0 u1 h0 n0 v U'.heap L ∧ FrameEnd U o U' L ({ frames := 1, cells := 0, slots := 0, locals := 12 } : Room).cells ({ frames := 1, cells := 0, slots := 0, locals := 12 } : Room).slots) := by
  refine MetFree.of_bodySF (plainFor_of_name pn_java_lang_String) hisR ?_
  intro p e s m args below meth c s₁ Bd hml0 hP hK
  obtain ⟨rfl, hZ, hh⟩ := hP
  have hx := Bd.exec
  have hby := Bd.bytes
  have hml : c.maxLocals = 3 := hml0
  have hown : s.vm.findClass "java/lang/String" = some m.cls := findClass_of_methodNamed Bd.named
  have hnm := (name_of_methodNamed Bd.named Bd.method).1
  have hlk : meth.locks = false := BodyLoose.notSynchronized Bd
  have X0 : Stand p l e ({ frames := 1, cells := 0, slots := 0, locals := 12 } : Room) s m #[(.ref ba), (.ref bv), (.int (0 : Int32))] below meth c s₁ [] 0 0 := Stand.of_body Bd
  have e0 : s₁.heap = h0 := by rw [← hh, Bd.state]; rfl
  have N0 := Fr.nil n0
  have K0 := Keep.refl h0 [ba]
  rw [ef_inib m ba bv]
  show Go p e below s (fun v h L => Q_inib Z ba bv u0 u1 h0 n0 v h L) ({ frames := 1, cells := 0, slots := 0, locals := 12 } : Room).cells ({ frames := 1, cells := 0, slots := 0, locals := 12 } : Room).slots s₁ (mkF m 0 #[.val (.ref ba), .val (.ref bv), .val (.int (0 : Int32))] [])
  refine Go.step (T' := s₁) (f' := (mkF m 1 #[.val (.ref ba), .val (.ref bv), .val (.int (0 : Int32))] [(.ref ba)])) (fun t k => XS.aloadN X0.here hx rfl (hb hby d15_0) rfl rfl k) ?_
  obtain ⟨T208, X208, e208, st208⟩ := initO X0 hx hZ hown (hw _ (List.mem_of_getElem? (i := 49) rfl)) (hw _ (List.mem_of_getElem? (i := 19) rfl)) (hw _ (List.mem_of_getElem? (i := 20) rfl)) e0 (g := (mkF m 1 #[.val (.ref ba), .val (.ref bv), .val (.int (0 : Int32))] [(.ref ba)])) rfl (by rw [hml]; rfl) rfl (hb hby d15_1) (by decide) (W := 0) (by show 2 * 0 + _ ≤ _; exact Nat.le_of_eq rfl) (by decide)
  refine Go.step (T' := T208) (f' := (mkF m 4 #[.val (.ref ba), .val (.ref bv), .val (.int (0 : Int32))] [])) st208 ?_
  clear st208 X0
  refine Go.step (T' := T208) (f' := (mkF m 5 #[.val (.ref ba), .val (.ref bv), .val (.int (0 : Int32))] [(.ref ba)])) (fun t k => XS.aloadN X208.here hx rfl (hb hby d15_4) rfl rfl k) ?_
  refine Go.step (T' := T208) (f' := (mkF m 6 #[.val (.ref ba), .val (.ref bv), .val (.int (0 : Int32))] [(.ref bv), (.ref ba)])) (fun t k => XS.aloadN X208.here hx rfl (hb hby d15_5) rfl rfl k) ?_
  obtain ⟨T209, h209, X209, e209, W209, st209⟩ := putF X208 hx hZ hown (host := "") (Or.inl (hw _ (List.mem_of_getElem? (i := 62) rfl))) Via.refl e208 P1 P0 (Or.inr ⟨(hw _ (List.mem_of_getElem? (i := 8) rfl)), rfl, hnm⟩) (hw _ (List.mem_of_getElem? (i := 6) rfl)) (ty := (.array .byte)) (by decide) rfl rfl (g := (mkF m 6 #[.val (.ref ba), .val (.ref bv), .val (.int (0 : Int32))] [(.ref bv), (.ref ba)])) rfl rfl (hb hby d15_6)
  have f210 := P1.same W209
  have f211 := P0.wr W209
  have f212 := P2.other W209 (Or.inr (slot_ne (Or.inr (hw _ (List.mem_of_getElem? (i := 9) rfl))) (Or.inr (hw _ (List.mem_of_getElem? (i := 8) rfl))) (by decide) (t := .byte) (t' := (.array .byte)) (by decide) (by decide)))
  have O213 := O0.wr W209 P3
  have K214 := K0.wr W209 (Or.inl (List.mem_of_getElem? (i := 0) rfl))
  have N215 := Fr.snoc X209 N0 P3
  refine Go.step (T' := T209) (f' := (mkF m 9 #[.val (.ref ba), .val (.ref bv), .val (.int (0 : Int32))] [])) st209 ?_
  clear st209 X208
  refine Go.step (T' := T209) (f' := (mkF m 10 #[.val (.ref ba), .val (.ref bv), .val (.int (0 : Int32))] [(.ref ba)])) (fun t k => XS.aloadN X209.here hx rfl (hb hby d15_9) rfl rfl k) ?_
  refine Go.step (T' := T209) (f' := (mkF m 11 #[.val (.ref ba), .val (.ref bv), .val (.int (0 : Int32))] [(.int (0 : Int32)), (.ref ba)])) (fun t k => XS.iloadN X209.here hx rfl (hb hby d15_10) rfl k) ?_
  obtain ⟨T216, h216, X216, e216, W216, st216⟩ := putFN X209 hx hZ hown (hw _ (List.mem_of_getElem? (i := 61) rfl)) Via.refl e209 f212 f211 (Or.inr ⟨(hw _ (List.mem_of_getElem? (i := 9) rfl)), rfl, hnm⟩) (hw _ (List.mem_of_getElem? (i := 6) rfl)) (ty := .byte) (v' := (.int (0 : Int32))) (by decide) rfl (by decide) (g := (mkF m 11 #[.val (.ref ba), .val (.ref bv), .val (.int (0 : Int32))] [(.int (0 : Int32)), (.ref ba)])) rfl rfl (hb hby d15_11)
  have f217 := f212.same W216
  have f218 := f211.wr W216
  have f219 := f210.other W216 (Or.inr (slot_ne (Or.inr (hw _ (List.mem_of_getElem? (i := 8) rfl))) (Or.inr (hw _ (List.mem_of_getElem? (i := 9) rfl))) (by decide) (t := (.array .byte)) (t' := .byte) (by decide) (by decide)))
  have O220 := O213.wr W216 P3
  have K221 := K214.wr W216 (Or.inl (List.mem_of_getElem? (i := 0) rfl))
  have N222 := Fr.snoc X216 N215 P3
  refine Go.step (T' := T216) (f' := (mkF m 14 #[.val (.ref ba), .val (.ref bv), .val (.int (0 : Int32))] [])) st216 ?_
  clear st216 X209 f211 f210 O213 K214 N215
  refine Go.retV X216 hx hlk Bd.returns (hb hby d15_14) e216 ?_ (by decide) (by decide)
  exact ⟨rfl, N222, K221, f218, f219, f217⟩
theorem d12_0 : decode jdk_42_method_139_code 0 = .ok (.getstatic 38, 3) := by decide +kernel
theorem d12_3 : decode jdk_42_method_139_code 3 = .ok (.ifCond .eq 23, 3) := by decide +kernel
theorem d12_6 : decode jdk_42_method_139_code 6 = .ok (.iload_n 0, 1) := by decide +kernel
theorem d12_7 : decode jdk_42_method_139_code 7 = .ok (.invokestatic 1015, 3) := by decide +kernel
theorem d12_10 : decode jdk_42_method_139_code 10 = .ok (.ifCond .eq 16, 3) := by decide +kernel
theorem d12_13 : decode jdk_42_method_139_code 13 = .ok (.new 10, 3) := by decide +kernel
theorem d12_16 : decode jdk_42_method_139_code 16 = .ok (.dup, 1) := by decide +kernel
theorem d12_17 : decode jdk_42_method_139_code 17 = .ok (.iload_n 0, 1) := by decide +kernel
theorem d12_18 : decode jdk_42_method_139_code 18 = .ok (.invokestatic 1018, 3) := by decide +kernel
theorem d12_21 : decode jdk_42_method_139_code 21 = .ok (.iconst 0, 1) := by decide +kernel
theorem d12_22 : decode jdk_42_method_139_code 22 = .ok (.invokespecial 209, 3) := by decide +kernel
theorem d12_25 : decode jdk_42_method_139_code 25 = .ok (.areturn, 1) := by decide +kernel
theorem pd5 : parseMethodDescriptor "(C)Z" = some ⟨[.char], some .boolean⟩ := by decide +kernel
theorem pd6 : parseMethodDescriptor "(C)[B" = some ⟨[.char], some (.array .byte)⟩ := by decide +kernel
theorem pd7 : parseMethodDescriptor "([BB)V" = some ⟨[(.array .byte), .byte], none⟩ := by decide +kernel
theorem ef_vof (m : MethodId) (ic : Int32) : entryFrame m #[(.int ic)] 1 = mkF m 0 #[.val (.int ic)] [] := by first | (simp [entryFrame, mkF, argsToLocals, Value.category]; done) | rfl
def Q_vof (Z : State) (ic : Int32) (wz : Int32) (h0 : Heap) (n0 : Nat) (v : Option Value) (h : Heap) (L : List Loc) : Prop := ∃ bs : Addr, ∃ bv : Addr, ∃ kv : ClassId, v = some (.ref bs) ∧ Fr n0 L ∧ Keep h0 h [] ∧ Exa Z h bs "java/lang/String" ∧ Fld Z h bs "java/lang/String" "value" "[B" (.ref bv) ∧ Fld Z h bs "java/lang/String" "coder" "B" (.int (0 : Int32)) ∧ Arv Z h bv kv .byte (1 : Int32) [(.int (ic.toInt8.toInt32))] (.int (0 : Int32))
set_option maxRecDepth 65536 in
set_option maxHeartbeats 40000000 in
theorem rm_vof (l : Launch) (Z : State) (a0 : Array Value) (hw : ∀ d ∈ tables_1, d.before a0 Z = true) (ws : List Jvm.Cond) (ic : Int32) (wz : Int32) (h0 : Heap) (n0 : Nat) (O0 : Old Z n0 h0) (P0 : Sta Z Z.heap "java/lang/String" "COMPACT_STRINGS" "Z" (.int wz)) (hwz : ¬ (wz = (0 : Int32))) (hic : ¬ ((255 : Int32) < ic)) :
    MetFree l (⟨"java/lang/String", "valueOf", "(C)Ljava/lang/String;"⟩ : MethodName) (head1 (Jvm.Cond.code (⟨"java/lang/String", "valueOf", "(C)Ljava/lang/String;"⟩ : MethodName) jdk_42_method_139_code 1 (some (.object "java/lang/String")) :: ws) ({ frames := 2, cells := 2, slots := 5, locals := 27 } : Room)) (fun a U => a = #[(.int ic)] ∧ Z.Warmed39 U.vm ∧ U.heap = h0) (fun _ _ _ _ _ => True) (fun _ U o U' => ∃ v L, o = .returned v ∧ Q_vof Z ic wz h0 n0 v U'.heap L ∧ FrameEnd U o U' L ({ frames := 2, cells := 2, slots := 5, locals := 27 } : Room).cells ({ frames := 2, cells := 2, slots := 5, locals := 27 } : Room).slots) := by
  refine MetFree.of_bodySF (plainFor_of_name pn_java_lang_String) hisR ?_
  intro p e s m args below meth c s₁ Bd hml0 hP hK
  obtain ⟨rfl, hZ, hh⟩ := hP
  have hx := Bd.exec
  have hby := Bd.bytes
  have hml : c.maxLocals = 1 := hml0
  have hown : s.vm.findClass "java/lang/String" = some m.cls := findClass_of_methodNamed Bd.named
  have hnm := (name_of_methodNamed Bd.named Bd.method).1
  have hlk : meth.locks = false := BodyLoose.notSynchronized Bd
  have X0 : Stand p l e ({ frames := 2, cells := 2, slots := 5, locals := 27 } : Room) s m #[(.int ic)] below meth c s₁ [] 0 0 := Stand.of_body Bd
  have e0 : s₁.heap = h0 := by rw [← hh, Bd.state]; rfl
  have N0 := Fr.nil n0
  have K0 := Keep.refl h0 []
  rw [ef_vof m ic]
  show Go p e below s (fun v h L => Q_vof Z ic wz h0 n0 v h L) ({ frames := 2, cells := 2, slots := 5, locals := 27 } : Room).cells ({ frames := 2, cells := 2, slots := 5, locals := 27 } : Room).slots s₁ (mkF m 0 #[.val (.int ic)] [])
  obtain ⟨T223, X223, e223, st223⟩ := getS2 X0 hx hZ hown (host := "") (Or.inl (hw _ (List.mem_of_getElem? (i := 50) rfl))) Via.refl e0 (P0.ext O0.2) (g := (mkF m 0 #[.val (.int ic)] [])) rfl (hb hby d12_0)
  refine Go.step (T' := T223) (f' := (mkF m 3 #[.val (.int ic)] [(.int wz)])) st223 ?_
  clear st223 X0
  refine Go.step (T' := T223) (f' := (mkF m 6 #[.val (.int ic)] [])) (fun t k => XS.ifNo X223.here hx rfl (hb hby d12_3) rfl ((if0 _ _).trans (feq hwz).1) k) ?_
  refine Go.step (T' := T223) (f' := (mkF m 7 #[.val (.int ic)] [(.int ic)])) (fun t k => XS.iloadN X223.here hx rfl (hb hby d12_6) rfl k) ?_
  obtain ⟨_, _, ⟨T224, L224, k224, n224⟩, -, X224, ⟨Lc224, hQ224, l224, y224, z224⟩, st224⟩ := Jvm.LawKit.callS X223 hx (y := (⟨"java/lang/StringLatin1", "canEncode", "(C)Z"⟩ : MethodName)) hown (mvT hZ (hw _ (List.mem_of_getElem? (i := 71) rfl))) (mvT hZ (hw _ (List.mem_of_getElem? (i := 72) rfl))) (mvT hZ (hw _ (List.mem_of_getElem? (i := 66) rfl))) (mvT hZ (hw _ (List.mem_of_getElem? (i := 73) rfl))) (by decide) (backOf (W := 0) (rm_can l Z a0 hw [] ic h0 n0 O0 hic) hZ (hw _ (List.mem_of_getElem? (i := 73) rfl)) (hw _ (List.mem_of_getElem? (i := 66) rfl)) (by decide) (by decide)) (g := (mkF m 7 #[.val (.int ic)] [(.int ic)])) rfl (by rw [hml]; rfl) (argsL := [(.int ic)]) (rest := []) (lenOf pd5 rfl) rfl (by show 2 * 0 + _ ≤ _; exact Nat.le_of_eq rfl) (hb hby d12_7) (fun _ _ => ⟨rfl, e223, (by decide : 0 + 0 ≤ _), (by decide : 0 + 0 ≤ _)⟩)
  dsimp only [Pt.U, Pt.locs, Pt.cells, Pt.slots] at X224 l224 y224 z224 st224 hQ224
  subst l224 y224 z224
  obtain ⟨rfl, Nq224, hh224⟩ := hQ224
  have N225 := Fr.app N0 Nq224
  refine Go.step (T' := T224) (f' := (mkF m 10 #[.val (.int ic)] [(.int (1 : Int32))])) st224 ?_
  clear st224 X223 Nq224
  refine Go.step (T' := T224) (f' := (mkF m 13 #[.val (.int ic)] [])) (fun t k => XS.ifNo X224.here hx rfl (hb hby d12_10) rfl ((if0 _ _).trans (feq (by decide : ¬ ((1 : Int32) = (0 : Int32)))).1) k) ?_
  obtain ⟨T226, h226, X226, e226, E226, A226, D226, -, st226⟩ := newO X224 hx hZ hown (hw _ (List.mem_of_getElem? (i := 63) rfl)) (hw _ (List.mem_of_getElem? (i := 6) rfl)) (hw _ (List.mem_of_getElem? (i := 5) rfl)) hh224 (g := (mkF m 13 #[.val (.int ic)] [])) rfl (hb hby d12_13) (by decide) (by decide)
  obtain ⟨b226, g226⟩ : ∃ z, z = h0.size := ⟨_, rfl⟩
  rw [← g226] at A226 D226 st226
  have g227 : n0 ≤ b226 := Nat.le_trans (own_old_le O0) (Nat.le_of_eq g226.symm)
  have g228 : h0.size ≤ b226 := Nat.le_trans K0.1 (Nat.le_of_eq g226.symm)
  have O229 := O0.ext E226
  have K230 := K0.ext E226
  have f231 : Fld Z h226 b226 "java/lang/String" "value" "[B" .null := D226 (Or.inr (hw _ (List.mem_of_getElem? (i := 8) rfl))) (ty := (.array .byte)) (by decide)
  have f232 : Fld Z h226 b226 "java/lang/String" "coder" "B" (.int (0 : Int32)) := D226 (Or.inr (hw _ (List.mem_of_getElem? (i := 9) rfl))) (ty := .byte) (by decide)
  refine Go.step (T' := T226) (f' := (mkF m 16 #[.val (.int ic)] [(.ref b226)])) st226 ?_
  clear st226 X224
  refine Go.step (T' := T226) (f' := (mkF m 17 #[.val (.int ic)] [(.ref b226), (.ref b226)])) (fun t k => XS.dup X226.here hx rfl (hb hby d12_16) rfl rfl k) ?_
  refine Go.step (T' := T226) (f' := (mkF m 18 #[.val (.int ic)] [(.int ic), (.ref b226), (.ref b226)])) (fun t k => XS.iloadN X226.here hx rfl (hb hby d12_17) rfl k) ?_
  obtain ⟨_, _, ⟨T233, L233, k233, n233⟩, -, X233, ⟨Lc233, hQ233, l233, y233, z233⟩, st233⟩ := Jvm.LawKit.callS X226 hx (y := (⟨"java/lang/StringLatin1", "toBytes", "(C)[B"⟩ : MethodName)) hown (mvT hZ (hw _ (List.mem_of_getElem? (i := 74) rfl))) (mvT hZ (hw _ (List.mem_of_getElem? (i := 75) rfl))) (mvT hZ (hw _ (List.mem_of_getElem? (i := 66) rfl))) (mvT hZ (hw _ (List.mem_of_getElem? (i := 76) rfl))) (by decide) (backOf (W := 2) (rm_tob l Z a0 hw [] ic h226 n0 O229 ) hZ (hw _ (List.mem_of_getElem? (i := 76) rfl)) (hw _ (List.mem_of_getElem? (i := 66) rfl)) (by decide) (by decide)) (g := (mkF m 18 #[.val (.int ic)] [(.int ic), (.ref b226), (.ref b226)])) rfl (by rw [hml]; rfl) (argsL := [(.int ic)]) (rest := [(.ref b226), (.ref b226)]) (lenOf pd6 rfl) rfl (by show 2 * 0 + _ ≤ _; exact Nat.le_of_eq rfl) (hb hby d12_18) (fun _ _ => ⟨rfl, e226, (by decide : 1 + 1 ≤ _), (by decide : 4 + 1 ≤ _)⟩)
  dsimp only [Pt.U, Pt.locs, Pt.cells, Pt.slots] at X233 l233 y233 z233 st233 hQ233
  subst l233 y233 z233
  obtain ⟨u234, u235, rfl, Nq233, hh233, p236, p237⟩ := hQ233
  have N238 := Fr.app N225 Nq233
  have f239 := A226.keep hh233
  have f240 := f231.keep hh233 nin0
  have f241 := f232.keep hh233 nin0
  have O242 := O229.keep hh233 all0
  have K243 := K230.trans hh233 all0
  have g244 : n0 ≤ u234 := Nat.le_trans (own_old_le O229) p236
  have g245 : h0.size ≤ u234 := Nat.le_trans K230.1 p236
  have ne246 : b226 ≠ u234 := Nat.ne_of_lt (Nat.lt_of_lt_of_le A226.lt p236)
  refine Go.step (T' := T233) (f' := (mkF m 21 #[.val (.int ic)] [(.ref u234), (.ref b226), (.ref b226)])) st233 ?_
  clear st233 X226 N225 Nq233 f231 f232
  refine Go.step (T' := T233) (f' := (mkF m 22 #[.val (.int ic)] [(.int (0 : Int32)), (.ref u234), (.ref b226), (.ref b226)])) (fun t k => XS.iconst X233.here hx rfl (hb hby d12_21) k) ?_
  obtain ⟨_, _, ⟨T247, L247, k247, n247⟩, -, X247, ⟨Lc247, hQ247, l247, y247, z247⟩, st247⟩ := X233.specialBack hx (y := (⟨"java/lang/String", "<init>", "([BB)V"⟩ : MethodName)) rfl hown (mvT hZ (hw _ (List.mem_of_getElem? (i := 77) rfl))) (mvT hZ (hw _ (List.mem_of_getElem? (i := 78) rfl))) (mvT hZ (hw _ (List.mem_of_getElem? (i := 79) rfl))) (by decide) (backOf (W := 1) (rm_inib l Z a0 hw [] b226 u234 .null (.int (0 : Int32)) T233.heap n0 O242 f239 f240 f241 g227) hZ (hw _ (List.mem_of_getElem? (i := 79) rfl)) (hw _ (List.mem_of_getElem? (i := 5) rfl)) (by decide) (by decide)) (g := (mkF m 22 #[.val (.int ic)] [(.int (0 : Int32)), (.ref u234), (.ref b226), (.ref b226)])) rfl (by rw [hml]; rfl) (Steps.refl _) (a := b226) (argsL := [(.ref u234), (.int (0 : Int32))]) (rest := [(.ref b226)]) (lenOf pd7 rfl) rfl (by show 2 * 0 + _ ≤ _; exact Nat.le_of_eq rfl) (hb hby d12_22) (fun _ _ => ⟨rfl, rfl, (by decide : 2 + 0 ≤ _), (by decide : 5 + 0 ≤ _)⟩)
  dsimp only [Pt.U, Pt.locs, Pt.cells, Pt.slots] at X247 l247 y247 z247 st247 hQ247
  subst l247 y247 z247
  obtain ⟨rfl, Nq247, hh247, p248, p249, p250⟩ := hQ247
  have N251 := Fr.app N238 Nq247
  have f252 := f239.keep hh247
  have f253 := p237.keep hh247 (ninS (Ne.symm ne246) nin0)
  have O254 := O242.keep hh247 (allS g227 all0)
  have K255 := K243.trans hh247 (allS (Or.inr g228) all0)
  refine Go.via (T' := T247) (f' := (mkF m 25 #[.val (.int ic)] [(.ref b226)])) st247 ?_
  clear st247 X233 N238 Nq247
  refine Go.retA X247 hx hlk Bd.returns rfl rfl (hb hby d12_25) rfl ?_ (by decide) (by decide)
  exact ⟨b226, u234, u235, rfl, N251, K255, p248, p249, p250, f253⟩
theorem d1_0 : decode method_2_code 0 = .ok (.iload_n 0, 1) := by decide +kernel
theorem d1_1 : decode method_2_code 1 = .ok (.bipush 16, 2) := by decide +kernel
theorem d1_3 : decode method_2_code 3 = .ok (.iushr, 1) := by decide +kernel
theorem d1_4 : decode method_2_code 4 = .ok (.iconst 3, 1) := by decide +kernel
theorem d1_5 : decode method_2_code 5 = .ok (.iand, 1) := by decide +kernel
theorem d1_6 : decode method_2_code 6 = .ok (.istore_n 1, 1) := by decide +kernel
theorem d1_7 : decode method_2_code 7 = .ok (.iload_n 1, 1) := by decide +kernel
theorem d1_8 : decode method_2_code 8 = .ok (.ifCond .ne 6, 3) := by decide +kernel
theorem d1_11 : decode method_2_code 11 = .ok (.ldc 7, 2) := by decide +kernel
theorem d1_13 : decode method_2_code 13 = .ok (.areturn, 1) := by decide +kernel
theorem d1_14 : decode method_2_code 14 = .ok (.iload_n 0, 1) := by decide +kernel
theorem d1_15 : decode method_2_code 15 = .ok (.sipush 255, 3) := by decide +kernel
theorem d1_18 : decode method_2_code 18 = .ok (.iand, 1) := by decide +kernel
theorem d1_19 : decode method_2_code 19 = .ok (.i2c, 1) := by decide +kernel
theorem d1_20 : decode method_2_code 20 = .ok (.istore_n 2, 1) := by decide +kernel
theorem d1_21 : decode method_2_code 21 = .ok (.iload_n 1, 1) := by decide +kernel
theorem d1_22 : decode method_2_code 22 = .ok (.iconst 1, 1) := by decide +kernel
theorem d1_23 : decode method_2_code 23 = .ok (.if_icmp .ne 8, 3) := by decide +kernel
theorem d1_26 : decode method_2_code 26 = .ok (.iload_n 2, 1) := by decide +kernel
theorem d1_27 : decode method_2_code 27 = .ok (.invokestatic 9, 3) := by decide +kernel
theorem d1_30 : decode method_2_code 30 = .ok (.areturn, 1) := by decide +kernel
theorem d1_31 : decode method_2_code 31 = .ok (.iconst 2, 1) := by decide +kernel
theorem d1_32 : decode method_2_code 32 = .ok (.newarray .char, 2) := by decide +kernel
theorem d1_34 : decode method_2_code 34 = .ok (.astore_n 3, 1) := by decide +kernel
theorem d1_35 : decode method_2_code 35 = .ok (.aload_n 3, 1) := by decide +kernel
theorem d1_36 : decode method_2_code 36 = .ok (.iconst 0, 1) := by decide +kernel
theorem d1_37 : decode method_2_code 37 = .ok (.iload_n 2, 1) := by decide +kernel
theorem d1_38 : decode method_2_code 38 = .ok (.castore, 1) := by decide +kernel
theorem d1_39 : decode method_2_code 39 = .ok (.aload_n 3, 1) := by decide +kernel
theorem d1_40 : decode method_2_code 40 = .ok (.iconst 1, 1) := by decide +kernel
theorem d1_41 : decode method_2_code 41 = .ok (.iload_n 0, 1) := by decide +kernel
theorem d1_42 : decode method_2_code 42 = .ok (.bipush 8, 2) := by decide +kernel
theorem d1_44 : decode method_2_code 44 = .ok (.iushr, 1) := by decide +kernel
theorem d1_45 : decode method_2_code 45 = .ok (.sipush 255, 3) := by decide +kernel
theorem d1_48 : decode method_2_code 48 = .ok (.iand, 1) := by decide +kernel
theorem d1_49 : decode method_2_code 49 = .ok (.i2c, 1) := by decide +kernel
theorem d1_50 : decode method_2_code 50 = .ok (.castore, 1) := by decide +kernel
theorem d1_51 : decode method_2_code 51 = .ok (.new 10, 3) := by decide +kernel
theorem d1_54 : decode method_2_code 54 = .ok (.dup, 1) := by decide +kernel
theorem d1_55 : decode method_2_code 55 = .ok (.aload_n 3, 1) := by decide +kernel
theorem d1_56 : decode method_2_code 56 = .ok (.invokespecial 15, 3) := by decide +kernel
theorem d1_59 : decode method_2_code 59 = .ok (.areturn, 1) := by decide +kernel
theorem pn_com_example_unwind_unwind_store_LaneEqualsPinLaw : plainName "com/example/unwind/unwind/store/LaneEqualsPinLaw" = true := by first | (simp [plainName, overriddenIn]; done) | decide +kernel
theorem pd8 : parseMethodDescriptor "(C)Ljava/lang/String;" = some ⟨[.char], some (.object "java/lang/String")⟩ := by decide +kernel
theorem pd9 : parseMethodDescriptor "([C)V" = some ⟨[(.array .char)], none⟩ := by decide +kernel
theorem ef_str (m : MethodId) (ia : Int32) : entryFrame m #[(.int ia)] 4 = mkF m 0 #[.val (.int ia), .unset, .unset, .unset] [] := by first | (simp [entryFrame, mkF, argsToLocals, Value.category]; done) | rfl
def Q_str (Z : State) (ia : Int32) (wz : Int32) (h0 : Heap) (n0 : Nat) (v : Option Value) (h : Heap) (L : List Loc) : Prop := ∃ bs : Addr, ∃ bv : Addr, ∃ kv : ClassId, v = some (.ref bs) ∧ Fr n0 L ∧ Keep h0 h [] ∧ Exa Z h bs "java/lang/String" ∧ Fld Z h bs "java/lang/String" "value" "[B" (.ref bv) ∧ Fld Z h bs "java/lang/String" "coder" "B" (.int (0 : Int32)) ∧ Arv Z h bv kv .byte (Int32.ofNat (own_str ia).length) ((own_str ia).map Value.int) (.int (0 : Int32))
set_option maxRecDepth 65536 in
set_option maxHeartbeats 40000000 in
theorem rm_str (l : Launch) (Z : State) (a0 : Array Value) (hw : ∀ d ∈ tables_1, d.before a0 Z = true) (ws : List Jvm.Cond) (ia : Int32) (wz : Int32) (h0 : Heap) (n0 : Nat) (O0 : Old Z n0 h0) (hEL : EW Z a0 own_EL) (P0 : Sta Z Z.heap "java/lang/String" "COMPACT_STRINGS" "Z" (.int wz)) (hwz : ¬ (wz = (0 : Int32))) :
    MetFree l (⟨"com/example/unwind/unwind/store/LaneEqualsPinLaw", "str", "(I)Ljava/lang/String;"⟩ : MethodName) (head1 (Jvm.Cond.code (⟨"com/example/unwind/unwind/store/LaneEqualsPinLaw", "str", "(I)Ljava/lang/String;"⟩ : MethodName) method_2_code 4 (some (.object "java/lang/String")) :: ws) ({ frames := 4, cells := 3, slots := 8, locals := 66 } : Room)) (fun a U => a = #[(.int ia)] ∧ Z.Warmed39 U.vm ∧ U.heap = h0 ∧ CHv Z own_EL U.vm h0) (fun _ _ _ _ _ => True) (fun _ U o U' => ∃ v L, o = .returned v ∧ Q_str Z ia wz h0 n0 v U'.heap L ∧ CHr Z own_EL U.vm U.heap U'.vm U'.heap ∧ ReturnedEndW U o U' L ({ frames := 4, cells := 3, slots := 8, locals := 66 } : Room).cells ({ frames := 4, cells := 3, slots := 8, locals := 66 } : Room).slots) := by
  refine MetFree.of_bodySF (plainFor_of_name pn_com_example_unwind_unwind_store_LaneEqualsPinLaw) hisR ?_
  intro p e s m args below meth c s₁ Bd hml0 hP hK
  obtain ⟨rfl, hZ, hh, hC0⟩ := hP
  have hx := Bd.exec
  have hby := Bd.bytes
  have hml : c.maxLocals = 4 := hml0
  have hown : (s.setVm s.vm).vm.findClass "com/example/unwind/unwind/store/LaneEqualsPinLaw" = some m.cls := findClass_of_methodNamed Bd.named
  have hnm := (name_of_methodNamed Bd.named Bd.method).1
  have hlk : meth.locks = false := BodyLoose.notSynchronized Bd
  have X0 : Stand p l e ({ frames := 4, cells := 3, slots := 8, locals := 66 } : Room) (s.setVm s.vm) m #[(.int ia)] below meth c s₁ [] 0 0 := Stand.of_body Bd
  have e0 : s₁.heap = h0 := by rw [← hh, Bd.state]; rfl
  have N0 := Fr.nil n0
  have hZ : Z.Warmed39 (s.setVm s.vm).vm := hZ
  have hS0 : s.Since s.vm 0 := (State.WarmedH.refl s).since 0
  have hk0 : 0 ≤ h0.size := Nat.zero_le _
  have CR0 : CHr Z own_EL s.vm s.heap s.vm h0 := by rw [hh]; exact CHr.refl hC0
  have K0 := Keep.refl h0 []
  rw [ef_str m ia]
  show GoH p e below s Z own_EL (fun v h L => Q_str Z ia wz h0 n0 v h L) ({ frames := 4, cells := 3, slots := 8, locals := 66 } : Room).cells ({ frames := 4, cells := 3, slots := 8, locals := 66 } : Room).slots s₁ (mkF m 0 #[.val (.int ia), .unset, .unset, .unset] [])
  refine GoH.step (T' := s₁) (f' := (mkF m 1 #[.val (.int ia), .unset, .unset, .unset] [(.int ia)])) (fun t k => XS.iloadN X0.here hx rfl (hb hby d1_0) rfl k) ?_
  refine GoH.step (T' := s₁) (f' := (mkF m 3 #[.val (.int ia), .unset, .unset, .unset] [(.int (16 : Int32)), (.int ia)])) (fun t k => XS.bipush X0.here hx rfl (hb hby d1_1) k) ?_
  refine GoH.step (T' := s₁) (f' := (mkF m 4 #[.val (.int ia), .unset, .unset, .unset] [(.int ((ia.toUInt32 >>> ((16 : Int32) &&& 31).toUInt32).toInt32))])) (fun t k => XS.iushr X0.here hx rfl (hb hby d1_3) rfl k) ?_
  refine GoH.step (T' := s₁) (f' := (mkF m 5 #[.val (.int ia), .unset, .unset, .unset] [(.int (3 : Int32)), (.int ((ia.toUInt32 >>> ((16 : Int32) &&& 31).toUInt32).toInt32))])) (fun t k => XS.iconst X0.here hx rfl (hb hby d1_4) k) ?_
  refine GoH.step (T' := s₁) (f' := (mkF m 6 #[.val (.int ia), .unset, .unset, .unset] [(.int (((ia.toUInt32 >>> ((16 : Int32) &&& 31).toUInt32).toInt32) &&& (3 : Int32)))])) (fun t k => XS.iand X0.here hx rfl (hb hby d1_5) rfl k) ?_
  refine GoH.step (T' := s₁) (f' := (mkF m 7 #[.val (.int ia), .val (.int (((ia.toUInt32 >>> ((16 : Int32) &&& 31).toUInt32).toInt32) &&& (3 : Int32))), .unset, .unset] [])) (fun t k => XS.istoreN X0.here hx rfl (hb hby d1_6) rfl (l' := #[.val (.int ia), .val (.int (((ia.toUInt32 >>> ((16 : Int32) &&& 31).toUInt32).toInt32) &&& (3 : Int32))), .unset, .unset]) rfl k) ?_
  refine GoH.step (T' := s₁) (f' := (mkF m 8 #[.val (.int ia), .val (.int (((ia.toUInt32 >>> ((16 : Int32) &&& 31).toUInt32).toInt32) &&& (3 : Int32))), .unset, .unset] [(.int (((ia.toUInt32 >>> ((16 : Int32) &&& 31).toUInt32).toInt32) &&& (3 : Int32)))])) (fun t k => XS.iloadN X0.here hx rfl (hb hby d1_7) rfl k) ?_
  by_cases hc256 : (((ia.toUInt32 >>> ((16 : Int32) &&& 31).toUInt32).toInt32) &&& (3 : Int32)) = (0 : Int32)
  ·
    refine GoH.step (T' := s₁) (f' := (mkF m 11 #[.val (.int ia), .val (.int (((ia.toUInt32 >>> ((16 : Int32) &&& 31).toUInt32).toInt32) &&& (3 : Int32))), .unset, .unset] [])) (fun t k => XS.ifNo X0.here hx rfl (hb hby d1_8) rfl ((if0 _ _).trans (teq hc256).2) k) ?_
    obtain ⟨a257, T257, h257, kk257, b257, k257, X257, e257, E257, hS257, hk257, hZ, hown, Y257, C257, F257, A257, la257, lb257, ch257, Li257, sx257, st257⟩ := ldcCH (s := s) (vm0 := s.vm) X0 hx hZ hown (hw _ (List.mem_of_getElem? (i := 4) rfl)) (own_wS hw) e0 hS0 hk0 hEL (by decide) CR0.1 (vs := []) (z := (0 : Int32)) (by decide) (by decide) (by decide) (g := (mkF m 11 #[.val (.int ia), .val (.int (((ia.toUInt32 >>> ((16 : Int32) &&& 31).toUInt32).toInt32) &&& (3 : Int32))), .unset, .unset] [])) rfl (hb hby d1_11) (n := 0) (by decide) (by decide) (by decide) (by decide)
    have CR258 := CR0.trans ch257
    have O259 := O0.ext E257
    have K260 := K0.ext E257
    refine GoH.step (T' := T257) (f' := (mkF m 13 #[.val (.int ia), .val (.int (((ia.toUInt32 >>> ((16 : Int32) &&& 31).toUInt32).toInt32) &&& (3 : Int32))), .unset, .unset] [(.ref a257)])) st257 ?_
    clear st257 X0 CR0 hS0 hk0
    refine GoH.fin X257 hZ hEL hS257 hk257 CR258 hlk (v := some (.ref a257)) (fun h => by rw [Bd.returns] at h; cases h) (fun fs hr => retOut X257 hx Bd.returns (own_nar_ref rfl rfl) (Or.inr (Or.inr (Or.inr (Or.inr ⟨rfl, rfl, rfl⟩)))) (hb hby d1_13) hr) e257 ?_ (by decide) (by decide)
    exact ⟨a257, b257, k257, rfl, N0, K260, Y257, F257, C257, own_vcast (by rw [own_str, if_pos hc256]; rfl) (by rw [own_str, if_pos hc256]; rfl) A257⟩
  ·
    refine GoH.step (T' := s₁) (f' := (mkF m 14 #[.val (.int ia), .val (.int (((ia.toUInt32 >>> ((16 : Int32) &&& 31).toUInt32).toInt32) &&& (3 : Int32))), .unset, .unset] [])) (fun t k => XS.ifYes X0.here hx rfl (pc0 := 8) (pc' := 14) rfl (hb hby d1_8) rfl ((if0 _ _).trans (feq hc256).2) (by decide) (by decide) k) ?_
    refine GoH.step (T' := s₁) (f' := (mkF m 15 #[.val (.int ia), .val (.int (((ia.toUInt32 >>> ((16 : Int32) &&& 31).toUInt32).toInt32) &&& (3 : Int32))), .unset, .unset] [(.int ia)])) (fun t k => XS.iloadN X0.here hx rfl (hb hby d1_14) rfl k) ?_
    refine GoH.step (T' := s₁) (f' := (mkF m 18 #[.val (.int ia), .val (.int (((ia.toUInt32 >>> ((16 : Int32) &&& 31).toUInt32).toInt32) &&& (3 : Int32))), .unset, .unset] [(.int (255 : Int32)), (.int ia)])) (fun t k => XS.sipush X0.here hx rfl (hb hby d1_15) k) ?_
    refine GoH.step (T' := s₁) (f' := (mkF m 19 #[.val (.int ia), .val (.int (((ia.toUInt32 >>> ((16 : Int32) &&& 31).toUInt32).toInt32) &&& (3 : Int32))), .unset, .unset] [(.int (ia &&& (255 : Int32)))])) (fun t k => XS.iand X0.here hx rfl (hb hby d1_18) rfl k) ?_
    refine GoH.step (T' := s₁) (f' := (mkF m 20 #[.val (.int ia), .val (.int (((ia.toUInt32 >>> ((16 : Int32) &&& 31).toUInt32).toInt32) &&& (3 : Int32))), .unset, .unset] [(.int ((ia &&& (255 : Int32)).toUInt32.toUInt16.toUInt32.toInt32))])) (fun t k => XS.i2c X0.here hx rfl (hb hby d1_19) rfl k) ?_
    refine GoH.step (T' := s₁) (f' := (mkF m 21 #[.val (.int ia), .val (.int (((ia.toUInt32 >>> ((16 : Int32) &&& 31).toUInt32).toInt32) &&& (3 : Int32))), .val (.int ((ia &&& (255 : Int32)).toUInt32.toUInt16.toUInt32.toInt32)), .unset] [])) (fun t k => XS.istoreN X0.here hx rfl (hb hby d1_20) rfl (l' := #[.val (.int ia), .val (.int (((ia.toUInt32 >>> ((16 : Int32) &&& 31).toUInt32).toInt32) &&& (3 : Int32))), .val (.int ((ia &&& (255 : Int32)).toUInt32.toUInt16.toUInt32.toInt32)), .unset]) rfl k) ?_
    refine GoH.step (T' := s₁) (f' := (mkF m 22 #[.val (.int ia), .val (.int (((ia.toUInt32 >>> ((16 : Int32) &&& 31).toUInt32).toInt32) &&& (3 : Int32))), .val (.int ((ia &&& (255 : Int32)).toUInt32.toUInt16.toUInt32.toInt32)), .unset] [(.int (((ia.toUInt32 >>> ((16 : Int32) &&& 31).toUInt32).toInt32) &&& (3 : Int32)))])) (fun t k => XS.iloadN X0.here hx rfl (hb hby d1_21) rfl k) ?_
    refine GoH.step (T' := s₁) (f' := (mkF m 23 #[.val (.int ia), .val (.int (((ia.toUInt32 >>> ((16 : Int32) &&& 31).toUInt32).toInt32) &&& (3 : Int32))), .val (.int ((ia &&& (255 : Int32)).toUInt32.toUInt16.toUInt32.toInt32)), .unset] [(.int (1 : Int32)), (.int (((ia.toUInt32 >>> ((16 : Int32) &&& 31).toUInt32).toInt32) &&& (3 : Int32)))])) (fun t k => XS.iconst X0.here hx rfl (hb hby d1_22) k) ?_
    by_cases hc261 : (((ia.toUInt32 >>> ((16 : Int32) &&& 31).toUInt32).toInt32) &&& (3 : Int32)) = (1 : Int32)
    ·
      refine GoH.step (T' := s₁) (f' := (mkF m 26 #[.val (.int ia), .val (.int (((ia.toUInt32 >>> ((16 : Int32) &&& 31).toUInt32).toInt32) &&& (3 : Int32))), .val (.int ((ia &&& (255 : Int32)).toUInt32.toUInt16.toUInt32.toInt32)), .unset] [])) (fun t k => XS.icmpNo X0.here hx rfl (hb hby d1_23) rfl (teq hc261).2 k) ?_
      refine GoH.step (T' := s₁) (f' := (mkF m 27 #[.val (.int ia), .val (.int (((ia.toUInt32 >>> ((16 : Int32) &&& 31).toUInt32).toInt32) &&& (3 : Int32))), .val (.int ((ia &&& (255 : Int32)).toUInt32.toUInt16.toUInt32.toInt32)), .unset] [(.int ((ia &&& (255 : Int32)).toUInt32.toUInt16.toUInt32.toInt32))])) (fun t k => XS.iloadN X0.here hx rfl (hb hby d1_26) rfl k) ?_
      obtain ⟨_, _, ⟨T262, L262, k262, n262⟩, -, X262, ⟨Lc262, hQ262, l262, y262, z262⟩, st262⟩ := Jvm.LawKit.callS X0 hx (y := (⟨"java/lang/String", "valueOf", "(C)Ljava/lang/String;"⟩ : MethodName)) hown (mvT hZ (hw _ (List.mem_of_getElem? (i := 68) rfl))) (mvT hZ (hw _ (List.mem_of_getElem? (i := 69) rfl))) (mvT hZ (hw _ (List.mem_of_getElem? (i := 5) rfl))) (mvT hZ (hw _ (List.mem_of_getElem? (i := 70) rfl))) (by decide) (backOf (W := 0) (rm_vof l Z a0 hw [] ((ia &&& (255 : Int32)).toUInt32.toUInt16.toUInt32.toInt32) wz h0 n0 O0 P0 hwz (own_c8i _)) hZ (hw _ (List.mem_of_getElem? (i := 70) rfl)) (hw _ (List.mem_of_getElem? (i := 5) rfl)) (by decide) (by decide)) (g := (mkF m 27 #[.val (.int ia), .val (.int (((ia.toUInt32 >>> ((16 : Int32) &&& 31).toUInt32).toInt32) &&& (3 : Int32))), .val (.int ((ia &&& (255 : Int32)).toUInt32.toUInt16.toUInt32.toInt32)), .unset] [(.int ((ia &&& (255 : Int32)).toUInt32.toUInt16.toUInt32.toInt32))])) rfl (by rw [hml]; rfl) (argsL := [(.int ((ia &&& (255 : Int32)).toUInt32.toUInt16.toUInt32.toInt32))]) (rest := []) (lenOf pd8 rfl) rfl (by show 2 * 0 + _ ≤ _; exact Nat.le_of_eq rfl) (hb hby d1_27) (fun _ _ => ⟨rfl, e0, (by decide : 0 + 2 ≤ _), (by decide : 0 + 5 ≤ _)⟩)
      dsimp only [Pt.U, Pt.locs, Pt.cells, Pt.slots] at X262 l262 y262 z262 st262 hQ262
      subst l262 y262 z262
      obtain ⟨u263, u264, u265, rfl, Nq262, hh262, p266, p267, p268, p269⟩ := hQ262
      have N270 := Fr.app N0 Nq262
      have sz271 : ∀ x ∈ ([] : List Addr), Safe Z own_EL s.vm h0 x := sf0
      have CR272 := CR0.trans (CHr.keep hh262 sz271 CR0.1)
      have hk273 := Nat.le_trans hk0 hh262.1
      have O274 := O0.keep hh262 all0
      have K275 := K0.trans hh262 all0
      refine GoH.step (T' := T262) (f' := (mkF m 30 #[.val (.int ia), .val (.int (((ia.toUInt32 >>> ((16 : Int32) &&& 31).toUInt32).toInt32) &&& (3 : Int32))), .val (.int ((ia &&& (255 : Int32)).toUInt32.toUInt16.toUInt32.toInt32)), .unset] [(.ref u263)])) st262 ?_
      clear st262 X0 Nq262 CR0 hk0 sz271
      refine GoH.fin X262 hZ hEL hS0 hk273 CR272 hlk (v := some (.ref u263)) (fun h => by rw [Bd.returns] at h; cases h) (fun fs hr => retOut X262 hx Bd.returns (own_nar_ref rfl rfl) (Or.inr (Or.inr (Or.inr (Or.inr ⟨rfl, rfl, rfl⟩)))) (hb hby d1_30) hr) rfl ?_ (by decide) (by decide)
      exact ⟨u263, u264, u265, rfl, N270, K275, p266, p267, p268, own_vcast (by rw [own_str, if_neg hc256, if_pos hc261]; rfl) (by rw [own_str, if_neg hc256, if_pos hc261]; rfl) p269⟩
    ·
      refine GoH.step (T' := s₁) (f' := (mkF m 31 #[.val (.int ia), .val (.int (((ia.toUInt32 >>> ((16 : Int32) &&& 31).toUInt32).toInt32) &&& (3 : Int32))), .val (.int ((ia &&& (255 : Int32)).toUInt32.toUInt16.toUInt32.toInt32)), .unset] [])) (fun t k => XS.icmpYes X0.here hx rfl (pc0 := 23) (pc' := 31) rfl (hb hby d1_23) rfl (feq hc261).2 (by decide) (by decide) k) ?_
      refine GoH.step (T' := s₁) (f' := (mkF m 32 #[.val (.int ia), .val (.int (((ia.toUInt32 >>> ((16 : Int32) &&& 31).toUInt32).toInt32) &&& (3 : Int32))), .val (.int ((ia &&& (255 : Int32)).toUInt32.toUInt16.toUInt32.toInt32)), .unset] [(.int (2 : Int32))])) (fun t k => XS.iconst X0.here hx rfl (hb hby d1_31) k) ?_
      obtain ⟨T276, h276, k276, X276, e276, E276, A276, Y276, st276⟩ := newPE X0 hx hZ (hw _ (List.mem_of_getElem? (i := 40) rfl)) e0 (g := (mkF m 32 #[.val (.int ia), .val (.int (((ia.toUInt32 >>> ((16 : Int32) &&& 31).toUInt32).toInt32) &&& (3 : Int32))), .val (.int ((ia &&& (255 : Int32)).toUInt32.toUInt16.toUInt32.toInt32)), .unset] [(.int (2 : Int32))])) rfl (hb hby d1_32) rfl (by decide) (cap := 2) (by decide) (by decide) (by decide) (by decide) (ad := "[C") (by decide)
      obtain ⟨b276, g276⟩ : ∃ z, z = h0.size := ⟨_, rfl⟩
      rw [← g276] at A276 Y276 st276
      have g277 : n0 ≤ b276 := Nat.le_trans (own_old_le O0) (Nat.le_of_eq g276.symm)
      have g278 : h0.size ≤ b276 := Nat.le_trans K0.1 (Nat.le_of_eq g276.symm)
      have CR279 := CR0.trans (CHr.ext E276 CR0.1)
      have hk280 := Nat.le_trans hk0 E276.1
      have O281 := O0.ext E276
      have K282 := K0.ext E276
      have f283 : Arv Z h276 b276 k276 .char (2 : Int32) [(.int (0 : Int32)), (.int (0 : Int32))] (.int (0 : Int32)) := (Arv.new A276 (by decide)).pad (pad_rep [] (.int (0 : Int32)) 2)
      refine GoH.step (T' := T276) (f' := (mkF m 34 #[.val (.int ia), .val (.int (((ia.toUInt32 >>> ((16 : Int32) &&& 31).toUInt32).toInt32) &&& (3 : Int32))), .val (.int ((ia &&& (255 : Int32)).toUInt32.toUInt16.toUInt32.toInt32)), .unset] [(.ref b276)])) st276 ?_
      clear st276 X0 CR0 hk0
      refine GoH.step (T' := T276) (f' := (mkF m 35 #[.val (.int ia), .val (.int (((ia.toUInt32 >>> ((16 : Int32) &&& 31).toUInt32).toInt32) &&& (3 : Int32))), .val (.int ((ia &&& (255 : Int32)).toUInt32.toUInt16.toUInt32.toInt32)), .val (.ref b276)] [])) (fun t k => XS.astoreN X276.here hx rfl (hb hby d1_34) rfl rfl (l' := #[.val (.int ia), .val (.int (((ia.toUInt32 >>> ((16 : Int32) &&& 31).toUInt32).toInt32) &&& (3 : Int32))), .val (.int ((ia &&& (255 : Int32)).toUInt32.toUInt16.toUInt32.toInt32)), .val (.ref b276)]) rfl k) ?_
      refine GoH.step (T' := T276) (f' := (mkF m 36 #[.val (.int ia), .val (.int (((ia.toUInt32 >>> ((16 : Int32) &&& 31).toUInt32).toInt32) &&& (3 : Int32))), .val (.int ((ia &&& (255 : Int32)).toUInt32.toUInt16.toUInt32.toInt32)), .val (.ref b276)] [(.ref b276)])) (fun t k => XS.aloadN X276.here hx rfl (hb hby d1_35) rfl rfl k) ?_
      refine GoH.step (T' := T276) (f' := (mkF m 37 #[.val (.int ia), .val (.int (((ia.toUInt32 >>> ((16 : Int32) &&& 31).toUInt32).toInt32) &&& (3 : Int32))), .val (.int ((ia &&& (255 : Int32)).toUInt32.toUInt16.toUInt32.toInt32)), .val (.ref b276)] [(.int (0 : Int32)), (.ref b276)])) (fun t k => XS.iconst X276.here hx rfl (hb hby d1_36) k) ?_
      refine GoH.step (T' := T276) (f' := (mkF m 38 #[.val (.int ia), .val (.int (((ia.toUInt32 >>> ((16 : Int32) &&& 31).toUInt32).toInt32) &&& (3 : Int32))), .val (.int ((ia &&& (255 : Int32)).toUInt32.toUInt16.toUInt32.toInt32)), .val (.ref b276)] [(.int ((ia &&& (255 : Int32)).toUInt32.toUInt16.toUInt32.toInt32)), (.int (0 : Int32)), (.ref b276)])) (fun t k => XS.iloadN X276.here hx rfl (hb hby d1_37) rfl k) ?_
      obtain ⟨ca284, Aa284, qa284, Sa284, Na284, Ha284, Ga284⟩ := id f283
      have ia284 : ¬ ((0 : Int32) < 0 ∨ ca284.slots.size ≤ ((0 : Int32)).toNatClampNeg) := inb_of Sa284 ⟨by decide, by decide⟩
      obtain ⟨T285, h285, X285, e285, W285, st285⟩ := stC X276 hx hZ e276 Aa284 (j := (0 : Int32)) ia284 (g := (mkF m 38 #[.val (.int ia), .val (.int (((ia.toUInt32 >>> ((16 : Int32) &&& 31).toUInt32).toInt32) &&& (3 : Int32))), .val (.int ((ia &&& (255 : Int32)).toUInt32.toUInt16.toUInt32.toInt32)), .val (.ref b276)] [(.int ((ia &&& (255 : Int32)).toUInt32.toUInt16.toUInt32.toInt32)), (.int (0 : Int32)), (.ref b276)])) rfl rfl (hb hby d1_38)
      have f286 := Arv.set Aa284 qa284 Sa284 Na284 Ha284 Ga284 (fits_nar_char _) W285 0 rfl (Nat.le_of_ble_eq_true rfl)
      have f287 : Arv Z h285 b276 k276 .char (2 : Int32) [(.int (nar .char ((ia &&& (255 : Int32)).toUInt32.toUInt16.toUInt32.toInt32))), (.int (0 : Int32))] (.int (0 : Int32)) := f286
      have sa288 : Safe Z own_EL s.vm h276 b276 := (Safe.exa (EL := own_EL) hZ.alike Y276 (by decide) (by decide))
      have CR289 := CR279.trans (CHr.wr W285 sa288 CR279.1)
      have hk290 := (by rw [W285.size]; exact hk280 : _ ≤ h285.size)
      have f291 := Y276.wr W285
      have O292 := O281.wr W285 g277
      have K293 := K282.wr W285 (Or.inr g278)
      have N294 := Fr.snoc X285 N0 g277
      refine GoH.step (T' := T285) (f' := (mkF m 39 #[.val (.int ia), .val (.int (((ia.toUInt32 >>> ((16 : Int32) &&& 31).toUInt32).toInt32) &&& (3 : Int32))), .val (.int ((ia &&& (255 : Int32)).toUInt32.toUInt16.toUInt32.toInt32)), .val (.ref b276)] [])) st285 ?_
      clear st285 X276 CR279 hk280 sa288 Y276 O281 K282
      refine GoH.step (T' := T285) (f' := (mkF m 40 #[.val (.int ia), .val (.int (((ia.toUInt32 >>> ((16 : Int32) &&& 31).toUInt32).toInt32) &&& (3 : Int32))), .val (.int ((ia &&& (255 : Int32)).toUInt32.toUInt16.toUInt32.toInt32)), .val (.ref b276)] [(.ref b276)])) (fun t k => XS.aloadN X285.here hx rfl (hb hby d1_39) rfl rfl k) ?_
      refine GoH.step (T' := T285) (f' := (mkF m 41 #[.val (.int ia), .val (.int (((ia.toUInt32 >>> ((16 : Int32) &&& 31).toUInt32).toInt32) &&& (3 : Int32))), .val (.int ((ia &&& (255 : Int32)).toUInt32.toUInt16.toUInt32.toInt32)), .val (.ref b276)] [(.int (1 : Int32)), (.ref b276)])) (fun t k => XS.iconst X285.here hx rfl (hb hby d1_40) k) ?_
      refine GoH.step (T' := T285) (f' := (mkF m 42 #[.val (.int ia), .val (.int (((ia.toUInt32 >>> ((16 : Int32) &&& 31).toUInt32).toInt32) &&& (3 : Int32))), .val (.int ((ia &&& (255 : Int32)).toUInt32.toUInt16.toUInt32.toInt32)), .val (.ref b276)] [(.int ia), (.int (1 : Int32)), (.ref b276)])) (fun t k => XS.iloadN X285.here hx rfl (hb hby d1_41) rfl k) ?_
      refine GoH.step (T' := T285) (f' := (mkF m 44 #[.val (.int ia), .val (.int (((ia.toUInt32 >>> ((16 : Int32) &&& 31).toUInt32).toInt32) &&& (3 : Int32))), .val (.int ((ia &&& (255 : Int32)).toUInt32.toUInt16.toUInt32.toInt32)), .val (.ref b276)] [(.int (8 : Int32)), (.int ia), (.int (1 : Int32)), (.ref b276)])) (fun t k => XS.bipush X285.here hx rfl (hb hby d1_42) k) ?_
      refine GoH.step (T' := T285) (f' := (mkF m 45 #[.val (.int ia), .val (.int (((ia.toUInt32 >>> ((16 : Int32) &&& 31).toUInt32).toInt32) &&& (3 : Int32))), .val (.int ((ia &&& (255 : Int32)).toUInt32.toUInt16.toUInt32.toInt32)), .val (.ref b276)] [(.int ((ia.toUInt32 >>> ((8 : Int32) &&& 31).toUInt32).toInt32)), (.int (1 : Int32)), (.ref b276)])) (fun t k => XS.iushr X285.here hx rfl (hb hby d1_44) rfl k) ?_
      refine GoH.step (T' := T285) (f' := (mkF m 48 #[.val (.int ia), .val (.int (((ia.toUInt32 >>> ((16 : Int32) &&& 31).toUInt32).toInt32) &&& (3 : Int32))), .val (.int ((ia &&& (255 : Int32)).toUInt32.toUInt16.toUInt32.toInt32)), .val (.ref b276)] [(.int (255 : Int32)), (.int ((ia.toUInt32 >>> ((8 : Int32) &&& 31).toUInt32).toInt32)), (.int (1 : Int32)), (.ref b276)])) (fun t k => XS.sipush X285.here hx rfl (hb hby d1_45) k) ?_
      refine GoH.step (T' := T285) (f' := (mkF m 49 #[.val (.int ia), .val (.int (((ia.toUInt32 >>> ((16 : Int32) &&& 31).toUInt32).toInt32) &&& (3 : Int32))), .val (.int ((ia &&& (255 : Int32)).toUInt32.toUInt16.toUInt32.toInt32)), .val (.ref b276)] [(.int (((ia.toUInt32 >>> ((8 : Int32) &&& 31).toUInt32).toInt32) &&& (255 : Int32))), (.int (1 : Int32)), (.ref b276)])) (fun t k => XS.iand X285.here hx rfl (hb hby d1_48) rfl k) ?_
      refine GoH.step (T' := T285) (f' := (mkF m 50 #[.val (.int ia), .val (.int (((ia.toUInt32 >>> ((16 : Int32) &&& 31).toUInt32).toInt32) &&& (3 : Int32))), .val (.int ((ia &&& (255 : Int32)).toUInt32.toUInt16.toUInt32.toInt32)), .val (.ref b276)] [(.int ((((ia.toUInt32 >>> ((8 : Int32) &&& 31).toUInt32).toInt32) &&& (255 : Int32)).toUInt32.toUInt16.toUInt32.toInt32)), (.int (1 : Int32)), (.ref b276)])) (fun t k => XS.i2c X285.here hx rfl (hb hby d1_49) rfl k) ?_
      obtain ⟨ca295, Aa295, qa295, Sa295, Na295, Ha295, Ga295⟩ := id f287
      have ia295 : ¬ ((1 : Int32) < 0 ∨ ca295.slots.size ≤ ((1 : Int32)).toNatClampNeg) := inb_of Sa295 ⟨by decide, by decide⟩
      obtain ⟨T296, h296, X296, e296, W296, st296⟩ := stC X285 hx hZ e285 Aa295 (j := (1 : Int32)) ia295 (g := (mkF m 50 #[.val (.int ia), .val (.int (((ia.toUInt32 >>> ((16 : Int32) &&& 31).toUInt32).toInt32) &&& (3 : Int32))), .val (.int ((ia &&& (255 : Int32)).toUInt32.toUInt16.toUInt32.toInt32)), .val (.ref b276)] [(.int ((((ia.toUInt32 >>> ((8 : Int32) &&& 31).toUInt32).toInt32) &&& (255 : Int32)).toUInt32.toUInt16.toUInt32.toInt32)), (.int (1 : Int32)), (.ref b276)])) rfl rfl (hb hby d1_50)
      have f297 := Arv.set Aa295 qa295 Sa295 Na295 Ha295 Ga295 (fits_nar_char _) W296 1 rfl (Nat.le_of_ble_eq_true rfl)
      have f298 : Arv Z h296 b276 k276 .char (2 : Int32) [(.int (nar .char ((ia &&& (255 : Int32)).toUInt32.toUInt16.toUInt32.toInt32))), (.int (nar .char ((((ia.toUInt32 >>> ((8 : Int32) &&& 31).toUInt32).toInt32) &&& (255 : Int32)).toUInt32.toUInt16.toUInt32.toInt32)))] (.int (0 : Int32)) := f297
      have sa299 : Safe Z own_EL s.vm h285 b276 := (Safe.exa (EL := own_EL) hZ.alike f291 (by decide) (by decide))
      have CR300 := CR289.trans (CHr.wr W296 sa299 CR289.1)
      have hk301 := (by rw [W296.size]; exact hk290 : _ ≤ h296.size)
      have f302 := f291.wr W296
      have O303 := O292.wr W296 g277
      have K304 := K293.wr W296 (Or.inr g278)
      have N305 := Fr.snoc X296 N294 g277
      refine GoH.step (T' := T296) (f' := (mkF m 51 #[.val (.int ia), .val (.int (((ia.toUInt32 >>> ((16 : Int32) &&& 31).toUInt32).toInt32) &&& (3 : Int32))), .val (.int ((ia &&& (255 : Int32)).toUInt32.toUInt16.toUInt32.toInt32)), .val (.ref b276)] [])) st296 ?_
      clear st296 X285 CR289 hk290 sa299 f291 O292 K293 N294
      obtain ⟨T306, h306, X306, e306, E306, A306, D306, -, st306⟩ := newO X296 hx hZ hown (hw _ (List.mem_of_getElem? (i := 41) rfl)) (hw _ (List.mem_of_getElem? (i := 6) rfl)) (hw _ (List.mem_of_getElem? (i := 5) rfl)) e296 (g := (mkF m 51 #[.val (.int ia), .val (.int (((ia.toUInt32 >>> ((16 : Int32) &&& 31).toUInt32).toInt32) &&& (3 : Int32))), .val (.int ((ia &&& (255 : Int32)).toUInt32.toUInt16.toUInt32.toInt32)), .val (.ref b276)] [])) rfl (hb hby d1_51) (by decide) (by decide)
      obtain ⟨b306, g306⟩ : ∃ z, z = h296.size := ⟨_, rfl⟩
      rw [← g306] at A306 D306 st306
      have sf307 : Safe Z own_EL s.vm h296 b306 := Safe.new (Nat.le_of_eq g306.symm)
      have g308 : n0 ≤ b306 := Nat.le_trans (own_old_le O303) (Nat.le_of_eq g306.symm)
      have g309 : h0.size ≤ b306 := Nat.le_trans K304.1 (Nat.le_of_eq g306.symm)
      have ne310 : b276 ≠ b306 := Nat.ne_of_lt (Nat.lt_of_lt_of_le f302.lt (Nat.le_of_eq g306.symm))
      have sf311 := Safe.ext E306 CR300.1 sf307
      have CR312 := CR300.trans (CHr.ext E306 CR300.1)
      have hk313 := Nat.le_trans hk301 E306.1
      have f314 := f302.ext E306
      have f315 := f298.ext E306
      have O316 := O303.ext E306
      have K317 := K304.ext E306
      have f318 : Fld Z h306 b306 "java/lang/String" "value" "[B" .null := D306 (Or.inr (hw _ (List.mem_of_getElem? (i := 8) rfl))) (ty := (.array .byte)) (by decide)
      have f319 : Fld Z h306 b306 "java/lang/String" "coder" "B" (.int (0 : Int32)) := D306 (Or.inr (hw _ (List.mem_of_getElem? (i := 9) rfl))) (ty := .byte) (by decide)
      refine GoH.step (T' := T306) (f' := (mkF m 54 #[.val (.int ia), .val (.int (((ia.toUInt32 >>> ((16 : Int32) &&& 31).toUInt32).toInt32) &&& (3 : Int32))), .val (.int ((ia &&& (255 : Int32)).toUInt32.toUInt16.toUInt32.toInt32)), .val (.ref b276)] [(.ref b306)])) st306 ?_
      clear st306 X296 sf307 CR300 hk301 f302 f298 O303 K304
      refine GoH.step (T' := T306) (f' := (mkF m 55 #[.val (.int ia), .val (.int (((ia.toUInt32 >>> ((16 : Int32) &&& 31).toUInt32).toInt32) &&& (3 : Int32))), .val (.int ((ia &&& (255 : Int32)).toUInt32.toUInt16.toUInt32.toInt32)), .val (.ref b276)] [(.ref b306), (.ref b306)])) (fun t k => XS.dup X306.here hx rfl (hb hby d1_54) rfl rfl k) ?_
      refine GoH.step (T' := T306) (f' := (mkF m 56 #[.val (.int ia), .val (.int (((ia.toUInt32 >>> ((16 : Int32) &&& 31).toUInt32).toInt32) &&& (3 : Int32))), .val (.int ((ia &&& (255 : Int32)).toUInt32.toUInt16.toUInt32.toInt32)), .val (.ref b276)] [(.ref b276), (.ref b306), (.ref b306)])) (fun t k => XS.aloadN X306.here hx rfl (hb hby d1_55) rfl rfl k) ?_
      obtain ⟨_, _, ⟨T320, L320, k320, n320⟩, -, X320, ⟨Lc320, hQ320, l320, y320, z320⟩, st320⟩ := X306.specialBack hx (y := (⟨"java/lang/String", "<init>", "([C)V"⟩ : MethodName)) rfl hown (mvT hZ (hw _ (List.mem_of_getElem? (i := 42) rfl))) (mvT hZ (hw _ (List.mem_of_getElem? (i := 43) rfl))) (mvT hZ (hw _ (List.mem_of_getElem? (i := 44) rfl))) (by decide) (backOf (W := 1) (rm_ini1_2 l Z a0 hw [] b306 b276 k276 (nar .char ((ia &&& (255 : Int32)).toUInt32.toUInt16.toUInt32.toInt32)) (nar .char ((((ia.toUInt32 >>> ((8 : Int32) &&& 31).toUInt32).toInt32) &&& (255 : Int32)).toUInt32.toUInt16.toUInt32.toInt32)) .null (.int (0 : Int32)) wz h306 n0 O316 A306 f318 f319 g308 f315 ne310 P0 hwz (own_c8 _) (own_c8 _)) hZ (hw _ (List.mem_of_getElem? (i := 44) rfl)) (hw _ (List.mem_of_getElem? (i := 5) rfl)) (by decide) (by decide)) (g := (mkF m 56 #[.val (.int ia), .val (.int (((ia.toUInt32 >>> ((16 : Int32) &&& 31).toUInt32).toInt32) &&& (3 : Int32))), .val (.int ((ia &&& (255 : Int32)).toUInt32.toUInt16.toUInt32.toInt32)), .val (.ref b276)] [(.ref b276), (.ref b306), (.ref b306)])) rfl (by rw [hml]; rfl) (Steps.refl _) (a := b306) (argsL := [(.ref b276)]) (rest := [(.ref b306)]) (lenOf pd9 rfl) rfl (by show 2 * 0 + _ ≤ _; exact Nat.le_of_eq rfl) (hb hby d1_56) (fun _ _ => ⟨rfl, e306, (by decide : 2 + 1 ≤ _), (by decide : 6 + 2 ≤ _)⟩)
      dsimp only [Pt.U, Pt.locs, Pt.cells, Pt.slots] at X320 l320 y320 z320 st320 hQ320
      subst l320 y320 z320
      obtain ⟨u321, u322, rfl, Nq320, hh320, p323, p324, p325, p326, p327⟩ := hQ320
      have N328 := Fr.app N305 Nq320
      have sz329 : ∀ x ∈ [b306], Safe Z own_EL s.vm h306 x := (sfS sf311 sf0)
      have sf330 := Safe.keep hh320 sz329 CR312.1 sf311
      have CR331 := CR312.trans (CHr.keep hh320 sz329 CR312.1)
      have hk332 := Nat.le_trans hk313 hh320.1
      have f333 := f314.keep hh320
      have f334 := f315.keep hh320 (ninS ne310 nin0)
      have f335 := A306.keep hh320
      have O336 := O316.keep hh320 (allS g308 all0)
      have K337 := K317.trans hh320 (allS (Or.inr g309) all0)
      have g338 : n0 ≤ u321 := Nat.le_trans (own_old_le O316) p326
      have g339 : h0.size ≤ u321 := Nat.le_trans K317.1 p326
      have ne340 : b276 ≠ u321 := Nat.ne_of_lt (Nat.lt_of_lt_of_le f314.lt p326)
      have ne341 : b306 ≠ u321 := Nat.ne_of_lt (Nat.lt_of_lt_of_le A306.lt p326)
      refine GoH.via (T' := T320) (f' := (mkF m 59 #[.val (.int ia), .val (.int (((ia.toUInt32 >>> ((16 : Int32) &&& 31).toUInt32).toInt32) &&& (3 : Int32))), .val (.int ((ia &&& (255 : Int32)).toUInt32.toUInt16.toUInt32.toInt32)), .val (.ref b276)] [(.ref b306)])) st320 ?_
      clear st320 X306 N305 Nq320 sf311 CR312 hk313 sz329 f315
      refine GoH.fin X320 hZ hEL hS0 hk332 CR331 hlk (v := some (.ref b306)) (fun h => by rw [Bd.returns] at h; cases h) (fun fs hr => retOut X320 hx Bd.returns (own_nar_ref rfl rfl) (Or.inr (Or.inr (Or.inr (Or.inr ⟨rfl, rfl, rfl⟩)))) (hb hby d1_59) hr) rfl ?_ (by decide) (by decide)
      exact ⟨b306, u321, u322, rfl, N328, K337, p323, p324, p325, own_vcast (by rw [own_str, if_neg hc256, if_neg hc261]; rfl) (by rw [own_str, if_neg hc256, if_neg hc261]; rfl) p327⟩
theorem d2_0 : decode prog_30_method_1_code 0 = .ok (.aload_n 0, 1) := by decide +kernel
theorem d2_1 : decode prog_30_method_1_code 1 = .ok (.invokespecial 1, 3) := by decide +kernel
theorem d2_4 : decode prog_30_method_1_code 4 = .ok (.aload_n 0, 1) := by decide +kernel
theorem d2_5 : decode prog_30_method_1_code 5 = .ok (.aload_n 1, 1) := by decide +kernel
theorem d2_6 : decode prog_30_method_1_code 6 = .ok (.putfield 7, 3) := by decide +kernel
theorem d2_9 : decode prog_30_method_1_code 9 = .ok (.aload_n 0, 1) := by decide +kernel
theorem d2_10 : decode prog_30_method_1_code 10 = .ok (.aload_n 2, 1) := by decide +kernel
theorem d2_11 : decode prog_30_method_1_code 11 = .ok (.putfield 13, 3) := by decide +kernel
theorem d2_14 : decode prog_30_method_1_code 14 = .ok (.return_, 1) := by decide +kernel
theorem pn_com_example_unwind_unwind_store_Outbox_Lane : plainName "com/example/unwind/unwind/store/Outbox$Lane" = true := by first | (simp [plainName, overriddenIn]; done) | decide +kernel
theorem ef_lini (m : MethodId) (ba : Addr) (bd : Addr) (bk : Addr) : entryFrame m #[(.ref ba), (.ref bd), (.ref bk)] 3 = mkF m 0 #[.val (.ref ba), .val (.ref bd), .val (.ref bk)] [] := by first | (simp [entryFrame, mkF, argsToLocals, Value.category]; done) | rfl
def Q_lini (Z : State) (ba : Addr) (bd : Addr) (bk : Addr) (u0 : Value) (u1 : Value) (h0 : Heap) (n0 : Nat) (v : Option Value) (h : Heap) (L : List Loc) : Prop := v = none ∧ Fr n0 L ∧ Keep h0 h [ba] ∧ Exa Z h ba "com/example/unwind/unwind/store/Outbox$Lane" ∧ Fld Z h ba "com/example/unwind/unwind/store/Outbox$Lane" "destination" "Ljava/lang/String;" (.ref bd) ∧ Fld Z h ba "com/example/unwind/unwind/store/Outbox$Lane" "key" "Ljava/lang/String;" (.ref bk)
set_option maxRecDepth 65536 in
set_option maxHeartbeats 40000000 in
theorem rm_lini (l : Launch) (Z : State) (a0 : Array Value) (hw : ∀ d ∈ tables_1, d.before a0 Z = true) (ws : List Jvm.Cond) (ba : Addr) (bd : Addr) (bk : Addr) (u0 : Value) (u1 : Value) (h0 : Heap) (n0 : Nat) (O0 : Old Z n0 h0) (P0 : Exa Z h0 ba "com/example/unwind/unwind/store/Outbox$Lane") (P1 : Fld Z h0 ba "com/example/unwind/unwind/store/Outbox$Lane" "destination" "Ljava/lang/String;" u0) (P2 : Fld Z h0 ba "com/example/unwind/unwind/store/Outbox$Lane" "key" "Ljava/lang/String;" u1) (P3 : n0 ≤ ba) :
    MetFree l (⟨"com/example/unwind/unwind/store/Outbox$Lane", "<init>", "(Ljava/lang/String;Ljava/lang/String;)V"⟩ : MethodName) (head1 (Jvm.Cond.code (⟨"com/example/unwind/unwind/store/Outbox$Lane", "<init>", "(Ljava/lang/String;Ljava/lang/String;)V"⟩ : MethodName) prog_30_method_1_code 3 none :: ws) ({ frames := 1, cells := 0, slots := 0, locals := 12 } : Room)) (fun a U => a = #[(.ref ba), (.ref bd), (.ref bk)] ∧ Z.Warmed39 U.vm ∧ U.heap = h0) (fun _ _ _ _ _ => True) (fun _ U o U' => ∃ v L, o = .returned v ∧ Q_lini Z ba bd bk u0 u1 h0 n0 v U'.heap L ∧ FrameEnd U o U' L ({ frames := 1, cells := 0, slots := 0, locals := 12 } : Room).cells ({ frames := 1, cells := 0, slots := 0, locals := 12 } : Room).slots) := by
  refine MetFree.of_bodySF (plainFor_of_name pn_com_example_unwind_unwind_store_Outbox_Lane) hisR ?_
  intro p e s m args below meth c s₁ Bd hml0 hP hK
  obtain ⟨rfl, hZ, hh⟩ := hP
  have hx := Bd.exec
  have hby := Bd.bytes
  have hml : c.maxLocals = 3 := hml0
  have hown : s.vm.findClass "com/example/unwind/unwind/store/Outbox$Lane" = some m.cls := findClass_of_methodNamed Bd.named
  have hnm := (name_of_methodNamed Bd.named Bd.method).1
  have hlk : meth.locks = false := BodyLoose.notSynchronized Bd
  have X0 : Stand p l e ({ frames := 1, cells := 0, slots := 0, locals := 12 } : Room) s m #[(.ref ba), (.ref bd), (.ref bk)] below meth c s₁ [] 0 0 := Stand.of_body Bd
  have e0 : s₁.heap = h0 := by rw [← hh, Bd.state]; rfl
  have N0 := Fr.nil n0
  have K0 := Keep.refl h0 [ba]
  rw [ef_lini m ba bd bk]
  show Go p e below s (fun v h L => Q_lini Z ba bd bk u0 u1 h0 n0 v h L) ({ frames := 1, cells := 0, slots := 0, locals := 12 } : Room).cells ({ frames := 1, cells := 0, slots := 0, locals := 12 } : Room).slots s₁ (mkF m 0 #[.val (.ref ba), .val (.ref bd), .val (.ref bk)] [])
  refine Go.step (T' := s₁) (f' := (mkF m 1 #[.val (.ref ba), .val (.ref bd), .val (.ref bk)] [(.ref ba)])) (fun t k => XS.aloadN X0.here hx rfl (hb hby d2_0) rfl rfl k) ?_
  obtain ⟨T342, X342, e342, st342⟩ := initO X0 hx hZ hown (hw _ (List.mem_of_getElem? (i := 18) rfl)) (hw _ (List.mem_of_getElem? (i := 19) rfl)) (hw _ (List.mem_of_getElem? (i := 20) rfl)) e0 (g := (mkF m 1 #[.val (.ref ba), .val (.ref bd), .val (.ref bk)] [(.ref ba)])) rfl (by rw [hml]; rfl) rfl (hb hby d2_1) (by decide) (W := 0) (by show 2 * 0 + _ ≤ _; exact Nat.le_of_eq rfl) (by decide)
  refine Go.step (T' := T342) (f' := (mkF m 4 #[.val (.ref ba), .val (.ref bd), .val (.ref bk)] [])) st342 ?_
  clear st342 X0
  refine Go.step (T' := T342) (f' := (mkF m 5 #[.val (.ref ba), .val (.ref bd), .val (.ref bk)] [(.ref ba)])) (fun t k => XS.aloadN X342.here hx rfl (hb hby d2_4) rfl rfl k) ?_
  refine Go.step (T' := T342) (f' := (mkF m 6 #[.val (.ref ba), .val (.ref bd), .val (.ref bk)] [(.ref bd), (.ref ba)])) (fun t k => XS.aloadN X342.here hx rfl (hb hby d2_5) rfl rfl k) ?_
  obtain ⟨T343, h343, X343, e343, W343, st343⟩ := putF X342 hx hZ hown (host := "") (Or.inl (hw _ (List.mem_of_getElem? (i := 21) rfl))) Via.refl e342 P1 P0 (Or.inr ⟨(hw _ (List.mem_of_getElem? (i := 22) rfl)), rfl, hnm⟩) (hw _ (List.mem_of_getElem? (i := 13) rfl)) (ty := (.object "java/lang/String")) (by decide) rfl rfl (g := (mkF m 6 #[.val (.ref ba), .val (.ref bd), .val (.ref bk)] [(.ref bd), (.ref ba)])) rfl rfl (hb hby d2_6)
  have f344 := P1.same W343
  have f345 := P0.wr W343
  have f346 := P2.other W343 (Or.inr (slot_ne (Or.inr (hw _ (List.mem_of_getElem? (i := 24) rfl))) (Or.inr (hw _ (List.mem_of_getElem? (i := 22) rfl))) (by decide) (t := (.object "java/lang/String")) (t' := (.object "java/lang/String")) (by decide) (by decide)))
  have O347 := O0.wr W343 P3
  have K348 := K0.wr W343 (Or.inl (List.mem_of_getElem? (i := 0) rfl))
  have N349 := Fr.snoc X343 N0 P3
  refine Go.step (T' := T343) (f' := (mkF m 9 #[.val (.ref ba), .val (.ref bd), .val (.ref bk)] [])) st343 ?_
  clear st343 X342
  refine Go.step (T' := T343) (f' := (mkF m 10 #[.val (.ref ba), .val (.ref bd), .val (.ref bk)] [(.ref ba)])) (fun t k => XS.aloadN X343.here hx rfl (hb hby d2_9) rfl rfl k) ?_
  refine Go.step (T' := T343) (f' := (mkF m 11 #[.val (.ref ba), .val (.ref bd), .val (.ref bk)] [(.ref bk), (.ref ba)])) (fun t k => XS.aloadN X343.here hx rfl (hb hby d2_10) rfl rfl k) ?_
  obtain ⟨T350, h350, X350, e350, W350, st350⟩ := putF X343 hx hZ hown (host := "") (Or.inl (hw _ (List.mem_of_getElem? (i := 23) rfl))) Via.refl e343 f346 f345 (Or.inr ⟨(hw _ (List.mem_of_getElem? (i := 24) rfl)), rfl, hnm⟩) (hw _ (List.mem_of_getElem? (i := 13) rfl)) (ty := (.object "java/lang/String")) (by decide) rfl rfl (g := (mkF m 11 #[.val (.ref ba), .val (.ref bd), .val (.ref bk)] [(.ref bk), (.ref ba)])) rfl rfl (hb hby d2_11)
  have f351 := f346.same W350
  have f352 := f345.wr W350
  have f353 := f344.other W350 (Or.inr (slot_ne (Or.inr (hw _ (List.mem_of_getElem? (i := 22) rfl))) (Or.inr (hw _ (List.mem_of_getElem? (i := 24) rfl))) (by decide) (t := (.object "java/lang/String")) (t' := (.object "java/lang/String")) (by decide) (by decide)))
  have O354 := O347.wr W350 P3
  have K355 := K348.wr W350 (Or.inl (List.mem_of_getElem? (i := 0) rfl))
  have N356 := Fr.snoc X350 N349 P3
  refine Go.step (T' := T350) (f' := (mkF m 14 #[.val (.ref ba), .val (.ref bd), .val (.ref bk)] [])) st350 ?_
  clear st350 X343 f345 f344 O347 K348 N349
  refine Go.retV X350 hx hlk Bd.returns (hb hby d2_14) e350 ?_ (by decide) (by decide)
  exact ⟨rfl, N356, K355, f352, f353, f351⟩
theorem d5_0 : decode prog_30_method_2_code 0 = .ok (.aload_n 1, 1) := by decide +kernel
theorem d5_1 : decode prog_30_method_2_code 1 = .ok (.instanceof 8, 3) := by decide +kernel
theorem d5_4 : decode prog_30_method_2_code 4 = .ok (.ifCond .eq 41, 3) := by decide +kernel
theorem d5_7 : decode prog_30_method_2_code 7 = .ok (.aload_n 1, 1) := by decide +kernel
theorem d5_8 : decode prog_30_method_2_code 8 = .ok (.checkcast 8, 3) := by decide +kernel
theorem d5_11 : decode prog_30_method_2_code 11 = .ok (.getfield 7, 3) := by decide +kernel
theorem d5_14 : decode prog_30_method_2_code 14 = .ok (.aload_n 0, 1) := by decide +kernel
theorem d5_15 : decode prog_30_method_2_code 15 = .ok (.getfield 7, 3) := by decide +kernel
theorem d5_18 : decode prog_30_method_2_code 18 = .ok (.invokevirtual 16, 3) := by decide +kernel
theorem d5_21 : decode prog_30_method_2_code 21 = .ok (.ifCond .eq 24, 3) := by decide +kernel
theorem d5_24 : decode prog_30_method_2_code 24 = .ok (.aload_n 1, 1) := by decide +kernel
theorem d5_25 : decode prog_30_method_2_code 25 = .ok (.checkcast 8, 3) := by decide +kernel
theorem d5_28 : decode prog_30_method_2_code 28 = .ok (.getfield 13, 3) := by decide +kernel
theorem d5_31 : decode prog_30_method_2_code 31 = .ok (.aload_n 0, 1) := by decide +kernel
theorem d5_32 : decode prog_30_method_2_code 32 = .ok (.getfield 13, 3) := by decide +kernel
theorem d5_35 : decode prog_30_method_2_code 35 = .ok (.invokevirtual 16, 3) := by decide +kernel
theorem d5_38 : decode prog_30_method_2_code 38 = .ok (.ifCond .eq 7, 3) := by decide +kernel
theorem d5_41 : decode prog_30_method_2_code 41 = .ok (.iconst 1, 1) := by decide +kernel
theorem d5_42 : decode prog_30_method_2_code 42 = .ok (.goto 4, 3) := by decide +kernel
theorem d5_45 : decode prog_30_method_2_code 45 = .ok (.iconst 0, 1) := by decide +kernel
theorem d5_46 : decode prog_30_method_2_code 46 = .ok (.ireturn, 1) := by decide +kernel
theorem pd10 : parseMethodDescriptor "(Ljava/lang/Object;)Z" = some ⟨[(.object "java/lang/Object")], some .boolean⟩ := by decide +kernel
theorem ef_leqL (m : MethodId) (ba : Addr) (bb : Addr) : entryFrame m #[(.ref ba), (.ref bb)] 2 = mkF m 0 #[.val (.ref ba), .val (.ref bb)] [] := by first | (simp [entryFrame, mkF, argsToLocals, Value.category]; done) | rfl
def Q_leqL (Z : State) (ba : Addr) (bb : Addr) (bda : Addr) (bka : Addr) (bdb : Addr) (bkb : Addr) (vda : Addr) (vka : Addr) (vdb : Addr) (vkb : Addr) (kda : ClassId) (kka : ClassId) (kdb : ClassId) (kkb : ClassId) (xda : List Int32) (xka : List Int32) (xdb : List Int32) (xkb : List Int32) (wz : Int32) (h0 : Heap) (n0 : Nat) (v : Option Value) (h : Heap) (L : List Loc) : Prop := v = some (.int (if xdb = xda ∧ xkb = xka then (1 : Int32) else 0)) ∧ Fr n0 L ∧ h = h0
set_option maxRecDepth 65536 in
set_option maxHeartbeats 40000000 in
theorem rm_leqL (l : Launch) (Z : State) (a0 : Array Value) (hw : ∀ d ∈ tables_1, d.before a0 Z = true) (ws : List Jvm.Cond) (ba : Addr) (bb : Addr) (bda : Addr) (bka : Addr) (bdb : Addr) (bkb : Addr) (vda : Addr) (vka : Addr) (vdb : Addr) (vkb : Addr) (kda : ClassId) (kka : ClassId) (kdb : ClassId) (kkb : ClassId) (xda : List Int32) (xka : List Int32) (xdb : List Int32) (xkb : List Int32) (wz : Int32) (h0 : Heap) (n0 : Nat) (O0 : Old Z n0 h0) (P0 : Exa Z h0 bb "com/example/unwind/unwind/store/Outbox$Lane") (P1 : Fld Z h0 ba "com/example/unwind/unwind/store/Outbox$Lane" "destination" "Ljava/lang/String;" (.ref bda)) (P2 : Fld Z h0 ba "com/example/unwind/unwind/store/Outbox$Lane" "key" "Ljava/lang/String;" (.ref bka)) (P3 : Fld Z h0 bb "com/example/unwind/unwind/store/Outbox$Lane" "destination" "Ljava/lang/String;" (.ref bdb)) (P4 : Fld Z h0 bb "com/example/unwind/unwind/store/Outbox$Lane" "key" "Ljava/lang/String;" (.ref bkb)) (P5 : Exa Z h0 bda "java/lang/String") (P6 : Fld Z h0 bda "java/lang/String" "value" "[B" (.ref vda)) (P7 : Fld Z h0 bda "java/lang/String" "coder" "B" (.int (0 : Int32))) (P8 : Arv Z h0 vda kda .byte (Int32.ofNat xda.length) (xda.map Value.int) (.int (0 : Int32))) (P9 : Exa Z h0 bka "java/lang/String") (P10 : Fld Z h0 bka "java/lang/String" "value" "[B" (.ref vka)) (P11 : Fld Z h0 bka "java/lang/String" "coder" "B" (.int (0 : Int32))) (P12 : Arv Z h0 vka kka .byte (Int32.ofNat xka.length) (xka.map Value.int) (.int (0 : Int32))) (P13 : Exa Z h0 bdb "java/lang/String") (P14 : Fld Z h0 bdb "java/lang/String" "value" "[B" (.ref vdb)) (P15 : Fld Z h0 bdb "java/lang/String" "coder" "B" (.int (0 : Int32))) (P16 : Arv Z h0 vdb kdb .byte (Int32.ofNat xdb.length) (xdb.map Value.int) (.int (0 : Int32))) (P17 : Exa Z h0 bkb "java/lang/String") (P18 : Fld Z h0 bkb "java/lang/String" "value" "[B" (.ref vkb)) (P19 : Fld Z h0 bkb "java/lang/String" "coder" "B" (.int (0 : Int32))) (P20 : Arv Z h0 vkb kkb .byte (Int32.ofNat xkb.length) (xkb.map Value.int) (.int (0 : Int32))) (P21 : Sta Z Z.heap "java/lang/String" "COMPACT_STRINGS" "Z" (.int wz)) (hwz : ¬ (wz = (0 : Int32))) (hl_xda : xda.length ≤ 3) (hl_xka : xka.length ≤ 3) (hl_xdb : xdb.length ≤ 3) (hl_xkb : xkb.length ≤ 3) :
    MetFree l (⟨"com/example/unwind/unwind/store/Outbox$Lane", "equals", "(Ljava/lang/Object;)Z"⟩ : MethodName) (head1 (Jvm.Cond.code (⟨"com/example/unwind/unwind/store/Outbox$Lane", "equals", "(Ljava/lang/Object;)Z"⟩ : MethodName) prog_30_method_2_code 2 (some .boolean) :: ws) ({ frames := 2, cells := 0, slots := 0, locals := 28 } : Room)) (fun a U => a = #[(.ref ba), (.ref bb)] ∧ Z.Warmed39 U.vm ∧ U.heap = h0) (fun _ _ _ _ _ => True) (fun _ U o U' => ∃ v L, o = .returned v ∧ Q_leqL Z ba bb bda bka bdb bkb vda vka vdb vkb kda kka kdb kkb xda xka xdb xkb wz h0 n0 v U'.heap L ∧ FrameEnd U o U' L ({ frames := 2, cells := 0, slots := 0, locals := 28 } : Room).cells ({ frames := 2, cells := 0, slots := 0, locals := 28 } : Room).slots) := by
  refine MetFree.of_bodySF (plainFor_of_name pn_com_example_unwind_unwind_store_Outbox_Lane) hisR ?_
  intro p e s m args below meth c s₁ Bd hml0 hP hK
  obtain ⟨rfl, hZ, hh⟩ := hP
  have hx := Bd.exec
  have hby := Bd.bytes
  have hml : c.maxLocals = 2 := hml0
  have hown : s.vm.findClass "com/example/unwind/unwind/store/Outbox$Lane" = some m.cls := findClass_of_methodNamed Bd.named
  have hnm := (name_of_methodNamed Bd.named Bd.method).1
  have hlk : meth.locks = false := BodyLoose.notSynchronized Bd
  have X0 : Stand p l e ({ frames := 2, cells := 0, slots := 0, locals := 28 } : Room) s m #[(.ref ba), (.ref bb)] below meth c s₁ [] 0 0 := Stand.of_body Bd
  have e0 : s₁.heap = h0 := by rw [← hh, Bd.state]; rfl
  have N0 := Fr.nil n0
  rw [ef_leqL m ba bb]
  show Go p e below s (fun v h L => Q_leqL Z ba bb bda bka bdb bkb vda vka vdb vkb kda kka kdb kkb xda xka xdb xkb wz h0 n0 v h L) ({ frames := 2, cells := 0, slots := 0, locals := 28 } : Room).cells ({ frames := 2, cells := 0, slots := 0, locals := 28 } : Room).slots s₁ (mkF m 0 #[.val (.ref ba), .val (.ref bb)] [])
  refine Go.step (T' := s₁) (f' := (mkF m 1 #[.val (.ref ba), .val (.ref bb)] [(.ref bb)])) (fun t k => XS.aloadN X0.here hx rfl (hb hby d5_0) rfl rfl k) ?_
  obtain ⟨T357, X357, e357, st357⟩ := instY X0 hx hZ hown (hw _ (List.mem_of_getElem? (i := 35) rfl)) e0 (Ins.self P0) (g := (mkF m 1 #[.val (.ref ba), .val (.ref bb)] [(.ref bb)])) rfl rfl (hb hby d5_1)
  refine Go.step (T' := T357) (f' := (mkF m 4 #[.val (.ref ba), .val (.ref bb)] [(.int (1 : Int32))])) st357 ?_
  clear st357 X0
  refine Go.step (T' := T357) (f' := (mkF m 7 #[.val (.ref ba), .val (.ref bb)] [])) (fun t k => XS.ifNo X357.here hx rfl (hb hby d5_4) rfl ((if0 _ _).trans (feq (by decide : ¬ ((1 : Int32) = (0 : Int32)))).1) k) ?_
  refine Go.step (T' := T357) (f' := (mkF m 8 #[.val (.ref ba), .val (.ref bb)] [(.ref bb)])) (fun t k => XS.aloadN X357.here hx rfl (hb hby d5_7) rfl rfl k) ?_
  obtain ⟨T358, X358, e358, st358⟩ := castY X357 hx hZ hown (hw _ (List.mem_of_getElem? (i := 35) rfl)) e357 (Ins.self P0) (g := (mkF m 8 #[.val (.ref ba), .val (.ref bb)] [(.ref bb)])) rfl rfl (hb hby d5_8)
  refine Go.step (T' := T358) (f' := (mkF m 11 #[.val (.ref ba), .val (.ref bb)] [(.ref bb)])) st358 ?_
  clear st358 X357
  obtain ⟨T359, X359, e359, st359⟩ := getF X358 hx hZ hown (host := "") (Or.inl (hw _ (List.mem_of_getElem? (i := 21) rfl))) Via.refl e358 P3 (g := (mkF m 11 #[.val (.ref ba), .val (.ref bb)] [(.ref bb)])) rfl rfl (hb hby d5_11)
  refine Go.step (T' := T359) (f' := (mkF m 14 #[.val (.ref ba), .val (.ref bb)] [(.ref bdb)])) st359 ?_
  clear st359 X358
  refine Go.step (T' := T359) (f' := (mkF m 15 #[.val (.ref ba), .val (.ref bb)] [(.ref ba), (.ref bdb)])) (fun t k => XS.aloadN X359.here hx rfl (hb hby d5_14) rfl rfl k) ?_
  obtain ⟨T360, X360, e360, st360⟩ := getF X359 hx hZ hown (host := "") (Or.inl (hw _ (List.mem_of_getElem? (i := 21) rfl))) Via.refl e359 P1 (g := (mkF m 15 #[.val (.ref ba), .val (.ref bb)] [(.ref ba), (.ref bdb)])) rfl rfl (hb hby d5_15)
  refine Go.step (T' := T360) (f' := (mkF m 18 #[.val (.ref ba), .val (.ref bb)] [(.ref bda), (.ref bdb)])) st360 ?_
  clear st360 X359
  obtain ⟨cq361, kq361, q361a, q361b, q361c⟩ := isOf hZ e360 P13
  obtain ⟨_, _, ⟨T361, L361, k361, n361⟩, -, X361, ⟨Lc361, hQ361, l361, y361, z361⟩, st361⟩ := X360.virtualBack hx (y := (⟨"java/lang/String", "equals", "(Ljava/lang/Object;)Z"⟩ : MethodName)) (z := (⟨"java/lang/String", "equals", "(Ljava/lang/Object;)Z"⟩ : MethodName)) hown (mvT hZ (hw _ (List.mem_of_getElem? (i := 37) rfl))) (mvT hZ (hw _ (List.mem_of_getElem? (i := 26) rfl))) (notFace_of_selects (args := #[]) (mvT hZ (hw _ (List.mem_of_getElem? (i := 28) rfl)))) (mvT hZ (hw _ (List.mem_of_getElem? (i := 28) rfl))) (mvT hZ (hw _ (List.mem_of_getElem? (i := 27) rfl))) (by decide) (backOf (W := 0) (rm_seq l Z a0 hw [] bdb bda vdb vda kdb kda xdb xda wz h0 n0 O0 P14 P15 P16 P5 P6 P7 P8 P21 hwz (hl_xdb) (hl_xda)) hZ (hw _ (List.mem_of_getElem? (i := 29) rfl)) (hw _ (List.mem_of_getElem? (i := 5) rfl)) (by decide) (by decide)) q361a q361c (g := (mkF m 18 #[.val (.ref ba), .val (.ref bb)] [(.ref bda), (.ref bdb)])) rfl (by rw [hml]; rfl) (Steps.refl _) (argsL := [(.ref bda)]) (rest := []) (lenOf pd10 rfl) rfl (by show 2 * 0 + _ ≤ _; exact Nat.le_of_eq rfl) (hb hby d5_18) (fun _ _ => ⟨rfl, e360, (by decide : 0 + 0 ≤ _), (by decide : 0 + 0 ≤ _)⟩)
  dsimp only [Pt.U, Pt.locs, Pt.cells, Pt.slots] at X361 l361 y361 z361 st361 hQ361
  subst l361 y361 z361
  obtain ⟨rfl, Nq361, hh361⟩ := hQ361
  have N362 := Fr.app N0 Nq361
  refine Go.via (T' := T361) (f' := (mkF m 21 #[.val (.ref ba), .val (.ref bb)] [(.int (if xdb = xda then (1 : Int32) else 0))])) st361 ?_
  clear st361 X360 Nq361
  by_cases hc363 : (if xdb = xda then (1 : Int32) else 0) = (0 : Int32)
  ·
    refine Go.step (T' := T361) (f' := (mkF m 45 #[.val (.ref ba), .val (.ref bb)] [])) (fun t k => XS.ifYes X361.here hx rfl (pc0 := 21) (pc' := 45) rfl (hb hby d5_21) rfl ((if0 _ _).trans (teq hc363).1) (by decide) (by decide) k) ?_
    refine Go.step (T' := T361) (f' := (mkF m 46 #[.val (.ref ba), .val (.ref bb)] [(.int (0 : Int32))])) (fun t k => XS.iconst X361.here hx rfl (hb hby d5_45) k) ?_
    refine Go.retZ X361 hx hlk (t := .boolean) Bd.returns (by simp) (hb hby d5_46) hh361 ?_ (by decide) (by decide)
    exact ⟨by simp_all [nar], N362, rfl⟩
  ·
    refine Go.step (T' := T361) (f' := (mkF m 24 #[.val (.ref ba), .val (.ref bb)] [])) (fun t k => XS.ifNo X361.here hx rfl (hb hby d5_21) rfl ((if0 _ _).trans (feq hc363).1) k) ?_
    refine Go.step (T' := T361) (f' := (mkF m 25 #[.val (.ref ba), .val (.ref bb)] [(.ref bb)])) (fun t k => XS.aloadN X361.here hx rfl (hb hby d5_24) rfl rfl k) ?_
    obtain ⟨T364, X364, e364, st364⟩ := castY X361 hx hZ hown (hw _ (List.mem_of_getElem? (i := 35) rfl)) hh361 (Ins.self P0) (g := (mkF m 25 #[.val (.ref ba), .val (.ref bb)] [(.ref bb)])) rfl rfl (hb hby d5_25)
    refine Go.step (T' := T364) (f' := (mkF m 28 #[.val (.ref ba), .val (.ref bb)] [(.ref bb)])) st364 ?_
    clear st364 X361
    obtain ⟨T365, X365, e365, st365⟩ := getF X364 hx hZ hown (host := "") (Or.inl (hw _ (List.mem_of_getElem? (i := 23) rfl))) Via.refl e364 P4 (g := (mkF m 28 #[.val (.ref ba), .val (.ref bb)] [(.ref bb)])) rfl rfl (hb hby d5_28)
    refine Go.step (T' := T365) (f' := (mkF m 31 #[.val (.ref ba), .val (.ref bb)] [(.ref bkb)])) st365 ?_
    clear st365 X364
    refine Go.step (T' := T365) (f' := (mkF m 32 #[.val (.ref ba), .val (.ref bb)] [(.ref ba), (.ref bkb)])) (fun t k => XS.aloadN X365.here hx rfl (hb hby d5_31) rfl rfl k) ?_
    obtain ⟨T366, X366, e366, st366⟩ := getF X365 hx hZ hown (host := "") (Or.inl (hw _ (List.mem_of_getElem? (i := 23) rfl))) Via.refl e365 P2 (g := (mkF m 32 #[.val (.ref ba), .val (.ref bb)] [(.ref ba), (.ref bkb)])) rfl rfl (hb hby d5_32)
    refine Go.step (T' := T366) (f' := (mkF m 35 #[.val (.ref ba), .val (.ref bb)] [(.ref bka), (.ref bkb)])) st366 ?_
    clear st366 X365
    obtain ⟨cq367, kq367, q367a, q367b, q367c⟩ := isOf hZ e366 P17
    obtain ⟨_, _, ⟨T367, L367, k367, n367⟩, -, X367, ⟨Lc367, hQ367, l367, y367, z367⟩, st367⟩ := X366.virtualBack hx (y := (⟨"java/lang/String", "equals", "(Ljava/lang/Object;)Z"⟩ : MethodName)) (z := (⟨"java/lang/String", "equals", "(Ljava/lang/Object;)Z"⟩ : MethodName)) hown (mvT hZ (hw _ (List.mem_of_getElem? (i := 37) rfl))) (mvT hZ (hw _ (List.mem_of_getElem? (i := 26) rfl))) (notFace_of_selects (args := #[]) (mvT hZ (hw _ (List.mem_of_getElem? (i := 28) rfl)))) (mvT hZ (hw _ (List.mem_of_getElem? (i := 28) rfl))) (mvT hZ (hw _ (List.mem_of_getElem? (i := 27) rfl))) (by decide) (backOf (W := 0) (rm_seq l Z a0 hw [] bkb bka vkb vka kkb kka xkb xka wz h0 n0 O0 P18 P19 P20 P9 P10 P11 P12 P21 hwz (hl_xkb) (hl_xka)) hZ (hw _ (List.mem_of_getElem? (i := 29) rfl)) (hw _ (List.mem_of_getElem? (i := 5) rfl)) (by decide) (by decide)) q367a q367c (g := (mkF m 35 #[.val (.ref ba), .val (.ref bb)] [(.ref bka), (.ref bkb)])) rfl (by rw [hml]; rfl) (Steps.refl _) (argsL := [(.ref bka)]) (rest := []) (lenOf pd10 rfl) rfl (by show 2 * 0 + _ ≤ _; exact Nat.le_of_eq rfl) (hb hby d5_35) (fun _ _ => ⟨rfl, e366, (by decide : 0 + 0 ≤ _), (by decide : 0 + 0 ≤ _)⟩)
    dsimp only [Pt.U, Pt.locs, Pt.cells, Pt.slots] at X367 l367 y367 z367 st367 hQ367
    subst l367 y367 z367
    obtain ⟨rfl, Nq367, hh367⟩ := hQ367
    have N368 := Fr.app N362 Nq367
    refine Go.via (T' := T367) (f' := (mkF m 38 #[.val (.ref ba), .val (.ref bb)] [(.int (if xkb = xka then (1 : Int32) else 0))])) st367 ?_
    clear st367 X366 N362 Nq367
    by_cases hc369 : (if xkb = xka then (1 : Int32) else 0) = (0 : Int32)
    ·
      refine Go.step (T' := T367) (f' := (mkF m 45 #[.val (.ref ba), .val (.ref bb)] [])) (fun t k => XS.ifYes X367.here hx rfl (pc0 := 38) (pc' := 45) rfl (hb hby d5_38) rfl ((if0 _ _).trans (teq hc369).1) (by decide) (by decide) k) ?_
      refine Go.step (T' := T367) (f' := (mkF m 46 #[.val (.ref ba), .val (.ref bb)] [(.int (0 : Int32))])) (fun t k => XS.iconst X367.here hx rfl (hb hby d5_45) k) ?_
      refine Go.retZ X367 hx hlk (t := .boolean) Bd.returns (by simp) (hb hby d5_46) hh367 ?_ (by decide) (by decide)
      exact ⟨by simp_all [nar], N368, rfl⟩
    ·
      refine Go.step (T' := T367) (f' := (mkF m 41 #[.val (.ref ba), .val (.ref bb)] [])) (fun t k => XS.ifNo X367.here hx rfl (hb hby d5_38) rfl ((if0 _ _).trans (feq hc369).1) k) ?_
      refine Go.step (T' := T367) (f' := (mkF m 42 #[.val (.ref ba), .val (.ref bb)] [(.int (1 : Int32))])) (fun t k => XS.iconst X367.here hx rfl (hb hby d5_41) k) ?_
      refine Go.step (T' := T367) (f' := (mkF m 46 #[.val (.ref ba), .val (.ref bb)] [(.int (1 : Int32))])) (fun t k => XS.goto X367.here hx rfl (pc0 := 42) (pc' := 46) rfl (hb hby d5_42) (by decide) (by decide) k) ?_
      refine Go.retZ X367 hx hlk (t := .boolean) Bd.returns (by simp) (hb hby d5_46) hh367 ?_ (by decide) (by decide)
      exact ⟨by simp_all [nar], N368, rfl⟩
theorem ef_leq1 (m : MethodId) (ba : Addr) : entryFrame m #[(.ref ba), (.ref ba)] 2 = mkF m 0 #[.val (.ref ba), .val (.ref ba)] [] := by first | (simp [entryFrame, mkF, argsToLocals, Value.category]; done) | rfl
def Q_leq1 (Z : State) (ba : Addr) (bda : Addr) (bka : Addr) (h0 : Heap) (n0 : Nat) (v : Option Value) (h : Heap) (L : List Loc) : Prop := v = some (.int (1 : Int32)) ∧ Fr n0 L ∧ h = h0
set_option maxRecDepth 65536 in
set_option maxHeartbeats 40000000 in
theorem rm_leq1 (l : Launch) (Z : State) (a0 : Array Value) (hw : ∀ d ∈ tables_1, d.before a0 Z = true) (ws : List Jvm.Cond) (ba : Addr) (bda : Addr) (bka : Addr) (h0 : Heap) (n0 : Nat) (O0 : Old Z n0 h0) (P0 : Exa Z h0 ba "com/example/unwind/unwind/store/Outbox$Lane") (P1 : Fld Z h0 ba "com/example/unwind/unwind/store/Outbox$Lane" "destination" "Ljava/lang/String;" (.ref bda)) (P2 : Fld Z h0 ba "com/example/unwind/unwind/store/Outbox$Lane" "key" "Ljava/lang/String;" (.ref bka)) (P3 : Exa Z h0 bda "java/lang/String") (P4 : Exa Z h0 bka "java/lang/String") :
    MetFree l (⟨"com/example/unwind/unwind/store/Outbox$Lane", "equals", "(Ljava/lang/Object;)Z"⟩ : MethodName) (head1 (Jvm.Cond.code (⟨"com/example/unwind/unwind/store/Outbox$Lane", "equals", "(Ljava/lang/Object;)Z"⟩ : MethodName) prog_30_method_2_code 2 (some .boolean) :: ws) ({ frames := 1, cells := 0, slots := 0, locals := 14 } : Room)) (fun a U => a = #[(.ref ba), (.ref ba)] ∧ Z.Warmed39 U.vm ∧ U.heap = h0) (fun _ _ _ _ _ => True) (fun _ U o U' => ∃ v L, o = .returned v ∧ Q_leq1 Z ba bda bka h0 n0 v U'.heap L ∧ FrameEnd U o U' L ({ frames := 1, cells := 0, slots := 0, locals := 14 } : Room).cells ({ frames := 1, cells := 0, slots := 0, locals := 14 } : Room).slots) := by
  refine MetFree.of_bodySF (plainFor_of_name pn_com_example_unwind_unwind_store_Outbox_Lane) hisR ?_
  intro p e s m args below meth c s₁ Bd hml0 hP hK
  obtain ⟨rfl, hZ, hh⟩ := hP
  have hx := Bd.exec
  have hby := Bd.bytes
  have hml : c.maxLocals = 2 := hml0
  have hown : s.vm.findClass "com/example/unwind/unwind/store/Outbox$Lane" = some m.cls := findClass_of_methodNamed Bd.named
  have hnm := (name_of_methodNamed Bd.named Bd.method).1
  have hlk : meth.locks = false := BodyLoose.notSynchronized Bd
  have X0 : Stand p l e ({ frames := 1, cells := 0, slots := 0, locals := 14 } : Room) s m #[(.ref ba), (.ref ba)] below meth c s₁ [] 0 0 := Stand.of_body Bd
  have e0 : s₁.heap = h0 := by rw [← hh, Bd.state]; rfl
  have N0 := Fr.nil n0
  rw [ef_leq1 m ba]
  show Go p e below s (fun v h L => Q_leq1 Z ba bda bka h0 n0 v h L) ({ frames := 1, cells := 0, slots := 0, locals := 14 } : Room).cells ({ frames := 1, cells := 0, slots := 0, locals := 14 } : Room).slots s₁ (mkF m 0 #[.val (.ref ba), .val (.ref ba)] [])
  refine Go.step (T' := s₁) (f' := (mkF m 1 #[.val (.ref ba), .val (.ref ba)] [(.ref ba)])) (fun t k => XS.aloadN X0.here hx rfl (hb hby d5_0) rfl rfl k) ?_
  obtain ⟨T370, X370, e370, st370⟩ := instY X0 hx hZ hown (hw _ (List.mem_of_getElem? (i := 35) rfl)) e0 (Ins.self P0) (g := (mkF m 1 #[.val (.ref ba), .val (.ref ba)] [(.ref ba)])) rfl rfl (hb hby d5_1)
  refine Go.step (T' := T370) (f' := (mkF m 4 #[.val (.ref ba), .val (.ref ba)] [(.int (1 : Int32))])) st370 ?_
  clear st370 X0
  refine Go.step (T' := T370) (f' := (mkF m 7 #[.val (.ref ba), .val (.ref ba)] [])) (fun t k => XS.ifNo X370.here hx rfl (hb hby d5_4) rfl ((if0 _ _).trans (feq (by decide : ¬ ((1 : Int32) = (0 : Int32)))).1) k) ?_
  refine Go.step (T' := T370) (f' := (mkF m 8 #[.val (.ref ba), .val (.ref ba)] [(.ref ba)])) (fun t k => XS.aloadN X370.here hx rfl (hb hby d5_7) rfl rfl k) ?_
  obtain ⟨T371, X371, e371, st371⟩ := castY X370 hx hZ hown (hw _ (List.mem_of_getElem? (i := 35) rfl)) e370 (Ins.self P0) (g := (mkF m 8 #[.val (.ref ba), .val (.ref ba)] [(.ref ba)])) rfl rfl (hb hby d5_8)
  refine Go.step (T' := T371) (f' := (mkF m 11 #[.val (.ref ba), .val (.ref ba)] [(.ref ba)])) st371 ?_
  clear st371 X370
  obtain ⟨T372, X372, e372, st372⟩ := getF X371 hx hZ hown (host := "") (Or.inl (hw _ (List.mem_of_getElem? (i := 21) rfl))) Via.refl e371 P1 (g := (mkF m 11 #[.val (.ref ba), .val (.ref ba)] [(.ref ba)])) rfl rfl (hb hby d5_11)
  refine Go.step (T' := T372) (f' := (mkF m 14 #[.val (.ref ba), .val (.ref ba)] [(.ref bda)])) st372 ?_
  clear st372 X371
  refine Go.step (T' := T372) (f' := (mkF m 15 #[.val (.ref ba), .val (.ref ba)] [(.ref ba), (.ref bda)])) (fun t k => XS.aloadN X372.here hx rfl (hb hby d5_14) rfl rfl k) ?_
  obtain ⟨T373, X373, e373, st373⟩ := getF X372 hx hZ hown (host := "") (Or.inl (hw _ (List.mem_of_getElem? (i := 21) rfl))) Via.refl e372 P1 (g := (mkF m 15 #[.val (.ref ba), .val (.ref ba)] [(.ref ba), (.ref bda)])) rfl rfl (hb hby d5_15)
  refine Go.step (T' := T373) (f' := (mkF m 18 #[.val (.ref ba), .val (.ref ba)] [(.ref bda), (.ref bda)])) st373 ?_
  clear st373 X372
  obtain ⟨cq374, kq374, q374a, q374b, q374c⟩ := isOf hZ e373 P3
  obtain ⟨_, _, ⟨T374, L374, k374, n374⟩, -, X374, ⟨Lc374, hQ374, l374, y374, z374⟩, st374⟩ := X373.virtualBack hx (y := (⟨"java/lang/String", "equals", "(Ljava/lang/Object;)Z"⟩ : MethodName)) (z := (⟨"java/lang/String", "equals", "(Ljava/lang/Object;)Z"⟩ : MethodName)) hown (mvT hZ (hw _ (List.mem_of_getElem? (i := 37) rfl))) (mvT hZ (hw _ (List.mem_of_getElem? (i := 26) rfl))) (notFace_of_selects (args := #[]) (mvT hZ (hw _ (List.mem_of_getElem? (i := 28) rfl)))) (mvT hZ (hw _ (List.mem_of_getElem? (i := 28) rfl))) (mvT hZ (hw _ (List.mem_of_getElem? (i := 27) rfl))) (by decide) (backOf (W := 0) (rm_seq1 l Z a0 hw [] bda h0 n0 O0 ) hZ (hw _ (List.mem_of_getElem? (i := 29) rfl)) (hw _ (List.mem_of_getElem? (i := 5) rfl)) (by decide) (by decide)) q374a q374c (g := (mkF m 18 #[.val (.ref ba), .val (.ref ba)] [(.ref bda), (.ref bda)])) rfl (by rw [hml]; rfl) (Steps.refl _) (argsL := [(.ref bda)]) (rest := []) (lenOf pd10 rfl) rfl (by show 2 * 0 + _ ≤ _; exact Nat.le_of_eq rfl) (hb hby d5_18) (fun _ _ => ⟨rfl, e373, (by decide : 0 + 0 ≤ _), (by decide : 0 + 0 ≤ _)⟩)
  dsimp only [Pt.U, Pt.locs, Pt.cells, Pt.slots] at X374 l374 y374 z374 st374 hQ374
  subst l374 y374 z374
  obtain ⟨rfl, Nq374, hh374⟩ := hQ374
  have N375 := Fr.app N0 Nq374
  refine Go.via (T' := T374) (f' := (mkF m 21 #[.val (.ref ba), .val (.ref ba)] [(.int (1 : Int32))])) st374 ?_
  clear st374 X373 Nq374
  refine Go.step (T' := T374) (f' := (mkF m 24 #[.val (.ref ba), .val (.ref ba)] [])) (fun t k => XS.ifNo X374.here hx rfl (hb hby d5_21) rfl ((if0 _ _).trans (feq (by decide : ¬ ((1 : Int32) = (0 : Int32)))).1) k) ?_
  refine Go.step (T' := T374) (f' := (mkF m 25 #[.val (.ref ba), .val (.ref ba)] [(.ref ba)])) (fun t k => XS.aloadN X374.here hx rfl (hb hby d5_24) rfl rfl k) ?_
  obtain ⟨T376, X376, e376, st376⟩ := castY X374 hx hZ hown (hw _ (List.mem_of_getElem? (i := 35) rfl)) hh374 (Ins.self P0) (g := (mkF m 25 #[.val (.ref ba), .val (.ref ba)] [(.ref ba)])) rfl rfl (hb hby d5_25)
  refine Go.step (T' := T376) (f' := (mkF m 28 #[.val (.ref ba), .val (.ref ba)] [(.ref ba)])) st376 ?_
  clear st376 X374
  obtain ⟨T377, X377, e377, st377⟩ := getF X376 hx hZ hown (host := "") (Or.inl (hw _ (List.mem_of_getElem? (i := 23) rfl))) Via.refl e376 P2 (g := (mkF m 28 #[.val (.ref ba), .val (.ref ba)] [(.ref ba)])) rfl rfl (hb hby d5_28)
  refine Go.step (T' := T377) (f' := (mkF m 31 #[.val (.ref ba), .val (.ref ba)] [(.ref bka)])) st377 ?_
  clear st377 X376
  refine Go.step (T' := T377) (f' := (mkF m 32 #[.val (.ref ba), .val (.ref ba)] [(.ref ba), (.ref bka)])) (fun t k => XS.aloadN X377.here hx rfl (hb hby d5_31) rfl rfl k) ?_
  obtain ⟨T378, X378, e378, st378⟩ := getF X377 hx hZ hown (host := "") (Or.inl (hw _ (List.mem_of_getElem? (i := 23) rfl))) Via.refl e377 P2 (g := (mkF m 32 #[.val (.ref ba), .val (.ref ba)] [(.ref ba), (.ref bka)])) rfl rfl (hb hby d5_32)
  refine Go.step (T' := T378) (f' := (mkF m 35 #[.val (.ref ba), .val (.ref ba)] [(.ref bka), (.ref bka)])) st378 ?_
  clear st378 X377
  obtain ⟨cq379, kq379, q379a, q379b, q379c⟩ := isOf hZ e378 P4
  obtain ⟨_, _, ⟨T379, L379, k379, n379⟩, -, X379, ⟨Lc379, hQ379, l379, y379, z379⟩, st379⟩ := X378.virtualBack hx (y := (⟨"java/lang/String", "equals", "(Ljava/lang/Object;)Z"⟩ : MethodName)) (z := (⟨"java/lang/String", "equals", "(Ljava/lang/Object;)Z"⟩ : MethodName)) hown (mvT hZ (hw _ (List.mem_of_getElem? (i := 37) rfl))) (mvT hZ (hw _ (List.mem_of_getElem? (i := 26) rfl))) (notFace_of_selects (args := #[]) (mvT hZ (hw _ (List.mem_of_getElem? (i := 28) rfl)))) (mvT hZ (hw _ (List.mem_of_getElem? (i := 28) rfl))) (mvT hZ (hw _ (List.mem_of_getElem? (i := 27) rfl))) (by decide) (backOf (W := 0) (rm_seq1 l Z a0 hw [] bka h0 n0 O0 ) hZ (hw _ (List.mem_of_getElem? (i := 29) rfl)) (hw _ (List.mem_of_getElem? (i := 5) rfl)) (by decide) (by decide)) q379a q379c (g := (mkF m 35 #[.val (.ref ba), .val (.ref ba)] [(.ref bka), (.ref bka)])) rfl (by rw [hml]; rfl) (Steps.refl _) (argsL := [(.ref bka)]) (rest := []) (lenOf pd10 rfl) rfl (by show 2 * 0 + _ ≤ _; exact Nat.le_of_eq rfl) (hb hby d5_35) (fun _ _ => ⟨rfl, e378, (by decide : 0 + 0 ≤ _), (by decide : 0 + 0 ≤ _)⟩)
  dsimp only [Pt.U, Pt.locs, Pt.cells, Pt.slots] at X379 l379 y379 z379 st379 hQ379
  subst l379 y379 z379
  obtain ⟨rfl, Nq379, hh379⟩ := hQ379
  have N380 := Fr.app N375 Nq379
  refine Go.via (T' := T379) (f' := (mkF m 38 #[.val (.ref ba), .val (.ref ba)] [(.int (1 : Int32))])) st379 ?_
  clear st379 X378 N375 Nq379
  refine Go.step (T' := T379) (f' := (mkF m 41 #[.val (.ref ba), .val (.ref ba)] [])) (fun t k => XS.ifNo X379.here hx rfl (hb hby d5_38) rfl ((if0 _ _).trans (feq (by decide : ¬ ((1 : Int32) = (0 : Int32)))).1) k) ?_
  refine Go.step (T' := T379) (f' := (mkF m 42 #[.val (.ref ba), .val (.ref ba)] [(.int (1 : Int32))])) (fun t k => XS.iconst X379.here hx rfl (hb hby d5_41) k) ?_
  refine Go.step (T' := T379) (f' := (mkF m 46 #[.val (.ref ba), .val (.ref ba)] [(.int (1 : Int32))])) (fun t k => XS.goto X379.here hx rfl (pc0 := 42) (pc' := 46) rfl (hb hby d5_42) (by decide) (by decide) k) ?_
  refine Go.retZ X379 hx hlk (t := .boolean) Bd.returns (by simp) (hb hby d5_46) hh379 ?_ (by decide) (by decide)
  exact ⟨rfl, N380, rfl⟩
theorem ef_leqN (m : MethodId) (ba : Addr) : entryFrame m #[(.ref ba), .null] 2 = mkF m 0 #[.val (.ref ba), .val .null] [] := by first | (simp [entryFrame, mkF, argsToLocals, Value.category]; done) | rfl
def Q_leqN (Z : State) (ba : Addr) (h0 : Heap) (n0 : Nat) (v : Option Value) (h : Heap) (L : List Loc) : Prop := v = some (.int (0 : Int32)) ∧ Fr n0 L ∧ h = h0
set_option maxRecDepth 65536 in
set_option maxHeartbeats 40000000 in
theorem rm_leqN (l : Launch) (Z : State) (a0 : Array Value) (hw : ∀ d ∈ tables_1, d.before a0 Z = true) (ws : List Jvm.Cond) (ba : Addr) (h0 : Heap) (n0 : Nat) (O0 : Old Z n0 h0) :
    MetFree l (⟨"com/example/unwind/unwind/store/Outbox$Lane", "equals", "(Ljava/lang/Object;)Z"⟩ : MethodName) (head1 (Jvm.Cond.code (⟨"com/example/unwind/unwind/store/Outbox$Lane", "equals", "(Ljava/lang/Object;)Z"⟩ : MethodName) prog_30_method_2_code 2 (some .boolean) :: ws) ({ frames := 0, cells := 0, slots := 0, locals := 0 } : Room)) (fun a U => a = #[(.ref ba), .null] ∧ Z.Warmed39 U.vm ∧ U.heap = h0) (fun _ _ _ _ _ => True) (fun _ U o U' => ∃ v L, o = .returned v ∧ Q_leqN Z ba h0 n0 v U'.heap L ∧ FrameEnd U o U' L ({ frames := 0, cells := 0, slots := 0, locals := 0 } : Room).cells ({ frames := 0, cells := 0, slots := 0, locals := 0 } : Room).slots) := by
  refine MetFree.of_bodySF (plainFor_of_name pn_com_example_unwind_unwind_store_Outbox_Lane) hisR ?_
  intro p e s m args below meth c s₁ Bd hml0 hP hK
  obtain ⟨rfl, hZ, hh⟩ := hP
  have hx := Bd.exec
  have hby := Bd.bytes
  have hml : c.maxLocals = 2 := hml0
  have hown : s.vm.findClass "com/example/unwind/unwind/store/Outbox$Lane" = some m.cls := findClass_of_methodNamed Bd.named
  have hnm := (name_of_methodNamed Bd.named Bd.method).1
  have hlk : meth.locks = false := BodyLoose.notSynchronized Bd
  have X0 : Stand p l e ({ frames := 0, cells := 0, slots := 0, locals := 0 } : Room) s m #[(.ref ba), .null] below meth c s₁ [] 0 0 := Stand.of_body Bd
  have e0 : s₁.heap = h0 := by rw [← hh, Bd.state]; rfl
  have N0 := Fr.nil n0
  rw [ef_leqN m ba]
  show Go p e below s (fun v h L => Q_leqN Z ba h0 n0 v h L) ({ frames := 0, cells := 0, slots := 0, locals := 0 } : Room).cells ({ frames := 0, cells := 0, slots := 0, locals := 0 } : Room).slots s₁ (mkF m 0 #[.val (.ref ba), .val .null] [])
  refine Go.step (T' := s₁) (f' := (mkF m 1 #[.val (.ref ba), .val .null] [.null])) (fun t k => XS.aloadN X0.here hx rfl (hb hby d5_0) rfl rfl k) ?_
  refine Go.step (T' := s₁) (f' := (mkF m 4 #[.val (.ref ba), .val .null] [(.int (0 : Int32))])) (fun t k => X0.instanceofNull hx (g := (mkF m 1 #[.val (.ref ba), .val .null] [.null])) rfl rfl (hb hby d5_1) t k) ?_
  refine Go.step (T' := s₁) (f' := (mkF m 45 #[.val (.ref ba), .val .null] [])) (fun t k => XS.ifYes X0.here hx rfl (pc0 := 4) (pc' := 45) rfl (hb hby d5_4) rfl ((if0 _ _).trans (teq (by decide : (0 : Int32) = (0 : Int32))).1) (by decide) (by decide) k) ?_
  refine Go.step (T' := s₁) (f' := (mkF m 46 #[.val (.ref ba), .val .null] [(.int (0 : Int32))])) (fun t k => XS.iconst X0.here hx rfl (hb hby d5_45) k) ?_
  refine Go.retZ X0 hx hlk (t := .boolean) Bd.returns (by simp) (hb hby d5_46) e0 ?_ (by decide) (by decide)
  exact ⟨rfl, N0, rfl⟩
theorem ef_leqS (m : MethodId) (ba : Addr) (bb : Addr) : entryFrame m #[(.ref ba), (.ref bb)] 2 = mkF m 0 #[.val (.ref ba), .val (.ref bb)] [] := by first | (simp [entryFrame, mkF, argsToLocals, Value.category]; done) | rfl
def Q_leqS (Z : State) (ba : Addr) (bb : Addr) (h0 : Heap) (n0 : Nat) (v : Option Value) (h : Heap) (L : List Loc) : Prop := v = some (.int (0 : Int32)) ∧ Fr n0 L ∧ h = h0
set_option maxRecDepth 65536 in
set_option maxHeartbeats 40000000 in
theorem rm_leqS (l : Launch) (Z : State) (a0 : Array Value) (hw : ∀ d ∈ tables_1, d.before a0 Z = true) (ws : List Jvm.Cond) (ba : Addr) (bb : Addr) (h0 : Heap) (n0 : Nat) (O0 : Old Z n0 h0) (P0 : Exa Z h0 bb "java/lang/String") :
    MetFree l (⟨"com/example/unwind/unwind/store/Outbox$Lane", "equals", "(Ljava/lang/Object;)Z"⟩ : MethodName) (head1 (Jvm.Cond.code (⟨"com/example/unwind/unwind/store/Outbox$Lane", "equals", "(Ljava/lang/Object;)Z"⟩ : MethodName) prog_30_method_2_code 2 (some .boolean) :: ws) ({ frames := 0, cells := 0, slots := 0, locals := 0 } : Room)) (fun a U => a = #[(.ref ba), (.ref bb)] ∧ Z.Warmed39 U.vm ∧ U.heap = h0) (fun _ _ _ _ _ => True) (fun _ U o U' => ∃ v L, o = .returned v ∧ Q_leqS Z ba bb h0 n0 v U'.heap L ∧ FrameEnd U o U' L ({ frames := 0, cells := 0, slots := 0, locals := 0 } : Room).cells ({ frames := 0, cells := 0, slots := 0, locals := 0 } : Room).slots) := by
  refine MetFree.of_bodySF (plainFor_of_name pn_com_example_unwind_unwind_store_Outbox_Lane) hisR ?_
  intro p e s m args below meth c s₁ Bd hml0 hP hK
  obtain ⟨rfl, hZ, hh⟩ := hP
  have hx := Bd.exec
  have hby := Bd.bytes
  have hml : c.maxLocals = 2 := hml0
  have hown : s.vm.findClass "com/example/unwind/unwind/store/Outbox$Lane" = some m.cls := findClass_of_methodNamed Bd.named
  have hnm := (name_of_methodNamed Bd.named Bd.method).1
  have hlk : meth.locks = false := BodyLoose.notSynchronized Bd
  have X0 : Stand p l e ({ frames := 0, cells := 0, slots := 0, locals := 0 } : Room) s m #[(.ref ba), (.ref bb)] below meth c s₁ [] 0 0 := Stand.of_body Bd
  have e0 : s₁.heap = h0 := by rw [← hh, Bd.state]; rfl
  have N0 := Fr.nil n0
  rw [ef_leqS m ba bb]
  show Go p e below s (fun v h L => Q_leqS Z ba bb h0 n0 v h L) ({ frames := 0, cells := 0, slots := 0, locals := 0 } : Room).cells ({ frames := 0, cells := 0, slots := 0, locals := 0 } : Room).slots s₁ (mkF m 0 #[.val (.ref ba), .val (.ref bb)] [])
  refine Go.step (T' := s₁) (f' := (mkF m 1 #[.val (.ref ba), .val (.ref bb)] [(.ref bb)])) (fun t k => XS.aloadN X0.here hx rfl (hb hby d5_0) rfl rfl k) ?_
  obtain ⟨T381, X381, e381, st381⟩ := instNo X0 hx hZ hown (hw _ (List.mem_of_getElem? (i := 35) rfl)) e0 P0 (own_ns_no (hw _ (List.mem_of_getElem? (i := 38) rfl)) (hw _ (List.mem_of_getElem? (i := 13) rfl)) (NS.step (hw _ (List.mem_of_getElem? (i := 38) rfl)) (own_ns_root (hw _ (List.mem_of_getElem? (i := 39) rfl)) (hw _ (List.mem_of_getElem? (i := 13) rfl)) (by decide)) (by decide)) (by decide)) (g := (mkF m 1 #[.val (.ref ba), .val (.ref bb)] [(.ref bb)])) rfl rfl (hb hby d5_1)
  refine Go.step (T' := T381) (f' := (mkF m 4 #[.val (.ref ba), .val (.ref bb)] [(.int (0 : Int32))])) st381 ?_
  clear st381 X0
  refine Go.step (T' := T381) (f' := (mkF m 45 #[.val (.ref ba), .val (.ref bb)] [])) (fun t k => XS.ifYes X381.here hx rfl (pc0 := 4) (pc' := 45) rfl (hb hby d5_4) rfl ((if0 _ _).trans (teq (by decide : (0 : Int32) = (0 : Int32))).1) (by decide) (by decide) k) ?_
  refine Go.step (T' := T381) (f' := (mkF m 46 #[.val (.ref ba), .val (.ref bb)] [(.int (0 : Int32))])) (fun t k => XS.iconst X381.here hx rfl (hb hby d5_45) k) ?_
  refine Go.retZ X381 hx hlk (t := .boolean) Bd.returns (by simp) (hb hby d5_46) e381 ?_ (by decide) (by decide)
  exact ⟨rfl, N0, rfl⟩
theorem pd11 : parseMethodDescriptor "(I)Ljava/lang/String;" = some ⟨[.int], some (.object "java/lang/String")⟩ := by decide +kernel
theorem pd12 : parseMethodDescriptor "(Ljava/lang/String;Ljava/lang/String;)V" = some ⟨[(.object "java/lang/String"), (.object "java/lang/String")], none⟩ := by decide +kernel
theorem ef_law (m : MethodId) (ia : Int32) (ib : Int32) (ic : Int32) (ie : Int32) (ig : Int32) : entryFrame m #[(.int ia), (.int ib), (.int ic), (.int ie), (.int ig)] maxLocals = mkF m 0 #[.val (.int ia), .val (.int ib), .val (.int ic), .val (.int ie), .val (.int ig), .unset, .unset, .unset, .unset, .unset, .unset, .unset, .unset, .unset, .unset] [] := by first | (simp [entryFrame, mkF, argsToLocals, Value.category, maxLocals]; done) | rfl
def Q_law (Z : State) (ia : Int32) (ib : Int32) (ic : Int32) (ie : Int32) (ig : Int32) (wz : Int32) (h0 : Heap) (n0 : Nat) (v : Option Value) (h : Heap) (L : List Loc) : Prop := v = some (.int (1 : Int32)) ∧ Fr n0 L ∧ Keep h0 h []
set_option maxRecDepth 65536 in
set_option maxHeartbeats 40000000 in
theorem rm_law (l : Launch) (Z : State) (a0 : Array Value) (hw : ∀ d ∈ tables_1, d.before a0 Z = true) (ws : List Jvm.Cond) (ia : Int32) (ib : Int32) (ic : Int32) (ie : Int32) (ig : Int32) (wz : Int32) (h0 : Heap) (n0 : Nat) (O0 : Old Z n0 h0) (hEL : EW Z a0 own_EL) (P0 : Sta Z Z.heap "java/lang/String" "COMPACT_STRINGS" "Z" (.int wz)) (hwz : ¬ (wz = (0 : Int32))) :
    MetFree l x (head1 (Jvm.Cond.code x code maxLocals ret :: ws) room_1) (fun a U => a = #[(.int ia), (.int ib), (.int ic), (.int ie), (.int ig)] ∧ Z.Warmed39 U.vm ∧ U.heap = h0 ∧ CHv Z own_EL U.vm h0) (fun _ _ _ _ _ => True) (fun _ U o U' => ∃ v L, o = .returned v ∧ Q_law Z ia ib ic ie ig wz h0 n0 v U'.heap L ∧ CHr Z own_EL U.vm U.heap U'.vm U'.heap ∧ ReturnedEndW U o U' L room_1.cells room_1.slots) := by
  refine MetFree.of_bodySF (plainFor_of_name pn_com_example_unwind_unwind_store_LaneEqualsPinLaw) hisR ?_
  intro p e s m args below meth c s₁ Bd hml0 hP hK
  obtain ⟨rfl, hZ, hh, hC0⟩ := hP
  have hx := Bd.exec
  have hby := Bd.bytes
  have hml : c.maxLocals = 15 := hml0
  have hown : (s.setVm s.vm).vm.findClass "com/example/unwind/unwind/store/LaneEqualsPinLaw" = some m.cls := findClass_of_methodNamed Bd.named
  have hnm := (name_of_methodNamed Bd.named Bd.method).1
  have hlk : meth.locks = false := BodyLoose.notSynchronized Bd
  have X0 : Stand p l e room_1 (s.setVm s.vm) m #[(.int ia), (.int ib), (.int ic), (.int ie), (.int ig)] below meth c s₁ [] 0 0 := Stand.of_body Bd
  have e0 : s₁.heap = h0 := by rw [← hh, Bd.state]; rfl
  have N0 := Fr.nil n0
  have hZ : Z.Warmed39 (s.setVm s.vm).vm := hZ
  have hS0 : s.Since s.vm 0 := (State.WarmedH.refl s).since 0
  have hk0 : 0 ≤ h0.size := Nat.zero_le _
  have CR0 : CHr Z own_EL s.vm s.heap s.vm h0 := by rw [hh]; exact CHr.refl hC0
  have K0 := Keep.refl h0 []
  rw [ef_law m ia ib ic ie ig]
  show GoH p e below s Z own_EL (fun v h L => Q_law Z ia ib ic ie ig wz h0 n0 v h L) room_1.cells room_1.slots s₁ (mkF m 0 #[.val (.int ia), .val (.int ib), .val (.int ic), .val (.int ie), .val (.int ig), .unset, .unset, .unset, .unset, .unset, .unset, .unset, .unset, .unset, .unset] [])
  refine GoH.step (T' := s₁) (f' := (mkF m 2 #[.val (.int ia), .val (.int ib), .val (.int ic), .val (.int ie), .val (.int ig), .unset, .unset, .unset, .unset, .unset, .unset, .unset, .unset, .unset, .unset] [(.int ig)])) (fun t k => XS.iload X0.here hx rfl (hb hby at_0) rfl k) ?_
  refine GoH.step (T' := s₁) (f' := (mkF m 3 #[.val (.int ia), .val (.int ib), .val (.int ic), .val (.int ie), .val (.int ig), .unset, .unset, .unset, .unset, .unset, .unset, .unset, .unset, .unset, .unset] [(.int (1 : Int32)), (.int ig)])) (fun t k => XS.iconst X0.here hx rfl (hb hby at_2) k) ?_
  refine GoH.step (T' := s₁) (f' := (mkF m 4 #[.val (.int ia), .val (.int ib), .val (.int ic), .val (.int ie), .val (.int ig), .unset, .unset, .unset, .unset, .unset, .unset, .unset, .unset, .unset, .unset] [(.int (ig &&& (1 : Int32)))])) (fun t k => XS.iand X0.here hx rfl (hb hby at_3) rfl k) ?_
  have Kc382 : ∀ (zd : Int32), True → GoH p e below s Z own_EL (fun v h L => Q_law Z ia ib ic ie ig wz h0 n0 v h L) room_1.cells room_1.slots s₁ (mkF m 12 #[.val (.int ia), .val (.int ib), .val (.int ic), .val (.int ie), .val (.int ig), .unset, .unset, .unset, .unset, .unset, .unset, .unset, .unset, .unset, .unset] [(.int zd)]) := by
    intro zd hm383
    refine GoH.step (T' := s₁) (f' := (mkF m 14 #[.val (.int ia), .val (.int ib), .val (.int ic), .val (.int ie), .val (.int ig), .val (.int zd), .unset, .unset, .unset, .unset, .unset, .unset, .unset, .unset, .unset] [])) (fun t k => XS.istore X0.here hx rfl (hb hby at_12) rfl (l' := #[.val (.int ia), .val (.int ib), .val (.int ic), .val (.int ie), .val (.int ig), .val (.int zd), .unset, .unset, .unset, .unset, .unset, .unset, .unset, .unset, .unset]) rfl k) ?_
    refine GoH.step (T' := s₁) (f' := (mkF m 16 #[.val (.int ia), .val (.int ib), .val (.int ic), .val (.int ie), .val (.int ig), .val (.int zd), .unset, .unset, .unset, .unset, .unset, .unset, .unset, .unset, .unset] [(.int ig)])) (fun t k => XS.iload X0.here hx rfl (hb hby at_14) rfl k) ?_
    refine GoH.step (T' := s₁) (f' := (mkF m 17 #[.val (.int ia), .val (.int ib), .val (.int ic), .val (.int ie), .val (.int ig), .val (.int zd), .unset, .unset, .unset, .unset, .unset, .unset, .unset, .unset, .unset] [(.int (2 : Int32)), (.int ig)])) (fun t k => XS.iconst X0.here hx rfl (hb hby at_16) k) ?_
    refine GoH.step (T' := s₁) (f' := (mkF m 18 #[.val (.int ia), .val (.int ib), .val (.int ic), .val (.int ie), .val (.int ig), .val (.int zd), .unset, .unset, .unset, .unset, .unset, .unset, .unset, .unset, .unset] [(.int (ig &&& (2 : Int32)))])) (fun t k => XS.iand X0.here hx rfl (hb hby at_17) rfl k) ?_
    have Kc384 : ∀ (zk : Int32), True → GoH p e below s Z own_EL (fun v h L => Q_law Z ia ib ic ie ig wz h0 n0 v h L) room_1.cells room_1.slots s₁ (mkF m 26 #[.val (.int ia), .val (.int ib), .val (.int ic), .val (.int ie), .val (.int ig), .val (.int zd), .unset, .unset, .unset, .unset, .unset, .unset, .unset, .unset, .unset] [(.int zk)]) := by
      intro zk hm385
      refine GoH.step (T' := s₁) (f' := (mkF m 28 #[.val (.int ia), .val (.int ib), .val (.int ic), .val (.int ie), .val (.int ig), .val (.int zd), .val (.int zk), .unset, .unset, .unset, .unset, .unset, .unset, .unset, .unset] [])) (fun t k => XS.istore X0.here hx rfl (hb hby at_26) rfl (l' := #[.val (.int ia), .val (.int ib), .val (.int ic), .val (.int ie), .val (.int ig), .val (.int zd), .val (.int zk), .unset, .unset, .unset, .unset, .unset, .unset, .unset, .unset]) rfl k) ?_
      refine GoH.step (T' := s₁) (f' := (mkF m 29 #[.val (.int ia), .val (.int ib), .val (.int ic), .val (.int ie), .val (.int ig), .val (.int zd), .val (.int zk), .unset, .unset, .unset, .unset, .unset, .unset, .unset, .unset] [(.int ia)])) (fun t k => XS.iloadN X0.here hx rfl (hb hby at_28) rfl k) ?_
      obtain ⟨_, _, ⟨T386, L386, k386, n386⟩, -, X386, hS386, hg386, ⟨Lc386, hQ386, l386, y386, z386, ch386⟩, st386⟩ := callSS X0 hx (y := (⟨"com/example/unwind/unwind/store/LaneEqualsPinLaw", "str", "(I)Ljava/lang/String;"⟩ : MethodName)) hown (mvT hZ (hw _ (List.mem_of_getElem? (i := 0) rfl))) (mvT hZ (hw _ (List.mem_of_getElem? (i := 1) rfl))) (mvT hZ (hw _ (List.mem_of_getElem? (i := 2) rfl))) (mvT hZ (hw _ (List.mem_of_getElem? (i := 3) rfl))) (by decide) (backOfSH (s := s) (vm0 := s.vm) (W := 0) (rm_str l Z a0 hw [] ia wz h0 n0 O0 hEL P0 hwz) hZ (hw _ (List.mem_of_getElem? (i := 3) rfl)) (hw _ (List.mem_of_getElem? (i := 2) rfl)) (by decide) (by decide) hEL CR0.1) (g := (mkF m 29 #[.val (.int ia), .val (.int ib), .val (.int ic), .val (.int ie), .val (.int ig), .val (.int zd), .val (.int zk), .unset, .unset, .unset, .unset, .unset, .unset, .unset, .unset] [(.int ia)])) rfl (by rw [hml]; rfl) (argsL := [(.int ia)]) (rest := []) (lenOf pd11 rfl) rfl (by show 2 * 0 + _ ≤ _; exact Nat.le_of_eq rfl) (hb hby at_29) (fun _ _ => ⟨rfl, e0, (by decide : 0 + 3 ≤ _), (by decide : 0 + 8 ≤ _)⟩)
      dsimp only [Pt.U, Pt.locs, Pt.cells, Pt.slots] at X386 l386 y386 z386 st386 hQ386 hS386 hg386 ch386
      subst l386 y386 z386
      obtain ⟨X386, hS386, hZ, hown⟩ := rebS (s := s) (vm0 := s.vm) hS0 (show _ ≤ s₁.heap.size by rw [e0]; exact hk0) X386 hS386 hg386 hZ hown
      obtain ⟨u387, u388, u389, rfl, Nq386, hh386, p390, p391, p392, p393⟩ := hQ386
      have N394 := Fr.app N0 Nq386
      have CR395 := CR0.trans ch386
      have hk396 := Nat.le_refl T386.heap.size
      have O397 := O0.keep hh386 all0
      have K398 := K0.trans hh386 all0
      refine GoH.via (T' := T386) (f' := (mkF m 32 #[.val (.int ia), .val (.int ib), .val (.int ic), .val (.int ie), .val (.int ig), .val (.int zd), .val (.int zk), .unset, .unset, .unset, .unset, .unset, .unset, .unset, .unset] [(.ref u387)])) st386 ?_
      clear st386 X0 Nq386 CR0 hk0 hS0
      refine GoH.step (T' := T386) (f' := (mkF m 34 #[.val (.int ia), .val (.int ib), .val (.int ic), .val (.int ie), .val (.int ig), .val (.int zd), .val (.int zk), .val (.ref u387), .unset, .unset, .unset, .unset, .unset, .unset, .unset] [])) (fun t k => XS.astore X386.here hx rfl (hb hby at_32) rfl rfl (l' := #[.val (.int ia), .val (.int ib), .val (.int ic), .val (.int ie), .val (.int ig), .val (.int zd), .val (.int zk), .val (.ref u387), .unset, .unset, .unset, .unset, .unset, .unset, .unset]) rfl k) ?_
      refine GoH.step (T' := T386) (f' := (mkF m 35 #[.val (.int ia), .val (.int ib), .val (.int ic), .val (.int ie), .val (.int ig), .val (.int zd), .val (.int zk), .val (.ref u387), .unset, .unset, .unset, .unset, .unset, .unset, .unset] [(.int ib)])) (fun t k => XS.iloadN X386.here hx rfl (hb hby at_34) rfl k) ?_
      obtain ⟨_, _, ⟨T399, L399, k399, n399⟩, -, X399, hS399, hg399, ⟨Lc399, hQ399, l399, y399, z399, ch399⟩, st399⟩ := callSS X386 hx (y := (⟨"com/example/unwind/unwind/store/LaneEqualsPinLaw", "str", "(I)Ljava/lang/String;"⟩ : MethodName)) hown (mvT hZ (hw _ (List.mem_of_getElem? (i := 0) rfl))) (mvT hZ (hw _ (List.mem_of_getElem? (i := 1) rfl))) (mvT hZ (hw _ (List.mem_of_getElem? (i := 2) rfl))) (mvT hZ (hw _ (List.mem_of_getElem? (i := 3) rfl))) (by decide) (backOfSH (s := s) (vm0 := T386.vm) (W := 0) (rm_str l Z a0 hw [] ib wz T386.heap n0 O397 hEL P0 hwz) hZ (hw _ (List.mem_of_getElem? (i := 3) rfl)) (hw _ (List.mem_of_getElem? (i := 2) rfl)) (by decide) (by decide) hEL CR395.1) (g := (mkF m 35 #[.val (.int ia), .val (.int ib), .val (.int ic), .val (.int ie), .val (.int ig), .val (.int zd), .val (.int zk), .val (.ref u387), .unset, .unset, .unset, .unset, .unset, .unset, .unset] [(.int ib)])) rfl (by rw [hml]; rfl) (argsL := [(.int ib)]) (rest := []) (lenOf pd11 rfl) rfl (by show 2 * 0 + _ ≤ _; exact Nat.le_of_eq rfl) (hb hby at_35) (fun _ _ => ⟨rfl, rfl, (by decide : 3 + 3 ≤ _), (by decide : 8 + 8 ≤ _)⟩)
      dsimp only [Pt.U, Pt.locs, Pt.cells, Pt.slots] at X399 l399 y399 z399 st399 hQ399 hS399 hg399 ch399
      subst l399 y399 z399
      obtain ⟨X399, hS399, hZ, hown⟩ := rebS (s := s) (vm0 := T386.vm) hS386 (show _ ≤ T386.heap.size by exact hk396) X399 hS399 hg399 hZ hown
      obtain ⟨u400, u401, u402, rfl, Nq399, hh399, p403, p404, p405, p406⟩ := hQ399
      have N407 := Fr.app N394 Nq399
      have CR408 := CR395.trans ch399
      have hk409 := Nat.le_refl T399.heap.size
      have f410 := p390.keep hh399
      have f411 := p391.keep hh399 nin0
      have f412 := p392.keep hh399 nin0
      have f413 := p393.keep hh399 nin0
      have O414 := O397.keep hh399 all0
      have K415 := K398.trans hh399 all0
      refine GoH.via (T' := T399) (f' := (mkF m 38 #[.val (.int ia), .val (.int ib), .val (.int ic), .val (.int ie), .val (.int ig), .val (.int zd), .val (.int zk), .val (.ref u387), .unset, .unset, .unset, .unset, .unset, .unset, .unset] [(.ref u400)])) st399 ?_
      clear st399 X386 N394 Nq399 CR395 hk396 hS386 p391 p392
      refine GoH.step (T' := T399) (f' := (mkF m 40 #[.val (.int ia), .val (.int ib), .val (.int ic), .val (.int ie), .val (.int ig), .val (.int zd), .val (.int zk), .val (.ref u387), .val (.ref u400), .unset, .unset, .unset, .unset, .unset, .unset] [])) (fun t k => XS.astore X399.here hx rfl (hb hby at_38) rfl rfl (l' := #[.val (.int ia), .val (.int ib), .val (.int ic), .val (.int ie), .val (.int ig), .val (.int zd), .val (.int zk), .val (.ref u387), .val (.ref u400), .unset, .unset, .unset, .unset, .unset, .unset]) rfl k) ?_
      refine GoH.step (T' := T399) (f' := (mkF m 42 #[.val (.int ia), .val (.int ib), .val (.int ic), .val (.int ie), .val (.int ig), .val (.int zd), .val (.int zk), .val (.ref u387), .val (.ref u400), .unset, .unset, .unset, .unset, .unset, .unset] [(.int zd)])) (fun t k => XS.iload X399.here hx rfl (hb hby at_40) rfl k) ?_
      obtain ⟨_, _, ⟨T416, L416, k416, n416⟩, -, X416, hS416, hg416, ⟨Lc416, hQ416, l416, y416, z416, ch416⟩, st416⟩ := callSS X399 hx (y := (⟨"com/example/unwind/unwind/store/LaneEqualsPinLaw", "str", "(I)Ljava/lang/String;"⟩ : MethodName)) hown (mvT hZ (hw _ (List.mem_of_getElem? (i := 0) rfl))) (mvT hZ (hw _ (List.mem_of_getElem? (i := 1) rfl))) (mvT hZ (hw _ (List.mem_of_getElem? (i := 2) rfl))) (mvT hZ (hw _ (List.mem_of_getElem? (i := 3) rfl))) (by decide) (backOfSH (s := s) (vm0 := T399.vm) (W := 0) (rm_str l Z a0 hw [] zd wz T399.heap n0 O414 hEL P0 hwz) hZ (hw _ (List.mem_of_getElem? (i := 3) rfl)) (hw _ (List.mem_of_getElem? (i := 2) rfl)) (by decide) (by decide) hEL CR408.1) (g := (mkF m 42 #[.val (.int ia), .val (.int ib), .val (.int ic), .val (.int ie), .val (.int ig), .val (.int zd), .val (.int zk), .val (.ref u387), .val (.ref u400), .unset, .unset, .unset, .unset, .unset, .unset] [(.int zd)])) rfl (by rw [hml]; rfl) (argsL := [(.int zd)]) (rest := []) (lenOf pd11 rfl) rfl (by show 2 * 0 + _ ≤ _; exact Nat.le_of_eq rfl) (hb hby at_42) (fun _ _ => ⟨rfl, rfl, (by decide : 6 + 3 ≤ _), (by decide : 16 + 8 ≤ _)⟩)
      dsimp only [Pt.U, Pt.locs, Pt.cells, Pt.slots] at X416 l416 y416 z416 st416 hQ416 hS416 hg416 ch416
      subst l416 y416 z416
      obtain ⟨X416, hS416, hZ, hown⟩ := rebS (s := s) (vm0 := T399.vm) hS399 (show _ ≤ T399.heap.size by exact hk409) X416 hS416 hg416 hZ hown
      obtain ⟨u417, u418, u419, rfl, Nq416, hh416, p420, p421, p422, p423⟩ := hQ416
      have N424 := Fr.app N407 Nq416
      have CR425 := CR408.trans ch416
      have hk426 := Nat.le_refl T416.heap.size
      have f427 := f410.keep hh416
      have f428 := f411.keep hh416 nin0
      have f429 := f412.keep hh416 nin0
      have f430 := f413.keep hh416 nin0
      have f431 := p403.keep hh416
      have f432 := p404.keep hh416 nin0
      have f433 := p405.keep hh416 nin0
      have f434 := p406.keep hh416 nin0
      have O435 := O414.keep hh416 all0
      have K436 := K415.trans hh416 all0
      refine GoH.via (T' := T416) (f' := (mkF m 45 #[.val (.int ia), .val (.int ib), .val (.int ic), .val (.int ie), .val (.int ig), .val (.int zd), .val (.int zk), .val (.ref u387), .val (.ref u400), .unset, .unset, .unset, .unset, .unset, .unset] [(.ref u417)])) st416 ?_
      clear st416 X399 N407 Nq416 CR408 hk409 hS399 f411 f412 p404 p405
      refine GoH.step (T' := T416) (f' := (mkF m 47 #[.val (.int ia), .val (.int ib), .val (.int ic), .val (.int ie), .val (.int ig), .val (.int zd), .val (.int zk), .val (.ref u387), .val (.ref u400), .val (.ref u417), .unset, .unset, .unset, .unset, .unset] [])) (fun t k => XS.astore X416.here hx rfl (hb hby at_45) rfl rfl (l' := #[.val (.int ia), .val (.int ib), .val (.int ic), .val (.int ie), .val (.int ig), .val (.int zd), .val (.int zk), .val (.ref u387), .val (.ref u400), .val (.ref u417), .unset, .unset, .unset, .unset, .unset]) rfl k) ?_
      refine GoH.step (T' := T416) (f' := (mkF m 49 #[.val (.int ia), .val (.int ib), .val (.int ic), .val (.int ie), .val (.int ig), .val (.int zd), .val (.int zk), .val (.ref u387), .val (.ref u400), .val (.ref u417), .unset, .unset, .unset, .unset, .unset] [(.int zk)])) (fun t k => XS.iload X416.here hx rfl (hb hby at_47) rfl k) ?_
      obtain ⟨_, _, ⟨T437, L437, k437, n437⟩, -, X437, hS437, hg437, ⟨Lc437, hQ437, l437, y437, z437, ch437⟩, st437⟩ := callSS X416 hx (y := (⟨"com/example/unwind/unwind/store/LaneEqualsPinLaw", "str", "(I)Ljava/lang/String;"⟩ : MethodName)) hown (mvT hZ (hw _ (List.mem_of_getElem? (i := 0) rfl))) (mvT hZ (hw _ (List.mem_of_getElem? (i := 1) rfl))) (mvT hZ (hw _ (List.mem_of_getElem? (i := 2) rfl))) (mvT hZ (hw _ (List.mem_of_getElem? (i := 3) rfl))) (by decide) (backOfSH (s := s) (vm0 := T416.vm) (W := 0) (rm_str l Z a0 hw [] zk wz T416.heap n0 O435 hEL P0 hwz) hZ (hw _ (List.mem_of_getElem? (i := 3) rfl)) (hw _ (List.mem_of_getElem? (i := 2) rfl)) (by decide) (by decide) hEL CR425.1) (g := (mkF m 49 #[.val (.int ia), .val (.int ib), .val (.int ic), .val (.int ie), .val (.int ig), .val (.int zd), .val (.int zk), .val (.ref u387), .val (.ref u400), .val (.ref u417), .unset, .unset, .unset, .unset, .unset] [(.int zk)])) rfl (by rw [hml]; rfl) (argsL := [(.int zk)]) (rest := []) (lenOf pd11 rfl) rfl (by show 2 * 0 + _ ≤ _; exact Nat.le_of_eq rfl) (hb hby at_49) (fun _ _ => ⟨rfl, rfl, (by decide : 9 + 3 ≤ _), (by decide : 24 + 8 ≤ _)⟩)
      dsimp only [Pt.U, Pt.locs, Pt.cells, Pt.slots] at X437 l437 y437 z437 st437 hQ437 hS437 hg437 ch437
      subst l437 y437 z437
      obtain ⟨X437, hS437, hZ, hown⟩ := rebS (s := s) (vm0 := T416.vm) hS416 (show _ ≤ T416.heap.size by exact hk426) X437 hS437 hg437 hZ hown
      obtain ⟨u438, u439, u440, rfl, Nq437, hh437, p441, p442, p443, p444⟩ := hQ437
      have N445 := Fr.app N424 Nq437
      have CR446 := CR425.trans ch437
      have hk447 := Nat.le_refl T437.heap.size
      have f448 := f427.keep hh437
      have f449 := f428.keep hh437 nin0
      have f450 := f429.keep hh437 nin0
      have f451 := f430.keep hh437 nin0
      have f452 := f431.keep hh437
      have f453 := f432.keep hh437 nin0
      have f454 := f433.keep hh437 nin0
      have f455 := f434.keep hh437 nin0
      have f456 := p420.keep hh437
      have f457 := p421.keep hh437 nin0
      have f458 := p422.keep hh437 nin0
      have f459 := p423.keep hh437 nin0
      have O460 := O435.keep hh437 all0
      have K461 := K436.trans hh437 all0
      refine GoH.via (T' := T437) (f' := (mkF m 52 #[.val (.int ia), .val (.int ib), .val (.int ic), .val (.int ie), .val (.int ig), .val (.int zd), .val (.int zk), .val (.ref u387), .val (.ref u400), .val (.ref u417), .unset, .unset, .unset, .unset, .unset] [(.ref u438)])) st437 ?_
      clear st437 X416 N424 Nq437 CR425 hk426 hS416 f428 f429 f432 f433 p421 p422
      refine GoH.step (T' := T437) (f' := (mkF m 54 #[.val (.int ia), .val (.int ib), .val (.int ic), .val (.int ie), .val (.int ig), .val (.int zd), .val (.int zk), .val (.ref u387), .val (.ref u400), .val (.ref u417), .val (.ref u438), .unset, .unset, .unset, .unset] [])) (fun t k => XS.astore X437.here hx rfl (hb hby at_52) rfl rfl (l' := #[.val (.int ia), .val (.int ib), .val (.int ic), .val (.int ie), .val (.int ig), .val (.int zd), .val (.int zk), .val (.ref u387), .val (.ref u400), .val (.ref u417), .val (.ref u438), .unset, .unset, .unset, .unset]) rfl k) ?_
      obtain ⟨T462, h462, X462, e462, E462, A462, D462, -, st462⟩ := newO X437 hx hZ hown (hw _ (List.mem_of_getElem? (i := 12) rfl)) (hw _ (List.mem_of_getElem? (i := 13) rfl)) (hw _ (List.mem_of_getElem? (i := 14) rfl)) rfl (g := (mkF m 54 #[.val (.int ia), .val (.int ib), .val (.int ic), .val (.int ie), .val (.int ig), .val (.int zd), .val (.int zk), .val (.ref u387), .val (.ref u400), .val (.ref u417), .val (.ref u438), .unset, .unset, .unset, .unset] [])) rfl (hb hby at_54) (by decide) (by decide)
      obtain ⟨b462, g462⟩ : ∃ z, z = T437.heap.size := ⟨_, rfl⟩
      rw [← g462] at A462 D462 st462
      have g463 : n0 ≤ b462 := Nat.le_trans (own_old_le O460) (Nat.le_of_eq g462.symm)
      have g464 : h0.size ≤ b462 := Nat.le_trans K461.1 (Nat.le_of_eq g462.symm)
      have ne465 : u387 ≠ b462 := Nat.ne_of_lt (Nat.lt_of_lt_of_le f448.lt (Nat.le_of_eq g462.symm))
      have ne466 : u388 ≠ b462 := Nat.ne_of_lt (Nat.lt_of_lt_of_le f451.lt (Nat.le_of_eq g462.symm))
      have ne467 : u400 ≠ b462 := Nat.ne_of_lt (Nat.lt_of_lt_of_le f452.lt (Nat.le_of_eq g462.symm))
      have ne468 : u401 ≠ b462 := Nat.ne_of_lt (Nat.lt_of_lt_of_le f455.lt (Nat.le_of_eq g462.symm))
      have ne469 : u417 ≠ b462 := Nat.ne_of_lt (Nat.lt_of_lt_of_le f456.lt (Nat.le_of_eq g462.symm))
      have ne470 : u418 ≠ b462 := Nat.ne_of_lt (Nat.lt_of_lt_of_le f459.lt (Nat.le_of_eq g462.symm))
      have ne471 : u438 ≠ b462 := Nat.ne_of_lt (Nat.lt_of_lt_of_le p441.lt (Nat.le_of_eq g462.symm))
      have ne472 : u439 ≠ b462 := Nat.ne_of_lt (Nat.lt_of_lt_of_le p444.lt (Nat.le_of_eq g462.symm))
      have CR473 := CR446.trans (CHr.ext E462 CR446.1)
      have hk474 := Nat.le_trans hk447 E462.1
      have f475 := f448.ext E462
      have f476 := f449.ext E462
      have f477 := f450.ext E462
      have f478 := f451.ext E462
      have f479 := f452.ext E462
      have f480 := f453.ext E462
      have f481 := f454.ext E462
      have f482 := f455.ext E462
      have f483 := f456.ext E462
      have f484 := f457.ext E462
      have f485 := f458.ext E462
      have f486 := f459.ext E462
      have f487 := p441.ext E462
      have f488 := p442.ext E462
      have f489 := p443.ext E462
      have f490 := p444.ext E462
      have O491 := O460.ext E462
      have K492 := K461.ext E462
      have f493 : Fld Z h462 b462 "com/example/unwind/unwind/store/Outbox$Lane" "destination" "Ljava/lang/String;" .null := D462 (Or.inr (hw _ (List.mem_of_getElem? (i := 22) rfl))) (ty := (.object "java/lang/String")) (by decide)
      have f494 : Fld Z h462 b462 "com/example/unwind/unwind/store/Outbox$Lane" "key" "Ljava/lang/String;" .null := D462 (Or.inr (hw _ (List.mem_of_getElem? (i := 24) rfl))) (ty := (.object "java/lang/String")) (by decide)
      refine GoH.step (T' := T462) (f' := (mkF m 57 #[.val (.int ia), .val (.int ib), .val (.int ic), .val (.int ie), .val (.int ig), .val (.int zd), .val (.int zk), .val (.ref u387), .val (.ref u400), .val (.ref u417), .val (.ref u438), .unset, .unset, .unset, .unset] [(.ref b462)])) st462 ?_
      clear st462 X437 CR446 hk447 f448 f449 f450 f451 f452 f453 f454 f455 f456 f457 f458 f459 p441 p442 p443 p444 O460 K461
      refine GoH.step (T' := T462) (f' := (mkF m 58 #[.val (.int ia), .val (.int ib), .val (.int ic), .val (.int ie), .val (.int ig), .val (.int zd), .val (.int zk), .val (.ref u387), .val (.ref u400), .val (.ref u417), .val (.ref u438), .unset, .unset, .unset, .unset] [(.ref b462), (.ref b462)])) (fun t k => XS.dup X462.here hx rfl (hb hby at_57) rfl rfl k) ?_
      refine GoH.step (T' := T462) (f' := (mkF m 60 #[.val (.int ia), .val (.int ib), .val (.int ic), .val (.int ie), .val (.int ig), .val (.int zd), .val (.int zk), .val (.ref u387), .val (.ref u400), .val (.ref u417), .val (.ref u438), .unset, .unset, .unset, .unset] [(.ref u387), (.ref b462), (.ref b462)])) (fun t k => XS.aload X462.here hx rfl (hb hby at_58) rfl rfl k) ?_
      refine GoH.step (T' := T462) (f' := (mkF m 62 #[.val (.int ia), .val (.int ib), .val (.int ic), .val (.int ie), .val (.int ig), .val (.int zd), .val (.int zk), .val (.ref u387), .val (.ref u400), .val (.ref u417), .val (.ref u438), .unset, .unset, .unset, .unset] [(.ref u400), (.ref u387), (.ref b462), (.ref b462)])) (fun t k => XS.aload X462.here hx rfl (hb hby at_60) rfl rfl k) ?_
      obtain ⟨_, _, ⟨T495, L495, k495, n495⟩, -, X495, ⟨Lc495, hQ495, l495, y495, z495⟩, st495⟩ := X462.specialBack hx (y := (⟨"com/example/unwind/unwind/store/Outbox$Lane", "<init>", "(Ljava/lang/String;Ljava/lang/String;)V"⟩ : MethodName)) rfl hown (mvT hZ (hw _ (List.mem_of_getElem? (i := 15) rfl))) (mvT hZ (hw _ (List.mem_of_getElem? (i := 16) rfl))) (mvT hZ (hw _ (List.mem_of_getElem? (i := 17) rfl))) (by decide) (backOf (W := 1) (rm_lini l Z a0 hw [] b462 u387 u400 .null .null h462 n0 O491 A462 f493 f494 g463) hZ (hw _ (List.mem_of_getElem? (i := 17) rfl)) (hw _ (List.mem_of_getElem? (i := 14) rfl)) (by decide) (by decide)) (g := (mkF m 62 #[.val (.int ia), .val (.int ib), .val (.int ic), .val (.int ie), .val (.int ig), .val (.int zd), .val (.int zk), .val (.ref u387), .val (.ref u400), .val (.ref u417), .val (.ref u438), .unset, .unset, .unset, .unset] [(.ref u400), (.ref u387), (.ref b462), (.ref b462)])) rfl (by rw [hml]; rfl) (Steps.refl _) (a := b462) (argsL := [(.ref u387), (.ref u400)]) (rest := [(.ref b462)]) (lenOf pd12 rfl) rfl (by show 2 * 0 + _ ≤ _; exact Nat.le_of_eq rfl) (hb hby at_62) (fun _ _ => ⟨rfl, e462, (by decide : 13 + 0 ≤ _), (by decide : 34 + 0 ≤ _)⟩)
      dsimp only [Pt.U, Pt.locs, Pt.cells, Pt.slots] at X495 l495 y495 z495 st495 hQ495
      subst l495 y495 z495
      obtain ⟨rfl, Nq495, hh495, p496, p497, p498⟩ := hQ495
      have N499 := Fr.app N445 Nq495
      have sz500 : ∀ x ∈ [b462], Safe Z own_EL T437.vm h462 x := (sfS (Safe.exa (EL := own_EL) hZ.alike A462 (by decide) (by decide)) sf0)
      have CR501 := CR473.trans (CHr.keep hh495 sz500 CR473.1)
      have hk502 := Nat.le_trans hk474 hh495.1
      have f503 := f475.keep hh495
      have f504 := f476.keep hh495 (ninS ne465 nin0)
      have f505 := f477.keep hh495 (ninS ne465 nin0)
      have f506 := f478.keep hh495 (ninS ne466 nin0)
      have f507 := f479.keep hh495
      have f508 := f480.keep hh495 (ninS ne467 nin0)
      have f509 := f481.keep hh495 (ninS ne467 nin0)
      have f510 := f482.keep hh495 (ninS ne468 nin0)
      have f511 := f483.keep hh495
      have f512 := f484.keep hh495 (ninS ne469 nin0)
      have f513 := f485.keep hh495 (ninS ne469 nin0)
      have f514 := f486.keep hh495 (ninS ne470 nin0)
      have f515 := f487.keep hh495
      have f516 := f488.keep hh495 (ninS ne471 nin0)
      have f517 := f489.keep hh495 (ninS ne471 nin0)
      have f518 := f490.keep hh495 (ninS ne472 nin0)
      have f519 := A462.keep hh495
      have O520 := O491.keep hh495 (allS g463 all0)
      have K521 := K492.trans hh495 (allS (Or.inr g464) all0)
      refine GoH.via (T' := T495) (f' := (mkF m 65 #[.val (.int ia), .val (.int ib), .val (.int ic), .val (.int ie), .val (.int ig), .val (.int zd), .val (.int zk), .val (.ref u387), .val (.ref u400), .val (.ref u417), .val (.ref u438), .unset, .unset, .unset, .unset] [(.ref b462)])) st495 ?_
      clear st495 X462 N445 Nq495 CR473 hk474 sz500 f476 f477 f480 f481 f484 f485 f488 f489
      refine GoH.step (T' := T495) (f' := (mkF m 67 #[.val (.int ia), .val (.int ib), .val (.int ic), .val (.int ie), .val (.int ig), .val (.int zd), .val (.int zk), .val (.ref u387), .val (.ref u400), .val (.ref u417), .val (.ref u438), .val (.ref b462), .unset, .unset, .unset] [])) (fun t k => XS.astore X495.here hx rfl (hb hby at_65) rfl rfl (l' := #[.val (.int ia), .val (.int ib), .val (.int ic), .val (.int ie), .val (.int ig), .val (.int zd), .val (.int zk), .val (.ref u387), .val (.ref u400), .val (.ref u417), .val (.ref u438), .val (.ref b462), .unset, .unset, .unset]) rfl k) ?_
      obtain ⟨T522, h522, X522, e522, E522, A522, D522, -, st522⟩ := newO X495 hx hZ hown (hw _ (List.mem_of_getElem? (i := 12) rfl)) (hw _ (List.mem_of_getElem? (i := 13) rfl)) (hw _ (List.mem_of_getElem? (i := 14) rfl)) rfl (g := (mkF m 67 #[.val (.int ia), .val (.int ib), .val (.int ic), .val (.int ie), .val (.int ig), .val (.int zd), .val (.int zk), .val (.ref u387), .val (.ref u400), .val (.ref u417), .val (.ref u438), .val (.ref b462), .unset, .unset, .unset] [])) rfl (hb hby at_67) (by decide) (by decide)
      obtain ⟨b522, g522⟩ : ∃ z, z = T495.heap.size := ⟨_, rfl⟩
      rw [← g522] at A522 D522 st522
      have g523 : n0 ≤ b522 := Nat.le_trans (own_old_le O520) (Nat.le_of_eq g522.symm)
      have g524 : h0.size ≤ b522 := Nat.le_trans K521.1 (Nat.le_of_eq g522.symm)
      have ne525 : u387 ≠ b522 := Nat.ne_of_lt (Nat.lt_of_lt_of_le f503.lt (Nat.le_of_eq g522.symm))
      have ne526 : u388 ≠ b522 := Nat.ne_of_lt (Nat.lt_of_lt_of_le f506.lt (Nat.le_of_eq g522.symm))
      have ne527 : u400 ≠ b522 := Nat.ne_of_lt (Nat.lt_of_lt_of_le f507.lt (Nat.le_of_eq g522.symm))
      have ne528 : u401 ≠ b522 := Nat.ne_of_lt (Nat.lt_of_lt_of_le f510.lt (Nat.le_of_eq g522.symm))
      have ne529 : u417 ≠ b522 := Nat.ne_of_lt (Nat.lt_of_lt_of_le f511.lt (Nat.le_of_eq g522.symm))
      have ne530 : u418 ≠ b522 := Nat.ne_of_lt (Nat.lt_of_lt_of_le f514.lt (Nat.le_of_eq g522.symm))
      have ne531 : u438 ≠ b522 := Nat.ne_of_lt (Nat.lt_of_lt_of_le f515.lt (Nat.le_of_eq g522.symm))
      have ne532 : u439 ≠ b522 := Nat.ne_of_lt (Nat.lt_of_lt_of_le f518.lt (Nat.le_of_eq g522.symm))
      have ne533 : b462 ≠ b522 := Nat.ne_of_lt (Nat.lt_of_lt_of_le p496.lt (Nat.le_of_eq g522.symm))
      have CR534 := CR501.trans (CHr.ext E522 CR501.1)
      have hk535 := Nat.le_trans hk502 E522.1
      have f536 := f503.ext E522
      have f537 := f504.ext E522
      have f538 := f505.ext E522
      have f539 := f506.ext E522
      have f540 := f507.ext E522
      have f541 := f508.ext E522
      have f542 := f509.ext E522
      have f543 := f510.ext E522
      have f544 := f511.ext E522
      have f545 := f512.ext E522
      have f546 := f513.ext E522
      have f547 := f514.ext E522
      have f548 := f515.ext E522
      have f549 := f516.ext E522
      have f550 := f517.ext E522
      have f551 := f518.ext E522
      have f552 := p496.ext E522
      have f553 := p497.ext E522
      have f554 := p498.ext E522
      have O555 := O520.ext E522
      have K556 := K521.ext E522
      have f557 : Fld Z h522 b522 "com/example/unwind/unwind/store/Outbox$Lane" "destination" "Ljava/lang/String;" .null := D522 (Or.inr (hw _ (List.mem_of_getElem? (i := 22) rfl))) (ty := (.object "java/lang/String")) (by decide)
      have f558 : Fld Z h522 b522 "com/example/unwind/unwind/store/Outbox$Lane" "key" "Ljava/lang/String;" .null := D522 (Or.inr (hw _ (List.mem_of_getElem? (i := 24) rfl))) (ty := (.object "java/lang/String")) (by decide)
      refine GoH.step (T' := T522) (f' := (mkF m 70 #[.val (.int ia), .val (.int ib), .val (.int ic), .val (.int ie), .val (.int ig), .val (.int zd), .val (.int zk), .val (.ref u387), .val (.ref u400), .val (.ref u417), .val (.ref u438), .val (.ref b462), .unset, .unset, .unset] [(.ref b522)])) st522 ?_
      clear st522 X495 CR501 hk502 f503 f504 f505 f506 f507 f508 f509 f510 f511 f512 f513 f514 f515 f516 f517 f518 p496 p497 p498 O520 K521
      refine GoH.step (T' := T522) (f' := (mkF m 71 #[.val (.int ia), .val (.int ib), .val (.int ic), .val (.int ie), .val (.int ig), .val (.int zd), .val (.int zk), .val (.ref u387), .val (.ref u400), .val (.ref u417), .val (.ref u438), .val (.ref b462), .unset, .unset, .unset] [(.ref b522), (.ref b522)])) (fun t k => XS.dup X522.here hx rfl (hb hby at_70) rfl rfl k) ?_
      refine GoH.step (T' := T522) (f' := (mkF m 73 #[.val (.int ia), .val (.int ib), .val (.int ic), .val (.int ie), .val (.int ig), .val (.int zd), .val (.int zk), .val (.ref u387), .val (.ref u400), .val (.ref u417), .val (.ref u438), .val (.ref b462), .unset, .unset, .unset] [(.ref u417), (.ref b522), (.ref b522)])) (fun t k => XS.aload X522.here hx rfl (hb hby at_71) rfl rfl k) ?_
      refine GoH.step (T' := T522) (f' := (mkF m 75 #[.val (.int ia), .val (.int ib), .val (.int ic), .val (.int ie), .val (.int ig), .val (.int zd), .val (.int zk), .val (.ref u387), .val (.ref u400), .val (.ref u417), .val (.ref u438), .val (.ref b462), .unset, .unset, .unset] [(.ref u438), (.ref u417), (.ref b522), (.ref b522)])) (fun t k => XS.aload X522.here hx rfl (hb hby at_73) rfl rfl k) ?_
      obtain ⟨_, _, ⟨T559, L559, k559, n559⟩, -, X559, ⟨Lc559, hQ559, l559, y559, z559⟩, st559⟩ := X522.specialBack hx (y := (⟨"com/example/unwind/unwind/store/Outbox$Lane", "<init>", "(Ljava/lang/String;Ljava/lang/String;)V"⟩ : MethodName)) rfl hown (mvT hZ (hw _ (List.mem_of_getElem? (i := 15) rfl))) (mvT hZ (hw _ (List.mem_of_getElem? (i := 16) rfl))) (mvT hZ (hw _ (List.mem_of_getElem? (i := 17) rfl))) (by decide) (backOf (W := 1) (rm_lini l Z a0 hw [] b522 u417 u438 .null .null h522 n0 O555 A522 f557 f558 g523) hZ (hw _ (List.mem_of_getElem? (i := 17) rfl)) (hw _ (List.mem_of_getElem? (i := 14) rfl)) (by decide) (by decide)) (g := (mkF m 75 #[.val (.int ia), .val (.int ib), .val (.int ic), .val (.int ie), .val (.int ig), .val (.int zd), .val (.int zk), .val (.ref u387), .val (.ref u400), .val (.ref u417), .val (.ref u438), .val (.ref b462), .unset, .unset, .unset] [(.ref u438), (.ref u417), (.ref b522), (.ref b522)])) rfl (by rw [hml]; rfl) (Steps.refl _) (a := b522) (argsL := [(.ref u417), (.ref u438)]) (rest := [(.ref b522)]) (lenOf pd12 rfl) rfl (by show 2 * 0 + _ ≤ _; exact Nat.le_of_eq rfl) (hb hby at_75) (fun _ _ => ⟨rfl, e522, (by decide : 14 + 0 ≤ _), (by decide : 36 + 0 ≤ _)⟩)
      dsimp only [Pt.U, Pt.locs, Pt.cells, Pt.slots] at X559 l559 y559 z559 st559 hQ559
      subst l559 y559 z559
      obtain ⟨rfl, Nq559, hh559, p560, p561, p562⟩ := hQ559
      have N563 := Fr.app N499 Nq559
      have sz564 : ∀ x ∈ [b522], Safe Z own_EL T437.vm h522 x := (sfS (Safe.exa (EL := own_EL) hZ.alike A522 (by decide) (by decide)) sf0)
      have CR565 := CR534.trans (CHr.keep hh559 sz564 CR534.1)
      have hk566 := Nat.le_trans hk535 hh559.1
      have f567 := f536.keep hh559
      have f568 := f537.keep hh559 (ninS ne525 nin0)
      have f569 := f538.keep hh559 (ninS ne525 nin0)
      have f570 := f539.keep hh559 (ninS ne526 nin0)
      have f571 := f540.keep hh559
      have f572 := f541.keep hh559 (ninS ne527 nin0)
      have f573 := f542.keep hh559 (ninS ne527 nin0)
      have f574 := f543.keep hh559 (ninS ne528 nin0)
      have f575 := f544.keep hh559
      have f576 := f545.keep hh559 (ninS ne529 nin0)
      have f577 := f546.keep hh559 (ninS ne529 nin0)
      have f578 := f547.keep hh559 (ninS ne530 nin0)
      have f579 := f548.keep hh559
      have f580 := f549.keep hh559 (ninS ne531 nin0)
      have f581 := f550.keep hh559 (ninS ne531 nin0)
      have f582 := f551.keep hh559 (ninS ne532 nin0)
      have f583 := f552.keep hh559
      have f584 := f553.keep hh559 (ninS ne533 nin0)
      have f585 := f554.keep hh559 (ninS ne533 nin0)
      have f586 := A522.keep hh559
      have O587 := O555.keep hh559 (allS g523 all0)
      have K588 := K556.trans hh559 (allS (Or.inr g524) all0)
      refine GoH.via (T' := T559) (f' := (mkF m 78 #[.val (.int ia), .val (.int ib), .val (.int ic), .val (.int ie), .val (.int ig), .val (.int zd), .val (.int zk), .val (.ref u387), .val (.ref u400), .val (.ref u417), .val (.ref u438), .val (.ref b462), .unset, .unset, .unset] [(.ref b522)])) st559 ?_
      clear st559 X522 N499 Nq559 CR534 hk535 sz564 f537 f538 f541 f542 f545 f546 f549 f550 f553 f554
      refine GoH.step (T' := T559) (f' := (mkF m 80 #[.val (.int ia), .val (.int ib), .val (.int ic), .val (.int ie), .val (.int ig), .val (.int zd), .val (.int zk), .val (.ref u387), .val (.ref u400), .val (.ref u417), .val (.ref u438), .val (.ref b462), .val (.ref b522), .unset, .unset] [])) (fun t k => XS.astore X559.here hx rfl (hb hby at_78) rfl rfl (l' := #[.val (.int ia), .val (.int ib), .val (.int ic), .val (.int ie), .val (.int ig), .val (.int zd), .val (.int zk), .val (.ref u387), .val (.ref u400), .val (.ref u417), .val (.ref u438), .val (.ref b462), .val (.ref b522), .unset, .unset]) rfl k) ?_
      refine GoH.step (T' := T559) (f' := (mkF m 82 #[.val (.int ia), .val (.int ib), .val (.int ic), .val (.int ie), .val (.int ig), .val (.int zd), .val (.int zk), .val (.ref u387), .val (.ref u400), .val (.ref u417), .val (.ref u438), .val (.ref b462), .val (.ref b522), .unset, .unset] [(.ref u387)])) (fun t k => XS.aload X559.here hx rfl (hb hby at_80) rfl rfl k) ?_
      refine GoH.step (T' := T559) (f' := (mkF m 84 #[.val (.int ia), .val (.int ib), .val (.int ic), .val (.int ie), .val (.int ig), .val (.int zd), .val (.int zk), .val (.ref u387), .val (.ref u400), .val (.ref u417), .val (.ref u438), .val (.ref b462), .val (.ref b522), .unset, .unset] [(.ref u417), (.ref u387)])) (fun t k => XS.aload X559.here hx rfl (hb hby at_82) rfl rfl k) ?_
      obtain ⟨cq589, kq589, q589a, q589b, q589c⟩ := isOf hZ rfl f567
      obtain ⟨_, _, ⟨T589, L589, k589, n589⟩, -, X589, ⟨Lc589, hQ589, l589, y589, z589⟩, st589⟩ := X559.virtualBack hx (y := (⟨"java/lang/String", "equals", "(Ljava/lang/Object;)Z"⟩ : MethodName)) (z := (⟨"java/lang/String", "equals", "(Ljava/lang/Object;)Z"⟩ : MethodName)) hown (mvT hZ (hw _ (List.mem_of_getElem? (i := 25) rfl))) (mvT hZ (hw _ (List.mem_of_getElem? (i := 26) rfl))) (notFace_of_selects (args := #[]) (mvT hZ (hw _ (List.mem_of_getElem? (i := 28) rfl)))) (mvT hZ (hw _ (List.mem_of_getElem? (i := 28) rfl))) (mvT hZ (hw _ (List.mem_of_getElem? (i := 27) rfl))) (by decide) (backOf (W := 0) (rm_seq l Z a0 hw [] u387 u417 u388 u418 u389 u419 (own_str ia) (own_str zd) wz T559.heap n0 O587 f568 f569 f570 f575 f576 f577 f578 P0 hwz (own_strlen _) (own_strlen _)) hZ (hw _ (List.mem_of_getElem? (i := 29) rfl)) (hw _ (List.mem_of_getElem? (i := 5) rfl)) (by decide) (by decide)) q589a q589c (g := (mkF m 84 #[.val (.int ia), .val (.int ib), .val (.int ic), .val (.int ie), .val (.int ig), .val (.int zd), .val (.int zk), .val (.ref u387), .val (.ref u400), .val (.ref u417), .val (.ref u438), .val (.ref b462), .val (.ref b522), .unset, .unset] [(.ref u417), (.ref u387)])) rfl (by rw [hml]; rfl) (Steps.refl _) (argsL := [(.ref u417)]) (rest := []) (lenOf pd10 rfl) rfl (by show 2 * 0 + _ ≤ _; exact Nat.le_of_eq rfl) (hb hby at_84) (fun _ _ => ⟨rfl, rfl, (by decide : 14 + 0 ≤ _), (by decide : 36 + 0 ≤ _)⟩)
      dsimp only [Pt.U, Pt.locs, Pt.cells, Pt.slots] at X589 l589 y589 z589 st589 hQ589
      subst l589 y589 z589
      obtain ⟨rfl, Nq589, hh589⟩ := hQ589
      have N590 := Fr.app N563 Nq589
      refine GoH.via (T' := T589) (f' := (mkF m 87 #[.val (.int ia), .val (.int ib), .val (.int ic), .val (.int ie), .val (.int ig), .val (.int zd), .val (.int zk), .val (.ref u387), .val (.ref u400), .val (.ref u417), .val (.ref u438), .val (.ref b462), .val (.ref b522), .unset, .unset] [(.int (if (own_str ia) = (own_str zd) then (1 : Int32) else 0))])) st589 ?_
      clear st589 X559 N563 Nq589
      by_cases hc591 : (if (own_str ia) = (own_str zd) then (1 : Int32) else 0) = (0 : Int32)
      ·
        refine GoH.step (T' := T589) (f' := (mkF m 104 #[.val (.int ia), .val (.int ib), .val (.int ic), .val (.int ie), .val (.int ig), .val (.int zd), .val (.int zk), .val (.ref u387), .val (.ref u400), .val (.ref u417), .val (.ref u438), .val (.ref b462), .val (.ref b522), .unset, .unset] [])) (fun t k => XS.ifYes X589.here hx rfl (pc0 := 87) (pc' := 104) rfl (hb hby at_87) rfl ((if0 _ _).trans (teq hc591).1) (by decide) (by decide) k) ?_
        refine GoH.step (T' := T589) (f' := (mkF m 105 #[.val (.int ia), .val (.int ib), .val (.int ic), .val (.int ie), .val (.int ig), .val (.int zd), .val (.int zk), .val (.ref u387), .val (.ref u400), .val (.ref u417), .val (.ref u438), .val (.ref b462), .val (.ref b522), .unset, .unset] [(.int (0 : Int32))])) (fun t k => XS.iconst X589.here hx rfl (hb hby at_104) k) ?_
        refine GoH.step (T' := T589) (f' := (mkF m 107 #[.val (.int ia), .val (.int ib), .val (.int ic), .val (.int ie), .val (.int ig), .val (.int zd), .val (.int zk), .val (.ref u387), .val (.ref u400), .val (.ref u417), .val (.ref u438), .val (.ref b462), .val (.ref b522), .val (.int (0 : Int32)), .unset] [])) (fun t k => XS.istore X589.here hx rfl (hb hby at_105) rfl (l' := #[.val (.int ia), .val (.int ib), .val (.int ic), .val (.int ie), .val (.int ig), .val (.int zd), .val (.int zk), .val (.ref u387), .val (.ref u400), .val (.ref u417), .val (.ref u438), .val (.ref b462), .val (.ref b522), .val (.int (0 : Int32)), .unset]) rfl k) ?_
        refine GoH.step (T' := T589) (f' := (mkF m 108 #[.val (.int ia), .val (.int ib), .val (.int ic), .val (.int ie), .val (.int ig), .val (.int zd), .val (.int zk), .val (.ref u387), .val (.ref u400), .val (.ref u417), .val (.ref u438), .val (.ref b462), .val (.ref b522), .val (.int (0 : Int32)), .unset] [.null])) (fun t k => XS.aconstNull X589.here hx rfl (hb hby at_107) k) ?_
        refine GoH.step (T' := T589) (f' := (mkF m 110 #[.val (.int ia), .val (.int ib), .val (.int ic), .val (.int ie), .val (.int ig), .val (.int zd), .val (.int zk), .val (.ref u387), .val (.ref u400), .val (.ref u417), .val (.ref u438), .val (.ref b462), .val (.ref b522), .val (.int (0 : Int32)), .val .null] [])) (fun t k => XS.astore X589.here hx rfl (hb hby at_108) rfl rfl (l' := #[.val (.int ia), .val (.int ib), .val (.int ic), .val (.int ie), .val (.int ig), .val (.int zd), .val (.int zk), .val (.ref u387), .val (.ref u400), .val (.ref u417), .val (.ref u438), .val (.ref b462), .val (.ref b522), .val (.int (0 : Int32)), .val .null]) rfl k) ?_
        refine GoH.step (T' := T589) (f' := (mkF m 112 #[.val (.int ia), .val (.int ib), .val (.int ic), .val (.int ie), .val (.int ig), .val (.int zd), .val (.int zk), .val (.ref u387), .val (.ref u400), .val (.ref u417), .val (.ref u438), .val (.ref b462), .val (.ref b522), .val (.int (0 : Int32)), .val .null] [(.ref b462)])) (fun t k => XS.aload X589.here hx rfl (hb hby at_110) rfl rfl k) ?_
        refine GoH.step (T' := T589) (f' := (mkF m 114 #[.val (.int ia), .val (.int ib), .val (.int ic), .val (.int ie), .val (.int ig), .val (.int zd), .val (.int zk), .val (.ref u387), .val (.ref u400), .val (.ref u417), .val (.ref u438), .val (.ref b462), .val (.ref b522), .val (.int (0 : Int32)), .val .null] [(.ref b522), (.ref b462)])) (fun t k => XS.aload X589.here hx rfl (hb hby at_112) rfl rfl k) ?_
        obtain ⟨cq592, kq592, q592a, q592b, q592c⟩ := isOf hZ hh589 f583
        obtain ⟨_, _, ⟨T592, L592, k592, n592⟩, -, X592, ⟨Lc592, hQ592, l592, y592, z592⟩, st592⟩ := X589.virtualBack hx (y := (⟨"com/example/unwind/unwind/store/Outbox$Lane", "equals", "(Ljava/lang/Object;)Z"⟩ : MethodName)) (z := (⟨"com/example/unwind/unwind/store/Outbox$Lane", "equals", "(Ljava/lang/Object;)Z"⟩ : MethodName)) hown (mvT hZ (hw _ (List.mem_of_getElem? (i := 30) rfl))) (mvT hZ (hw _ (List.mem_of_getElem? (i := 31) rfl))) (notFace_of_selects (args := #[]) (mvT hZ (hw _ (List.mem_of_getElem? (i := 33) rfl)))) (mvT hZ (hw _ (List.mem_of_getElem? (i := 33) rfl))) (mvT hZ (hw _ (List.mem_of_getElem? (i := 32) rfl))) (by decide) (backOf (W := 0) (rm_leqL l Z a0 hw [] b462 b522 u387 u400 u417 u438 u388 u401 u418 u439 u389 u402 u419 u440 (own_str ia) (own_str ib) (own_str zd) (own_str zk) wz T559.heap n0 O587 p560 f584 f585 p561 p562 f567 f568 f569 f570 f571 f572 f573 f574 f575 f576 f577 f578 f579 f580 f581 f582 P0 hwz (own_strlen _) (own_strlen _) (own_strlen _) (own_strlen _)) hZ (hw _ (List.mem_of_getElem? (i := 34) rfl)) (hw _ (List.mem_of_getElem? (i := 14) rfl)) (by decide) (by decide)) q592a q592c (g := (mkF m 114 #[.val (.int ia), .val (.int ib), .val (.int ic), .val (.int ie), .val (.int ig), .val (.int zd), .val (.int zk), .val (.ref u387), .val (.ref u400), .val (.ref u417), .val (.ref u438), .val (.ref b462), .val (.ref b522), .val (.int (0 : Int32)), .val .null] [(.ref b522), (.ref b462)])) rfl (by rw [hml]; rfl) (Steps.refl _) (argsL := [(.ref b522)]) (rest := []) (lenOf pd10 rfl) rfl (by show 2 * 0 + _ ≤ _; exact Nat.le_of_eq rfl) (hb hby at_114) (fun _ _ => ⟨rfl, hh589, (by decide : 14 + 0 ≤ _), (by decide : 36 + 0 ≤ _)⟩)
        dsimp only [Pt.U, Pt.locs, Pt.cells, Pt.slots] at X592 l592 y592 z592 st592 hQ592
        subst l592 y592 z592
        obtain ⟨rfl, Nq592, hh592⟩ := hQ592
        have N593 := Fr.app N590 Nq592
        refine GoH.via (T' := T592) (f' := (mkF m 117 #[.val (.int ia), .val (.int ib), .val (.int ic), .val (.int ie), .val (.int ig), .val (.int zd), .val (.int zk), .val (.ref u387), .val (.ref u400), .val (.ref u417), .val (.ref u438), .val (.ref b462), .val (.ref b522), .val (.int (0 : Int32)), .val .null] [(.int (if (own_str zd) = (own_str ia) ∧ (own_str zk) = (own_str ib) then (1 : Int32) else 0))])) st592 ?_
        clear st592 X589 N590 Nq592
        refine GoH.step (T' := T592) (f' := (mkF m 119 #[.val (.int ia), .val (.int ib), .val (.int ic), .val (.int ie), .val (.int ig), .val (.int zd), .val (.int zk), .val (.ref u387), .val (.ref u400), .val (.ref u417), .val (.ref u438), .val (.ref b462), .val (.ref b522), .val (.int (0 : Int32)), .val .null] [(.int (0 : Int32)), (.int (if (own_str zd) = (own_str ia) ∧ (own_str zk) = (own_str ib) then (1 : Int32) else 0))])) (fun t k => XS.iload X592.here hx rfl (hb hby at_117) rfl k) ?_
        have hc594 : (if (own_str zd) = (own_str ia) ∧ (own_str zk) = (own_str ib) then (1 : Int32) else 0) = (0 : Int32) := by
          exact own_f1s hc591
        refine GoH.step (T' := T592) (f' := (mkF m 122 #[.val (.int ia), .val (.int ib), .val (.int ic), .val (.int ie), .val (.int ig), .val (.int zd), .val (.int zk), .val (.ref u387), .val (.ref u400), .val (.ref u417), .val (.ref u438), .val (.ref b462), .val (.ref b522), .val (.int (0 : Int32)), .val .null] [])) (fun t k => XS.icmpNo X592.here hx rfl (hb hby at_119) rfl (teq hc594).2 k) ?_
        refine GoH.step (T' := T592) (f' := (mkF m 124 #[.val (.int ia), .val (.int ib), .val (.int ic), .val (.int ie), .val (.int ig), .val (.int zd), .val (.int zk), .val (.ref u387), .val (.ref u400), .val (.ref u417), .val (.ref u438), .val (.ref b462), .val (.ref b522), .val (.int (0 : Int32)), .val .null] [(.ref b522)])) (fun t k => XS.aload X592.here hx rfl (hb hby at_122) rfl rfl k) ?_
        refine GoH.step (T' := T592) (f' := (mkF m 126 #[.val (.int ia), .val (.int ib), .val (.int ic), .val (.int ie), .val (.int ig), .val (.int zd), .val (.int zk), .val (.ref u387), .val (.ref u400), .val (.ref u417), .val (.ref u438), .val (.ref b462), .val (.ref b522), .val (.int (0 : Int32)), .val .null] [(.ref b462), (.ref b522)])) (fun t k => XS.aload X592.here hx rfl (hb hby at_124) rfl rfl k) ?_
        obtain ⟨cq595, kq595, q595a, q595b, q595c⟩ := isOf hZ hh592 p560
        obtain ⟨_, _, ⟨T595, L595, k595, n595⟩, -, X595, ⟨Lc595, hQ595, l595, y595, z595⟩, st595⟩ := X592.virtualBack hx (y := (⟨"com/example/unwind/unwind/store/Outbox$Lane", "equals", "(Ljava/lang/Object;)Z"⟩ : MethodName)) (z := (⟨"com/example/unwind/unwind/store/Outbox$Lane", "equals", "(Ljava/lang/Object;)Z"⟩ : MethodName)) hown (mvT hZ (hw _ (List.mem_of_getElem? (i := 30) rfl))) (mvT hZ (hw _ (List.mem_of_getElem? (i := 31) rfl))) (notFace_of_selects (args := #[]) (mvT hZ (hw _ (List.mem_of_getElem? (i := 33) rfl)))) (mvT hZ (hw _ (List.mem_of_getElem? (i := 33) rfl))) (mvT hZ (hw _ (List.mem_of_getElem? (i := 32) rfl))) (by decide) (backOf (W := 0) (rm_leqL l Z a0 hw [] b522 b462 u417 u438 u387 u400 u418 u439 u388 u401 u419 u440 u389 u402 (own_str zd) (own_str zk) (own_str ia) (own_str ib) wz T559.heap n0 O587 f583 p561 p562 f584 f585 f575 f576 f577 f578 f579 f580 f581 f582 f567 f568 f569 f570 f571 f572 f573 f574 P0 hwz (own_strlen _) (own_strlen _) (own_strlen _) (own_strlen _)) hZ (hw _ (List.mem_of_getElem? (i := 34) rfl)) (hw _ (List.mem_of_getElem? (i := 14) rfl)) (by decide) (by decide)) q595a q595c (g := (mkF m 126 #[.val (.int ia), .val (.int ib), .val (.int ic), .val (.int ie), .val (.int ig), .val (.int zd), .val (.int zk), .val (.ref u387), .val (.ref u400), .val (.ref u417), .val (.ref u438), .val (.ref b462), .val (.ref b522), .val (.int (0 : Int32)), .val .null] [(.ref b462), (.ref b522)])) rfl (by rw [hml]; rfl) (Steps.refl _) (argsL := [(.ref b462)]) (rest := []) (lenOf pd10 rfl) rfl (by show 2 * 0 + _ ≤ _; exact Nat.le_of_eq rfl) (hb hby at_126) (fun _ _ => ⟨rfl, hh592, (by decide : 14 + 0 ≤ _), (by decide : 36 + 0 ≤ _)⟩)
        dsimp only [Pt.U, Pt.locs, Pt.cells, Pt.slots] at X595 l595 y595 z595 st595 hQ595
        subst l595 y595 z595
        obtain ⟨rfl, Nq595, hh595⟩ := hQ595
        have N596 := Fr.app N593 Nq595
        refine GoH.via (T' := T595) (f' := (mkF m 129 #[.val (.int ia), .val (.int ib), .val (.int ic), .val (.int ie), .val (.int ig), .val (.int zd), .val (.int zk), .val (.ref u387), .val (.ref u400), .val (.ref u417), .val (.ref u438), .val (.ref b462), .val (.ref b522), .val (.int (0 : Int32)), .val .null] [(.int (if (own_str ia) = (own_str zd) ∧ (own_str ib) = (own_str zk) then (1 : Int32) else 0))])) st595 ?_
        clear st595 X592 N593 Nq595
        refine GoH.step (T' := T595) (f' := (mkF m 131 #[.val (.int ia), .val (.int ib), .val (.int ic), .val (.int ie), .val (.int ig), .val (.int zd), .val (.int zk), .val (.ref u387), .val (.ref u400), .val (.ref u417), .val (.ref u438), .val (.ref b462), .val (.ref b522), .val (.int (0 : Int32)), .val .null] [(.int (0 : Int32)), (.int (if (own_str ia) = (own_str zd) ∧ (own_str ib) = (own_str zk) then (1 : Int32) else 0))])) (fun t k => XS.iload X595.here hx rfl (hb hby at_129) rfl k) ?_
        have hc597 : (if (own_str ia) = (own_str zd) ∧ (own_str ib) = (own_str zk) then (1 : Int32) else 0) = (0 : Int32) := by
          exact own_f1 hc591
        refine GoH.step (T' := T595) (f' := (mkF m 134 #[.val (.int ia), .val (.int ib), .val (.int ic), .val (.int ie), .val (.int ig), .val (.int zd), .val (.int zk), .val (.ref u387), .val (.ref u400), .val (.ref u417), .val (.ref u438), .val (.ref b462), .val (.ref b522), .val (.int (0 : Int32)), .val .null] [])) (fun t k => XS.icmpNo X595.here hx rfl (hb hby at_131) rfl (teq hc597).2 k) ?_
        refine GoH.step (T' := T595) (f' := (mkF m 136 #[.val (.int ia), .val (.int ib), .val (.int ic), .val (.int ie), .val (.int ig), .val (.int zd), .val (.int zk), .val (.ref u387), .val (.ref u400), .val (.ref u417), .val (.ref u438), .val (.ref b462), .val (.ref b522), .val (.int (0 : Int32)), .val .null] [(.ref b462)])) (fun t k => XS.aload X595.here hx rfl (hb hby at_134) rfl rfl k) ?_
        refine GoH.step (T' := T595) (f' := (mkF m 138 #[.val (.int ia), .val (.int ib), .val (.int ic), .val (.int ie), .val (.int ig), .val (.int zd), .val (.int zk), .val (.ref u387), .val (.ref u400), .val (.ref u417), .val (.ref u438), .val (.ref b462), .val (.ref b522), .val (.int (0 : Int32)), .val .null] [(.ref b462), (.ref b462)])) (fun t k => XS.aload X595.here hx rfl (hb hby at_136) rfl rfl k) ?_
        obtain ⟨cq598, kq598, q598a, q598b, q598c⟩ := isOf hZ hh595 f583
        obtain ⟨_, _, ⟨T598, L598, k598, n598⟩, -, X598, ⟨Lc598, hQ598, l598, y598, z598⟩, st598⟩ := X595.virtualBack hx (y := (⟨"com/example/unwind/unwind/store/Outbox$Lane", "equals", "(Ljava/lang/Object;)Z"⟩ : MethodName)) (z := (⟨"com/example/unwind/unwind/store/Outbox$Lane", "equals", "(Ljava/lang/Object;)Z"⟩ : MethodName)) hown (mvT hZ (hw _ (List.mem_of_getElem? (i := 30) rfl))) (mvT hZ (hw _ (List.mem_of_getElem? (i := 31) rfl))) (notFace_of_selects (args := #[]) (mvT hZ (hw _ (List.mem_of_getElem? (i := 33) rfl)))) (mvT hZ (hw _ (List.mem_of_getElem? (i := 33) rfl))) (mvT hZ (hw _ (List.mem_of_getElem? (i := 32) rfl))) (by decide) (backOf (W := 0) (rm_leq1 l Z a0 hw [] b462 u387 u400 T559.heap n0 O587 f583 f584 f585 f567 f571) hZ (hw _ (List.mem_of_getElem? (i := 34) rfl)) (hw _ (List.mem_of_getElem? (i := 14) rfl)) (by decide) (by decide)) q598a q598c (g := (mkF m 138 #[.val (.int ia), .val (.int ib), .val (.int ic), .val (.int ie), .val (.int ig), .val (.int zd), .val (.int zk), .val (.ref u387), .val (.ref u400), .val (.ref u417), .val (.ref u438), .val (.ref b462), .val (.ref b522), .val (.int (0 : Int32)), .val .null] [(.ref b462), (.ref b462)])) rfl (by rw [hml]; rfl) (Steps.refl _) (argsL := [(.ref b462)]) (rest := []) (lenOf pd10 rfl) rfl (by show 2 * 0 + _ ≤ _; exact Nat.le_of_eq rfl) (hb hby at_138) (fun _ _ => ⟨rfl, hh595, (by decide : 14 + 0 ≤ _), (by decide : 36 + 0 ≤ _)⟩)
        dsimp only [Pt.U, Pt.locs, Pt.cells, Pt.slots] at X598 l598 y598 z598 st598 hQ598
        subst l598 y598 z598
        obtain ⟨rfl, Nq598, hh598⟩ := hQ598
        have N599 := Fr.app N596 Nq598
        refine GoH.via (T' := T598) (f' := (mkF m 141 #[.val (.int ia), .val (.int ib), .val (.int ic), .val (.int ie), .val (.int ig), .val (.int zd), .val (.int zk), .val (.ref u387), .val (.ref u400), .val (.ref u417), .val (.ref u438), .val (.ref b462), .val (.ref b522), .val (.int (0 : Int32)), .val .null] [(.int (1 : Int32))])) st598 ?_
        clear st598 X595 N596 Nq598
        refine GoH.step (T' := T598) (f' := (mkF m 144 #[.val (.int ia), .val (.int ib), .val (.int ic), .val (.int ie), .val (.int ig), .val (.int zd), .val (.int zk), .val (.ref u387), .val (.ref u400), .val (.ref u417), .val (.ref u438), .val (.ref b462), .val (.ref b522), .val (.int (0 : Int32)), .val .null] [])) (fun t k => XS.ifNo X598.here hx rfl (hb hby at_141) rfl ((if0 _ _).trans (feq (by decide : ¬ ((1 : Int32) = (0 : Int32)))).1) k) ?_
        refine GoH.step (T' := T598) (f' := (mkF m 146 #[.val (.int ia), .val (.int ib), .val (.int ic), .val (.int ie), .val (.int ig), .val (.int zd), .val (.int zk), .val (.ref u387), .val (.ref u400), .val (.ref u417), .val (.ref u438), .val (.ref b462), .val (.ref b522), .val (.int (0 : Int32)), .val .null] [(.ref b462)])) (fun t k => XS.aload X598.here hx rfl (hb hby at_144) rfl rfl k) ?_
        refine GoH.step (T' := T598) (f' := (mkF m 148 #[.val (.int ia), .val (.int ib), .val (.int ic), .val (.int ie), .val (.int ig), .val (.int zd), .val (.int zk), .val (.ref u387), .val (.ref u400), .val (.ref u417), .val (.ref u438), .val (.ref b462), .val (.ref b522), .val (.int (0 : Int32)), .val .null] [.null, (.ref b462)])) (fun t k => XS.aload X598.here hx rfl (hb hby at_146) rfl rfl k) ?_
        obtain ⟨cq600, kq600, q600a, q600b, q600c⟩ := isOf hZ hh598 f583
        obtain ⟨_, _, ⟨T600, L600, k600, n600⟩, -, X600, ⟨Lc600, hQ600, l600, y600, z600⟩, st600⟩ := X598.virtualBack hx (y := (⟨"com/example/unwind/unwind/store/Outbox$Lane", "equals", "(Ljava/lang/Object;)Z"⟩ : MethodName)) (z := (⟨"com/example/unwind/unwind/store/Outbox$Lane", "equals", "(Ljava/lang/Object;)Z"⟩ : MethodName)) hown (mvT hZ (hw _ (List.mem_of_getElem? (i := 30) rfl))) (mvT hZ (hw _ (List.mem_of_getElem? (i := 31) rfl))) (notFace_of_selects (args := #[]) (mvT hZ (hw _ (List.mem_of_getElem? (i := 33) rfl)))) (mvT hZ (hw _ (List.mem_of_getElem? (i := 33) rfl))) (mvT hZ (hw _ (List.mem_of_getElem? (i := 32) rfl))) (by decide) (backOf (W := 0) (rm_leqN l Z a0 hw [] b462 T559.heap n0 O587 ) hZ (hw _ (List.mem_of_getElem? (i := 34) rfl)) (hw _ (List.mem_of_getElem? (i := 14) rfl)) (by decide) (by decide)) q600a q600c (g := (mkF m 148 #[.val (.int ia), .val (.int ib), .val (.int ic), .val (.int ie), .val (.int ig), .val (.int zd), .val (.int zk), .val (.ref u387), .val (.ref u400), .val (.ref u417), .val (.ref u438), .val (.ref b462), .val (.ref b522), .val (.int (0 : Int32)), .val .null] [.null, (.ref b462)])) rfl (by rw [hml]; rfl) (Steps.refl _) (argsL := [.null]) (rest := []) (lenOf pd10 rfl) rfl (by show 2 * 0 + _ ≤ _; exact Nat.le_of_eq rfl) (hb hby at_148) (fun _ _ => ⟨rfl, hh598, (by decide : 14 + 0 ≤ _), (by decide : 36 + 0 ≤ _)⟩)
        dsimp only [Pt.U, Pt.locs, Pt.cells, Pt.slots] at X600 l600 y600 z600 st600 hQ600
        subst l600 y600 z600
        obtain ⟨rfl, Nq600, hh600⟩ := hQ600
        have N601 := Fr.app N599 Nq600
        refine GoH.via (T' := T600) (f' := (mkF m 151 #[.val (.int ia), .val (.int ib), .val (.int ic), .val (.int ie), .val (.int ig), .val (.int zd), .val (.int zk), .val (.ref u387), .val (.ref u400), .val (.ref u417), .val (.ref u438), .val (.ref b462), .val (.ref b522), .val (.int (0 : Int32)), .val .null] [(.int (0 : Int32))])) st600 ?_
        clear st600 X598 N599 Nq600
        refine GoH.step (T' := T600) (f' := (mkF m 154 #[.val (.int ia), .val (.int ib), .val (.int ic), .val (.int ie), .val (.int ig), .val (.int zd), .val (.int zk), .val (.ref u387), .val (.ref u400), .val (.ref u417), .val (.ref u438), .val (.ref b462), .val (.ref b522), .val (.int (0 : Int32)), .val .null] [])) (fun t k => XS.ifNo X600.here hx rfl (hb hby at_151) rfl ((if0 _ _).trans (teq (by decide : (0 : Int32) = (0 : Int32))).2) k) ?_
        refine GoH.step (T' := T600) (f' := (mkF m 156 #[.val (.int ia), .val (.int ib), .val (.int ic), .val (.int ie), .val (.int ig), .val (.int zd), .val (.int zk), .val (.ref u387), .val (.ref u400), .val (.ref u417), .val (.ref u438), .val (.ref b462), .val (.ref b522), .val (.int (0 : Int32)), .val .null] [(.ref b462)])) (fun t k => XS.aload X600.here hx rfl (hb hby at_154) rfl rfl k) ?_
        refine GoH.step (T' := T600) (f' := (mkF m 158 #[.val (.int ia), .val (.int ib), .val (.int ic), .val (.int ie), .val (.int ig), .val (.int zd), .val (.int zk), .val (.ref u387), .val (.ref u400), .val (.ref u417), .val (.ref u438), .val (.ref b462), .val (.ref b522), .val (.int (0 : Int32)), .val .null] [(.ref u387), (.ref b462)])) (fun t k => XS.aload X600.here hx rfl (hb hby at_156) rfl rfl k) ?_
        obtain ⟨cq602, kq602, q602a, q602b, q602c⟩ := isOf hZ hh600 f583
        obtain ⟨_, _, ⟨T602, L602, k602, n602⟩, -, X602, ⟨Lc602, hQ602, l602, y602, z602⟩, st602⟩ := X600.virtualBack hx (y := (⟨"com/example/unwind/unwind/store/Outbox$Lane", "equals", "(Ljava/lang/Object;)Z"⟩ : MethodName)) (z := (⟨"com/example/unwind/unwind/store/Outbox$Lane", "equals", "(Ljava/lang/Object;)Z"⟩ : MethodName)) hown (mvT hZ (hw _ (List.mem_of_getElem? (i := 30) rfl))) (mvT hZ (hw _ (List.mem_of_getElem? (i := 31) rfl))) (notFace_of_selects (args := #[]) (mvT hZ (hw _ (List.mem_of_getElem? (i := 33) rfl)))) (mvT hZ (hw _ (List.mem_of_getElem? (i := 33) rfl))) (mvT hZ (hw _ (List.mem_of_getElem? (i := 32) rfl))) (by decide) (backOf (W := 0) (rm_leqS l Z a0 hw [] b462 u387 T559.heap n0 O587 f567) hZ (hw _ (List.mem_of_getElem? (i := 34) rfl)) (hw _ (List.mem_of_getElem? (i := 14) rfl)) (by decide) (by decide)) q602a q602c (g := (mkF m 158 #[.val (.int ia), .val (.int ib), .val (.int ic), .val (.int ie), .val (.int ig), .val (.int zd), .val (.int zk), .val (.ref u387), .val (.ref u400), .val (.ref u417), .val (.ref u438), .val (.ref b462), .val (.ref b522), .val (.int (0 : Int32)), .val .null] [(.ref u387), (.ref b462)])) rfl (by rw [hml]; rfl) (Steps.refl _) (argsL := [(.ref u387)]) (rest := []) (lenOf pd10 rfl) rfl (by show 2 * 0 + _ ≤ _; exact Nat.le_of_eq rfl) (hb hby at_158) (fun _ _ => ⟨rfl, hh600, (by decide : 14 + 0 ≤ _), (by decide : 36 + 0 ≤ _)⟩)
        dsimp only [Pt.U, Pt.locs, Pt.cells, Pt.slots] at X602 l602 y602 z602 st602 hQ602
        subst l602 y602 z602
        obtain ⟨rfl, Nq602, hh602⟩ := hQ602
        have N603 := Fr.app N601 Nq602
        refine GoH.via (T' := T602) (f' := (mkF m 161 #[.val (.int ia), .val (.int ib), .val (.int ic), .val (.int ie), .val (.int ig), .val (.int zd), .val (.int zk), .val (.ref u387), .val (.ref u400), .val (.ref u417), .val (.ref u438), .val (.ref b462), .val (.ref b522), .val (.int (0 : Int32)), .val .null] [(.int (0 : Int32))])) st602 ?_
        clear st602 X600 N601 Nq602
        refine GoH.step (T' := T602) (f' := (mkF m 164 #[.val (.int ia), .val (.int ib), .val (.int ic), .val (.int ie), .val (.int ig), .val (.int zd), .val (.int zk), .val (.ref u387), .val (.ref u400), .val (.ref u417), .val (.ref u438), .val (.ref b462), .val (.ref b522), .val (.int (0 : Int32)), .val .null] [])) (fun t k => XS.ifNo X602.here hx rfl (hb hby at_161) rfl ((if0 _ _).trans (teq (by decide : (0 : Int32) = (0 : Int32))).2) k) ?_
        refine GoH.step (T' := T602) (f' := (mkF m 165 #[.val (.int ia), .val (.int ib), .val (.int ic), .val (.int ie), .val (.int ig), .val (.int zd), .val (.int zk), .val (.ref u387), .val (.ref u400), .val (.ref u417), .val (.ref u438), .val (.ref b462), .val (.ref b522), .val (.int (0 : Int32)), .val .null] [(.int (1 : Int32))])) (fun t k => XS.iconst X602.here hx rfl (hb hby at_164) k) ?_
        refine GoH.step (T' := T602) (f' := (mkF m 169 #[.val (.int ia), .val (.int ib), .val (.int ic), .val (.int ie), .val (.int ig), .val (.int zd), .val (.int zk), .val (.ref u387), .val (.ref u400), .val (.ref u417), .val (.ref u438), .val (.ref b462), .val (.ref b522), .val (.int (0 : Int32)), .val .null] [(.int (1 : Int32))])) (fun t k => XS.goto X602.here hx rfl (pc0 := 165) (pc' := 169) rfl (hb hby at_165) (by decide) (by decide) k) ?_
        refine GoH.fin X602 hZ hEL hS437 hk566 CR565 hlk (v := some (.int (nar .boolean (1 : Int32)))) (fun h => by rw [Bd.returns] at h; cases h) (fun fs hr => retN X602 hx (t := .boolean) Bd.returns (by simp) (hb hby at_169) hr) hh602 ?_ (by decide) (by decide)
        exact ⟨rfl, N603, K588⟩
      ·
        refine GoH.step (T' := T589) (f' := (mkF m 90 #[.val (.int ia), .val (.int ib), .val (.int ic), .val (.int ie), .val (.int ig), .val (.int zd), .val (.int zk), .val (.ref u387), .val (.ref u400), .val (.ref u417), .val (.ref u438), .val (.ref b462), .val (.ref b522), .unset, .unset] [])) (fun t k => XS.ifNo X589.here hx rfl (hb hby at_87) rfl ((if0 _ _).trans (feq hc591).1) k) ?_
        refine GoH.step (T' := T589) (f' := (mkF m 92 #[.val (.int ia), .val (.int ib), .val (.int ic), .val (.int ie), .val (.int ig), .val (.int zd), .val (.int zk), .val (.ref u387), .val (.ref u400), .val (.ref u417), .val (.ref u438), .val (.ref b462), .val (.ref b522), .unset, .unset] [(.ref u400)])) (fun t k => XS.aload X589.here hx rfl (hb hby at_90) rfl rfl k) ?_
        refine GoH.step (T' := T589) (f' := (mkF m 94 #[.val (.int ia), .val (.int ib), .val (.int ic), .val (.int ie), .val (.int ig), .val (.int zd), .val (.int zk), .val (.ref u387), .val (.ref u400), .val (.ref u417), .val (.ref u438), .val (.ref b462), .val (.ref b522), .unset, .unset] [(.ref u438), (.ref u400)])) (fun t k => XS.aload X589.here hx rfl (hb hby at_92) rfl rfl k) ?_
        obtain ⟨cq604, kq604, q604a, q604b, q604c⟩ := isOf hZ hh589 f571
        obtain ⟨_, _, ⟨T604, L604, k604, n604⟩, -, X604, ⟨Lc604, hQ604, l604, y604, z604⟩, st604⟩ := X589.virtualBack hx (y := (⟨"java/lang/String", "equals", "(Ljava/lang/Object;)Z"⟩ : MethodName)) (z := (⟨"java/lang/String", "equals", "(Ljava/lang/Object;)Z"⟩ : MethodName)) hown (mvT hZ (hw _ (List.mem_of_getElem? (i := 25) rfl))) (mvT hZ (hw _ (List.mem_of_getElem? (i := 26) rfl))) (notFace_of_selects (args := #[]) (mvT hZ (hw _ (List.mem_of_getElem? (i := 28) rfl)))) (mvT hZ (hw _ (List.mem_of_getElem? (i := 28) rfl))) (mvT hZ (hw _ (List.mem_of_getElem? (i := 27) rfl))) (by decide) (backOf (W := 0) (rm_seq l Z a0 hw [] u400 u438 u401 u439 u402 u440 (own_str ib) (own_str zk) wz T559.heap n0 O587 f572 f573 f574 f579 f580 f581 f582 P0 hwz (own_strlen _) (own_strlen _)) hZ (hw _ (List.mem_of_getElem? (i := 29) rfl)) (hw _ (List.mem_of_getElem? (i := 5) rfl)) (by decide) (by decide)) q604a q604c (g := (mkF m 94 #[.val (.int ia), .val (.int ib), .val (.int ic), .val (.int ie), .val (.int ig), .val (.int zd), .val (.int zk), .val (.ref u387), .val (.ref u400), .val (.ref u417), .val (.ref u438), .val (.ref b462), .val (.ref b522), .unset, .unset] [(.ref u438), (.ref u400)])) rfl (by rw [hml]; rfl) (Steps.refl _) (argsL := [(.ref u438)]) (rest := []) (lenOf pd10 rfl) rfl (by show 2 * 0 + _ ≤ _; exact Nat.le_of_eq rfl) (hb hby at_94) (fun _ _ => ⟨rfl, hh589, (by decide : 14 + 0 ≤ _), (by decide : 36 + 0 ≤ _)⟩)
        dsimp only [Pt.U, Pt.locs, Pt.cells, Pt.slots] at X604 l604 y604 z604 st604 hQ604
        subst l604 y604 z604
        obtain ⟨rfl, Nq604, hh604⟩ := hQ604
        have N605 := Fr.app N590 Nq604
        refine GoH.via (T' := T604) (f' := (mkF m 97 #[.val (.int ia), .val (.int ib), .val (.int ic), .val (.int ie), .val (.int ig), .val (.int zd), .val (.int zk), .val (.ref u387), .val (.ref u400), .val (.ref u417), .val (.ref u438), .val (.ref b462), .val (.ref b522), .unset, .unset] [(.int (if (own_str ib) = (own_str zk) then (1 : Int32) else 0))])) st604 ?_
        clear st604 X589 N590 Nq604
        by_cases hc606 : (if (own_str ib) = (own_str zk) then (1 : Int32) else 0) = (0 : Int32)
        ·
          refine GoH.step (T' := T604) (f' := (mkF m 104 #[.val (.int ia), .val (.int ib), .val (.int ic), .val (.int ie), .val (.int ig), .val (.int zd), .val (.int zk), .val (.ref u387), .val (.ref u400), .val (.ref u417), .val (.ref u438), .val (.ref b462), .val (.ref b522), .unset, .unset] [])) (fun t k => XS.ifYes X604.here hx rfl (pc0 := 97) (pc' := 104) rfl (hb hby at_97) rfl ((if0 _ _).trans (teq hc606).1) (by decide) (by decide) k) ?_
          refine GoH.step (T' := T604) (f' := (mkF m 105 #[.val (.int ia), .val (.int ib), .val (.int ic), .val (.int ie), .val (.int ig), .val (.int zd), .val (.int zk), .val (.ref u387), .val (.ref u400), .val (.ref u417), .val (.ref u438), .val (.ref b462), .val (.ref b522), .unset, .unset] [(.int (0 : Int32))])) (fun t k => XS.iconst X604.here hx rfl (hb hby at_104) k) ?_
          refine GoH.step (T' := T604) (f' := (mkF m 107 #[.val (.int ia), .val (.int ib), .val (.int ic), .val (.int ie), .val (.int ig), .val (.int zd), .val (.int zk), .val (.ref u387), .val (.ref u400), .val (.ref u417), .val (.ref u438), .val (.ref b462), .val (.ref b522), .val (.int (0 : Int32)), .unset] [])) (fun t k => XS.istore X604.here hx rfl (hb hby at_105) rfl (l' := #[.val (.int ia), .val (.int ib), .val (.int ic), .val (.int ie), .val (.int ig), .val (.int zd), .val (.int zk), .val (.ref u387), .val (.ref u400), .val (.ref u417), .val (.ref u438), .val (.ref b462), .val (.ref b522), .val (.int (0 : Int32)), .unset]) rfl k) ?_
          refine GoH.step (T' := T604) (f' := (mkF m 108 #[.val (.int ia), .val (.int ib), .val (.int ic), .val (.int ie), .val (.int ig), .val (.int zd), .val (.int zk), .val (.ref u387), .val (.ref u400), .val (.ref u417), .val (.ref u438), .val (.ref b462), .val (.ref b522), .val (.int (0 : Int32)), .unset] [.null])) (fun t k => XS.aconstNull X604.here hx rfl (hb hby at_107) k) ?_
          refine GoH.step (T' := T604) (f' := (mkF m 110 #[.val (.int ia), .val (.int ib), .val (.int ic), .val (.int ie), .val (.int ig), .val (.int zd), .val (.int zk), .val (.ref u387), .val (.ref u400), .val (.ref u417), .val (.ref u438), .val (.ref b462), .val (.ref b522), .val (.int (0 : Int32)), .val .null] [])) (fun t k => XS.astore X604.here hx rfl (hb hby at_108) rfl rfl (l' := #[.val (.int ia), .val (.int ib), .val (.int ic), .val (.int ie), .val (.int ig), .val (.int zd), .val (.int zk), .val (.ref u387), .val (.ref u400), .val (.ref u417), .val (.ref u438), .val (.ref b462), .val (.ref b522), .val (.int (0 : Int32)), .val .null]) rfl k) ?_
          refine GoH.step (T' := T604) (f' := (mkF m 112 #[.val (.int ia), .val (.int ib), .val (.int ic), .val (.int ie), .val (.int ig), .val (.int zd), .val (.int zk), .val (.ref u387), .val (.ref u400), .val (.ref u417), .val (.ref u438), .val (.ref b462), .val (.ref b522), .val (.int (0 : Int32)), .val .null] [(.ref b462)])) (fun t k => XS.aload X604.here hx rfl (hb hby at_110) rfl rfl k) ?_
          refine GoH.step (T' := T604) (f' := (mkF m 114 #[.val (.int ia), .val (.int ib), .val (.int ic), .val (.int ie), .val (.int ig), .val (.int zd), .val (.int zk), .val (.ref u387), .val (.ref u400), .val (.ref u417), .val (.ref u438), .val (.ref b462), .val (.ref b522), .val (.int (0 : Int32)), .val .null] [(.ref b522), (.ref b462)])) (fun t k => XS.aload X604.here hx rfl (hb hby at_112) rfl rfl k) ?_
          obtain ⟨cq607, kq607, q607a, q607b, q607c⟩ := isOf hZ hh604 f583
          obtain ⟨_, _, ⟨T607, L607, k607, n607⟩, -, X607, ⟨Lc607, hQ607, l607, y607, z607⟩, st607⟩ := X604.virtualBack hx (y := (⟨"com/example/unwind/unwind/store/Outbox$Lane", "equals", "(Ljava/lang/Object;)Z"⟩ : MethodName)) (z := (⟨"com/example/unwind/unwind/store/Outbox$Lane", "equals", "(Ljava/lang/Object;)Z"⟩ : MethodName)) hown (mvT hZ (hw _ (List.mem_of_getElem? (i := 30) rfl))) (mvT hZ (hw _ (List.mem_of_getElem? (i := 31) rfl))) (notFace_of_selects (args := #[]) (mvT hZ (hw _ (List.mem_of_getElem? (i := 33) rfl)))) (mvT hZ (hw _ (List.mem_of_getElem? (i := 33) rfl))) (mvT hZ (hw _ (List.mem_of_getElem? (i := 32) rfl))) (by decide) (backOf (W := 0) (rm_leqL l Z a0 hw [] b462 b522 u387 u400 u417 u438 u388 u401 u418 u439 u389 u402 u419 u440 (own_str ia) (own_str ib) (own_str zd) (own_str zk) wz T559.heap n0 O587 p560 f584 f585 p561 p562 f567 f568 f569 f570 f571 f572 f573 f574 f575 f576 f577 f578 f579 f580 f581 f582 P0 hwz (own_strlen _) (own_strlen _) (own_strlen _) (own_strlen _)) hZ (hw _ (List.mem_of_getElem? (i := 34) rfl)) (hw _ (List.mem_of_getElem? (i := 14) rfl)) (by decide) (by decide)) q607a q607c (g := (mkF m 114 #[.val (.int ia), .val (.int ib), .val (.int ic), .val (.int ie), .val (.int ig), .val (.int zd), .val (.int zk), .val (.ref u387), .val (.ref u400), .val (.ref u417), .val (.ref u438), .val (.ref b462), .val (.ref b522), .val (.int (0 : Int32)), .val .null] [(.ref b522), (.ref b462)])) rfl (by rw [hml]; rfl) (Steps.refl _) (argsL := [(.ref b522)]) (rest := []) (lenOf pd10 rfl) rfl (by show 2 * 0 + _ ≤ _; exact Nat.le_of_eq rfl) (hb hby at_114) (fun _ _ => ⟨rfl, hh604, (by decide : 14 + 0 ≤ _), (by decide : 36 + 0 ≤ _)⟩)
          dsimp only [Pt.U, Pt.locs, Pt.cells, Pt.slots] at X607 l607 y607 z607 st607 hQ607
          subst l607 y607 z607
          obtain ⟨rfl, Nq607, hh607⟩ := hQ607
          have N608 := Fr.app N605 Nq607
          refine GoH.via (T' := T607) (f' := (mkF m 117 #[.val (.int ia), .val (.int ib), .val (.int ic), .val (.int ie), .val (.int ig), .val (.int zd), .val (.int zk), .val (.ref u387), .val (.ref u400), .val (.ref u417), .val (.ref u438), .val (.ref b462), .val (.ref b522), .val (.int (0 : Int32)), .val .null] [(.int (if (own_str zd) = (own_str ia) ∧ (own_str zk) = (own_str ib) then (1 : Int32) else 0))])) st607 ?_
          clear st607 X604 N605 Nq607
          refine GoH.step (T' := T607) (f' := (mkF m 119 #[.val (.int ia), .val (.int ib), .val (.int ic), .val (.int ie), .val (.int ig), .val (.int zd), .val (.int zk), .val (.ref u387), .val (.ref u400), .val (.ref u417), .val (.ref u438), .val (.ref b462), .val (.ref b522), .val (.int (0 : Int32)), .val .null] [(.int (0 : Int32)), (.int (if (own_str zd) = (own_str ia) ∧ (own_str zk) = (own_str ib) then (1 : Int32) else 0))])) (fun t k => XS.iload X607.here hx rfl (hb hby at_117) rfl k) ?_
          have hc609 : (if (own_str zd) = (own_str ia) ∧ (own_str zk) = (own_str ib) then (1 : Int32) else 0) = (0 : Int32) := by
            exact own_f2s hc591 hc606
          refine GoH.step (T' := T607) (f' := (mkF m 122 #[.val (.int ia), .val (.int ib), .val (.int ic), .val (.int ie), .val (.int ig), .val (.int zd), .val (.int zk), .val (.ref u387), .val (.ref u400), .val (.ref u417), .val (.ref u438), .val (.ref b462), .val (.ref b522), .val (.int (0 : Int32)), .val .null] [])) (fun t k => XS.icmpNo X607.here hx rfl (hb hby at_119) rfl (teq hc609).2 k) ?_
          refine GoH.step (T' := T607) (f' := (mkF m 124 #[.val (.int ia), .val (.int ib), .val (.int ic), .val (.int ie), .val (.int ig), .val (.int zd), .val (.int zk), .val (.ref u387), .val (.ref u400), .val (.ref u417), .val (.ref u438), .val (.ref b462), .val (.ref b522), .val (.int (0 : Int32)), .val .null] [(.ref b522)])) (fun t k => XS.aload X607.here hx rfl (hb hby at_122) rfl rfl k) ?_
          refine GoH.step (T' := T607) (f' := (mkF m 126 #[.val (.int ia), .val (.int ib), .val (.int ic), .val (.int ie), .val (.int ig), .val (.int zd), .val (.int zk), .val (.ref u387), .val (.ref u400), .val (.ref u417), .val (.ref u438), .val (.ref b462), .val (.ref b522), .val (.int (0 : Int32)), .val .null] [(.ref b462), (.ref b522)])) (fun t k => XS.aload X607.here hx rfl (hb hby at_124) rfl rfl k) ?_
          obtain ⟨cq610, kq610, q610a, q610b, q610c⟩ := isOf hZ hh607 p560
          obtain ⟨_, _, ⟨T610, L610, k610, n610⟩, -, X610, ⟨Lc610, hQ610, l610, y610, z610⟩, st610⟩ := X607.virtualBack hx (y := (⟨"com/example/unwind/unwind/store/Outbox$Lane", "equals", "(Ljava/lang/Object;)Z"⟩ : MethodName)) (z := (⟨"com/example/unwind/unwind/store/Outbox$Lane", "equals", "(Ljava/lang/Object;)Z"⟩ : MethodName)) hown (mvT hZ (hw _ (List.mem_of_getElem? (i := 30) rfl))) (mvT hZ (hw _ (List.mem_of_getElem? (i := 31) rfl))) (notFace_of_selects (args := #[]) (mvT hZ (hw _ (List.mem_of_getElem? (i := 33) rfl)))) (mvT hZ (hw _ (List.mem_of_getElem? (i := 33) rfl))) (mvT hZ (hw _ (List.mem_of_getElem? (i := 32) rfl))) (by decide) (backOf (W := 0) (rm_leqL l Z a0 hw [] b522 b462 u417 u438 u387 u400 u418 u439 u388 u401 u419 u440 u389 u402 (own_str zd) (own_str zk) (own_str ia) (own_str ib) wz T559.heap n0 O587 f583 p561 p562 f584 f585 f575 f576 f577 f578 f579 f580 f581 f582 f567 f568 f569 f570 f571 f572 f573 f574 P0 hwz (own_strlen _) (own_strlen _) (own_strlen _) (own_strlen _)) hZ (hw _ (List.mem_of_getElem? (i := 34) rfl)) (hw _ (List.mem_of_getElem? (i := 14) rfl)) (by decide) (by decide)) q610a q610c (g := (mkF m 126 #[.val (.int ia), .val (.int ib), .val (.int ic), .val (.int ie), .val (.int ig), .val (.int zd), .val (.int zk), .val (.ref u387), .val (.ref u400), .val (.ref u417), .val (.ref u438), .val (.ref b462), .val (.ref b522), .val (.int (0 : Int32)), .val .null] [(.ref b462), (.ref b522)])) rfl (by rw [hml]; rfl) (Steps.refl _) (argsL := [(.ref b462)]) (rest := []) (lenOf pd10 rfl) rfl (by show 2 * 0 + _ ≤ _; exact Nat.le_of_eq rfl) (hb hby at_126) (fun _ _ => ⟨rfl, hh607, (by decide : 14 + 0 ≤ _), (by decide : 36 + 0 ≤ _)⟩)
          dsimp only [Pt.U, Pt.locs, Pt.cells, Pt.slots] at X610 l610 y610 z610 st610 hQ610
          subst l610 y610 z610
          obtain ⟨rfl, Nq610, hh610⟩ := hQ610
          have N611 := Fr.app N608 Nq610
          refine GoH.via (T' := T610) (f' := (mkF m 129 #[.val (.int ia), .val (.int ib), .val (.int ic), .val (.int ie), .val (.int ig), .val (.int zd), .val (.int zk), .val (.ref u387), .val (.ref u400), .val (.ref u417), .val (.ref u438), .val (.ref b462), .val (.ref b522), .val (.int (0 : Int32)), .val .null] [(.int (if (own_str ia) = (own_str zd) ∧ (own_str ib) = (own_str zk) then (1 : Int32) else 0))])) st610 ?_
          clear st610 X607 N608 Nq610
          refine GoH.step (T' := T610) (f' := (mkF m 131 #[.val (.int ia), .val (.int ib), .val (.int ic), .val (.int ie), .val (.int ig), .val (.int zd), .val (.int zk), .val (.ref u387), .val (.ref u400), .val (.ref u417), .val (.ref u438), .val (.ref b462), .val (.ref b522), .val (.int (0 : Int32)), .val .null] [(.int (0 : Int32)), (.int (if (own_str ia) = (own_str zd) ∧ (own_str ib) = (own_str zk) then (1 : Int32) else 0))])) (fun t k => XS.iload X610.here hx rfl (hb hby at_129) rfl k) ?_
          have hc612 : (if (own_str ia) = (own_str zd) ∧ (own_str ib) = (own_str zk) then (1 : Int32) else 0) = (0 : Int32) := by
            exact own_f2 hc591 hc606
          refine GoH.step (T' := T610) (f' := (mkF m 134 #[.val (.int ia), .val (.int ib), .val (.int ic), .val (.int ie), .val (.int ig), .val (.int zd), .val (.int zk), .val (.ref u387), .val (.ref u400), .val (.ref u417), .val (.ref u438), .val (.ref b462), .val (.ref b522), .val (.int (0 : Int32)), .val .null] [])) (fun t k => XS.icmpNo X610.here hx rfl (hb hby at_131) rfl (teq hc612).2 k) ?_
          refine GoH.step (T' := T610) (f' := (mkF m 136 #[.val (.int ia), .val (.int ib), .val (.int ic), .val (.int ie), .val (.int ig), .val (.int zd), .val (.int zk), .val (.ref u387), .val (.ref u400), .val (.ref u417), .val (.ref u438), .val (.ref b462), .val (.ref b522), .val (.int (0 : Int32)), .val .null] [(.ref b462)])) (fun t k => XS.aload X610.here hx rfl (hb hby at_134) rfl rfl k) ?_
          refine GoH.step (T' := T610) (f' := (mkF m 138 #[.val (.int ia), .val (.int ib), .val (.int ic), .val (.int ie), .val (.int ig), .val (.int zd), .val (.int zk), .val (.ref u387), .val (.ref u400), .val (.ref u417), .val (.ref u438), .val (.ref b462), .val (.ref b522), .val (.int (0 : Int32)), .val .null] [(.ref b462), (.ref b462)])) (fun t k => XS.aload X610.here hx rfl (hb hby at_136) rfl rfl k) ?_
          obtain ⟨cq613, kq613, q613a, q613b, q613c⟩ := isOf hZ hh610 f583
          obtain ⟨_, _, ⟨T613, L613, k613, n613⟩, -, X613, ⟨Lc613, hQ613, l613, y613, z613⟩, st613⟩ := X610.virtualBack hx (y := (⟨"com/example/unwind/unwind/store/Outbox$Lane", "equals", "(Ljava/lang/Object;)Z"⟩ : MethodName)) (z := (⟨"com/example/unwind/unwind/store/Outbox$Lane", "equals", "(Ljava/lang/Object;)Z"⟩ : MethodName)) hown (mvT hZ (hw _ (List.mem_of_getElem? (i := 30) rfl))) (mvT hZ (hw _ (List.mem_of_getElem? (i := 31) rfl))) (notFace_of_selects (args := #[]) (mvT hZ (hw _ (List.mem_of_getElem? (i := 33) rfl)))) (mvT hZ (hw _ (List.mem_of_getElem? (i := 33) rfl))) (mvT hZ (hw _ (List.mem_of_getElem? (i := 32) rfl))) (by decide) (backOf (W := 0) (rm_leq1 l Z a0 hw [] b462 u387 u400 T559.heap n0 O587 f583 f584 f585 f567 f571) hZ (hw _ (List.mem_of_getElem? (i := 34) rfl)) (hw _ (List.mem_of_getElem? (i := 14) rfl)) (by decide) (by decide)) q613a q613c (g := (mkF m 138 #[.val (.int ia), .val (.int ib), .val (.int ic), .val (.int ie), .val (.int ig), .val (.int zd), .val (.int zk), .val (.ref u387), .val (.ref u400), .val (.ref u417), .val (.ref u438), .val (.ref b462), .val (.ref b522), .val (.int (0 : Int32)), .val .null] [(.ref b462), (.ref b462)])) rfl (by rw [hml]; rfl) (Steps.refl _) (argsL := [(.ref b462)]) (rest := []) (lenOf pd10 rfl) rfl (by show 2 * 0 + _ ≤ _; exact Nat.le_of_eq rfl) (hb hby at_138) (fun _ _ => ⟨rfl, hh610, (by decide : 14 + 0 ≤ _), (by decide : 36 + 0 ≤ _)⟩)
          dsimp only [Pt.U, Pt.locs, Pt.cells, Pt.slots] at X613 l613 y613 z613 st613 hQ613
          subst l613 y613 z613
          obtain ⟨rfl, Nq613, hh613⟩ := hQ613
          have N614 := Fr.app N611 Nq613
          refine GoH.via (T' := T613) (f' := (mkF m 141 #[.val (.int ia), .val (.int ib), .val (.int ic), .val (.int ie), .val (.int ig), .val (.int zd), .val (.int zk), .val (.ref u387), .val (.ref u400), .val (.ref u417), .val (.ref u438), .val (.ref b462), .val (.ref b522), .val (.int (0 : Int32)), .val .null] [(.int (1 : Int32))])) st613 ?_
          clear st613 X610 N611 Nq613
          refine GoH.step (T' := T613) (f' := (mkF m 144 #[.val (.int ia), .val (.int ib), .val (.int ic), .val (.int ie), .val (.int ig), .val (.int zd), .val (.int zk), .val (.ref u387), .val (.ref u400), .val (.ref u417), .val (.ref u438), .val (.ref b462), .val (.ref b522), .val (.int (0 : Int32)), .val .null] [])) (fun t k => XS.ifNo X613.here hx rfl (hb hby at_141) rfl ((if0 _ _).trans (feq (by decide : ¬ ((1 : Int32) = (0 : Int32)))).1) k) ?_
          refine GoH.step (T' := T613) (f' := (mkF m 146 #[.val (.int ia), .val (.int ib), .val (.int ic), .val (.int ie), .val (.int ig), .val (.int zd), .val (.int zk), .val (.ref u387), .val (.ref u400), .val (.ref u417), .val (.ref u438), .val (.ref b462), .val (.ref b522), .val (.int (0 : Int32)), .val .null] [(.ref b462)])) (fun t k => XS.aload X613.here hx rfl (hb hby at_144) rfl rfl k) ?_
          refine GoH.step (T' := T613) (f' := (mkF m 148 #[.val (.int ia), .val (.int ib), .val (.int ic), .val (.int ie), .val (.int ig), .val (.int zd), .val (.int zk), .val (.ref u387), .val (.ref u400), .val (.ref u417), .val (.ref u438), .val (.ref b462), .val (.ref b522), .val (.int (0 : Int32)), .val .null] [.null, (.ref b462)])) (fun t k => XS.aload X613.here hx rfl (hb hby at_146) rfl rfl k) ?_
          obtain ⟨cq615, kq615, q615a, q615b, q615c⟩ := isOf hZ hh613 f583
          obtain ⟨_, _, ⟨T615, L615, k615, n615⟩, -, X615, ⟨Lc615, hQ615, l615, y615, z615⟩, st615⟩ := X613.virtualBack hx (y := (⟨"com/example/unwind/unwind/store/Outbox$Lane", "equals", "(Ljava/lang/Object;)Z"⟩ : MethodName)) (z := (⟨"com/example/unwind/unwind/store/Outbox$Lane", "equals", "(Ljava/lang/Object;)Z"⟩ : MethodName)) hown (mvT hZ (hw _ (List.mem_of_getElem? (i := 30) rfl))) (mvT hZ (hw _ (List.mem_of_getElem? (i := 31) rfl))) (notFace_of_selects (args := #[]) (mvT hZ (hw _ (List.mem_of_getElem? (i := 33) rfl)))) (mvT hZ (hw _ (List.mem_of_getElem? (i := 33) rfl))) (mvT hZ (hw _ (List.mem_of_getElem? (i := 32) rfl))) (by decide) (backOf (W := 0) (rm_leqN l Z a0 hw [] b462 T559.heap n0 O587 ) hZ (hw _ (List.mem_of_getElem? (i := 34) rfl)) (hw _ (List.mem_of_getElem? (i := 14) rfl)) (by decide) (by decide)) q615a q615c (g := (mkF m 148 #[.val (.int ia), .val (.int ib), .val (.int ic), .val (.int ie), .val (.int ig), .val (.int zd), .val (.int zk), .val (.ref u387), .val (.ref u400), .val (.ref u417), .val (.ref u438), .val (.ref b462), .val (.ref b522), .val (.int (0 : Int32)), .val .null] [.null, (.ref b462)])) rfl (by rw [hml]; rfl) (Steps.refl _) (argsL := [.null]) (rest := []) (lenOf pd10 rfl) rfl (by show 2 * 0 + _ ≤ _; exact Nat.le_of_eq rfl) (hb hby at_148) (fun _ _ => ⟨rfl, hh613, (by decide : 14 + 0 ≤ _), (by decide : 36 + 0 ≤ _)⟩)
          dsimp only [Pt.U, Pt.locs, Pt.cells, Pt.slots] at X615 l615 y615 z615 st615 hQ615
          subst l615 y615 z615
          obtain ⟨rfl, Nq615, hh615⟩ := hQ615
          have N616 := Fr.app N614 Nq615
          refine GoH.via (T' := T615) (f' := (mkF m 151 #[.val (.int ia), .val (.int ib), .val (.int ic), .val (.int ie), .val (.int ig), .val (.int zd), .val (.int zk), .val (.ref u387), .val (.ref u400), .val (.ref u417), .val (.ref u438), .val (.ref b462), .val (.ref b522), .val (.int (0 : Int32)), .val .null] [(.int (0 : Int32))])) st615 ?_
          clear st615 X613 N614 Nq615
          refine GoH.step (T' := T615) (f' := (mkF m 154 #[.val (.int ia), .val (.int ib), .val (.int ic), .val (.int ie), .val (.int ig), .val (.int zd), .val (.int zk), .val (.ref u387), .val (.ref u400), .val (.ref u417), .val (.ref u438), .val (.ref b462), .val (.ref b522), .val (.int (0 : Int32)), .val .null] [])) (fun t k => XS.ifNo X615.here hx rfl (hb hby at_151) rfl ((if0 _ _).trans (teq (by decide : (0 : Int32) = (0 : Int32))).2) k) ?_
          refine GoH.step (T' := T615) (f' := (mkF m 156 #[.val (.int ia), .val (.int ib), .val (.int ic), .val (.int ie), .val (.int ig), .val (.int zd), .val (.int zk), .val (.ref u387), .val (.ref u400), .val (.ref u417), .val (.ref u438), .val (.ref b462), .val (.ref b522), .val (.int (0 : Int32)), .val .null] [(.ref b462)])) (fun t k => XS.aload X615.here hx rfl (hb hby at_154) rfl rfl k) ?_
          refine GoH.step (T' := T615) (f' := (mkF m 158 #[.val (.int ia), .val (.int ib), .val (.int ic), .val (.int ie), .val (.int ig), .val (.int zd), .val (.int zk), .val (.ref u387), .val (.ref u400), .val (.ref u417), .val (.ref u438), .val (.ref b462), .val (.ref b522), .val (.int (0 : Int32)), .val .null] [(.ref u387), (.ref b462)])) (fun t k => XS.aload X615.here hx rfl (hb hby at_156) rfl rfl k) ?_
          obtain ⟨cq617, kq617, q617a, q617b, q617c⟩ := isOf hZ hh615 f583
          obtain ⟨_, _, ⟨T617, L617, k617, n617⟩, -, X617, ⟨Lc617, hQ617, l617, y617, z617⟩, st617⟩ := X615.virtualBack hx (y := (⟨"com/example/unwind/unwind/store/Outbox$Lane", "equals", "(Ljava/lang/Object;)Z"⟩ : MethodName)) (z := (⟨"com/example/unwind/unwind/store/Outbox$Lane", "equals", "(Ljava/lang/Object;)Z"⟩ : MethodName)) hown (mvT hZ (hw _ (List.mem_of_getElem? (i := 30) rfl))) (mvT hZ (hw _ (List.mem_of_getElem? (i := 31) rfl))) (notFace_of_selects (args := #[]) (mvT hZ (hw _ (List.mem_of_getElem? (i := 33) rfl)))) (mvT hZ (hw _ (List.mem_of_getElem? (i := 33) rfl))) (mvT hZ (hw _ (List.mem_of_getElem? (i := 32) rfl))) (by decide) (backOf (W := 0) (rm_leqS l Z a0 hw [] b462 u387 T559.heap n0 O587 f567) hZ (hw _ (List.mem_of_getElem? (i := 34) rfl)) (hw _ (List.mem_of_getElem? (i := 14) rfl)) (by decide) (by decide)) q617a q617c (g := (mkF m 158 #[.val (.int ia), .val (.int ib), .val (.int ic), .val (.int ie), .val (.int ig), .val (.int zd), .val (.int zk), .val (.ref u387), .val (.ref u400), .val (.ref u417), .val (.ref u438), .val (.ref b462), .val (.ref b522), .val (.int (0 : Int32)), .val .null] [(.ref u387), (.ref b462)])) rfl (by rw [hml]; rfl) (Steps.refl _) (argsL := [(.ref u387)]) (rest := []) (lenOf pd10 rfl) rfl (by show 2 * 0 + _ ≤ _; exact Nat.le_of_eq rfl) (hb hby at_158) (fun _ _ => ⟨rfl, hh615, (by decide : 14 + 0 ≤ _), (by decide : 36 + 0 ≤ _)⟩)
          dsimp only [Pt.U, Pt.locs, Pt.cells, Pt.slots] at X617 l617 y617 z617 st617 hQ617
          subst l617 y617 z617
          obtain ⟨rfl, Nq617, hh617⟩ := hQ617
          have N618 := Fr.app N616 Nq617
          refine GoH.via (T' := T617) (f' := (mkF m 161 #[.val (.int ia), .val (.int ib), .val (.int ic), .val (.int ie), .val (.int ig), .val (.int zd), .val (.int zk), .val (.ref u387), .val (.ref u400), .val (.ref u417), .val (.ref u438), .val (.ref b462), .val (.ref b522), .val (.int (0 : Int32)), .val .null] [(.int (0 : Int32))])) st617 ?_
          clear st617 X615 N616 Nq617
          refine GoH.step (T' := T617) (f' := (mkF m 164 #[.val (.int ia), .val (.int ib), .val (.int ic), .val (.int ie), .val (.int ig), .val (.int zd), .val (.int zk), .val (.ref u387), .val (.ref u400), .val (.ref u417), .val (.ref u438), .val (.ref b462), .val (.ref b522), .val (.int (0 : Int32)), .val .null] [])) (fun t k => XS.ifNo X617.here hx rfl (hb hby at_161) rfl ((if0 _ _).trans (teq (by decide : (0 : Int32) = (0 : Int32))).2) k) ?_
          refine GoH.step (T' := T617) (f' := (mkF m 165 #[.val (.int ia), .val (.int ib), .val (.int ic), .val (.int ie), .val (.int ig), .val (.int zd), .val (.int zk), .val (.ref u387), .val (.ref u400), .val (.ref u417), .val (.ref u438), .val (.ref b462), .val (.ref b522), .val (.int (0 : Int32)), .val .null] [(.int (1 : Int32))])) (fun t k => XS.iconst X617.here hx rfl (hb hby at_164) k) ?_
          refine GoH.step (T' := T617) (f' := (mkF m 169 #[.val (.int ia), .val (.int ib), .val (.int ic), .val (.int ie), .val (.int ig), .val (.int zd), .val (.int zk), .val (.ref u387), .val (.ref u400), .val (.ref u417), .val (.ref u438), .val (.ref b462), .val (.ref b522), .val (.int (0 : Int32)), .val .null] [(.int (1 : Int32))])) (fun t k => XS.goto X617.here hx rfl (pc0 := 165) (pc' := 169) rfl (hb hby at_165) (by decide) (by decide) k) ?_
          refine GoH.fin X617 hZ hEL hS437 hk566 CR565 hlk (v := some (.int (nar .boolean (1 : Int32)))) (fun h => by rw [Bd.returns] at h; cases h) (fun fs hr => retN X617 hx (t := .boolean) Bd.returns (by simp) (hb hby at_169) hr) hh617 ?_ (by decide) (by decide)
          exact ⟨rfl, N618, K588⟩
        ·
          refine GoH.step (T' := T604) (f' := (mkF m 100 #[.val (.int ia), .val (.int ib), .val (.int ic), .val (.int ie), .val (.int ig), .val (.int zd), .val (.int zk), .val (.ref u387), .val (.ref u400), .val (.ref u417), .val (.ref u438), .val (.ref b462), .val (.ref b522), .unset, .unset] [])) (fun t k => XS.ifNo X604.here hx rfl (hb hby at_97) rfl ((if0 _ _).trans (feq hc606).1) k) ?_
          refine GoH.step (T' := T604) (f' := (mkF m 101 #[.val (.int ia), .val (.int ib), .val (.int ic), .val (.int ie), .val (.int ig), .val (.int zd), .val (.int zk), .val (.ref u387), .val (.ref u400), .val (.ref u417), .val (.ref u438), .val (.ref b462), .val (.ref b522), .unset, .unset] [(.int (1 : Int32))])) (fun t k => XS.iconst X604.here hx rfl (hb hby at_100) k) ?_
          refine GoH.step (T' := T604) (f' := (mkF m 105 #[.val (.int ia), .val (.int ib), .val (.int ic), .val (.int ie), .val (.int ig), .val (.int zd), .val (.int zk), .val (.ref u387), .val (.ref u400), .val (.ref u417), .val (.ref u438), .val (.ref b462), .val (.ref b522), .unset, .unset] [(.int (1 : Int32))])) (fun t k => XS.goto X604.here hx rfl (pc0 := 101) (pc' := 105) rfl (hb hby at_101) (by decide) (by decide) k) ?_
          refine GoH.step (T' := T604) (f' := (mkF m 107 #[.val (.int ia), .val (.int ib), .val (.int ic), .val (.int ie), .val (.int ig), .val (.int zd), .val (.int zk), .val (.ref u387), .val (.ref u400), .val (.ref u417), .val (.ref u438), .val (.ref b462), .val (.ref b522), .val (.int (1 : Int32)), .unset] [])) (fun t k => XS.istore X604.here hx rfl (hb hby at_105) rfl (l' := #[.val (.int ia), .val (.int ib), .val (.int ic), .val (.int ie), .val (.int ig), .val (.int zd), .val (.int zk), .val (.ref u387), .val (.ref u400), .val (.ref u417), .val (.ref u438), .val (.ref b462), .val (.ref b522), .val (.int (1 : Int32)), .unset]) rfl k) ?_
          refine GoH.step (T' := T604) (f' := (mkF m 108 #[.val (.int ia), .val (.int ib), .val (.int ic), .val (.int ie), .val (.int ig), .val (.int zd), .val (.int zk), .val (.ref u387), .val (.ref u400), .val (.ref u417), .val (.ref u438), .val (.ref b462), .val (.ref b522), .val (.int (1 : Int32)), .unset] [.null])) (fun t k => XS.aconstNull X604.here hx rfl (hb hby at_107) k) ?_
          refine GoH.step (T' := T604) (f' := (mkF m 110 #[.val (.int ia), .val (.int ib), .val (.int ic), .val (.int ie), .val (.int ig), .val (.int zd), .val (.int zk), .val (.ref u387), .val (.ref u400), .val (.ref u417), .val (.ref u438), .val (.ref b462), .val (.ref b522), .val (.int (1 : Int32)), .val .null] [])) (fun t k => XS.astore X604.here hx rfl (hb hby at_108) rfl rfl (l' := #[.val (.int ia), .val (.int ib), .val (.int ic), .val (.int ie), .val (.int ig), .val (.int zd), .val (.int zk), .val (.ref u387), .val (.ref u400), .val (.ref u417), .val (.ref u438), .val (.ref b462), .val (.ref b522), .val (.int (1 : Int32)), .val .null]) rfl k) ?_
          refine GoH.step (T' := T604) (f' := (mkF m 112 #[.val (.int ia), .val (.int ib), .val (.int ic), .val (.int ie), .val (.int ig), .val (.int zd), .val (.int zk), .val (.ref u387), .val (.ref u400), .val (.ref u417), .val (.ref u438), .val (.ref b462), .val (.ref b522), .val (.int (1 : Int32)), .val .null] [(.ref b462)])) (fun t k => XS.aload X604.here hx rfl (hb hby at_110) rfl rfl k) ?_
          refine GoH.step (T' := T604) (f' := (mkF m 114 #[.val (.int ia), .val (.int ib), .val (.int ic), .val (.int ie), .val (.int ig), .val (.int zd), .val (.int zk), .val (.ref u387), .val (.ref u400), .val (.ref u417), .val (.ref u438), .val (.ref b462), .val (.ref b522), .val (.int (1 : Int32)), .val .null] [(.ref b522), (.ref b462)])) (fun t k => XS.aload X604.here hx rfl (hb hby at_112) rfl rfl k) ?_
          obtain ⟨cq619, kq619, q619a, q619b, q619c⟩ := isOf hZ hh604 f583
          obtain ⟨_, _, ⟨T619, L619, k619, n619⟩, -, X619, ⟨Lc619, hQ619, l619, y619, z619⟩, st619⟩ := X604.virtualBack hx (y := (⟨"com/example/unwind/unwind/store/Outbox$Lane", "equals", "(Ljava/lang/Object;)Z"⟩ : MethodName)) (z := (⟨"com/example/unwind/unwind/store/Outbox$Lane", "equals", "(Ljava/lang/Object;)Z"⟩ : MethodName)) hown (mvT hZ (hw _ (List.mem_of_getElem? (i := 30) rfl))) (mvT hZ (hw _ (List.mem_of_getElem? (i := 31) rfl))) (notFace_of_selects (args := #[]) (mvT hZ (hw _ (List.mem_of_getElem? (i := 33) rfl)))) (mvT hZ (hw _ (List.mem_of_getElem? (i := 33) rfl))) (mvT hZ (hw _ (List.mem_of_getElem? (i := 32) rfl))) (by decide) (backOf (W := 0) (rm_leqL l Z a0 hw [] b462 b522 u387 u400 u417 u438 u388 u401 u418 u439 u389 u402 u419 u440 (own_str ia) (own_str ib) (own_str zd) (own_str zk) wz T559.heap n0 O587 p560 f584 f585 p561 p562 f567 f568 f569 f570 f571 f572 f573 f574 f575 f576 f577 f578 f579 f580 f581 f582 P0 hwz (own_strlen _) (own_strlen _) (own_strlen _) (own_strlen _)) hZ (hw _ (List.mem_of_getElem? (i := 34) rfl)) (hw _ (List.mem_of_getElem? (i := 14) rfl)) (by decide) (by decide)) q619a q619c (g := (mkF m 114 #[.val (.int ia), .val (.int ib), .val (.int ic), .val (.int ie), .val (.int ig), .val (.int zd), .val (.int zk), .val (.ref u387), .val (.ref u400), .val (.ref u417), .val (.ref u438), .val (.ref b462), .val (.ref b522), .val (.int (1 : Int32)), .val .null] [(.ref b522), (.ref b462)])) rfl (by rw [hml]; rfl) (Steps.refl _) (argsL := [(.ref b522)]) (rest := []) (lenOf pd10 rfl) rfl (by show 2 * 0 + _ ≤ _; exact Nat.le_of_eq rfl) (hb hby at_114) (fun _ _ => ⟨rfl, hh604, (by decide : 14 + 0 ≤ _), (by decide : 36 + 0 ≤ _)⟩)
          dsimp only [Pt.U, Pt.locs, Pt.cells, Pt.slots] at X619 l619 y619 z619 st619 hQ619
          subst l619 y619 z619
          obtain ⟨rfl, Nq619, hh619⟩ := hQ619
          have N620 := Fr.app N605 Nq619
          refine GoH.via (T' := T619) (f' := (mkF m 117 #[.val (.int ia), .val (.int ib), .val (.int ic), .val (.int ie), .val (.int ig), .val (.int zd), .val (.int zk), .val (.ref u387), .val (.ref u400), .val (.ref u417), .val (.ref u438), .val (.ref b462), .val (.ref b522), .val (.int (1 : Int32)), .val .null] [(.int (if (own_str zd) = (own_str ia) ∧ (own_str zk) = (own_str ib) then (1 : Int32) else 0))])) st619 ?_
          clear st619 X604 N605 Nq619
          refine GoH.step (T' := T619) (f' := (mkF m 119 #[.val (.int ia), .val (.int ib), .val (.int ic), .val (.int ie), .val (.int ig), .val (.int zd), .val (.int zk), .val (.ref u387), .val (.ref u400), .val (.ref u417), .val (.ref u438), .val (.ref b462), .val (.ref b522), .val (.int (1 : Int32)), .val .null] [(.int (1 : Int32)), (.int (if (own_str zd) = (own_str ia) ∧ (own_str zk) = (own_str ib) then (1 : Int32) else 0))])) (fun t k => XS.iload X619.here hx rfl (hb hby at_117) rfl k) ?_
          have hc621 : (if (own_str zd) = (own_str ia) ∧ (own_str zk) = (own_str ib) then (1 : Int32) else 0) = (1 : Int32) := by
            exact own_f3s hc591 hc606
          refine GoH.step (T' := T619) (f' := (mkF m 122 #[.val (.int ia), .val (.int ib), .val (.int ic), .val (.int ie), .val (.int ig), .val (.int zd), .val (.int zk), .val (.ref u387), .val (.ref u400), .val (.ref u417), .val (.ref u438), .val (.ref b462), .val (.ref b522), .val (.int (1 : Int32)), .val .null] [])) (fun t k => XS.icmpNo X619.here hx rfl (hb hby at_119) rfl (teq hc621).2 k) ?_
          refine GoH.step (T' := T619) (f' := (mkF m 124 #[.val (.int ia), .val (.int ib), .val (.int ic), .val (.int ie), .val (.int ig), .val (.int zd), .val (.int zk), .val (.ref u387), .val (.ref u400), .val (.ref u417), .val (.ref u438), .val (.ref b462), .val (.ref b522), .val (.int (1 : Int32)), .val .null] [(.ref b522)])) (fun t k => XS.aload X619.here hx rfl (hb hby at_122) rfl rfl k) ?_
          refine GoH.step (T' := T619) (f' := (mkF m 126 #[.val (.int ia), .val (.int ib), .val (.int ic), .val (.int ie), .val (.int ig), .val (.int zd), .val (.int zk), .val (.ref u387), .val (.ref u400), .val (.ref u417), .val (.ref u438), .val (.ref b462), .val (.ref b522), .val (.int (1 : Int32)), .val .null] [(.ref b462), (.ref b522)])) (fun t k => XS.aload X619.here hx rfl (hb hby at_124) rfl rfl k) ?_
          obtain ⟨cq622, kq622, q622a, q622b, q622c⟩ := isOf hZ hh619 p560
          obtain ⟨_, _, ⟨T622, L622, k622, n622⟩, -, X622, ⟨Lc622, hQ622, l622, y622, z622⟩, st622⟩ := X619.virtualBack hx (y := (⟨"com/example/unwind/unwind/store/Outbox$Lane", "equals", "(Ljava/lang/Object;)Z"⟩ : MethodName)) (z := (⟨"com/example/unwind/unwind/store/Outbox$Lane", "equals", "(Ljava/lang/Object;)Z"⟩ : MethodName)) hown (mvT hZ (hw _ (List.mem_of_getElem? (i := 30) rfl))) (mvT hZ (hw _ (List.mem_of_getElem? (i := 31) rfl))) (notFace_of_selects (args := #[]) (mvT hZ (hw _ (List.mem_of_getElem? (i := 33) rfl)))) (mvT hZ (hw _ (List.mem_of_getElem? (i := 33) rfl))) (mvT hZ (hw _ (List.mem_of_getElem? (i := 32) rfl))) (by decide) (backOf (W := 0) (rm_leqL l Z a0 hw [] b522 b462 u417 u438 u387 u400 u418 u439 u388 u401 u419 u440 u389 u402 (own_str zd) (own_str zk) (own_str ia) (own_str ib) wz T559.heap n0 O587 f583 p561 p562 f584 f585 f575 f576 f577 f578 f579 f580 f581 f582 f567 f568 f569 f570 f571 f572 f573 f574 P0 hwz (own_strlen _) (own_strlen _) (own_strlen _) (own_strlen _)) hZ (hw _ (List.mem_of_getElem? (i := 34) rfl)) (hw _ (List.mem_of_getElem? (i := 14) rfl)) (by decide) (by decide)) q622a q622c (g := (mkF m 126 #[.val (.int ia), .val (.int ib), .val (.int ic), .val (.int ie), .val (.int ig), .val (.int zd), .val (.int zk), .val (.ref u387), .val (.ref u400), .val (.ref u417), .val (.ref u438), .val (.ref b462), .val (.ref b522), .val (.int (1 : Int32)), .val .null] [(.ref b462), (.ref b522)])) rfl (by rw [hml]; rfl) (Steps.refl _) (argsL := [(.ref b462)]) (rest := []) (lenOf pd10 rfl) rfl (by show 2 * 0 + _ ≤ _; exact Nat.le_of_eq rfl) (hb hby at_126) (fun _ _ => ⟨rfl, hh619, (by decide : 14 + 0 ≤ _), (by decide : 36 + 0 ≤ _)⟩)
          dsimp only [Pt.U, Pt.locs, Pt.cells, Pt.slots] at X622 l622 y622 z622 st622 hQ622
          subst l622 y622 z622
          obtain ⟨rfl, Nq622, hh622⟩ := hQ622
          have N623 := Fr.app N620 Nq622
          refine GoH.via (T' := T622) (f' := (mkF m 129 #[.val (.int ia), .val (.int ib), .val (.int ic), .val (.int ie), .val (.int ig), .val (.int zd), .val (.int zk), .val (.ref u387), .val (.ref u400), .val (.ref u417), .val (.ref u438), .val (.ref b462), .val (.ref b522), .val (.int (1 : Int32)), .val .null] [(.int (if (own_str ia) = (own_str zd) ∧ (own_str ib) = (own_str zk) then (1 : Int32) else 0))])) st622 ?_
          clear st622 X619 N620 Nq622
          refine GoH.step (T' := T622) (f' := (mkF m 131 #[.val (.int ia), .val (.int ib), .val (.int ic), .val (.int ie), .val (.int ig), .val (.int zd), .val (.int zk), .val (.ref u387), .val (.ref u400), .val (.ref u417), .val (.ref u438), .val (.ref b462), .val (.ref b522), .val (.int (1 : Int32)), .val .null] [(.int (1 : Int32)), (.int (if (own_str ia) = (own_str zd) ∧ (own_str ib) = (own_str zk) then (1 : Int32) else 0))])) (fun t k => XS.iload X622.here hx rfl (hb hby at_129) rfl k) ?_
          have hc624 : (if (own_str ia) = (own_str zd) ∧ (own_str ib) = (own_str zk) then (1 : Int32) else 0) = (1 : Int32) := by
            exact own_f3 hc591 hc606
          refine GoH.step (T' := T622) (f' := (mkF m 134 #[.val (.int ia), .val (.int ib), .val (.int ic), .val (.int ie), .val (.int ig), .val (.int zd), .val (.int zk), .val (.ref u387), .val (.ref u400), .val (.ref u417), .val (.ref u438), .val (.ref b462), .val (.ref b522), .val (.int (1 : Int32)), .val .null] [])) (fun t k => XS.icmpNo X622.here hx rfl (hb hby at_131) rfl (teq hc624).2 k) ?_
          refine GoH.step (T' := T622) (f' := (mkF m 136 #[.val (.int ia), .val (.int ib), .val (.int ic), .val (.int ie), .val (.int ig), .val (.int zd), .val (.int zk), .val (.ref u387), .val (.ref u400), .val (.ref u417), .val (.ref u438), .val (.ref b462), .val (.ref b522), .val (.int (1 : Int32)), .val .null] [(.ref b462)])) (fun t k => XS.aload X622.here hx rfl (hb hby at_134) rfl rfl k) ?_
          refine GoH.step (T' := T622) (f' := (mkF m 138 #[.val (.int ia), .val (.int ib), .val (.int ic), .val (.int ie), .val (.int ig), .val (.int zd), .val (.int zk), .val (.ref u387), .val (.ref u400), .val (.ref u417), .val (.ref u438), .val (.ref b462), .val (.ref b522), .val (.int (1 : Int32)), .val .null] [(.ref b462), (.ref b462)])) (fun t k => XS.aload X622.here hx rfl (hb hby at_136) rfl rfl k) ?_
          obtain ⟨cq625, kq625, q625a, q625b, q625c⟩ := isOf hZ hh622 f583
          obtain ⟨_, _, ⟨T625, L625, k625, n625⟩, -, X625, ⟨Lc625, hQ625, l625, y625, z625⟩, st625⟩ := X622.virtualBack hx (y := (⟨"com/example/unwind/unwind/store/Outbox$Lane", "equals", "(Ljava/lang/Object;)Z"⟩ : MethodName)) (z := (⟨"com/example/unwind/unwind/store/Outbox$Lane", "equals", "(Ljava/lang/Object;)Z"⟩ : MethodName)) hown (mvT hZ (hw _ (List.mem_of_getElem? (i := 30) rfl))) (mvT hZ (hw _ (List.mem_of_getElem? (i := 31) rfl))) (notFace_of_selects (args := #[]) (mvT hZ (hw _ (List.mem_of_getElem? (i := 33) rfl)))) (mvT hZ (hw _ (List.mem_of_getElem? (i := 33) rfl))) (mvT hZ (hw _ (List.mem_of_getElem? (i := 32) rfl))) (by decide) (backOf (W := 0) (rm_leq1 l Z a0 hw [] b462 u387 u400 T559.heap n0 O587 f583 f584 f585 f567 f571) hZ (hw _ (List.mem_of_getElem? (i := 34) rfl)) (hw _ (List.mem_of_getElem? (i := 14) rfl)) (by decide) (by decide)) q625a q625c (g := (mkF m 138 #[.val (.int ia), .val (.int ib), .val (.int ic), .val (.int ie), .val (.int ig), .val (.int zd), .val (.int zk), .val (.ref u387), .val (.ref u400), .val (.ref u417), .val (.ref u438), .val (.ref b462), .val (.ref b522), .val (.int (1 : Int32)), .val .null] [(.ref b462), (.ref b462)])) rfl (by rw [hml]; rfl) (Steps.refl _) (argsL := [(.ref b462)]) (rest := []) (lenOf pd10 rfl) rfl (by show 2 * 0 + _ ≤ _; exact Nat.le_of_eq rfl) (hb hby at_138) (fun _ _ => ⟨rfl, hh622, (by decide : 14 + 0 ≤ _), (by decide : 36 + 0 ≤ _)⟩)
          dsimp only [Pt.U, Pt.locs, Pt.cells, Pt.slots] at X625 l625 y625 z625 st625 hQ625
          subst l625 y625 z625
          obtain ⟨rfl, Nq625, hh625⟩ := hQ625
          have N626 := Fr.app N623 Nq625
          refine GoH.via (T' := T625) (f' := (mkF m 141 #[.val (.int ia), .val (.int ib), .val (.int ic), .val (.int ie), .val (.int ig), .val (.int zd), .val (.int zk), .val (.ref u387), .val (.ref u400), .val (.ref u417), .val (.ref u438), .val (.ref b462), .val (.ref b522), .val (.int (1 : Int32)), .val .null] [(.int (1 : Int32))])) st625 ?_
          clear st625 X622 N623 Nq625
          refine GoH.step (T' := T625) (f' := (mkF m 144 #[.val (.int ia), .val (.int ib), .val (.int ic), .val (.int ie), .val (.int ig), .val (.int zd), .val (.int zk), .val (.ref u387), .val (.ref u400), .val (.ref u417), .val (.ref u438), .val (.ref b462), .val (.ref b522), .val (.int (1 : Int32)), .val .null] [])) (fun t k => XS.ifNo X625.here hx rfl (hb hby at_141) rfl ((if0 _ _).trans (feq (by decide : ¬ ((1 : Int32) = (0 : Int32)))).1) k) ?_
          refine GoH.step (T' := T625) (f' := (mkF m 146 #[.val (.int ia), .val (.int ib), .val (.int ic), .val (.int ie), .val (.int ig), .val (.int zd), .val (.int zk), .val (.ref u387), .val (.ref u400), .val (.ref u417), .val (.ref u438), .val (.ref b462), .val (.ref b522), .val (.int (1 : Int32)), .val .null] [(.ref b462)])) (fun t k => XS.aload X625.here hx rfl (hb hby at_144) rfl rfl k) ?_
          refine GoH.step (T' := T625) (f' := (mkF m 148 #[.val (.int ia), .val (.int ib), .val (.int ic), .val (.int ie), .val (.int ig), .val (.int zd), .val (.int zk), .val (.ref u387), .val (.ref u400), .val (.ref u417), .val (.ref u438), .val (.ref b462), .val (.ref b522), .val (.int (1 : Int32)), .val .null] [.null, (.ref b462)])) (fun t k => XS.aload X625.here hx rfl (hb hby at_146) rfl rfl k) ?_
          obtain ⟨cq627, kq627, q627a, q627b, q627c⟩ := isOf hZ hh625 f583
          obtain ⟨_, _, ⟨T627, L627, k627, n627⟩, -, X627, ⟨Lc627, hQ627, l627, y627, z627⟩, st627⟩ := X625.virtualBack hx (y := (⟨"com/example/unwind/unwind/store/Outbox$Lane", "equals", "(Ljava/lang/Object;)Z"⟩ : MethodName)) (z := (⟨"com/example/unwind/unwind/store/Outbox$Lane", "equals", "(Ljava/lang/Object;)Z"⟩ : MethodName)) hown (mvT hZ (hw _ (List.mem_of_getElem? (i := 30) rfl))) (mvT hZ (hw _ (List.mem_of_getElem? (i := 31) rfl))) (notFace_of_selects (args := #[]) (mvT hZ (hw _ (List.mem_of_getElem? (i := 33) rfl)))) (mvT hZ (hw _ (List.mem_of_getElem? (i := 33) rfl))) (mvT hZ (hw _ (List.mem_of_getElem? (i := 32) rfl))) (by decide) (backOf (W := 0) (rm_leqN l Z a0 hw [] b462 T559.heap n0 O587 ) hZ (hw _ (List.mem_of_getElem? (i := 34) rfl)) (hw _ (List.mem_of_getElem? (i := 14) rfl)) (by decide) (by decide)) q627a q627c (g := (mkF m 148 #[.val (.int ia), .val (.int ib), .val (.int ic), .val (.int ie), .val (.int ig), .val (.int zd), .val (.int zk), .val (.ref u387), .val (.ref u400), .val (.ref u417), .val (.ref u438), .val (.ref b462), .val (.ref b522), .val (.int (1 : Int32)), .val .null] [.null, (.ref b462)])) rfl (by rw [hml]; rfl) (Steps.refl _) (argsL := [.null]) (rest := []) (lenOf pd10 rfl) rfl (by show 2 * 0 + _ ≤ _; exact Nat.le_of_eq rfl) (hb hby at_148) (fun _ _ => ⟨rfl, hh625, (by decide : 14 + 0 ≤ _), (by decide : 36 + 0 ≤ _)⟩)
          dsimp only [Pt.U, Pt.locs, Pt.cells, Pt.slots] at X627 l627 y627 z627 st627 hQ627
          subst l627 y627 z627
          obtain ⟨rfl, Nq627, hh627⟩ := hQ627
          have N628 := Fr.app N626 Nq627
          refine GoH.via (T' := T627) (f' := (mkF m 151 #[.val (.int ia), .val (.int ib), .val (.int ic), .val (.int ie), .val (.int ig), .val (.int zd), .val (.int zk), .val (.ref u387), .val (.ref u400), .val (.ref u417), .val (.ref u438), .val (.ref b462), .val (.ref b522), .val (.int (1 : Int32)), .val .null] [(.int (0 : Int32))])) st627 ?_
          clear st627 X625 N626 Nq627
          refine GoH.step (T' := T627) (f' := (mkF m 154 #[.val (.int ia), .val (.int ib), .val (.int ic), .val (.int ie), .val (.int ig), .val (.int zd), .val (.int zk), .val (.ref u387), .val (.ref u400), .val (.ref u417), .val (.ref u438), .val (.ref b462), .val (.ref b522), .val (.int (1 : Int32)), .val .null] [])) (fun t k => XS.ifNo X627.here hx rfl (hb hby at_151) rfl ((if0 _ _).trans (teq (by decide : (0 : Int32) = (0 : Int32))).2) k) ?_
          refine GoH.step (T' := T627) (f' := (mkF m 156 #[.val (.int ia), .val (.int ib), .val (.int ic), .val (.int ie), .val (.int ig), .val (.int zd), .val (.int zk), .val (.ref u387), .val (.ref u400), .val (.ref u417), .val (.ref u438), .val (.ref b462), .val (.ref b522), .val (.int (1 : Int32)), .val .null] [(.ref b462)])) (fun t k => XS.aload X627.here hx rfl (hb hby at_154) rfl rfl k) ?_
          refine GoH.step (T' := T627) (f' := (mkF m 158 #[.val (.int ia), .val (.int ib), .val (.int ic), .val (.int ie), .val (.int ig), .val (.int zd), .val (.int zk), .val (.ref u387), .val (.ref u400), .val (.ref u417), .val (.ref u438), .val (.ref b462), .val (.ref b522), .val (.int (1 : Int32)), .val .null] [(.ref u387), (.ref b462)])) (fun t k => XS.aload X627.here hx rfl (hb hby at_156) rfl rfl k) ?_
          obtain ⟨cq629, kq629, q629a, q629b, q629c⟩ := isOf hZ hh627 f583
          obtain ⟨_, _, ⟨T629, L629, k629, n629⟩, -, X629, ⟨Lc629, hQ629, l629, y629, z629⟩, st629⟩ := X627.virtualBack hx (y := (⟨"com/example/unwind/unwind/store/Outbox$Lane", "equals", "(Ljava/lang/Object;)Z"⟩ : MethodName)) (z := (⟨"com/example/unwind/unwind/store/Outbox$Lane", "equals", "(Ljava/lang/Object;)Z"⟩ : MethodName)) hown (mvT hZ (hw _ (List.mem_of_getElem? (i := 30) rfl))) (mvT hZ (hw _ (List.mem_of_getElem? (i := 31) rfl))) (notFace_of_selects (args := #[]) (mvT hZ (hw _ (List.mem_of_getElem? (i := 33) rfl)))) (mvT hZ (hw _ (List.mem_of_getElem? (i := 33) rfl))) (mvT hZ (hw _ (List.mem_of_getElem? (i := 32) rfl))) (by decide) (backOf (W := 0) (rm_leqS l Z a0 hw [] b462 u387 T559.heap n0 O587 f567) hZ (hw _ (List.mem_of_getElem? (i := 34) rfl)) (hw _ (List.mem_of_getElem? (i := 14) rfl)) (by decide) (by decide)) q629a q629c (g := (mkF m 158 #[.val (.int ia), .val (.int ib), .val (.int ic), .val (.int ie), .val (.int ig), .val (.int zd), .val (.int zk), .val (.ref u387), .val (.ref u400), .val (.ref u417), .val (.ref u438), .val (.ref b462), .val (.ref b522), .val (.int (1 : Int32)), .val .null] [(.ref u387), (.ref b462)])) rfl (by rw [hml]; rfl) (Steps.refl _) (argsL := [(.ref u387)]) (rest := []) (lenOf pd10 rfl) rfl (by show 2 * 0 + _ ≤ _; exact Nat.le_of_eq rfl) (hb hby at_158) (fun _ _ => ⟨rfl, hh627, (by decide : 14 + 0 ≤ _), (by decide : 36 + 0 ≤ _)⟩)
          dsimp only [Pt.U, Pt.locs, Pt.cells, Pt.slots] at X629 l629 y629 z629 st629 hQ629
          subst l629 y629 z629
          obtain ⟨rfl, Nq629, hh629⟩ := hQ629
          have N630 := Fr.app N628 Nq629
          refine GoH.via (T' := T629) (f' := (mkF m 161 #[.val (.int ia), .val (.int ib), .val (.int ic), .val (.int ie), .val (.int ig), .val (.int zd), .val (.int zk), .val (.ref u387), .val (.ref u400), .val (.ref u417), .val (.ref u438), .val (.ref b462), .val (.ref b522), .val (.int (1 : Int32)), .val .null] [(.int (0 : Int32))])) st629 ?_
          clear st629 X627 N628 Nq629
          refine GoH.step (T' := T629) (f' := (mkF m 164 #[.val (.int ia), .val (.int ib), .val (.int ic), .val (.int ie), .val (.int ig), .val (.int zd), .val (.int zk), .val (.ref u387), .val (.ref u400), .val (.ref u417), .val (.ref u438), .val (.ref b462), .val (.ref b522), .val (.int (1 : Int32)), .val .null] [])) (fun t k => XS.ifNo X629.here hx rfl (hb hby at_161) rfl ((if0 _ _).trans (teq (by decide : (0 : Int32) = (0 : Int32))).2) k) ?_
          refine GoH.step (T' := T629) (f' := (mkF m 165 #[.val (.int ia), .val (.int ib), .val (.int ic), .val (.int ie), .val (.int ig), .val (.int zd), .val (.int zk), .val (.ref u387), .val (.ref u400), .val (.ref u417), .val (.ref u438), .val (.ref b462), .val (.ref b522), .val (.int (1 : Int32)), .val .null] [(.int (1 : Int32))])) (fun t k => XS.iconst X629.here hx rfl (hb hby at_164) k) ?_
          refine GoH.step (T' := T629) (f' := (mkF m 169 #[.val (.int ia), .val (.int ib), .val (.int ic), .val (.int ie), .val (.int ig), .val (.int zd), .val (.int zk), .val (.ref u387), .val (.ref u400), .val (.ref u417), .val (.ref u438), .val (.ref b462), .val (.ref b522), .val (.int (1 : Int32)), .val .null] [(.int (1 : Int32))])) (fun t k => XS.goto X629.here hx rfl (pc0 := 165) (pc' := 169) rfl (hb hby at_165) (by decide) (by decide) k) ?_
          refine GoH.fin X629 hZ hEL hS437 hk566 CR565 hlk (v := some (.int (nar .boolean (1 : Int32)))) (fun h => by rw [Bd.returns] at h; cases h) (fun fs hr => retN X629 hx (t := .boolean) Bd.returns (by simp) (hb hby at_169) hr) hh629 ?_ (by decide) (by decide)
          exact ⟨rfl, N630, K588⟩
    by_cases hc631 : (ig &&& (2 : Int32)) = (0 : Int32)
    ·
      refine GoH.step (T' := s₁) (f' := (mkF m 25 #[.val (.int ia), .val (.int ib), .val (.int ic), .val (.int ie), .val (.int ig), .val (.int zd), .unset, .unset, .unset, .unset, .unset, .unset, .unset, .unset, .unset] [])) (fun t k => XS.ifYes X0.here hx rfl (pc0 := 18) (pc' := 25) rfl (hb hby at_18) rfl ((if0 _ _).trans (teq hc631).1) (by decide) (by decide) k) ?_
      refine GoH.step (T' := s₁) (f' := (mkF m 26 #[.val (.int ia), .val (.int ib), .val (.int ic), .val (.int ie), .val (.int ig), .val (.int zd), .unset, .unset, .unset, .unset, .unset, .unset, .unset, .unset, .unset] [(.int ie)])) (fun t k => XS.iloadN X0.here hx rfl (hb hby at_25) rfl k) ?_
      exact Kc384 (ie) trivial
    ·
      refine GoH.step (T' := s₁) (f' := (mkF m 21 #[.val (.int ia), .val (.int ib), .val (.int ic), .val (.int ie), .val (.int ig), .val (.int zd), .unset, .unset, .unset, .unset, .unset, .unset, .unset, .unset, .unset] [])) (fun t k => XS.ifNo X0.here hx rfl (hb hby at_18) rfl ((if0 _ _).trans (feq hc631).1) k) ?_
      refine GoH.step (T' := s₁) (f' := (mkF m 22 #[.val (.int ia), .val (.int ib), .val (.int ic), .val (.int ie), .val (.int ig), .val (.int zd), .unset, .unset, .unset, .unset, .unset, .unset, .unset, .unset, .unset] [(.int ib)])) (fun t k => XS.iloadN X0.here hx rfl (hb hby at_21) rfl k) ?_
      refine GoH.step (T' := s₁) (f' := (mkF m 26 #[.val (.int ia), .val (.int ib), .val (.int ic), .val (.int ie), .val (.int ig), .val (.int zd), .unset, .unset, .unset, .unset, .unset, .unset, .unset, .unset, .unset] [(.int ib)])) (fun t k => XS.goto X0.here hx rfl (pc0 := 22) (pc' := 26) rfl (hb hby at_22) (by decide) (by decide) k) ?_
      exact Kc384 (ib) trivial
  by_cases hc632 : (ig &&& (1 : Int32)) = (0 : Int32)
  ·
    refine GoH.step (T' := s₁) (f' := (mkF m 11 #[.val (.int ia), .val (.int ib), .val (.int ic), .val (.int ie), .val (.int ig), .unset, .unset, .unset, .unset, .unset, .unset, .unset, .unset, .unset, .unset] [])) (fun t k => XS.ifYes X0.here hx rfl (pc0 := 4) (pc' := 11) rfl (hb hby at_4) rfl ((if0 _ _).trans (teq hc632).1) (by decide) (by decide) k) ?_
    refine GoH.step (T' := s₁) (f' := (mkF m 12 #[.val (.int ia), .val (.int ib), .val (.int ic), .val (.int ie), .val (.int ig), .unset, .unset, .unset, .unset, .unset, .unset, .unset, .unset, .unset, .unset] [(.int ic)])) (fun t k => XS.iloadN X0.here hx rfl (hb hby at_11) rfl k) ?_
    exact Kc382 (ic) trivial
  ·
    refine GoH.step (T' := s₁) (f' := (mkF m 7 #[.val (.int ia), .val (.int ib), .val (.int ic), .val (.int ie), .val (.int ig), .unset, .unset, .unset, .unset, .unset, .unset, .unset, .unset, .unset, .unset] [])) (fun t k => XS.ifNo X0.here hx rfl (hb hby at_4) rfl ((if0 _ _).trans (feq hc632).1) k) ?_
    refine GoH.step (T' := s₁) (f' := (mkF m 8 #[.val (.int ia), .val (.int ib), .val (.int ic), .val (.int ie), .val (.int ig), .unset, .unset, .unset, .unset, .unset, .unset, .unset, .unset, .unset, .unset] [(.int ia)])) (fun t k => XS.iloadN X0.here hx rfl (hb hby at_7) rfl k) ?_
    refine GoH.step (T' := s₁) (f' := (mkF m 12 #[.val (.int ia), .val (.int ib), .val (.int ic), .val (.int ie), .val (.int ig), .unset, .unset, .unset, .unset, .unset, .unset, .unset, .unset, .unset, .unset] [(.int ia)])) (fun t k => XS.goto X0.here hx rfl (pc0 := 8) (pc' := 12) rfl (hb hby at_8) (by decide) (by decide) k) ?_
    exact Kc382 (ia) trivial
set_option maxRecDepth 65536 in
set_option maxHeartbeats 40000000 in
theorem comes_1 {Post : Tables → Env → Array Value → State → Outcome → State → Prop} (hpost : ∀ tb e args s v u, (limb_1_1.after args s (.returned v) u = true ∧ limb_1_2.after args s (.returned v) u = true ∧ True) → ReturnedEndW s (.returned v) u (Jvm.fieldLocs frame_1_writes args s ++ Jvm.arrayLocs frame_1_arrays args s ++ Jvm.staticLocs frame_1_statics s) 40 1216 → Post tb e args s (.returned v) u) :
    ArmFor flags0 classFile x code maxLocals ret World_1 tables_1 room_1 Calls_1 rest_1 Pre_1 Post := by
  intro l hfl _ _ p e ha hc hk s m args below hf hA hF happ hP
  obtain ⟨hcalls, hrest, hpre⟩ := hP
  obtain ⟨-, -, -, hnamed, -, -, -, hat⟩ := (Spec.applies_iff hf).mp happ
  obtain ⟨hg, hn⟩ := and_e (Cond.before_iff.mp (show (Jvm.Cond.and given_1 narrow_1).before args s = true from hpre))
  obtain ⟨c1, c2⟩ := and_e hg
  obtain ⟨c3, c4⟩ := and_e c2
  obtain ⟨c5, c6⟩ := and_e c4
  obtain ⟨c7, c8⟩ := and_e c6
  obtain ⟨c9, c10⟩ := and_e c8
  obtain ⟨w0, w1, w2, w3, w4, rfl⟩ : ∃ w0 w1 w2 w3 w4 : Value, args = #[w0, w1, w2, w3, w4] := by
    have hs : args.size = 5 := by simpa [Cond.value, given_1] using c1
    obtain ⟨L⟩ := args
    match L, hs with
    | [w0, w1, w2, w3, w4], _ => exact ⟨w0, w1, w2, w3, w4, rfl⟩
  have hw := fun d (hd : d ∈ tables_1) => atoms_spec (ws := Jvm.Cond.code x code maxLocals ret :: tables_1) hat d (List.mem_cons_of_mem _ hd)
  have hfit : Fit s := fun {y c} hc i hi => by
    obtain ⟨ha, rfl⟩ := Array.getElem?_eq_some_iff.mp hc
    have q := List.all_eq_true.mp ((Array.all_eq_true_iff_forall_mem.mp hF) _ (Array.getElem_mem ha)) i (List.mem_range.mpr hi)
    simpa [Array.getElem?_eq_getElem hi] using q
  obtain ⟨i0, ei0⟩ := is_v c3
  obtain rfl : w0 = (.int i0) := Option.some.inj ei0
  obtain ⟨i1, ei1⟩ := is_v c5
  obtain rfl : w1 = (.int i1) := Option.some.inj ei1
  obtain ⟨i2, ei2⟩ := is_v c7
  obtain rfl : w2 = (.int i2) := Option.some.inj ei2
  obtain ⟨i3, ei3⟩ := is_v c9
  obtain rfl : w3 = (.int i3) := Option.some.inj ei3
  obtain ⟨i4, ei4⟩ := is_v c10
  obtain rfl : w4 = (.int i4) := Option.some.inj ei4
  obtain ⟨hsets, hown0⟩ := atoms_of _ (rest_1_c_eq ▸ (show rest_1_c.before _ s = true from hrest))
  obtain ⟨zcs, evcs⟩ := is_v (Cond.before_iff.mp (hsets _ (List.mem_of_getElem? (i := 1) rfl)))
  have Scs := Sta.start evcs (Or.inl (hsets _ (List.mem_of_getElem? (i := 0) rfl)))
  have hcs : ¬ zcs = (0 : Int32) := gotF (Jvm.Cond.eq_ints evcs (Term.int_eval (0))) (not_v (Cond.before_iff.mp (hsets _ (List.mem_of_getElem? (i := 2) rfl))))
  have hEL : EW s _ own_EL := EW.cons (hw _ (List.mem_of_getElem? (i := 4) rfl)) (by decide) EW.nil
  have hCH : CHv s own_EL s.vm s.heap := CHv.start hEL (fun p hp => hcalls.1 p hp) (hsets _ (List.mem_of_getElem? (i := 2) rfl)) (hw _ (List.mem_of_getElem? (i := 7) rfl)) (hw _ (List.mem_of_getElem? (i := 6) rfl))
  obtain ⟨n, o, h1, h2, h3, _, L, rfl, ⟨rfl, N, -⟩, -, hq⟩ := rm_law l s _ hw tables_1 i0 i1 i2 i3 i4 zcs s.heap s.heap.size (Old.start s) hEL Scs hcs p e ha hc hk s m _ below hf ((Spec.applies_iff_loose hf).mp happ).1 ⟨rfl, State.Warmed39.refl s, rfl, hCH⟩ trivial
  refine ⟨n, _, h1, h2, h3, hpost _ _ _ _ _ _ ⟨Cond.after_iff.mpr rfl, Cond.after_iff.mpr (eq_i res_at (Term.int_eval (1)) rfl), trivial⟩ ⟨hq.1, hq.2.1, hq.2.2.1, (hq.2.2.2.sift fun y hy => Or.inr (N y hy)).mono (by decide) (by decide)⟩⟩
theorem main_1_1 : Claimed_1_1 := comes_1 fun _ _ _ _ _ _ h hF => ⟨h.1, hF⟩
theorem main_1_2 : Claimed_1_2 := comes_1 fun _ _ _ _ _ _ h hF => ⟨h.2.1, hF⟩
end Jvm.Pilot.@@N@@
namespace Jvm.Pilot.@@N@@
open Jvm Jvm.ClassFile Sem Op Lib Jvm.Free Jvm.Stand Jvm.Pilot.@@N@@.Jvm.D
/-! MADE BY PROGRAM (witnessworld.py) out of the Statement's table words and the real class files: 20 classes; the members and pool entries that the words name. The judged class is class 1, her method 2. -/
namespace start1
open Jvm.ClassFile
def u (s : String) : CpInfo := .utf8 (stringToUtf16 s)
/-- a pool by its gaps: so many unusable entries, then the entry; so many at the end -/
def gap : Nat → List CpInfo → List CpInfo
  | 0, r => r
  | n + 1, r => .unusable :: gap n r
def poolList (es : List (Nat × CpInfo)) (last : Nat) : List CpInfo := es.foldr (fun e r => gap e.1 (e.2 :: r)) (gap last [])
def pool (es : List (Nat × CpInfo)) (last : Nat) : Array CpInfo := ⟨poolList es last⟩
def fileOf (pool : Array CpInfo) (this : Nat) (attrs : Array Attribute := #[]) (ms : Array MethodInfo := #[]) (fl : Nat := 33) (sup : Nat := 0) (ifs : Array Nat := #[]) (fds : Array FieldInfo := #[]) : ClassFile where
  minorVersion := 0
  majorVersion := 65
  constantPool := pool
  accessFlags := fl
  thisClass := this
  superClass := sup
  interfaces := ifs
  fields := fds
  methods := ms
  attributes := attrs
def plain (name : String) (sup : Option ClassId) : Class where
  name := name
  kind := .ordinary
  loader := none
  accessFlags := 33
  super := sup
  interfaces := #[]
  cf := none
  fields := #[]
  methods := #[]
  instanceTypes := #[]
  staticTypes := #[]
  resolved := #[]
  callSites := []
  init := .initialized
  statics := none
  mirror := none

def pool0 : Array CpInfo := pool [(5, u "<init>"), (0, u "()V"), (1, .class_ 10), (1, u "java/lang/Object")] 113

def k0c0 : Code := { maxStack := 0, maxLocals := 1, code := object_method_1_code, exceptionTable := #[], attributes := #[] }
def k0m0 : Method := { name := "<init>", desc := "()V", sig := { parameters := [], returnType := none }, accessFlags := 1, code := some k0c0 }
/-- java/lang/Object -/
def k0 : Class := { plain "java/lang/Object" none with
  accessFlags := 33
  interfaces := #[]
  cf := some (fileOf pool0 8 #[] #[{ accessFlags := 1, nameIndex := 5, descriptorIndex := 6, attributes := #[] }] 33 0 #[] #[])
  fields := #[]
  methods := #[k0m0]
  instanceTypes := #[]
  staticTypes := #[]
  resolved := Array.replicate 124 none
  statics := none }

def pool1 : Array CpInfo := pool [(2, .class_ 4), (1, u "java/lang/Object"), (0, u "<init>"), (0, u "()V"), (0, .string 8), (0, u ""), (0, .methodref 10 11), (0, .class_ 12), (0, .nameAndType 13 14), (0, u "java/lang/String"), (0, u "valueOf"), (0, u "(C)Ljava/lang/String;"), (0, .methodref 10 16), (0, .nameAndType 5 17), (0, u "([C)V"), (0, .methodref 19 20), (0, .class_ 21), (0, .nameAndType 22 23), (0, u "com/example/unwind/unwind/store/LaneEqualsPinLaw"), (0, u "str"), (0, u "(I)Ljava/lang/String;"), (0, .class_ 25), (0, u "com/example/unwind/unwind/store/Outbox$Lane"), (0, .methodref 24 27), (0, .nameAndType 5 28), (0, u "(Ljava/lang/String;Ljava/lang/String;)V"), (0, .methodref 10 30), (0, .nameAndType 31 32), (0, u "equals"), (0, u "(Ljava/lang/Object;)Z"), (0, .methodref 24 30), (3, u "law"), (0, u "(IIIII)Z")] 6

def k1m0 : Method := { name := "<init>", desc := "()V", sig := { parameters := [], returnType := none }, accessFlags := 1, code := none }
def k1c1 : Code := { maxStack := 4, maxLocals := 4, code := method_2_code, exceptionTable := #[], attributes := #[] }
def k1m1 : Method := { name := "str", desc := "(I)Ljava/lang/String;", sig := { parameters := [.int], returnType := some (.object "java/lang/String") }, accessFlags := 10, code := some k1c1 }
def k1c2 : Code := { maxStack := 4, maxLocals := 15, code := code, exceptionTable := #[], attributes := #[] }
def k1m2 : Method := { name := "law", desc := "(IIIII)Z", sig := { parameters := [.int, .int, .int, .int, .int], returnType := some .boolean }, accessFlags := 9, code := some k1c2 }
/-- com/example/unwind/unwind/store/LaneEqualsPinLaw -/
def k1 : Class := { plain "com/example/unwind/unwind/store/LaneEqualsPinLaw" (some 0) with
  accessFlags := 49
  interfaces := #[]
  cf := some (fileOf pool1 19 #[] #[{ accessFlags := 1, nameIndex := 5, descriptorIndex := 6, attributes := #[] }, { accessFlags := 10, nameIndex := 22, descriptorIndex := 23, attributes := #[] }, { accessFlags := 9, nameIndex := 37, descriptorIndex := 38, attributes := #[] }] 49 2 #[] #[])
  fields := #[]
  methods := #[k1m0, k1m1, k1m2]
  instanceTypes := #[]
  staticTypes := #[]
  resolved := Array.replicate 45 none
  statics := none }

def pool2 : Array CpInfo := pool [(1, .class_ 2), (0, u "java/io/Serializable"), (0, .class_ 4), (0, u "java/lang/Object")] 2

/-- java/io/Serializable -/
def k2 : Class := { plain "java/io/Serializable" (some 0) with
  accessFlags := 1537
  interfaces := #[]
  cf := some (fileOf pool2 1 #[] #[] 1537 3 #[] #[])
  fields := #[]
  methods := #[]
  instanceTypes := #[]
  staticTypes := #[]
  resolved := Array.replicate 7 none
  statics := none }

def pool3 : Array CpInfo := pool [(1, .class_ 2), (0, u "java/lang/Comparable"), (0, .class_ 4), (0, u "java/lang/Object")] 7

/-- java/lang/Comparable -/
def k3 : Class := { plain "java/lang/Comparable" (some 0) with
  accessFlags := 1537
  interfaces := #[]
  cf := some (fileOf pool3 1 #[] #[] 1537 3 #[] #[])
  fields := #[]
  methods := #[]
  instanceTypes := #[]
  staticTypes := #[]
  resolved := Array.replicate 12 none
  statics := none }

def pool4 : Array CpInfo := pool [(2, .class_ 4), (1, u "java/lang/CharSequence"), (42, .class_ 48), (0, u "java/lang/CharSequence$1CodePointIterator"), (10, .class_ 60), (0, u "java/lang/CharSequence$1CharIterator"), (5, .class_ 67), (0, u "java/lang/Object")] 63

/-- java/lang/CharSequence -/
def k4 : Class := { plain "java/lang/CharSequence" (some 0) with
  accessFlags := 1537
  interfaces := #[]
  cf := some (fileOf pool4 2 #[.nestMembers #[47, 59]] #[] 1537 66 #[] #[])
  fields := #[]
  methods := #[]
  instanceTypes := #[]
  staticTypes := #[]
  resolved := Array.replicate 131 none
  statics := none }

def pool5 : Array CpInfo := pool [(1, .class_ 2), (0, u "java/lang/constant/Constable"), (0, .class_ 4), (0, u "java/lang/Object")] 6

/-- java/lang/constant/Constable -/
def k5 : Class := { plain "java/lang/constant/Constable" (some 0) with
  accessFlags := 1537
  interfaces := #[]
  cf := some (fileOf pool5 1 #[] #[] 1537 3 #[] #[])
  fields := #[]
  methods := #[]
  instanceTypes := #[]
  staticTypes := #[]
  resolved := Array.replicate 11 none
  statics := none }

def pool6 : Array CpInfo := pool [(1, .class_ 2), (0, u "java/lang/constant/ConstantDesc"), (0, .class_ 4), (0, u "java/lang/Object")] 32

/-- java/lang/constant/ConstantDesc -/
def k6 : Class := { plain "java/lang/constant/ConstantDesc" (some 0) with
  accessFlags := 1537
  interfaces := #[]
  cf := some (fileOf pool6 1 #[] #[] 1537 3 #[] #[])
  fields := #[]
  methods := #[]
  instanceTypes := #[]
  staticTypes := #[]
  resolved := Array.replicate 37 none
  statics := none }

def pool7 : Array CpInfo := pool [(1, .methodref 2 3), (0, .class_ 4), (0, .nameAndType 5 6), (0, u "java/lang/Object"), (0, u "<init>"), (0, u "()V"), (2, .fieldref 10 11), (0, .class_ 12), (0, .nameAndType 13 14), (0, u "java/lang/String"), (0, u "value"), (0, u "[B"), (0, .fieldref 10 16), (0, .nameAndType 17 18), (0, u "coder"), (0, u "B"), (2, u "hash"), (0, u "I"), (2, u "hashIsZero"), (0, u "Z"), (0, .methodref 10 28), (0, .nameAndType 5 29), (0, u "([CIILjava/lang/Void;)V"), (8, .fieldref 10 39), (0, .nameAndType 40 26), (0, u "COMPACT_STRINGS"), (1, .class_ 44), (1, u "java/lang/StringUTF16"), (0, u "compress"), (1, .methodref 42 48), (0, .nameAndType 49 50), (0, u "coderFromArrayLen"), (0, u "([BI)B"), (2, u "toBytes"), (53, .class_ 109), (1, u "java/lang/StringLatin1"), (67, .methodref 42 178), (0, .nameAndType 45 179), (0, u "([CII)[B"), (29, .methodref 10 210), (0, .nameAndType 5 211), (0, u "([BB)V"), (157, u "(C)Z"), (171, .methodref 107 542), (0, .nameAndType 543 544), (0, u "equals"), (0, u "([B[B)Z"), (28, u "(Ljava/lang/Object;)Z"), (1, .class_ 576), (0, u "java/lang/CharSequence"), (22, u "CASE_INSENSITIVE_ORDER"), (0, u "Ljava/util/Comparator;"), (181, u "valueOf"), (0, u "(C)Ljava/lang/String;"), (226, u "([C)V"), (4, .methodref 107 1016), (0, .nameAndType 1017 369), (0, u "canEncode"), (0, .methodref 107 1019), (0, .nameAndType 53 1020), (0, u "(C)[B"), (80, u "serialPersistentFields"), (0, u "[Ljava/io/ObjectStreamField;"), (0, .class_ 1104), (0, u "java/lang/String$CaseInsensitiveComparator"), (1, .class_ 1107), (0, u "java/io/Serializable"), (0, .class_ 1109), (0, u "java/lang/Comparable"), (0, .class_ 1111), (0, u "java/lang/constant/Constable"), (0, .class_ 1113), (0, u "java/lang/constant/ConstantDesc"), (2, u "serialVersionUID"), (0, u "J"), (3, u "REPL"), (0, u "C"), (2, u "LATIN1"), (1, u "UTF16")] 323

def k7m0 : Method := { name := "<init>", desc := "()V", sig := { parameters := [], returnType := none }, accessFlags := 1, code := none }
def k7c1 : Code := { maxStack := 5, maxLocals := 2, code := jdk_42_method_3_code, exceptionTable := #[], attributes := #[] }
def k7m1 : Method := { name := "<init>", desc := "([C)V", sig := { parameters := [(.array .char)], returnType := none }, accessFlags := 1, code := some k7c1 }
def k7c2 : Code := { maxStack := 2, maxLocals := 3, code := jdk_42_method_66_code, exceptionTable := #[], attributes := #[] }
def k7m2 : Method := { name := "equals", desc := "(Ljava/lang/Object;)Z", sig := { parameters := [(.object "java/lang/Object")], returnType := some .boolean }, accessFlags := 1, code := some k7c2 }
def k7c3 : Code := { maxStack := 4, maxLocals := 1, code := jdk_42_method_139_code, exceptionTable := #[], attributes := #[] }
def k7m3 : Method := { name := "valueOf", desc := "(C)Ljava/lang/String;", sig := { parameters := [.char], returnType := some (.object "java/lang/String") }, accessFlags := 9, code := some k7c3 }
def k7c4 : Code := { maxStack := 4, maxLocals := 6, code := jdk_42_method_149_code, exceptionTable := #[], attributes := #[] }
def k7m4 : Method := { name := "<init>", desc := "([CIILjava/lang/Void;)V", sig := { parameters := [(.array .char), .int, .int, (.object "java/lang/Void")], returnType := none }, accessFlags := 2, code := some k7c4 }
def k7c5 : Code := { maxStack := 2, maxLocals := 3, code := jdk_42_method_151_code, exceptionTable := #[], attributes := #[] }
def k7m5 : Method := { name := "<init>", desc := "([BB)V", sig := { parameters := [(.array .byte), .byte], returnType := none }, accessFlags := 0, code := some k7c5 }
/-- java/lang/String -/
def k7 : Class := { plain "java/lang/String" (some 0) with
  accessFlags := 49
  interfaces := #[2, 3, 4, 5, 6]
  cf := some (fileOf pool7 10 #[.nestMembers #[1103]] #[{ accessFlags := 1, nameIndex := 5, descriptorIndex := 6, attributes := #[] }, { accessFlags := 1, nameIndex := 5, descriptorIndex := 1010, attributes := #[] }, { accessFlags := 1, nameIndex := 543, descriptorIndex := 573, attributes := #[] }, { accessFlags := 9, nameIndex := 782, descriptorIndex := 783, attributes := #[] }, { accessFlags := 2, nameIndex := 5, descriptorIndex := 29, attributes := #[] }, { accessFlags := 0, nameIndex := 5, descriptorIndex := 211, attributes := #[] }] 49 2 #[1106, 1108, 575, 1110, 1112] #[{ accessFlags := 18, nameIndex := 13, descriptorIndex := 14, attributes := #[] }, { accessFlags := 18, nameIndex := 17, descriptorIndex := 18, attributes := #[] }, { accessFlags := 2, nameIndex := 21, descriptorIndex := 22, attributes := #[] }, { accessFlags := 2, nameIndex := 25, descriptorIndex := 26, attributes := #[] }, { accessFlags := 26, nameIndex := 1116, descriptorIndex := 1117, attributes := #[] }, { accessFlags := 24, nameIndex := 40, descriptorIndex := 26, attributes := #[] }, { accessFlags := 26, nameIndex := 1101, descriptorIndex := 1102, attributes := #[] }, { accessFlags := 26, nameIndex := 1121, descriptorIndex := 1122, attributes := #[] }, { accessFlags := 25, nameIndex := 599, descriptorIndex := 600, attributes := #[] }, { accessFlags := 24, nameIndex := 1125, descriptorIndex := 18, attributes := #[] }, { accessFlags := 24, nameIndex := 1127, descriptorIndex := 18, attributes := #[] }])
  fields := #[{ name := "value", type := (.array .byte), accessFlags := 18, slot := 0, constantValue := 0 }, { name := "coder", type := .byte, accessFlags := 18, slot := 1, constantValue := 0 }, { name := "hash", type := .int, accessFlags := 2, slot := 2, constantValue := 0 }, { name := "hashIsZero", type := .boolean, accessFlags := 2, slot := 3, constantValue := 0 }, { name := "serialVersionUID", type := .long, accessFlags := 26, slot := 0, constantValue := 0 }, { name := "COMPACT_STRINGS", type := .boolean, accessFlags := 24, slot := 1, constantValue := 0 }, { name := "serialPersistentFields", type := (.array (.object "java/io/ObjectStreamField")), accessFlags := 26, slot := 2, constantValue := 0 }, { name := "REPL", type := .char, accessFlags := 26, slot := 3, constantValue := 0 }, { name := "CASE_INSENSITIVE_ORDER", type := (.object "java/util/Comparator"), accessFlags := 25, slot := 4, constantValue := 0 }, { name := "LATIN1", type := .byte, accessFlags := 24, slot := 5, constantValue := 0 }, { name := "UTF16", type := .byte, accessFlags := 24, slot := 6, constantValue := 0 }]
  methods := #[k7m0, k7m1, k7m2, k7m3, k7m4, k7m5]
  instanceTypes := #[(.array .byte), .byte, .int, .boolean]
  staticTypes := #[.long, .boolean, (.array (.object "java/io/ObjectStreamField")), .char, (.object "java/util/Comparator"), .byte, .byte]
  resolved := Array.replicate 1451 none
  statics := some 0 }

def pool8 : Array CpInfo := pool [(1, .methodref 2 3), (0, .class_ 4), (0, .nameAndType 5 6), (0, u "java/lang/Object"), (0, u "<init>"), (0, u "()V"), (0, .fieldref 8 9), (0, .class_ 10), (0, .nameAndType 11 12), (0, u "com/example/unwind/unwind/store/Outbox$Lane"), (0, u "destination"), (0, u "Ljava/lang/String;"), (0, .fieldref 8 14), (0, .nameAndType 15 12), (0, u "key"), (0, .methodref 17 18), (0, .class_ 19), (0, .nameAndType 20 21), (0, u "java/lang/String"), (0, u "equals"), (0, u "(Ljava/lang/Object;)Z"), (10, u "(Ljava/lang/String;Ljava/lang/String;)V"), (10, .class_ 44), (0, u "com/example/unwind/unwind/store/Outbox")] 16

def k8c0 : Code := { maxStack := 2, maxLocals := 3, code := prog_30_method_1_code, exceptionTable := #[], attributes := #[] }
def k8m0 : Method := { name := "<init>", desc := "(Ljava/lang/String;Ljava/lang/String;)V", sig := { parameters := [(.object "java/lang/String"), (.object "java/lang/String")], returnType := none }, accessFlags := 0, code := some k8c0 }
def k8c1 : Code := { maxStack := 2, maxLocals := 2, code := prog_30_method_2_code, exceptionTable := #[], attributes := #[] }
def k8m1 : Method := { name := "equals", desc := "(Ljava/lang/Object;)Z", sig := { parameters := [(.object "java/lang/Object")], returnType := some .boolean }, accessFlags := 1, code := some k8c1 }
/-- com/example/unwind/unwind/store/Outbox$Lane -/
def k8 : Class := { plain "com/example/unwind/unwind/store/Outbox$Lane" (some 0) with
  accessFlags := 32
  interfaces := #[]
  cf := some (fileOf pool8 8 #[.nestHost 43] #[{ accessFlags := 0, nameIndex := 5, descriptorIndex := 32, attributes := #[] }, { accessFlags := 1, nameIndex := 20, descriptorIndex := 21, attributes := #[] }] 32 2 #[] #[{ accessFlags := 18, nameIndex := 11, descriptorIndex := 12, attributes := #[] }, { accessFlags := 18, nameIndex := 15, descriptorIndex := 12, attributes := #[] }])
  fields := #[{ name := "destination", type := (.object "java/lang/String"), accessFlags := 18, slot := 0, constantValue := 0 }, { name := "key", type := (.object "java/lang/String"), accessFlags := 18, slot := 1, constantValue := 0 }]
  methods := #[k8m0, k8m1]
  instanceTypes := #[(.object "java/lang/String"), (.object "java/lang/String")]
  staticTypes := #[]
  resolved := Array.replicate 61 none
  statics := none }

def pool9 : Array CpInfo := pool [(6, .class_ 8), (1, u "java/lang/Object"), (0, u "<init>"), (0, u "()V"), (1, .class_ 14), (1, u "java/lang/StringUTF16"), (31, u "$assertionsDisabled"), (0, u "Z"), (13, u "HI_BYTE_SHIFT"), (0, u "I"), (2, u "LO_BYTE_SHIFT"), (49, .methodref 12 116), (0, .nameAndType 117 118), (0, u "compress"), (0, u "([CI[BII)I"), (3, u "([CII)[B"), (138, u "coderFromArrayLen"), (0, u "([BI)B"), (106, .class_ 371), (1, u "java/lang/StringUTF16$LinesSpliterator"), (58, u "MAX_LENGTH"), (196, .class_ 628), (0, u "java/lang/StringUTF16$CodePointsSpliterator"), (0, .class_ 630), (0, u "java/lang/StringUTF16$CharsSpliterator")] 4

def k9m0 : Method := { name := "<init>", desc := "()V", sig := { parameters := [], returnType := none }, accessFlags := 0, code := none }
def k9c1 : Code := { maxStack := 2, maxLocals := 2, code := jdk_52_method_15_code, exceptionTable := #[], attributes := #[] }
def k9m1 : Method := { name := "coderFromArrayLen", desc := "([BI)B", sig := { parameters := [(.array .byte), .int], returnType := some .byte }, accessFlags := 8, code := some k9c1 }
def k9c2 : Code := { maxStack := 5, maxLocals := 6, code := jdk_52_method_16_code, exceptionTable := #[], attributes := #[] }
def k9m2 : Method := { name := "compress", desc := "([CII)[B", sig := { parameters := [(.array .char), .int, .int], returnType := some (.array .byte) }, accessFlags := 9, code := some k9c2 }
def k9c3 : Code := { maxStack := 3, maxLocals := 7, code := jdk_52_method_21_code, exceptionTable := #[], attributes := #[] }
def k9m3 : Method := { name := "compress", desc := "([CI[BII)I", sig := { parameters := [(.array .char), .int, (.array .byte), .int, .int], returnType := some .int }, accessFlags := 9, code := some k9c3 }
/-- java/lang/StringUTF16 -/
def k9 : Class := { plain "java/lang/StringUTF16" (some 0) with
  accessFlags := 48
  interfaces := #[]
  cf := some (fileOf pool9 12 #[.nestMembers #[627, 629, 369]] #[{ accessFlags := 0, nameIndex := 9, descriptorIndex := 10, attributes := #[] }, { accessFlags := 8, nameIndex := 261, descriptorIndex := 262, attributes := #[] }, { accessFlags := 9, nameIndex := 117, descriptorIndex := 122, attributes := #[] }, { accessFlags := 9, nameIndex := 117, descriptorIndex := 118, attributes := #[] }] 48 6 #[] #[{ accessFlags := 26, nameIndex := 61, descriptorIndex := 62, attributes := #[] }, { accessFlags := 26, nameIndex := 65, descriptorIndex := 62, attributes := #[] }, { accessFlags := 24, nameIndex := 430, descriptorIndex := 62, attributes := #[] }, { accessFlags := 4120, nameIndex := 46, descriptorIndex := 47, attributes := #[] }])
  fields := #[{ name := "HI_BYTE_SHIFT", type := .int, accessFlags := 26, slot := 0, constantValue := 0 }, { name := "LO_BYTE_SHIFT", type := .int, accessFlags := 26, slot := 1, constantValue := 0 }, { name := "MAX_LENGTH", type := .int, accessFlags := 24, slot := 2, constantValue := 0 }, { name := "$assertionsDisabled", type := .boolean, accessFlags := 4120, slot := 3, constantValue := 0 }]
  methods := #[k9m0, k9m1, k9m2, k9m3]
  instanceTypes := #[]
  staticTypes := #[.int, .int, .int, .boolean]
  resolved := Array.replicate 635 none
  statics := none }

def pool10 : Array CpInfo := pool [(4, .class_ 6), (1, u "java/lang/Object"), (0, u "<init>"), (0, u "()V"), (5, .class_ 16), (1, u "java/lang/StringLatin1"), (73, u "canEncode"), (14, u "(C)Z"), (15, u "$assertionsDisabled"), (0, u "Z"), (98, .class_ 223), (1, u "java/lang/StringLatin1$LinesSpliterator"), (57, u "equals"), (0, u "([B[B)Z"), (97, u "toBytes"), (1, u "(C)[B"), (7, .class_ 391), (0, u "java/lang/StringLatin1$CharsSpliterator")] 3

def k10m0 : Method := { name := "<init>", desc := "()V", sig := { parameters := [], returnType := none }, accessFlags := 0, code := none }
def k10c1 : Code := { maxStack := 2, maxLocals := 1, code := jdk_43_method_3_code, exceptionTable := #[], attributes := #[] }
def k10m1 : Method := { name := "canEncode", desc := "(C)Z", sig := { parameters := [.char], returnType := some .boolean }, accessFlags := 9, code := some k10c1 }
def k10c2 : Code := { maxStack := 3, maxLocals := 3, code := jdk_43_method_13_code, exceptionTable := #[], attributes := #[] }
def k10m2 : Method := { name := "equals", desc := "([B[B)Z", sig := { parameters := [(.array .byte), (.array .byte)], returnType := some .boolean }, accessFlags := 9, code := some k10c2 }
def k10c3 : Code := { maxStack := 4, maxLocals := 1, code := jdk_43_method_46_code, exceptionTable := #[], attributes := #[] }
def k10m3 : Method := { name := "toBytes", desc := "(C)[B", sig := { parameters := [.char], returnType := some (.array .byte) }, accessFlags := 9, code := some k10c3 }
/-- java/lang/StringLatin1 -/
def k10 : Class := { plain "java/lang/StringLatin1" (some 0) with
  accessFlags := 48
  interfaces := #[]
  cf := some (fileOf pool10 14 #[.nestMembers #[390, 221]] #[{ accessFlags := 0, nameIndex := 7, descriptorIndex := 8, attributes := #[] }, { accessFlags := 9, nameIndex := 90, descriptorIndex := 105, attributes := #[] }, { accessFlags := 9, nameIndex := 281, descriptorIndex := 282, attributes := #[] }, { accessFlags := 9, nameIndex := 380, descriptorIndex := 382, attributes := #[] }] 48 4 #[] #[{ accessFlags := 4120, nameIndex := 121, descriptorIndex := 122, attributes := #[] }])
  fields := #[{ name := "$assertionsDisabled", type := .boolean, accessFlags := 4120, slot := 0, constantValue := 0 }]
  methods := #[k10m0, k10m1, k10m2, k10m3]
  instanceTypes := #[]
  staticTypes := #[.boolean]
  resolved := Array.replicate 395 none
  statics := none }

def pool11 : Array CpInfo := pool [(2, .class_ 4), (1, u "java/lang/Object"), (0, u "<init>"), (0, u "()V"), (17, .class_ 26), (1, u "jdk/internal/util/Preconditions"), (28, .class_ 56), (0, u "jdk/internal/util/Preconditions$4"), (57, .class_ 115), (0, u "jdk/internal/util/Preconditions$1"), (7, u "SIOOBE_FORMATTER"), (0, u "Ljava/util/function/BiFunction;"), (0, .class_ 126), (0, u "jdk/internal/util/Preconditions$2"), (3, u "AIOOBE_FORMATTER"), (0, .class_ 132), (0, u "jdk/internal/util/Preconditions$3"), (3, u "IOOBE_FORMATTER")] 57

def k11m0 : Method := { name := "<init>", desc := "()V", sig := { parameters := [], returnType := none }, accessFlags := 1, code := none }
/-- jdk/internal/util/Preconditions -/
def k11 : Class := { plain "jdk/internal/util/Preconditions" (some 0) with
  accessFlags := 33
  interfaces := #[]
  cf := some (fileOf pool11 24 #[.nestMembers #[55, 131, 125, 114]] #[{ accessFlags := 1, nameIndex := 5, descriptorIndex := 6, attributes := #[] }] 33 2 #[] #[{ accessFlags := 25, nameIndex := 123, descriptorIndex := 124, attributes := #[] }, { accessFlags := 25, nameIndex := 130, descriptorIndex := 124, attributes := #[] }, { accessFlags := 25, nameIndex := 136, descriptorIndex := 124, attributes := #[] }])
  fields := #[{ name := "SIOOBE_FORMATTER", type := (.object "java/util/function/BiFunction"), accessFlags := 25, slot := 0, constantValue := 0 }, { name := "AIOOBE_FORMATTER", type := (.object "java/util/function/BiFunction"), accessFlags := 25, slot := 1, constantValue := 0 }, { name := "IOOBE_FORMATTER", type := (.object "java/util/function/BiFunction"), accessFlags := 25, slot := 2, constantValue := 0 }]
  methods := #[k11m0]
  instanceTypes := #[]
  staticTypes := #[(.object "java/util/function/BiFunction"), (.object "java/util/function/BiFunction"), (.object "java/util/function/BiFunction")]
  resolved := Array.replicate 194 none
  statics := some 1 }

def pool12 : Array CpInfo := pool [(9, u "<init>"), (6, .class_ 18), (1, u "java/lang/Object"), (0, u "()V"), (1, .class_ 23), (1, u "jdk/internal/util/ArraysSupport"), (0, u "LOG2_ARRAY_LONG_INDEX_SCALE"), (0, u "I"), (2, u "U"), (0, u "Ljdk/internal/misc/Unsafe;"), (8, u "BIG_ENDIAN"), (0, u "Z"), (8, u "LOG2_BYTE_BIT_SIZE"), (4, u "LOG2_ARRAY_INT_INDEX_SCALE"), (54, u "JLA"), (0, u "Ljdk/internal/access/JavaLangAccess;"), (11, u "LOG2_ARRAY_BOOLEAN_INDEX_SCALE"), (9, u "LOG2_ARRAY_BYTE_INDEX_SCALE"), (5, u "LOG2_ARRAY_CHAR_INDEX_SCALE"), (5, u "LOG2_ARRAY_SHORT_INDEX_SCALE"), (18, u "LOG2_ARRAY_FLOAT_INDEX_SCALE"), (24, u "LOG2_ARRAY_DOUBLE_INDEX_SCALE"), (89, u "T_BOOLEAN"), (2, u "T_CHAR"), (1, u "T_FLOAT"), (1, u "T_DOUBLE"), (1, u "T_BYTE"), (1, u "T_SHORT"), (1, u "T_INT"), (1, u "T_LONG"), (1, u "SOFT_MAX_ARRAY_LENGTH")] 83

def k12m0 : Method := { name := "<init>", desc := "()V", sig := { parameters := [], returnType := none }, accessFlags := 2, code := none }
/-- jdk/internal/util/ArraysSupport -/
def k12 : Class := { plain "jdk/internal/util/ArraysSupport" (some 0) with
  accessFlags := 33
  interfaces := #[]
  cf := some (fileOf pool12 21 #[] #[{ accessFlags := 2, nameIndex := 9, descriptorIndex := 19, attributes := #[] }] 33 16 #[] #[{ accessFlags := 24, nameIndex := 28, descriptorIndex := 29, attributes := #[] }, { accessFlags := 26, nameIndex := 38, descriptorIndex := 39, attributes := #[] }, { accessFlags := 25, nameIndex := 121, descriptorIndex := 25, attributes := #[] }, { accessFlags := 25, nameIndex := 131, descriptorIndex := 25, attributes := #[] }, { accessFlags := 25, nameIndex := 137, descriptorIndex := 25, attributes := #[] }, { accessFlags := 25, nameIndex := 143, descriptorIndex := 25, attributes := #[] }, { accessFlags := 25, nameIndex := 53, descriptorIndex := 25, attributes := #[] }, { accessFlags := 25, nameIndex := 24, descriptorIndex := 25, attributes := #[] }, { accessFlags := 25, nameIndex := 162, descriptorIndex := 25, attributes := #[] }, { accessFlags := 25, nameIndex := 187, descriptorIndex := 25, attributes := #[] }, { accessFlags := 26, nameIndex := 48, descriptorIndex := 25, attributes := #[] }, { accessFlags := 25, nameIndex := 277, descriptorIndex := 25, attributes := #[] }, { accessFlags := 25, nameIndex := 280, descriptorIndex := 25, attributes := #[] }, { accessFlags := 25, nameIndex := 282, descriptorIndex := 25, attributes := #[] }, { accessFlags := 25, nameIndex := 284, descriptorIndex := 25, attributes := #[] }, { accessFlags := 25, nameIndex := 286, descriptorIndex := 25, attributes := #[] }, { accessFlags := 25, nameIndex := 288, descriptorIndex := 25, attributes := #[] }, { accessFlags := 25, nameIndex := 290, descriptorIndex := 25, attributes := #[] }, { accessFlags := 25, nameIndex := 292, descriptorIndex := 25, attributes := #[] }, { accessFlags := 26, nameIndex := 108, descriptorIndex := 109, attributes := #[] }, { accessFlags := 25, nameIndex := 294, descriptorIndex := 25, attributes := #[] }])
  fields := #[{ name := "U", type := (.object "jdk/internal/misc/Unsafe"), accessFlags := 24, slot := 0, constantValue := 0 }, { name := "BIG_ENDIAN", type := .boolean, accessFlags := 26, slot := 1, constantValue := 0 }, { name := "LOG2_ARRAY_BOOLEAN_INDEX_SCALE", type := .int, accessFlags := 25, slot := 2, constantValue := 0 }, { name := "LOG2_ARRAY_BYTE_INDEX_SCALE", type := .int, accessFlags := 25, slot := 3, constantValue := 0 }, { name := "LOG2_ARRAY_CHAR_INDEX_SCALE", type := .int, accessFlags := 25, slot := 4, constantValue := 0 }, { name := "LOG2_ARRAY_SHORT_INDEX_SCALE", type := .int, accessFlags := 25, slot := 5, constantValue := 0 }, { name := "LOG2_ARRAY_INT_INDEX_SCALE", type := .int, accessFlags := 25, slot := 6, constantValue := 0 }, { name := "LOG2_ARRAY_LONG_INDEX_SCALE", type := .int, accessFlags := 25, slot := 7, constantValue := 0 }, { name := "LOG2_ARRAY_FLOAT_INDEX_SCALE", type := .int, accessFlags := 25, slot := 8, constantValue := 0 }, { name := "LOG2_ARRAY_DOUBLE_INDEX_SCALE", type := .int, accessFlags := 25, slot := 9, constantValue := 0 }, { name := "LOG2_BYTE_BIT_SIZE", type := .int, accessFlags := 26, slot := 10, constantValue := 0 }, { name := "T_BOOLEAN", type := .int, accessFlags := 25, slot := 11, constantValue := 0 }, { name := "T_CHAR", type := .int, accessFlags := 25, slot := 12, constantValue := 0 }, { name := "T_FLOAT", type := .int, accessFlags := 25, slot := 13, constantValue := 0 }, { name := "T_DOUBLE", type := .int, accessFlags := 25, slot := 14, constantValue := 0 }, { name := "T_BYTE", type := .int, accessFlags := 25, slot := 15, constantValue := 0 }, { name := "T_SHORT", type := .int, accessFlags := 25, slot := 16, constantValue := 0 }, { name := "T_INT", type := .int, accessFlags := 25, slot := 17, constantValue := 0 }, { name := "T_LONG", type := .int, accessFlags := 25, slot := 18, constantValue := 0 }, { name := "JLA", type := (.object "jdk/internal/access/JavaLangAccess"), accessFlags := 26, slot := 19, constantValue := 0 }, { name := "SOFT_MAX_ARRAY_LENGTH", type := .int, accessFlags := 25, slot := 20, constantValue := 0 }]
  methods := #[k12m0]
  instanceTypes := #[]
  staticTypes := #[(.object "jdk/internal/misc/Unsafe"), .boolean, .int, .int, .int, .int, .int, .int, .int, .int, .int, .int, .int, .int, .int, .int, .int, .int, .int, (.object "jdk/internal/access/JavaLangAccess"), .int]
  resolved := Array.replicate 378 none
  statics := none }

def pool13 : Array CpInfo := pool [(1, u "java/lang/Cloneable"), (0, .class_ 1), (0, u "java/lang/Object"), (0, .class_ 3)] 3

/-- java/lang/Cloneable -/
def k13 : Class := { plain "java/lang/Cloneable" (some 0) with
  accessFlags := 1537
  interfaces := #[]
  cf := some (fileOf pool13 2 #[] #[] 1537 4 #[] #[])
  fields := #[]
  methods := #[]
  instanceTypes := #[]
  staticTypes := #[]
  resolved := Array.replicate 8 none
  statics := none }

/-- the primitive byte -/
def k14 : Class := { plain "byte" none with kind := .primitive 'B', accessFlags := 0x411 }
/-- [B -/
def k15 : Class := { plain "[B" (some 0) with kind := .array 14 .byte, interfaces := #[13, 2], accessFlags := 1041 }

/-- the primitive char -/
def k16 : Class := { plain "char" none with kind := .primitive 'C', accessFlags := 0x411 }
/-- [C -/
def k17 : Class := { plain "[C" (some 0) with kind := .array 16 .char, interfaces := #[13, 2], accessFlags := 1041 }

/-- the primitive int -/
def k18 : Class := { plain "int" none with kind := .primitive 'I', accessFlags := 0x411 }
/-- [I -/
def k19 : Class := { plain "[I" (some 0) with kind := .array 18 .int, interfaces := #[13, 2], accessFlags := 1041 }

def heap : Heap := #[{ cls := 7, slots := #[.long 0, .int 1, .null, .int 0, .null, .int 0, .int 0], vm := .statics 7 },
  { cls := 11, slots := #[.null, .null, .null], vm := .statics 11 }]
def classes : Array Class := #[k0, k1, k2, k3, k4, k5, k6, k7, k8, k9, k10, k11, k12, k13, k14, k15, k16, k17, k18, k19]
def interned : List (Array UInt16 × Addr) := []
def slotsUsed : Nat := 10
def theMethod : MethodId := ⟨1, 2⟩
def args0 : Array Value := #[.int 5, .int 5, .int 5, .int 5, .int 5]
def aboutOver (below : List Frame) : State where
  vm := { classes := classes, interned := interned.toArray }
  heap := heap
  slotsUsed := slotsUsed
  threads := #[{ frames := .invoking theMethod args0 :: below }]
def below0 : List Frame := [.native { method := ⟨0, 0⟩, args := #[] }]
def about1 : State := aboutOver below0
def p0 : Program := .bare "" "" ""
def e0 : Env := launch0.env 0 0 0
theorem w_frames : about1.frames = Frame.invoking theMethod args0 :: below0 := rfl
set_option maxRecDepth 65536 in
theorem w_args : argsFit about1.vm theMethod args0 = true := by decide +kernel
set_option maxRecDepth 65536 in
theorem w_heap : heapFits about1 = true := by decide +kernel
set_option maxRecDepth 65536 in
theorem w_runnable : about1.curStatus? = some .runnable := by decide +kernel
set_option maxRecDepth 65536 in
theorem w_alone : about1.alone = true := by decide +kernel
set_option maxRecDepth 65536 in
theorem w_named : about1.methodNamed? x = some theMethod := by decide +kernel
set_option maxRecDepth 65536 in
theorem w_hears : about1.hears theMethod below0 = true := by decide +kernel
set_option maxRecDepth 65536 in
theorem w_ripe : about1.ripe theMethod args0 below0 = true := by decide +kernel
theorem w_running : about1.status = .running := rfl
set_option maxRecDepth 65536 in
theorem w_room : about1.hasRoom e0.platform room_1 = true :=
  launch0.hasRoom_least _ room_1 (by decide +kernel) (by decide +kernel) (by decide +kernel) (by decide +kernel) (by decide +kernel) (by decide +kernel)
theorem allAtoms_all (ts : List Jvm.Cond) (a : Array Jvm.Value) (st : Jvm.State) : (allAtoms ts).before a st = ts.all (fun c => c.before a st) := by
  induction ts with
  | nil => rfl
  | cons c t ih =>
    show (Jvm.Cond.and c (allAtoms t)).before a st = _
    rw [Jvm.Cond.before_and, ih, List.all_cons]
def words1 : List Jvm.Cond := Jvm.Cond.code x code maxLocals ret :: tables_1
/-- a 'code' word, met by the world's own term for the bytes: nothing is compared byte by byte -/
theorem code_word {y : MethodName} {bytes : ByteArray} {mx : Nat} {rt : Option FieldType} {a : Array Value} {s : State} {m : MethodId} {meth : Method} {c : Code} (h1 : s.methodNamed? y = some m) (h2 : s.vm.method? m = some meth) (h3 : meth.code = some c) (h4 : c.code = bytes)
    (h5 : (c.maxLocals == mx && c.exceptionTable.isEmpty && decide (c.maxStack ≤ mostOperands) && decide (meth.sig.returnType = rt) && !meth.locks && decide (parseMethodDescriptor y.desc = some meth.sig)) = true) : (Jvm.Cond.code y bytes mx rt).before a s = true := by
  simp only [Bool.and_eq_true, beq_iff_eq, Bool.not_eq_true', decide_eq_true_eq] at h5
  obtain ⟨⟨⟨⟨⟨g1, g2⟩, g3⟩, g4⟩, g5⟩, g6⟩ := h5
  simp [Cond.before, Cond.holds, Cond.value, h1, h2, h3, h4, g1, g2, g3, g4, g5, g6]
def isCode : Jvm.Cond → Bool
  | .code _ _ _ _ => true
  | _ => false
theorem all_split {L : List Jvm.Cond} {P : Jvm.Cond → Bool} (h1 : L.all (fun c => isCode c || P c) = true) (h2 : ∀ c ∈ L.filter isCode, P c = true) : L.all P = true := by
  refine List.all_eq_true.mpr fun c hc => ?_
  have h := List.all_eq_true.mp h1 c hc
  rcases Bool.eq_false_or_eq_true (isCode c) with hi | hi
  · exact h2 c (List.mem_filter.mpr ⟨hc, hi⟩)
  · simpa [hi] using h
set_option maxRecDepth 65536 in
theorem w_c0 : (Jvm.Cond.code x code maxLocals ret).before args0 about1 = true := code_word (m := ⟨1, 2⟩) (meth := k1m2) (c := k1c2) (by decide +kernel) rfl rfl rfl (by decide +kernel)
set_option maxRecDepth 65536 in
theorem w_c1 : (Jvm.Cond.code ({ cls := "com/example/unwind/unwind/store/LaneEqualsPinLaw", name := "str", desc := "(I)Ljava/lang/String;" } : Jvm.MethodName) method_2_code (4 : Nat) (Option.some (Jvm.ClassFile.FieldType.object "java/lang/String"))).before args0 about1 = true := code_word (m := ⟨1, 1⟩) (meth := k1m1) (c := k1c1) (by decide +kernel) rfl rfl rfl (by decide +kernel)
set_option maxRecDepth 65536 in
theorem w_c2 : (Jvm.Cond.code ({ cls := "com/example/unwind/unwind/store/Outbox$Lane", name := "<init>", desc := "(Ljava/lang/String;Ljava/lang/String;)V" } : Jvm.MethodName) prog_30_method_1_code (3 : Nat) (Option.none : Option Jvm.ClassFile.FieldType)).before args0 about1 = true := code_word (m := ⟨8, 0⟩) (meth := k8m0) (c := k8c0) (by decide +kernel) rfl rfl rfl (by decide +kernel)
set_option maxRecDepth 65536 in
theorem w_c3 : (Jvm.Cond.code ({ cls := "java/lang/Object", name := "<init>", desc := "()V" } : Jvm.MethodName) object_method_1_code (1 : Nat) (Option.none : Option Jvm.ClassFile.FieldType)).before args0 about1 = true := code_word (m := ⟨0, 0⟩) (meth := k0m0) (c := k0c0) (by decide +kernel) rfl rfl rfl (by decide +kernel)
set_option maxRecDepth 65536 in
theorem w_c4 : (Jvm.Cond.code ({ cls := "java/lang/String", name := "equals", desc := "(Ljava/lang/Object;)Z" } : Jvm.MethodName) jdk_42_method_66_code (3 : Nat) (Option.some Jvm.ClassFile.FieldType.boolean)).before args0 about1 = true := code_word (m := ⟨7, 2⟩) (meth := k7m2) (c := k7c2) (by decide +kernel) rfl rfl rfl (by decide +kernel)
set_option maxRecDepth 65536 in
theorem w_c5 : (Jvm.Cond.code ({ cls := "com/example/unwind/unwind/store/Outbox$Lane", name := "equals", desc := "(Ljava/lang/Object;)Z" } : Jvm.MethodName) prog_30_method_2_code (2 : Nat) (Option.some Jvm.ClassFile.FieldType.boolean)).before args0 about1 = true := code_word (m := ⟨8, 1⟩) (meth := k8m1) (c := k8c1) (by decide +kernel) rfl rfl rfl (by decide +kernel)
set_option maxRecDepth 65536 in
theorem w_c6 : (Jvm.Cond.code ({ cls := "java/lang/String", name := "<init>", desc := "([C)V" } : Jvm.MethodName) jdk_42_method_3_code (2 : Nat) (Option.none : Option Jvm.ClassFile.FieldType)).before args0 about1 = true := code_word (m := ⟨7, 1⟩) (meth := k7m1) (c := k7c1) (by decide +kernel) rfl rfl rfl (by decide +kernel)
set_option maxRecDepth 65536 in
theorem w_c7 : (Jvm.Cond.code ({ cls := "java/lang/String", name := "<init>", desc := "([CIILjava/lang/Void;)V" } : Jvm.MethodName) jdk_42_method_149_code (6 : Nat) (Option.none : Option Jvm.ClassFile.FieldType)).before args0 about1 = true := code_word (m := ⟨7, 4⟩) (meth := k7m4) (c := k7c4) (by decide +kernel) rfl rfl rfl (by decide +kernel)
set_option maxRecDepth 65536 in
theorem w_c8 : (Jvm.Cond.code ({ cls := "java/lang/StringUTF16", name := "compress", desc := "([CII)[B" } : Jvm.MethodName) jdk_52_method_16_code (6 : Nat) (Option.some (Jvm.ClassFile.FieldType.array Jvm.ClassFile.FieldType.byte))).before args0 about1 = true := code_word (m := ⟨9, 2⟩) (meth := k9m2) (c := k9c2) (by decide +kernel) rfl rfl rfl (by decide +kernel)
set_option maxRecDepth 65536 in
theorem w_c9 : (Jvm.Cond.code ({ cls := "java/lang/StringUTF16", name := "compress", desc := "([CI[BII)I" } : Jvm.MethodName) jdk_52_method_21_code (7 : Nat) (Option.some Jvm.ClassFile.FieldType.int)).before args0 about1 = true := code_word (m := ⟨9, 3⟩) (meth := k9m3) (c := k9c3) (by decide +kernel) rfl rfl rfl (by decide +kernel)
set_option maxRecDepth 65536 in
theorem w_c10 : (Jvm.Cond.code ({ cls := "java/lang/StringUTF16", name := "coderFromArrayLen", desc := "([BI)B" } : Jvm.MethodName) jdk_52_method_15_code (2 : Nat) (Option.some Jvm.ClassFile.FieldType.byte)).before args0 about1 = true := code_word (m := ⟨9, 1⟩) (meth := k9m1) (c := k9c1) (by decide +kernel) rfl rfl rfl (by decide +kernel)
set_option maxRecDepth 65536 in
theorem w_c11 : (Jvm.Cond.code ({ cls := "java/lang/StringLatin1", name := "equals", desc := "([B[B)Z" } : Jvm.MethodName) jdk_43_method_13_code (3 : Nat) (Option.some Jvm.ClassFile.FieldType.boolean)).before args0 about1 = true := code_word (m := ⟨10, 2⟩) (meth := k10m2) (c := k10c2) (by decide +kernel) rfl rfl rfl (by decide +kernel)
set_option maxRecDepth 65536 in
theorem w_c12 : (Jvm.Cond.code ({ cls := "java/lang/String", name := "valueOf", desc := "(C)Ljava/lang/String;" } : Jvm.MethodName) jdk_42_method_139_code (1 : Nat) (Option.some (Jvm.ClassFile.FieldType.object "java/lang/String"))).before args0 about1 = true := code_word (m := ⟨7, 3⟩) (meth := k7m3) (c := k7c3) (by decide +kernel) rfl rfl rfl (by decide +kernel)
set_option maxRecDepth 65536 in
theorem w_c13 : (Jvm.Cond.code ({ cls := "java/lang/StringLatin1", name := "canEncode", desc := "(C)Z" } : Jvm.MethodName) jdk_43_method_3_code (1 : Nat) (Option.some Jvm.ClassFile.FieldType.boolean)).before args0 about1 = true := code_word (m := ⟨10, 1⟩) (meth := k10m1) (c := k10c1) (by decide +kernel) rfl rfl rfl (by decide +kernel)
set_option maxRecDepth 65536 in
theorem w_c14 : (Jvm.Cond.code ({ cls := "java/lang/StringLatin1", name := "toBytes", desc := "(C)[B" } : Jvm.MethodName) jdk_43_method_46_code (1 : Nat) (Option.some (Jvm.ClassFile.FieldType.array Jvm.ClassFile.FieldType.byte))).before args0 about1 = true := code_word (m := ⟨10, 3⟩) (meth := k10m3) (c := k10c3) (by decide +kernel) rfl rfl rfl (by decide +kernel)
set_option maxRecDepth 65536 in
theorem w_c15 : (Jvm.Cond.code ({ cls := "java/lang/String", name := "<init>", desc := "([BB)V" } : Jvm.MethodName) jdk_42_method_151_code (3 : Nat) (Option.none : Option Jvm.ClassFile.FieldType)).before args0 about1 = true := code_word (m := ⟨7, 5⟩) (meth := k7m5) (c := k7c5) (by decide +kernel) rfl rfl rfl (by decide +kernel)
def codes1 : List Jvm.Cond := [Jvm.Cond.code x code maxLocals ret, Jvm.Cond.code ({ cls := "com/example/unwind/unwind/store/LaneEqualsPinLaw", name := "str", desc := "(I)Ljava/lang/String;" } : Jvm.MethodName) method_2_code (4 : Nat) (Option.some (Jvm.ClassFile.FieldType.object "java/lang/String")), Jvm.Cond.code ({ cls := "com/example/unwind/unwind/store/Outbox$Lane", name := "<init>", desc := "(Ljava/lang/String;Ljava/lang/String;)V" } : Jvm.MethodName) prog_30_method_1_code (3 : Nat) (Option.none : Option Jvm.ClassFile.FieldType), Jvm.Cond.code ({ cls := "java/lang/Object", name := "<init>", desc := "()V" } : Jvm.MethodName) object_method_1_code (1 : Nat) (Option.none : Option Jvm.ClassFile.FieldType), Jvm.Cond.code ({ cls := "java/lang/String", name := "equals", desc := "(Ljava/lang/Object;)Z" } : Jvm.MethodName) jdk_42_method_66_code (3 : Nat) (Option.some Jvm.ClassFile.FieldType.boolean), Jvm.Cond.code ({ cls := "com/example/unwind/unwind/store/Outbox$Lane", name := "equals", desc := "(Ljava/lang/Object;)Z" } : Jvm.MethodName) prog_30_method_2_code (2 : Nat) (Option.some Jvm.ClassFile.FieldType.boolean), Jvm.Cond.code ({ cls := "java/lang/String", name := "<init>", desc := "([C)V" } : Jvm.MethodName) jdk_42_method_3_code (2 : Nat) (Option.none : Option Jvm.ClassFile.FieldType), Jvm.Cond.code ({ cls := "java/lang/String", name := "<init>", desc := "([CIILjava/lang/Void;)V" } : Jvm.MethodName) jdk_42_method_149_code (6 : Nat) (Option.none : Option Jvm.ClassFile.FieldType), Jvm.Cond.code ({ cls := "java/lang/StringUTF16", name := "compress", desc := "([CII)[B" } : Jvm.MethodName) jdk_52_method_16_code (6 : Nat) (Option.some (Jvm.ClassFile.FieldType.array Jvm.ClassFile.FieldType.byte)), Jvm.Cond.code ({ cls := "java/lang/StringUTF16", name := "compress", desc := "([CI[BII)I" } : Jvm.MethodName) jdk_52_method_21_code (7 : Nat) (Option.some Jvm.ClassFile.FieldType.int), Jvm.Cond.code ({ cls := "java/lang/StringUTF16", name := "coderFromArrayLen", desc := "([BI)B" } : Jvm.MethodName) jdk_52_method_15_code (2 : Nat) (Option.some Jvm.ClassFile.FieldType.byte), Jvm.Cond.code ({ cls := "java/lang/StringLatin1", name := "equals", desc := "([B[B)Z" } : Jvm.MethodName) jdk_43_method_13_code (3 : Nat) (Option.some Jvm.ClassFile.FieldType.boolean), Jvm.Cond.code ({ cls := "java/lang/String", name := "valueOf", desc := "(C)Ljava/lang/String;" } : Jvm.MethodName) jdk_42_method_139_code (1 : Nat) (Option.some (Jvm.ClassFile.FieldType.object "java/lang/String")), Jvm.Cond.code ({ cls := "java/lang/StringLatin1", name := "canEncode", desc := "(C)Z" } : Jvm.MethodName) jdk_43_method_3_code (1 : Nat) (Option.some Jvm.ClassFile.FieldType.boolean), Jvm.Cond.code ({ cls := "java/lang/StringLatin1", name := "toBytes", desc := "(C)[B" } : Jvm.MethodName) jdk_43_method_46_code (1 : Nat) (Option.some (Jvm.ClassFile.FieldType.array Jvm.ClassFile.FieldType.byte)), Jvm.Cond.code ({ cls := "java/lang/String", name := "<init>", desc := "([BB)V" } : Jvm.MethodName) jdk_42_method_151_code (3 : Nat) (Option.none : Option Jvm.ClassFile.FieldType)]
set_option maxRecDepth 65536 in
theorem codes_eq : words1.filter isCode = codes1 := rfl
theorem w_codes : ∀ c ∈ words1.filter isCode, c.before args0 about1 = true := by
  rw [codes_eq]
  intro c hc
  simp only [codes1, List.mem_cons, List.not_mem_nil, or_false] at hc
  rcases hc with rfl | rfl | rfl | rfl | rfl | rfl | rfl | rfl | rfl | rfl | rfl | rfl | rfl | rfl | rfl | rfl
  · exact w_c0
  · exact w_c1
  · exact w_c2
  · exact w_c3
  · exact w_c4
  · exact w_c5
  · exact w_c6
  · exact w_c7
  · exact w_c8
  · exact w_c9
  · exact w_c10
  · exact w_c11
  · exact w_c12
  · exact w_c13
  · exact w_c14
  · exact w_c15
set_option maxRecDepth 65536 in
theorem w_t1 : (words1.take 24).all (fun c => isCode c || c.before args0 about1) = true := by decide +kernel
set_option maxRecDepth 65536 in
theorem w_t2 : ((words1.drop 24).take 24).all (fun c => isCode c || c.before args0 about1) = true := by decide +kernel
set_option maxRecDepth 65536 in
theorem w_t3 : (((words1.drop 24).drop 24).take 24).all (fun c => isCode c || c.before args0 about1) = true := by decide +kernel
set_option maxRecDepth 65536 in
theorem w_t4 : (((words1.drop 24).drop 24).drop 24).all (fun c => isCode c || c.before args0 about1) = true := by decide +kernel
theorem w_tables : (allAtoms (Jvm.Cond.code x code maxLocals ret :: tables_1)).before args0 about1 = true := by
  rw [allAtoms_all]
  show words1.all (fun c => c.before args0 about1) = true
  refine all_split ?_ w_codes
  rw [← List.take_append_drop 24 words1, List.all_append, w_t1, ← List.take_append_drop 24 (words1.drop 24), List.all_append, w_t2, ← List.take_append_drop 24 ((words1.drop 24).drop 24), List.all_append, w_t3, w_t4]
  rfl
set_option maxRecDepth 65536 in
theorem w_rest : rest_1_c.before args0 about1 = true := by decide +kernel
set_option maxRecDepth 65536 in
theorem w_case : (Jvm.Cond.and given_1 narrow_1).before args0 about1 = true := by decide +kernel
set_option maxRecDepth 65536 in
theorem w_consts : constsHeld consts_1 about1 := Jvm.Lit.constsHeldB_iff.mp (by decide +kernel)
theorem w_applies : (headSpec (Jvm.Cond.code x code maxLocals ret :: tables_1) room_1).applies x e0.platform about1 = true :=
  (Spec.applies_iff w_frames).mpr ⟨w_running, w_runnable, w_alone, w_named, w_hears, w_ripe, w_room, w_tables⟩
theorem atStart : AtStart classFile x code maxLocals ret World_1 tables_1 room_1 Calls_1 rest_1 Pre_1 launch0 p0 e0 about1 theMethod args0 below0 :=
  ⟨lists_1, trivial, launch0.admits_env _ _ _, launch0.least_env, fairChoices_fair.cas, fairChoices_fair.clock, w_frames, w_args, w_heap, w_applies, ⟨w_consts, trivial⟩, w_rest, w_case⟩
end start1
theorem witness_1 : WitnessClaimed_1 := ⟨start1.p0, start1.e0, start1.about1, start1.theMethod, start1.args0, start1.below0, start1.atStart⟩
end Jvm.Pilot.@@N@@
