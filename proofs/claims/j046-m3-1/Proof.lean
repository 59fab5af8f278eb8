import JvmDerived
import JvmDerived.Pilot.@@N@@Statement
import JvmDerived.Pilot.@@N@@Code
set_option linter.unusedVariables false
set_option linter.unusedSimpArgs false
namespace Jvm.RoadKit
open Sem ClassFile Op Lib Jvm.Stand Jvm.Free Jvm.LawKit
section New
variable {p : Program} {l : Launch} {e : Env} {R : Room} {s : State} {m : MethodId} {args : Array Value} {below : List Frame} {meth : Method} {c : Code} {T : State} {locs : List Loc} {cells slots : Nat}
theorem retI (X : Stand p l e R s m args below meth c T locs cells slots) (hx : p.tables.exec = Jvm.exec) {pc : Nat} {Ls : Array Slot} {z : Int32} {rest : List Value} (hret : meth.sig.returnType = some .int) (hd : decode c.code pc = .ok (.ireturn, 1)) {fs : List Frame}
    (hl : ∀ (f : JFrame) (acts : List Action), f.method = m → f.locked = none → f.entered = [] → (doReturn e (T.setTop f) acts (some (.int z))).1 = T.setFrames fs) : Steps p.tables e below (T.setTop (mkF m pc Ls (.int z :: rest))) (T.setFrames fs) := by
  have hm' : T.vm.method? m = some meth := X.method'
  have hn : narrow .int (.int z) = .int z := rfl
  show Steps p.tables e below (T.setTop { method := m, pc := pc, locals := Ls, stack := _ :: rest, locked := none }) _
  jvm_step X.here [X.here.top, hx, hd, hm', hret, hn]
  first | (intro acts; rw [hl _ acts rfl rfl rfl]) | rw [hl _ _ rfl rfl rfl]
  exact Steps.refl _
end New
end Jvm.RoadKit
namespace Jvm.Pilot.@@N@@
open Jvm Jvm.ClassFile Sem Op Lib Jvm.Free Jvm.Stand Jvm.LawKit Jvm.RoadKit Bundle Jvm.Pilot.@@N@@.Jvm.D
section Own
variable {p : Program} {l : Launch} {e : Env} {R : Room} {s : State} {m : MethodId} {args : Array Value} {below : List Frame} {meth : Method} {c : Code} {T T' : State} {locs : List Loc} {cells slots : Nat} {f f' : JFrame} {Q : Option Value → Heap → List Loc → Prop} {ck sk : Nat} {h : Heap} {Z : State}
/-- from here the run comes to its end, and leaves what Q says -/
def Go (p : Program) (e : Env) (below : List Frame) (s : State) (Q : Option Value → Heap → List Loc → Prop) (ck sk : Nat) (T : State) (f : JFrame) : Prop :=
  ∃ s₂ o, Steps p.tables e below (T.setTop f) s₂ ∧ s₂.status = .running ∧ Ended s₂ below o ∧ ∃ v L, o = .returned v ∧ Q v s₂.heap L ∧ FrameEnd s o s₂ L ck sk
theorem Go.step (st : ∀ t, Steps p.tables e below (T'.setTop f') t → Steps p.tables e below (T.setTop f) t) (k : Go p e below s Q ck sk T' f') : Go p e below s Q ck sk T f := by
  obtain ⟨s₂, o, h1, r⟩ := k; exact ⟨s₂, o, st _ h1, r⟩
theorem Go.via (st : Steps p.tables e below (T.setTop f) (T'.setTop f')) (k : Go p e below s Q ck sk T' f') : Go p e below s Q ck sk T f := by
  obtain ⟨s₂, o, h1, r⟩ := k; exact ⟨s₂, o, st.trans h1, r⟩
theorem Go.retI (X : Stand p l e R s m args below meth c T locs cells slots) (hx : p.tables.exec = Jvm.exec) (hlk : meth.locks = false) {pc : Nat} {Ls : Array Slot} {z : Int32} {rest : List Value} (hret : meth.sig.returnType = some .int) (hd : decode c.code pc = .ok (.ireturn, 1)) (eT : T.heap = h) (hq : Q (some (.int z)) h locs) (hck : cells ≤ ck) (hsk : slots ≤ sk) : Go p e below s Q ck sk T (mkF m pc Ls (.int z :: rest)) := by
  subst eT
  obtain ⟨fs, hr, hrun, hended, hW, hsame⟩ := X.leave (v := some (.int z)) (fun h => by rw [hret] at h; cases h) hlk
  exact ⟨_, _, Jvm.RoadKit.retI X hx hret hd hr, hrun, hended, _, _, rfl, hq, ⟨_, rfl⟩, hW, hsame.mono hck hsk⟩
theorem Go.retZ (X : Stand p l e R s m args below meth c T locs cells slots) (hx : p.tables.exec = Jvm.exec) (hlk : meth.locks = false) {pc : Nat} {Ls : Array Slot} {z : Int32} {rest : List Value} {t : FieldType} (hret : meth.sig.returnType = some t) (ht : t = .boolean ∨ t = .byte ∨ t = .char ∨ t = .short) (hd : decode c.code pc = .ok (.ireturn, 1)) (eT : T.heap = h) (hq : Q (some (.int (nar t z))) h locs) (hck : cells ≤ ck) (hsk : slots ≤ sk) : Go p e below s Q ck sk T (mkF m pc Ls (.int z :: rest)) := by
  subst eT
  obtain ⟨fs, hr, hrun, hended, hW, hsame⟩ := X.leave (v := some (.int (nar t z))) (fun h => by rw [hret] at h; cases h) hlk
  exact ⟨_, _, retN X hx hret ht hd hr, hrun, hended, _, _, rfl, hq, ⟨_, rfl⟩, hW, hsame.mono hck hsk⟩
theorem Go.retV (X : Stand p l e R s m args below meth c T locs cells slots) (hx : p.tables.exec = Jvm.exec) (hlk : meth.locks = false) {pc : Nat} {Ls : Array Slot} (hret : meth.sig.returnType = none) (hd : decode c.code pc = .ok (.return_, 1)) (eT : T.heap = h) (hq : Q none h locs) (hck : cells ≤ ck) (hsk : slots ≤ sk) : Go p e below s Q ck sk T (mkF m pc Ls []) := by
  subst eT
  obtain ⟨fs, hr, hrun, hended, hW, hsame⟩ := X.leave (v := none) (fun _ => rfl) hlk
  exact ⟨_, _, X.returnOut hx hret hd hr, hrun, hended, _, _, rfl, hq, ⟨_, rfl⟩, hW, hsame.mono hck hsk⟩
theorem Go.retJ (X : Stand p l e R s m args below meth c T locs cells slots) (hx : p.tables.exec = Jvm.exec) (hlk : meth.locks = false) {pc : Nat} {Ls : Array Slot} {z : Int64} {rest : List Value} (hret : meth.sig.returnType = some .long) (hd : decode c.code pc = .ok (.lreturn, 1)) (eT : T.heap = h) (hq : Q (some (.long z)) h locs) (hck : cells ≤ ck) (hsk : slots ≤ sk) : Go p e below s Q ck sk T (mkF m pc Ls (.long z :: rest)) := by
  subst eT
  obtain ⟨fs, hr, hrun, hended, hW, hsame⟩ := X.leave (v := some (.long z)) (fun h => by rw [hret] at h; cases h) hlk
  exact ⟨_, _, retOut X hx hret rfl (Or.inr (Or.inl ⟨rfl, rfl, _, rfl⟩)) hd hr, hrun, hended, _, _, rfl, hq, ⟨_, rfl⟩, hW, hsame.mono hck hsk⟩
theorem own_nar_ref {t : FieldType} {w : Value} (h1 : t.isReference = true) (h2 : w.isRef = true) : narrow t w = w := by
  cases t <;> first | (cases h1; done) | (cases w <;> first | rfl | (cases h2; done))
theorem Go.retA (X : Stand p l e R s m args below meth c T locs cells slots) (hx : p.tables.exec = Jvm.exec) (hlk : meth.locks = false) {pc : Nat} {Ls : Array Slot} {w : Value} {rest : List Value} {t : FieldType} (hret : meth.sig.returnType = some t) (ht : t.isReference = true) (hw : w.isRef = true) (hd : decode c.code pc = .ok (.areturn, 1)) (eT : T.heap = h) (hq : Q (some w) h locs) (hck : cells ≤ ck) (hsk : slots ≤ sk) : Go p e below s Q ck sk T (mkF m pc Ls (w :: rest)) := by
  subst eT
  obtain ⟨fs, hr, hrun, hended, hW, hsame⟩ := X.leave (v := some w) (fun h => by rw [hret] at h; cases h) hlk
  exact ⟨_, _, retOut X hx hret (own_nar_ref ht hw) (Or.inr (Or.inr (Or.inr (Or.inr ⟨rfl, ht, hw⟩)))) hd hr, hrun, hended, _, _, rfl, hq, ⟨_, rfl⟩, hW, hsame.mono hck hsk⟩
theorem own_old_le {n0 : Nat} (o : Old Z n0 h) : n0 ≤ h.size := o.1 ▸ o.2.1
theorem own_alen (X : Stand p l e R s m args below meth c T locs cells slots) (hx : p.tables.exec = Jvm.exec) (hZ : Z.Warmed39 s.vm) (eT : T.heap = h) {a : Addr} {cl : Cell} {ty : FieldType} (A : Arr Z h a cl ty) {z : Int32} (S : cl.slots.size = z.toNatClampNeg) (N : ¬ z < 0) {g : JFrame} (hg : g.method = m) {rest : List Value} (hs : g.stack = .ref a :: rest) (hd : decode c.code g.pc = .ok (.arraylength, 1)) {t : State}
    (k : Steps p.tables e below (T.setTop { g with pc := g.pc + 1, stack := .int z :: rest }) t) : Steps p.tables e below (T.setTop g) t :=
  X.arraylength hx (by rw [eT]; exact A.1) (State.isArrayOf_alike hZ.alike A.2.1) hg hs hd _ (by rw [len_of S N]; exact k)
theorem own_fld_start {args : Array Value} {s : State} {t : Term} {a : Addr} {C n d : String} {k : Int32} (ev : t.eval args s none [] s = some (.ref a)) (h : (Jvm.Cond.eq (.field t C n d) (.int k)).value args s none s [] = some true) : Fld s s.heap a C n d (.int k) := by
  refine Fld.start ?_
  rw [← fld_at ev]
  obtain ⟨x, y, h1, h2, h3, h4⟩ := cmp_v (Or.inl h)
  have h2' : (Value.int k) = y := Option.some.inj h2
  subst h2'
  obtain ⟨z, rfl⟩ := h4
  have q := gotT (Jvm.Cond.eq_ints h1 h2) h
  rw [h1, q]
theorem own_nar8 (z : Int32) : z.toInt8.toInt32.toInt8.toInt32 = z.toInt8.toInt32 := by simp
end Own
section OwnH
variable {p : Program} {l : Launch} {e : Env} {R : Room} {s : State} {m : MethodId} {args : Array Value} {below : List Frame} {meth : Method} {c : Code} {T T' : State} {locs : List Loc} {cells slots : Nat} {f f' : JFrame} {Q : Option Value → Heap → List Loc → Prop} {ck sk : Nat} {h : Heap} {Z : State} {EL : List (String × Nat)} {a0 : Array Value} {vm0 : Vm} {k0 : Nat}
/-- as Go, where String constants may be loaded on the way -/
def GoH (p : Program) (e : Env) (below : List Frame) (s : State) (Z : State) (EL : List (String × Nat)) (Q : Option Value → Heap → List Loc → Prop) (ck sk : Nat) (T : State) (f : JFrame) : Prop :=
  ∃ s₂ o, Steps p.tables e below (T.setTop f) s₂ ∧ s₂.status = .running ∧ Ended s₂ below o ∧ ∃ v L, o = .returned v ∧ Q v s₂.heap L ∧ CHr Z EL s.vm s.heap s₂.vm s₂.heap ∧ ReturnedEndW s o s₂ L ck sk
theorem GoH.step (st : ∀ t, Steps p.tables e below (T'.setTop f') t → Steps p.tables e below (T.setTop f) t) (k : GoH p e below s Z EL Q ck sk T' f') : GoH p e below s Z EL Q ck sk T f := by
  obtain ⟨s₂, o, h1, r⟩ := k; exact ⟨s₂, o, st _ h1, r⟩
theorem GoH.via (st : Steps p.tables e below (T.setTop f) (T'.setTop f')) (k : GoH p e below s Z EL Q ck sk T' f') : GoH p e below s Z EL Q ck sk T f := by
  obtain ⟨s₂, o, h1, r⟩ := k; exact ⟨s₂, o, st.trans h1, r⟩
theorem GoH.fin (X : Stand p l e R (s.setVm vm0) m args below meth c T locs cells slots) (hZ : Z.Warmed39 vm0) (hEL : EW Z a0 EL) (hS : s.Since vm0 k0) (hk : k0 ≤ h.size) (hC : CHr Z EL s.vm s.heap vm0 h) (hlk : meth.locks = false) {v : Option Value} (hv : meth.sig.returnType = none → v = none)
    (hst : ∀ fs, (∀ (f : JFrame) (acts : List Action), f.method = m → f.locked = none → f.entered = [] → (doReturn e (T.setTop f) acts v).1 = T.setFrames fs) → Steps p.tables e below (T.setTop f) (T.setFrames fs)) (eT : T.heap = h) (hq : Q v h locs) (hck : cells ≤ ck) (hsk : slots ≤ sk) : GoH p e below s Z EL Q ck sk T f := by
  subst eT
  obtain ⟨fs, hr, hrun, hended, hE⟩ := X.leaveW hS hk hv hlk
  exact ⟨_, _, hst fs hr, hrun, hended, _, _, rfl, hq, (show CHr Z EL s.vm s.heap (T.setFrames fs).vm (T.setFrames fs).heap from (hC.trans (CHv.at X hZ hEL hC.1) : CHr Z EL s.vm s.heap T.vm T.heap)), hE.1, hE.2.1, hE.2.2.1, hE.2.2.2.mono hck hsk⟩
theorem own_wS (hw : ∀ d ∈ tables_1, d.before a0 Z = true) : ∀ a ∈ Bundle.stringAtoms, a.before a0 Z = true := fun d hd => hw d ((by decide +kernel : ∀ w ∈ Bundle.stringAtoms, w ∈ tables_1) d hd)
theorem own_fcast {a : Addr} {C n d : String} {v w : Value} (e : v = w) (F : Fld Z h a C n d v) : Fld Z h a C n d w := e ▸ F
end OwnH
def own_EL : List (String × Nat) := [("java/lang/String", 7)]
theorem own_ns_root {Z : State} {a0 : Array Value} {O K : String} {n : Nat} (w : (Jvm.Cond.noSuperclass O).before a0 Z = true) (wi : (Jvm.Cond.instantiable K n).before a0 Z = true) (hn : O ≠ K) : NS Z O K := by
  obtain ⟨c, k, h1, h2, h3, -, -⟩ := Cond.noSuperclass_spec w
  obtain ⟨t, kt, g1, -⟩ := Cond.instantiable_spec wi
  have ne := ids_ne h1 g1 hn
  refine ⟨c, t, h1, g1, fun fuel => ?_⟩
  cases fuel with
  | zero => rfl
  | succ f => simp [Vm.isSubclassAux, ne, h2, h3]
theorem own_ns_no {Z : State} {a0 : Array Value} {C S K : String} {n : Nat} (w : (Jvm.Cond.superclass C S).before a0 Z = true) (wi : (Jvm.Cond.instantiable K n).before a0 Z = true) (m : NS Z C K) (hn : C ≠ K) : ∃ c t, Z.vm.findClass C = some c ∧ Z.vm.findClass K = some t ∧ Z.vm.assignable c t = false := by
  obtain ⟨c, t, h0, g0, n3⟩ := m
  obtain ⟨p, k, kp, h1, h2, h3, h4, h5, -, h7⟩ := Cond.superclass_spec h0 w
  obtain ⟨t', kt, g1, g2, g3, g4, -⟩ := Cond.instantiable_spec wi
  cases g0.symm.trans g1
  have ne := ids_ne h0 g0 hn
  have g5 : kt.isInterface = false := by cases hq : kt.isInterface <;> simp [hq] at g4 ⊢
  refine ⟨c, t, h0, g0, ?_⟩
  show Z.vm.assignableAux (255 + 1) c t = false
  simp [Vm.assignableAux, ne, h2, g2, h5, g3, g5, Vm.isSubclass, n3]
theorem own_vcast {Z : State} {h : Heap} {a : Addr} {k : ClassId} {ty : FieldType} {z z' : Int32} {vs vs' : List Value} {d : Value} (hz : z = z') (hv : vs = vs') (F : Arv Z h a k ty z vs d) : Arv Z h a k ty z' vs' d := hz ▸ hv ▸ F
theorem own_fld_eq {Z : State} {h : Heap} {a : Addr} {C n d : String} {v w : Value} (F : Fld Z h a C n d v) (G : Fld Z h a C n d w) : v = w := by
  by_cases q : v = w
  · exact q
  · exact absurd rfl (F.ne G q)
theorem own_len32 {n : Nat} (h : n ≤ 3) : (Int32.ofNat n).toNatClampNeg = n := by
  have : n = 0 ∨ n = 1 ∨ n = 2 ∨ n = 3 := by omega
  rcases this with rfl | rfl | rfl | rfl <;> decide
theorem own_arv_eq {Z : State} {h : Heap} {a : Addr} {k k' : ClassId} {xs ys : List Int32} (hx : xs.length ≤ 3) (hy : ys.length ≤ 3) (A : Arv Z h a k .byte (Int32.ofNat xs.length) (xs.map Value.int) (.int (0 : Int32))) (B : Arv Z h a k' .byte (Int32.ofNat ys.length) (ys.map Value.int) (.int (0 : Int32))) : xs = ys := by
  by_cases hl : xs.length = ys.length
  · apply List.ext_getElem hl
    intro i h1 h2
    by_cases q : xs[i] = ys[i]
    · exact q
    · refine absurd rfl (arv_ne A B (Or.inr ⟨i, ?_, ?_⟩))
      · rw [own_len32 hx]; exact h1
      · simpa [h1, h2] using q
  · exact absurd rfl (arv_ne A B (Or.inl (by rw [own_len32 hx, own_len32 hy]; exact hl)))
/-- one String, met twice: it bears one text -/
theorem own_str_eq {Z : State} {h : Heap} {a b va vb : Addr} {k k' : ClassId} {xs ys : List Int32} (e : a = b) (hx : xs.length ≤ 3) (hy : ys.length ≤ 3) (F : Fld Z h a "java/lang/String" "value" "[B" (.ref va)) (A : Arv Z h va k .byte (Int32.ofNat xs.length) (xs.map Value.int) (.int (0 : Int32))) (G : Fld Z h b "java/lang/String" "value" "[B" (.ref vb)) (B : Arv Z h vb k' .byte (Int32.ofNat ys.length) (ys.map Value.int) (.int (0 : Int32))) : xs = ys := by
  subst e
  have q := own_fld_eq F G
  cases q
  exact own_arv_eq hx hy A B
/-- a String whose array isn't laid yet is no constant's -/
theorem own_safe_null {Z : State} {EL : List (String × Nat)} {vm : Vm} {h : Heap} {x : Addr} (hal : Z.vm.Alike vm) (E : Exa Z h x "java/lang/String") (F : Fld Z h x "java/lang/String" "value" "[B" .null) : Safe Z EL vm h x := fun B => by
  obtain ⟨cell, k, e1, e2, e3, -, -⟩ := E
  have nm : ∀ {n : String} {c : ClassId}, vm.findClass n = some c → c = cell.cls → n = "java/lang/String" := fun {n c} f e => by
    subst e
    rw [hal.findClass] at f
    obtain ⟨k1, q1, q2⟩ := Vm.findClass_spec f
    obtain ⟨k2, q3, q4⟩ := Vm.findClass_spec e2
    cases q1.symm.trans q3
    exact q2.symm.trans q4
  obtain ⟨p, -, u, a, -, q, -, G, rfl | rfl⟩ := B
  · have ha := G.ha
    obtain ⟨cS, ⟨⟨-, -, -, ⟨c1, k1, i1, f1, -⟩, -, -, -, v1, -⟩, -⟩, -⟩ := G
    obtain ⟨cell', cf, kk, i, f, g1, g2, -, -, -, -, g7⟩ := F
    cases (show h[q.sa]? = some q.sC from ha).symm.trans g1
    obtain ⟨k3, g3, -⟩ := State.fieldFound?_setVm (s := Z) hal g2
    have g4 := (show (Wst Z vm h).fieldFound? _ _ _ = _ from g3).symm.trans f1
    simp only [Option.some.injEq, Prod.mk.injEq] at g4
    rw [← g4.2.2.2, g7] at v1
    cases v1
  · cases (show h[q.sd]? = some q.SA from G.hd).symm.trans e1
    obtain ⟨cS, -, -, f, -⟩ := G
    exact absurd (nm f rfl) (by decide)
theorem own_f1 {A B C D : List Int32} (h : (if A = B then (1 : Int32) else 0) = (0 : Int32)) : (if A = B ∧ C = D then (1 : Int32) else 0) = (0 : Int32) := if_neg fun q => absurd h (by rw [if_pos q.1]; decide)
theorem own_f1s {A B C D : List Int32} (h : (if A = B then (1 : Int32) else 0) = (0 : Int32)) : (if B = A ∧ D = C then (1 : Int32) else 0) = (0 : Int32) := if_neg fun q => absurd h (by rw [if_pos q.1.symm]; decide)
theorem own_f2 {A B C D : List Int32} (h' : ¬ (if A = B then (1 : Int32) else 0) = (0 : Int32)) (h : (if C = D then (1 : Int32) else 0) = (0 : Int32)) : (if A = B ∧ C = D then (1 : Int32) else 0) = (0 : Int32) := if_neg fun q => absurd h (by rw [if_pos q.2]; decide)
theorem own_f2s {A B C D : List Int32} (h' : ¬ (if A = B then (1 : Int32) else 0) = (0 : Int32)) (h : (if C = D then (1 : Int32) else 0) = (0 : Int32)) : (if B = A ∧ D = C then (1 : Int32) else 0) = (0 : Int32) := if_neg fun q => absurd h (by rw [if_pos q.2.symm]; decide)
theorem own_is {A B : List Int32} (h : ¬ (if A = B then (1 : Int32) else 0) = (0 : Int32)) : A = B := by
  by_cases q : A = B
  · exact q
  · exact absurd (if_neg q) h
theorem own_f3 {A B C D : List Int32} (h : ¬ (if A = B then (1 : Int32) else 0) = (0 : Int32)) (h' : ¬ (if C = D then (1 : Int32) else 0) = (0 : Int32)) : (if A = B ∧ C = D then (1 : Int32) else 0) = (1 : Int32) := if_pos ⟨own_is h, own_is h'⟩
theorem own_f3s {A B C D : List Int32} (h : ¬ (if A = B then (1 : Int32) else 0) = (0 : Int32)) (h' : ¬ (if C = D then (1 : Int32) else 0) = (0 : Int32)) : (if B = A ∧ D = C then (1 : Int32) else 0) = (1 : Int32) := if_pos ⟨(own_is h).symm, (own_is h').symm⟩
theorem own_i2c (x : Int32) : nar .char ((x &&& (255 : Int32)).toUInt32.toUInt16.toUInt32.toInt32) = x &&& (255 : Int32) := by
  rw [i2c_mask]; exact i2c_mask x
theorem own_c8 (x : Int32) : ¬ ((255 : Int32) < nar .char ((x &&& (255 : Int32)).toUInt32.toUInt16.toUInt32.toInt32)) := by
  rw [own_i2c, Int32.lt_iff_toInt_lt]
  have h := c_and x 255 (by decide)
  omega
theorem own_if1 {P : Prop} [Decidable P] (h : ¬ (if P then (1 : Int32) else 0) = (0 : Int32)) : (if P then (1 : Int32) else 0) = 1 := by
  by_cases q : P
  · exact if_pos q
  · exact absurd (if_neg q) h
theorem own_a4 (x : Int32) : (x &&& (3 : Int32)) = (0 : Int32) ∨ (x &&& (3 : Int32)) = (1 : Int32) ∨ (x &&& (3 : Int32)) = (2 : Int32) ∨ (x &&& (3 : Int32)) = (3 : Int32) := by
  have h1 := c_and x (3 : Int32) (by decide)
  have e0 : (0 : Int32).toInt = 0 := by decide
  have e1 : (1 : Int32).toInt = 1 := by decide
  have e2 : (2 : Int32).toInt = 2 := by decide
  have e3 : (3 : Int32).toInt = 3 := by decide
  simp only [← Int32.toInt_inj]
  omega
def own_ch (k x : Int32) : Int32 := ((x.toUInt32 >>> (k &&& 31).toUInt32).toInt32) &&& (255 : Int32)
def own_b (k x : Int32) : Int32 := (nar .char ((own_ch k x).toUInt32.toUInt16.toUInt32.toInt32)).toInt8.toInt32
theorem own_c8ch (k x : Int32) : ¬ ((255 : Int32) < nar .char ((own_ch k x).toUInt32.toUInt16.toUInt32.toInt32)) := own_c8 _
theorem own_bI {k x j y : Int32} : own_b k x = own_b j y ↔ own_ch k x = own_ch j y := by
  have e : ∀ k x : Int32, own_b k x = (own_ch k x).toInt8.toInt32 := fun k x => by
    show (nar .char (((((x.toUInt32 >>> (k &&& 31).toUInt32).toInt32) &&& (255 : Int32))).toUInt32.toUInt16.toUInt32.toInt32)).toInt8.toInt32 = _
    rw [own_i2c]; rfl
  have r : ∀ k x : Int32, 0 ≤ (own_ch k x).toInt ∧ (own_ch k x).toInt ≤ 255 := fun k x => c_and _ 255 (by decide)
  rw [e, e]
  constructor
  · intro h
    have h1 := c_i2b (own_ch k x); have h2 := c_i2b (own_ch j y); have h3 := r k x; have h4 := r j y
    have h5 : (own_ch k x).toInt8.toInt32.toInt = (own_ch j y).toInt8.toInt32.toInt := by rw [h]
    apply Int32.toInt_inj.mp; omega
  · intro h; rw [h]
def own_str (x : Int32) : List Int32 := if (x &&& (3 : Int32)) = 0 then [] else if (x &&& (3 : Int32)) = 1 then [own_b (2 : Int32) x] else if (x &&& (3 : Int32)) = 2 then [own_b (2 : Int32) x, own_b (10 : Int32) x] else [own_b (2 : Int32) x, own_b (10 : Int32) x, own_b (18 : Int32) x]
theorem own_s0 {x : Int32} (h : (x &&& (3 : Int32)) = (0 : Int32)) : own_str x = [] := by rw [own_str, h]; rfl
theorem own_s1 {x : Int32} (h : (x &&& (3 : Int32)) = (1 : Int32)) : own_str x = [own_b (2 : Int32) x] := by rw [own_str, h]; rfl
theorem own_s2 {x : Int32} (h : (x &&& (3 : Int32)) = (2 : Int32)) : own_str x = [own_b (2 : Int32) x, own_b (10 : Int32) x] := by rw [own_str, h]; rfl
theorem own_s3 {x : Int32} (h : (x &&& (3 : Int32)) = (3 : Int32)) : own_str x = [own_b (2 : Int32) x, own_b (10 : Int32) x, own_b (18 : Int32) x] := by rw [own_str, h]; rfl
theorem own_strlen (x : Int32) : (own_str x).length ≤ 3 := by
  unfold own_str; split
  · simp
  · split
    · simp
    · split <;> simp
theorem d7_0 : decode jdk_52_method_21_code 0 = .ok (.iconst 0, 1) := by decide +kernel
theorem d7_1 : decode jdk_52_method_21_code 1 = .ok (.istore 5, 2) := by decide +kernel
theorem d7_3 : decode jdk_52_method_21_code 3 = .ok (.iload 5, 2) := by decide +kernel
theorem d7_5 : decode jdk_52_method_21_code 5 = .ok (.iload 4, 2) := by decide +kernel
theorem d7_7 : decode jdk_52_method_21_code 7 = .ok (.if_icmp .ge 37, 3) := by decide +kernel
theorem d7_10 : decode jdk_52_method_21_code 10 = .ok (.aload_n 0, 1) := by decide +kernel
theorem d7_11 : decode jdk_52_method_21_code 11 = .ok (.iload_n 1, 1) := by decide +kernel
theorem d7_12 : decode jdk_52_method_21_code 12 = .ok (.caload, 1) := by decide +kernel
theorem d7_13 : decode jdk_52_method_21_code 13 = .ok (.istore 6, 2) := by decide +kernel
theorem d7_15 : decode jdk_52_method_21_code 15 = .ok (.iload 6, 2) := by decide +kernel
theorem d7_17 : decode jdk_52_method_21_code 17 = .ok (.sipush 255, 3) := by decide +kernel
theorem d7_20 : decode jdk_52_method_21_code 20 = .ok (.if_icmp .le 6, 3) := by decide +kernel
theorem d7_26 : decode jdk_52_method_21_code 26 = .ok (.aload_n 2, 1) := by decide +kernel
theorem d7_27 : decode jdk_52_method_21_code 27 = .ok (.iload_n 3, 1) := by decide +kernel
theorem d7_28 : decode jdk_52_method_21_code 28 = .ok (.iload 6, 2) := by decide +kernel
theorem d7_30 : decode jdk_52_method_21_code 30 = .ok (.i2b, 1) := by decide +kernel
theorem d7_31 : decode jdk_52_method_21_code 31 = .ok (.bastore, 1) := by decide +kernel
theorem d7_32 : decode jdk_52_method_21_code 32 = .ok (.iinc 1 1, 3) := by decide +kernel
theorem d7_35 : decode jdk_52_method_21_code 35 = .ok (.iinc 3 1, 3) := by decide +kernel
theorem d7_38 : decode jdk_52_method_21_code 38 = .ok (.iinc 5 1, 3) := by decide +kernel
theorem d7_41 : decode jdk_52_method_21_code 41 = .ok (.goto (-38), 3) := by decide +kernel
theorem d7_44 : decode jdk_52_method_21_code 44 = .ok (.iload 4, 2) := by decide +kernel
theorem d7_46 : decode jdk_52_method_21_code 46 = .ok (.ireturn, 1) := by decide +kernel
theorem pn_java_lang_StringUTF16 : plainName "java/lang/StringUTF16" = true := by first | (simp [plainName, overriddenIn]; done) | decide +kernel
theorem ef_cpr1 (m : MethodId) (bc : Addr) (bb : Addr) : entryFrame m #[(.ref bc), (.int (0 : Int32)), (.ref bb), (.int (0 : Int32)), (.int (1 : Int32))] 7 = mkF m 0 #[.val (.ref bc), .val (.int (0 : Int32)), .val (.ref bb), .val (.int (0 : Int32)), .val (.int (1 : Int32)), .unset, .unset] [] := by first | (simp [entryFrame, mkF, argsToLocals, Value.category]; done) | rfl
def Q_cpr1 (Z : State) (bc : Addr) (bb : Addr) (kc : ClassId) (cc0 : Int32) (kb : ClassId) (h0 : Heap) (n0 : Nat) (v : Option Value) (h : Heap) (L : List Loc) : Prop := v = some (.int (1 : Int32)) ∧ Fr n0 L ∧ Keep h0 h [bb] ∧ Arv Z h bb kb .byte (1 : Int32) [(.int (cc0.toInt8.toInt32))] (.int (0 : Int32))
set_option maxRecDepth 65536 in
set_option maxHeartbeats 40000000 in
theorem rm_cpr1 (l : Launch) (Z : State) (a0 : Array Value) (hw : ∀ d ∈ tables_1, d.before a0 Z = true) (ws : List Jvm.Cond) (bc : Addr) (bb : Addr) (kc : ClassId) (cc0 : Int32) (kb : ClassId) (h0 : Heap) (n0 : Nat) (O0 : Old Z n0 h0) (P0 : Arv Z h0 bc kc .char (1 : Int32) [(.int cc0)] (.int (0 : Int32))) (P1 : Arv Z h0 bb kb .byte (1 : Int32) [(.int (0 : Int32))] (.int (0 : Int32))) (P2 : n0 ≤ bb) (P3 : bc ≠ bb) (hc0 : ¬ ((255 : Int32) < cc0)) :
    MetFree l (⟨"java/lang/StringUTF16", "compress", "([CI[BII)I"⟩ : MethodName) (head1 (Jvm.Cond.code (⟨"java/lang/StringUTF16", "compress", "([CI[BII)I"⟩ : MethodName) jdk_52_method_21_code 7 (some .int) :: ws) ({ frames := 0, cells := 0, slots := 0, locals := 0 } : Room)) (fun a U => a = #[(.ref bc), (.int (0 : Int32)), (.ref bb), (.int (0 : Int32)), (.int (1 : Int32))] ∧ Z.Warmed39 U.vm ∧ U.heap = h0) (fun _ _ _ _ _ => True) (fun _ U o U' => ∃ v L, o = .returned v ∧ Q_cpr1 Z bc bb kc cc0 kb h0 n0 v U'.heap L ∧ FrameEnd U o U' L ({ frames := 0, cells := 0, slots := 0, locals := 0 } : Room).cells ({ frames := 0, cells := 0, slots := 0, locals := 0 } : Room).slots) := by
  refine MetFree.of_bodySF (plainFor_of_name pn_java_lang_StringUTF16) hisR ?_
  intro p e s m args below meth c s₁ Bd hml0 hP hK
  obtain ⟨rfl, hZ, hh⟩ := hP
  have hx := Bd.exec
  have hby := Bd.bytes
  have hml : c.maxLocals = 7 := hml0
  have hown : s.vm.findClass "java/lang/StringUTF16" = some m.cls := findClass_of_methodNamed Bd.named
  have hnm := (name_of_methodNamed Bd.named Bd.method).1
  have hlk : meth.locks = false := BodyLoose.notSynchronized Bd
  have X0 : Stand p l e ({ frames := 0, cells := 0, slots := 0, locals := 0 } : Room) s m #[(.ref bc), (.int (0 : Int32)), (.ref bb), (.int (0 : Int32)), (.int (1 : Int32))] below meth c s₁ [] 0 0 := Stand.of_body Bd
  have e0 : s₁.heap = h0 := by rw [← hh, Bd.state]; rfl
  have N0 := Fr.nil n0
  have K0 := Keep.refl h0 [bb]
  rw [ef_cpr1 m bc bb]
  show Go p e below s (fun v h L => Q_cpr1 Z bc bb kc cc0 kb h0 n0 v h L) ({ frames := 0, cells := 0, slots := 0, locals := 0 } : Room).cells ({ frames := 0, cells := 0, slots := 0, locals := 0 } : Room).slots s₁ (mkF m 0 #[.val (.ref bc), .val (.int (0 : Int32)), .val (.ref bb), .val (.int (0 : Int32)), .val (.int (1 : Int32)), .unset, .unset] [])
  refine Go.step (T' := s₁) (f' := (mkF m 1 #[.val (.ref bc), .val (.int (0 : Int32)), .val (.ref bb), .val (.int (0 : Int32)), .val (.int (1 : Int32)), .unset, .unset] [(.int (0 : Int32))])) (fun t k => XS.iconst X0.here hx rfl (hb hby d7_0) k) ?_
  refine Go.step (T' := s₁) (f' := (mkF m 3 #[.val (.ref bc), .val (.int (0 : Int32)), .val (.ref bb), .val (.int (0 : Int32)), .val (.int (1 : Int32)), .val (.int (0 : Int32)), .unset] [])) (fun t k => XS.istore X0.here hx rfl (hb hby d7_1) rfl (l' := #[.val (.ref bc), .val (.int (0 : Int32)), .val (.ref bb), .val (.int (0 : Int32)), .val (.int (1 : Int32)), .val (.int (0 : Int32)), .unset]) rfl k) ?_
  refine Go.step (T' := s₁) (f' := (mkF m 5 #[.val (.ref bc), .val (.int (0 : Int32)), .val (.ref bb), .val (.int (0 : Int32)), .val (.int (1 : Int32)), .val (.int (0 : Int32)), .unset] [(.int (0 : Int32))])) (fun t k => XS.iload X0.here hx rfl (hb hby d7_3) rfl k) ?_
  refine Go.step (T' := s₁) (f' := (mkF m 7 #[.val (.ref bc), .val (.int (0 : Int32)), .val (.ref bb), .val (.int (0 : Int32)), .val (.int (1 : Int32)), .val (.int (0 : Int32)), .unset] [(.int (1 : Int32)), (.int (0 : Int32))])) (fun t k => XS.iload X0.here hx rfl (hb hby d7_5) rfl k) ?_
  refine Go.step (T' := s₁) (f' := (mkF m 10 #[.val (.ref bc), .val (.int (0 : Int32)), .val (.ref bb), .val (.int (0 : Int32)), .val (.int (1 : Int32)), .val (.int (0 : Int32)), .unset] [])) (fun t k => XS.icmpNo X0.here hx rfl (hb hby d7_7) rfl (tlt (by decide : (0 : Int32) < (1 : Int32))).2.1 k) ?_
  refine Go.step (T' := s₁) (f' := (mkF m 11 #[.val (.ref bc), .val (.int (0 : Int32)), .val (.ref bb), .val (.int (0 : Int32)), .val (.int (1 : Int32)), .val (.int (0 : Int32)), .unset] [(.ref bc)])) (fun t k => XS.aloadN X0.here hx rfl (hb hby d7_10) rfl rfl k) ?_
  refine Go.step (T' := s₁) (f' := (mkF m 12 #[.val (.ref bc), .val (.int (0 : Int32)), .val (.ref bb), .val (.int (0 : Int32)), .val (.int (1 : Int32)), .val (.int (0 : Int32)), .unset] [(.int (0 : Int32)), (.ref bc)])) (fun t k => XS.iloadN X0.here hx rfl (hb hby d7_11) rfl k) ?_
  obtain ⟨ca1, Aa1, qa1, Sa1, Na1, Ha1, Ga1⟩ := id P0
  have ia1 : ¬ ((0 : Int32) < 0 ∨ ca1.slots.size ≤ ((0 : Int32)).toNatClampNeg) := inb_of Sa1 ⟨by decide, by decide⟩
  have va1 := Ha1.at (v := (.int cc0)) ia1 rfl
  refine Go.step (T' := s₁) (f' := (mkF m 13 #[.val (.ref bc), .val (.int (0 : Int32)), .val (.ref bb), .val (.int (0 : Int32)), .val (.int (1 : Int32)), .val (.int (0 : Int32)), .unset] [(.int cc0)])) (fun t k => X0.caload hx (j := (0 : Int32)) (v := (.int cc0)) (by rw [e0]; exact Aa1.1) (State.isArrayOf_alike hZ.alike Aa1.2.1) Aa1.2.2 ia1 va1 (g := (mkF m 12 #[.val (.ref bc), .val (.int (0 : Int32)), .val (.ref bb), .val (.int (0 : Int32)), .val (.int (1 : Int32)), .val (.int (0 : Int32)), .unset] [(.int (0 : Int32)), (.ref bc)])) rfl rfl (hb hby d7_12) t k) ?_
  refine Go.step (T' := s₁) (f' := (mkF m 15 #[.val (.ref bc), .val (.int (0 : Int32)), .val (.ref bb), .val (.int (0 : Int32)), .val (.int (1 : Int32)), .val (.int (0 : Int32)), .val (.int cc0)] [])) (fun t k => XS.istore X0.here hx rfl (hb hby d7_13) rfl (l' := #[.val (.ref bc), .val (.int (0 : Int32)), .val (.ref bb), .val (.int (0 : Int32)), .val (.int (1 : Int32)), .val (.int (0 : Int32)), .val (.int cc0)]) rfl k) ?_
  refine Go.step (T' := s₁) (f' := (mkF m 17 #[.val (.ref bc), .val (.int (0 : Int32)), .val (.ref bb), .val (.int (0 : Int32)), .val (.int (1 : Int32)), .val (.int (0 : Int32)), .val (.int cc0)] [(.int cc0)])) (fun t k => XS.iload X0.here hx rfl (hb hby d7_15) rfl k) ?_
  refine Go.step (T' := s₁) (f' := (mkF m 20 #[.val (.ref bc), .val (.int (0 : Int32)), .val (.ref bb), .val (.int (0 : Int32)), .val (.int (1 : Int32)), .val (.int (0 : Int32)), .val (.int cc0)] [(.int (255 : Int32)), (.int cc0)])) (fun t k => XS.sipush X0.here hx rfl (hb hby d7_17) k) ?_
  refine Go.step (T' := s₁) (f' := (mkF m 26 #[.val (.ref bc), .val (.int (0 : Int32)), .val (.ref bb), .val (.int (0 : Int32)), .val (.int (1 : Int32)), .val (.int (0 : Int32)), .val (.int cc0)] [])) (fun t k => XS.icmpYes X0.here hx rfl (pc0 := 20) (pc' := 26) rfl (hb hby d7_20) rfl (flt hc0).2.2.2 (by decide) (by decide) k) ?_
  refine Go.step (T' := s₁) (f' := (mkF m 27 #[.val (.ref bc), .val (.int (0 : Int32)), .val (.ref bb), .val (.int (0 : Int32)), .val (.int (1 : Int32)), .val (.int (0 : Int32)), .val (.int cc0)] [(.ref bb)])) (fun t k => XS.aloadN X0.here hx rfl (hb hby d7_26) rfl rfl k) ?_
  refine Go.step (T' := s₁) (f' := (mkF m 28 #[.val (.ref bc), .val (.int (0 : Int32)), .val (.ref bb), .val (.int (0 : Int32)), .val (.int (1 : Int32)), .val (.int (0 : Int32)), .val (.int cc0)] [(.int (0 : Int32)), (.ref bb)])) (fun t k => XS.iloadN X0.here hx rfl (hb hby d7_27) rfl k) ?_
  refine Go.step (T' := s₁) (f' := (mkF m 30 #[.val (.ref bc), .val (.int (0 : Int32)), .val (.ref bb), .val (.int (0 : Int32)), .val (.int (1 : Int32)), .val (.int (0 : Int32)), .val (.int cc0)] [(.int cc0), (.int (0 : Int32)), (.ref bb)])) (fun t k => XS.iload X0.here hx rfl (hb hby d7_28) rfl k) ?_
  refine Go.step (T' := s₁) (f' := (mkF m 31 #[.val (.ref bc), .val (.int (0 : Int32)), .val (.ref bb), .val (.int (0 : Int32)), .val (.int (1 : Int32)), .val (.int (0 : Int32)), .val (.int cc0)] [(.int (cc0.toInt8.toInt32)), (.int (0 : Int32)), (.ref bb)])) (fun t k => XS.i2b X0.here hx rfl (hb hby d7_30) rfl k) ?_
  obtain ⟨ca2, Aa2, qa2, Sa2, Na2, Ha2, Ga2⟩ := id P1
  have ia2 : ¬ ((0 : Int32) < 0 ∨ ca2.slots.size ≤ ((0 : Int32)).toNatClampNeg) := inb_of Sa2 ⟨by decide, by decide⟩
  obtain ⟨T3, h3, X3, e3, W3, st3⟩ := stB X0 hx hZ e0 Aa2 (j := (0 : Int32)) ia2 (g := (mkF m 31 #[.val (.ref bc), .val (.int (0 : Int32)), .val (.ref bb), .val (.int (0 : Int32)), .val (.int (1 : Int32)), .val (.int (0 : Int32)), .val (.int cc0)] [(.int (cc0.toInt8.toInt32)), (.int (0 : Int32)), (.ref bb)])) rfl rfl (hb hby d7_31)
  have f4 := Arv.set Aa2 qa2 Sa2 Na2 Ha2 Ga2 (fits_nar_byte _) W3 0 rfl (Nat.le_of_ble_eq_true rfl)
  rw [own_nar8] at f4
  have f5 : Arv Z h3 bb kb .byte (1 : Int32) [(.int (cc0.toInt8.toInt32))] (.int (0 : Int32)) := f4
  have f6 := P0.other W3 P3
  have O7 := O0.wr W3 P2
  have K8 := K0.wr W3 (Or.inl (List.mem_of_getElem? (i := 0) rfl))
  have N9 := Fr.snoc X3 N0 P2
  refine Go.step (T' := T3) (f' := (mkF m 32 #[.val (.ref bc), .val (.int (0 : Int32)), .val (.ref bb), .val (.int (0 : Int32)), .val (.int (1 : Int32)), .val (.int (0 : Int32)), .val (.int cc0)] [])) st3 ?_
  clear st3 X0
  refine Go.step (T' := T3) (f' := (mkF m 35 #[.val (.ref bc), .val (.int ((0 : Int32) + (1 : Int32))), .val (.ref bb), .val (.int (0 : Int32)), .val (.int (1 : Int32)), .val (.int (0 : Int32)), .val (.int cc0)] [])) (fun t k => XS.iinc X3.here hx rfl (hb hby d7_32) rfl (l' := #[.val (.ref bc), .val (.int ((0 : Int32) + (1 : Int32))), .val (.ref bb), .val (.int (0 : Int32)), .val (.int (1 : Int32)), .val (.int (0 : Int32)), .val (.int cc0)]) rfl k) ?_
  rw [show ((0 : Int32) + (1 : Int32)) = (1 : Int32) from by decide]
  refine Go.step (T' := T3) (f' := (mkF m 38 #[.val (.ref bc), .val (.int (1 : Int32)), .val (.ref bb), .val (.int ((0 : Int32) + (1 : Int32))), .val (.int (1 : Int32)), .val (.int (0 : Int32)), .val (.int cc0)] [])) (fun t k => XS.iinc X3.here hx rfl (hb hby d7_35) rfl (l' := #[.val (.ref bc), .val (.int (1 : Int32)), .val (.ref bb), .val (.int ((0 : Int32) + (1 : Int32))), .val (.int (1 : Int32)), .val (.int (0 : Int32)), .val (.int cc0)]) rfl k) ?_
  rw [show ((0 : Int32) + (1 : Int32)) = (1 : Int32) from by decide]
  refine Go.step (T' := T3) (f' := (mkF m 41 #[.val (.ref bc), .val (.int (1 : Int32)), .val (.ref bb), .val (.int (1 : Int32)), .val (.int (1 : Int32)), .val (.int ((0 : Int32) + (1 : Int32))), .val (.int cc0)] [])) (fun t k => XS.iinc X3.here hx rfl (hb hby d7_38) rfl (l' := #[.val (.ref bc), .val (.int (1 : Int32)), .val (.ref bb), .val (.int (1 : Int32)), .val (.int (1 : Int32)), .val (.int ((0 : Int32) + (1 : Int32))), .val (.int cc0)]) rfl k) ?_
  rw [show ((0 : Int32) + (1 : Int32)) = (1 : Int32) from by decide]
  refine Go.step (T' := T3) (f' := (mkF m 3 #[.val (.ref bc), .val (.int (1 : Int32)), .val (.ref bb), .val (.int (1 : Int32)), .val (.int (1 : Int32)), .val (.int (1 : Int32)), .val (.int cc0)] [])) (fun t k => XS.goto X3.here hx rfl (pc0 := 41) (pc' := 3) rfl (hb hby d7_41) (by decide) (by decide) k) ?_
  refine Go.step (T' := T3) (f' := (mkF m 5 #[.val (.ref bc), .val (.int (1 : Int32)), .val (.ref bb), .val (.int (1 : Int32)), .val (.int (1 : Int32)), .val (.int (1 : Int32)), .val (.int cc0)] [(.int (1 : Int32))])) (fun t k => XS.iload X3.here hx rfl (hb hby d7_3) rfl k) ?_
  refine Go.step (T' := T3) (f' := (mkF m 7 #[.val (.ref bc), .val (.int (1 : Int32)), .val (.ref bb), .val (.int (1 : Int32)), .val (.int (1 : Int32)), .val (.int (1 : Int32)), .val (.int cc0)] [(.int (1 : Int32)), (.int (1 : Int32))])) (fun t k => XS.iload X3.here hx rfl (hb hby d7_5) rfl k) ?_
  refine Go.step (T' := T3) (f' := (mkF m 44 #[.val (.ref bc), .val (.int (1 : Int32)), .val (.ref bb), .val (.int (1 : Int32)), .val (.int (1 : Int32)), .val (.int (1 : Int32)), .val (.int cc0)] [])) (fun t k => XS.icmpYes X3.here hx rfl (pc0 := 7) (pc' := 44) rfl (hb hby d7_7) rfl (flt (by decide : ¬ ((1 : Int32) < (1 : Int32)))).2.1 (by decide) (by decide) k) ?_
  refine Go.step (T' := T3) (f' := (mkF m 46 #[.val (.ref bc), .val (.int (1 : Int32)), .val (.ref bb), .val (.int (1 : Int32)), .val (.int (1 : Int32)), .val (.int (1 : Int32)), .val (.int cc0)] [(.int (1 : Int32))])) (fun t k => XS.iload X3.here hx rfl (hb hby d7_44) rfl k) ?_
  refine Go.retI X3 hx hlk Bd.returns (hb hby d7_46) e3 ?_ (by decide) (by decide)
  exact ⟨rfl, N9, K8, f5⟩
theorem d6_0 : decode jdk_52_method_16_code 0 = .ok (.iload_n 2, 1) := by decide +kernel
theorem d6_1 : decode jdk_52_method_16_code 1 = .ok (.newarray .byte, 2) := by decide +kernel
theorem d6_3 : decode jdk_52_method_16_code 3 = .ok (.astore_n 3, 1) := by decide +kernel
theorem d6_4 : decode jdk_52_method_16_code 4 = .ok (.aload_n 0, 1) := by decide +kernel
theorem d6_5 : decode jdk_52_method_16_code 5 = .ok (.iload_n 1, 1) := by decide +kernel
theorem d6_6 : decode jdk_52_method_16_code 6 = .ok (.aload_n 3, 1) := by decide +kernel
theorem d6_7 : decode jdk_52_method_16_code 7 = .ok (.iconst 0, 1) := by decide +kernel
theorem d6_8 : decode jdk_52_method_16_code 8 = .ok (.iload_n 2, 1) := by decide +kernel
theorem d6_9 : decode jdk_52_method_16_code 9 = .ok (.invokestatic 115, 3) := by decide +kernel
theorem d6_12 : decode jdk_52_method_16_code 12 = .ok (.istore 4, 2) := by decide +kernel
theorem d6_14 : decode jdk_52_method_16_code 14 = .ok (.iload 4, 2) := by decide +kernel
theorem d6_16 : decode jdk_52_method_16_code 16 = .ok (.iload_n 2, 1) := by decide +kernel
theorem d6_17 : decode jdk_52_method_16_code 17 = .ok (.if_icmp .eq 40, 3) := by decide +kernel
theorem d6_57 : decode jdk_52_method_16_code 57 = .ok (.aload_n 3, 1) := by decide +kernel
theorem d6_58 : decode jdk_52_method_16_code 58 = .ok (.areturn, 1) := by decide +kernel
theorem pd0 : parseMethodDescriptor "([CI[BII)I" = some ⟨[(.array .char), .int, (.array .byte), .int, .int], some .int⟩ := by decide +kernel
theorem ef_cmp1 (m : MethodId) (bc : Addr) : entryFrame m #[(.ref bc), (.int (0 : Int32)), (.int (1 : Int32))] 6 = mkF m 0 #[.val (.ref bc), .val (.int (0 : Int32)), .val (.int (1 : Int32)), .unset, .unset, .unset] [] := by first | (simp [entryFrame, mkF, argsToLocals, Value.category]; done) | rfl
def Q_cmp1 (Z : State) (bc : Addr) (kc : ClassId) (cc0 : Int32) (h0 : Heap) (n0 : Nat) (v : Option Value) (h : Heap) (L : List Loc) : Prop := ∃ bb : Addr, ∃ kb : ClassId, v = some (.ref bb) ∧ Fr n0 L ∧ Keep h0 h [] ∧ h0.size ≤ bb ∧ Arv Z h bb kb .byte (1 : Int32) [(.int (cc0.toInt8.toInt32))] (.int (0 : Int32))
set_option maxRecDepth 65536 in
set_option maxHeartbeats 40000000 in
theorem rm_cmp1 (l : Launch) (Z : State) (a0 : Array Value) (hw : ∀ d ∈ tables_1, d.before a0 Z = true) (ws : List Jvm.Cond) (bc : Addr) (kc : ClassId) (cc0 : Int32) (h0 : Heap) (n0 : Nat) (O0 : Old Z n0 h0) (P0 : Arv Z h0 bc kc .char (1 : Int32) [(.int cc0)] (.int (0 : Int32))) (hc0 : ¬ ((255 : Int32) < cc0)) :
    MetFree l (⟨"java/lang/StringUTF16", "compress", "([CII)[B"⟩ : MethodName) (head1 (Jvm.Cond.code (⟨"java/lang/StringUTF16", "compress", "([CII)[B"⟩ : MethodName) jdk_52_method_16_code 6 (some (.array .byte)) :: ws) ({ frames := 1, cells := 1, slots := 1, locals := 18 } : Room)) (fun a U => a = #[(.ref bc), (.int (0 : Int32)), (.int (1 : Int32))] ∧ Z.Warmed39 U.vm ∧ U.heap = h0) (fun _ _ _ _ _ => True) (fun _ U o U' => ∃ v L, o = .returned v ∧ Q_cmp1 Z bc kc cc0 h0 n0 v U'.heap L ∧ FrameEnd U o U' L ({ frames := 1, cells := 1, slots := 1, locals := 18 } : Room).cells ({ frames := 1, cells := 1, slots := 1, locals := 18 } : Room).slots) := by
  refine MetFree.of_bodySF (plainFor_of_name pn_java_lang_StringUTF16) hisR ?_
  intro p e s m args below meth c s₁ Bd hml0 hP hK
  obtain ⟨rfl, hZ, hh⟩ := hP
  have hx := Bd.exec
  have hby := Bd.bytes
  have hml : c.maxLocals = 6 := hml0
  have hown : s.vm.findClass "java/lang/StringUTF16" = some m.cls := findClass_of_methodNamed Bd.named
  have hnm := (name_of_methodNamed Bd.named Bd.method).1
  have hlk : meth.locks = false := BodyLoose.notSynchronized Bd
  have X0 : Stand p l e ({ frames := 1, cells := 1, slots := 1, locals := 18 } : Room) s m #[(.ref bc), (.int (0 : Int32)), (.int (1 : Int32))] below meth c s₁ [] 0 0 := Stand.of_body Bd
  have e0 : s₁.heap = h0 := by rw [← hh, Bd.state]; rfl
  have N0 := Fr.nil n0
  have K0 := Keep.refl h0 []
  rw [ef_cmp1 m bc]
  show Go p e below s (fun v h L => Q_cmp1 Z bc kc cc0 h0 n0 v h L) ({ frames := 1, cells := 1, slots := 1, locals := 18 } : Room).cells ({ frames := 1, cells := 1, slots := 1, locals := 18 } : Room).slots s₁ (mkF m 0 #[.val (.ref bc), .val (.int (0 : Int32)), .val (.int (1 : Int32)), .unset, .unset, .unset] [])
  refine Go.step (T' := s₁) (f' := (mkF m 1 #[.val (.ref bc), .val (.int (0 : Int32)), .val (.int (1 : Int32)), .unset, .unset, .unset] [(.int (1 : Int32))])) (fun t k => XS.iloadN X0.here hx rfl (hb hby d6_0) rfl k) ?_
  obtain ⟨T10, h10, k10, X10, e10, E10, A10, Y10, st10⟩ := newPE X0 hx hZ (hw _ (List.mem_of_getElem? (i := 22) rfl)) e0 (g := (mkF m 1 #[.val (.ref bc), .val (.int (0 : Int32)), .val (.int (1 : Int32)), .unset, .unset, .unset] [(.int (1 : Int32))])) rfl (hb hby d6_1) rfl (by decide) (cap := 1) (by decide) (by decide) (by decide) (by decide) (ad := "[B") (by decide)
  obtain ⟨b10, g10⟩ : ∃ z, z = h0.size := ⟨_, rfl⟩
  rw [← g10] at A10 Y10 st10
  have g11 : n0 ≤ b10 := Nat.le_trans (own_old_le O0) (Nat.le_of_eq g10.symm)
  have g12 : h0.size ≤ b10 := Nat.le_trans K0.1 (Nat.le_of_eq g10.symm)
  have ne13 : bc ≠ b10 := Nat.ne_of_lt (Nat.lt_of_lt_of_le P0.lt (Nat.le_of_eq g10.symm))
  have f14 := P0.ext E10
  have O15 := O0.ext E10
  have K16 := K0.ext E10
  have f17 : Arv Z h10 b10 k10 .byte (1 : Int32) [(.int (0 : Int32))] (.int (0 : Int32)) := (Arv.new A10 (by decide)).pad (pad_rep [] (.int (0 : Int32)) 1)
  refine Go.step (T' := T10) (f' := (mkF m 3 #[.val (.ref bc), .val (.int (0 : Int32)), .val (.int (1 : Int32)), .unset, .unset, .unset] [(.ref b10)])) st10 ?_
  clear st10 X0
  refine Go.step (T' := T10) (f' := (mkF m 4 #[.val (.ref bc), .val (.int (0 : Int32)), .val (.int (1 : Int32)), .val (.ref b10), .unset, .unset] [])) (fun t k => XS.astoreN X10.here hx rfl (hb hby d6_3) rfl rfl (l' := #[.val (.ref bc), .val (.int (0 : Int32)), .val (.int (1 : Int32)), .val (.ref b10), .unset, .unset]) rfl k) ?_
  refine Go.step (T' := T10) (f' := (mkF m 5 #[.val (.ref bc), .val (.int (0 : Int32)), .val (.int (1 : Int32)), .val (.ref b10), .unset, .unset] [(.ref bc)])) (fun t k => XS.aloadN X10.here hx rfl (hb hby d6_4) rfl rfl k) ?_
  refine Go.step (T' := T10) (f' := (mkF m 6 #[.val (.ref bc), .val (.int (0 : Int32)), .val (.int (1 : Int32)), .val (.ref b10), .unset, .unset] [(.int (0 : Int32)), (.ref bc)])) (fun t k => XS.iloadN X10.here hx rfl (hb hby d6_5) rfl k) ?_
  refine Go.step (T' := T10) (f' := (mkF m 7 #[.val (.ref bc), .val (.int (0 : Int32)), .val (.int (1 : Int32)), .val (.ref b10), .unset, .unset] [(.ref b10), (.int (0 : Int32)), (.ref bc)])) (fun t k => XS.aloadN X10.here hx rfl (hb hby d6_6) rfl rfl k) ?_
  refine Go.step (T' := T10) (f' := (mkF m 8 #[.val (.ref bc), .val (.int (0 : Int32)), .val (.int (1 : Int32)), .val (.ref b10), .unset, .unset] [(.int (0 : Int32)), (.ref b10), (.int (0 : Int32)), (.ref bc)])) (fun t k => XS.iconst X10.here hx rfl (hb hby d6_7) k) ?_
  refine Go.step (T' := T10) (f' := (mkF m 9 #[.val (.ref bc), .val (.int (0 : Int32)), .val (.int (1 : Int32)), .val (.ref b10), .unset, .unset] [(.int (1 : Int32)), (.int (0 : Int32)), (.ref b10), (.int (0 : Int32)), (.ref bc)])) (fun t k => XS.iloadN X10.here hx rfl (hb hby d6_8) rfl k) ?_
  obtain ⟨_, _, ⟨T18, L18, k18, n18⟩, -, X18, ⟨Lc18, hQ18, l18, y18, z18⟩, st18⟩ := Jvm.LawKit.callS X10 hx (y := (⟨"java/lang/StringUTF16", "compress", "([CI[BII)I"⟩ : MethodName)) hown (mvT hZ (hw _ (List.mem_of_getElem? (i := 34) rfl))) (mvT hZ (hw _ (List.mem_of_getElem? (i := 35) rfl))) (mvT hZ (hw _ (List.mem_of_getElem? (i := 32) rfl))) (mvT hZ (hw _ (List.mem_of_getElem? (i := 36) rfl))) (by decide) (backOf (W := 0) (rm_cpr1 l Z a0 hw [] bc b10 kc cc0 k10 h10 n0 O15 f14 f17 g11 ne13 hc0) hZ (hw _ (List.mem_of_getElem? (i := 36) rfl)) (hw _ (List.mem_of_getElem? (i := 32) rfl)) (by decide) (by decide)) (g := (mkF m 9 #[.val (.ref bc), .val (.int (0 : Int32)), .val (.int (1 : Int32)), .val (.ref b10), .unset, .unset] [(.int (1 : Int32)), (.int (0 : Int32)), (.ref b10), (.int (0 : Int32)), (.ref bc)])) rfl (by rw [hml]; rfl) (argsL := [(.ref bc), (.int (0 : Int32)), (.ref b10), (.int (0 : Int32)), (.int (1 : Int32))]) (rest := []) (lenOf pd0 rfl) rfl (by show 2 * 0 + _ ≤ _; exact Nat.le_of_eq rfl) (hb hby d6_9) (fun _ _ => ⟨rfl, e10, (by decide : 1 + 0 ≤ _), (by decide : 1 + 0 ≤ _)⟩)
  dsimp only [Pt.U, Pt.locs, Pt.cells, Pt.slots] at X18 l18 y18 z18 st18 hQ18
  subst l18 y18 z18
  obtain ⟨rfl, Nq18, hh18, p19⟩ := hQ18
  have N20 := Fr.app N0 Nq18
  have f21 := f14.keep hh18 (ninS ne13 nin0)
  have f22 := Y10.keep hh18
  have O23 := O15.keep hh18 (allS g11 all0)
  have K24 := K16.trans hh18 (allS (Or.inr g12) all0)
  refine Go.step (T' := T18) (f' := (mkF m 12 #[.val (.ref bc), .val (.int (0 : Int32)), .val (.int (1 : Int32)), .val (.ref b10), .unset, .unset] [(.int (1 : Int32))])) st18 ?_
  clear st18 X10 Nq18
  refine Go.step (T' := T18) (f' := (mkF m 14 #[.val (.ref bc), .val (.int (0 : Int32)), .val (.int (1 : Int32)), .val (.ref b10), .val (.int (1 : Int32)), .unset] [])) (fun t k => XS.istore X18.here hx rfl (hb hby d6_12) rfl (l' := #[.val (.ref bc), .val (.int (0 : Int32)), .val (.int (1 : Int32)), .val (.ref b10), .val (.int (1 : Int32)), .unset]) rfl k) ?_
  refine Go.step (T' := T18) (f' := (mkF m 16 #[.val (.ref bc), .val (.int (0 : Int32)), .val (.int (1 : Int32)), .val (.ref b10), .val (.int (1 : Int32)), .unset] [(.int (1 : Int32))])) (fun t k => XS.iload X18.here hx rfl (hb hby d6_14) rfl k) ?_
  refine Go.step (T' := T18) (f' := (mkF m 17 #[.val (.ref bc), .val (.int (0 : Int32)), .val (.int (1 : Int32)), .val (.ref b10), .val (.int (1 : Int32)), .unset] [(.int (1 : Int32)), (.int (1 : Int32))])) (fun t k => XS.iloadN X18.here hx rfl (hb hby d6_16) rfl k) ?_
  refine Go.step (T' := T18) (f' := (mkF m 57 #[.val (.ref bc), .val (.int (0 : Int32)), .val (.int (1 : Int32)), .val (.ref b10), .val (.int (1 : Int32)), .unset] [])) (fun t k => XS.icmpYes X18.here hx rfl (pc0 := 17) (pc' := 57) rfl (hb hby d6_17) rfl (teq (by decide : (1 : Int32) = (1 : Int32))).1 (by decide) (by decide) k) ?_
  refine Go.step (T' := T18) (f' := (mkF m 58 #[.val (.ref bc), .val (.int (0 : Int32)), .val (.int (1 : Int32)), .val (.ref b10), .val (.int (1 : Int32)), .unset] [(.ref b10)])) (fun t k => XS.aloadN X18.here hx rfl (hb hby d6_57) rfl rfl k) ?_
  refine Go.retA X18 hx hlk Bd.returns rfl rfl (hb hby d6_58) rfl ?_ (by decide) (by decide)
  exact ⟨b10, k10, rfl, N20, K24, g12, p19⟩
theorem d8_0 : decode jdk_52_method_15_code 0 = .ok (.iload_n 1, 1) := by decide +kernel
theorem d8_1 : decode jdk_52_method_15_code 1 = .ok (.aload_n 0, 1) := by decide +kernel
theorem d8_2 : decode jdk_52_method_15_code 2 = .ok (.arraylength, 1) := by decide +kernel
theorem d8_3 : decode jdk_52_method_15_code 3 = .ok (.isub, 1) := by decide +kernel
theorem d8_4 : decode jdk_52_method_15_code 4 = .ok (.bipush 31, 2) := by decide +kernel
theorem d8_6 : decode jdk_52_method_15_code 6 = .ok (.iushr, 1) := by decide +kernel
theorem d8_7 : decode jdk_52_method_15_code 7 = .ok (.i2b, 1) := by decide +kernel
theorem d8_8 : decode jdk_52_method_15_code 8 = .ok (.ireturn, 1) := by decide +kernel
theorem ef_cod1 (m : MethodId) (bb : Addr) : entryFrame m #[(.ref bb), (.int (1 : Int32))] 2 = mkF m 0 #[.val (.ref bb), .val (.int (1 : Int32))] [] := by first | (simp [entryFrame, mkF, argsToLocals, Value.category]; done) | rfl
def Q_cod1 (Z : State) (bb : Addr) (kb : ClassId) (v0 : Int32) (h0 : Heap) (n0 : Nat) (v : Option Value) (h : Heap) (L : List Loc) : Prop := v = some (.int (0 : Int32)) ∧ Fr n0 L ∧ h = h0
set_option maxRecDepth 65536 in
set_option maxHeartbeats 40000000 in
theorem rm_cod1 (l : Launch) (Z : State) (a0 : Array Value) (hw : ∀ d ∈ tables_1, d.before a0 Z = true) (ws : List Jvm.Cond) (bb : Addr) (kb : ClassId) (v0 : Int32) (h0 : Heap) (n0 : Nat) (O0 : Old Z n0 h0) (P0 : Arv Z h0 bb kb .byte (1 : Int32) [(.int v0)] (.int (0 : Int32))) :
    MetFree l (⟨"java/lang/StringUTF16", "coderFromArrayLen", "([BI)B"⟩ : MethodName) (head1 (Jvm.Cond.code (⟨"java/lang/StringUTF16", "coderFromArrayLen", "([BI)B"⟩ : MethodName) jdk_52_method_15_code 2 (some .byte) :: ws) ({ frames := 0, cells := 0, slots := 0, locals := 0 } : Room)) (fun a U => a = #[(.ref bb), (.int (1 : Int32))] ∧ Z.Warmed39 U.vm ∧ U.heap = h0) (fun _ _ _ _ _ => True) (fun _ U o U' => ∃ v L, o = .returned v ∧ Q_cod1 Z bb kb v0 h0 n0 v U'.heap L ∧ FrameEnd U o U' L ({ frames := 0, cells := 0, slots := 0, locals := 0 } : Room).cells ({ frames := 0, cells := 0, slots := 0, locals := 0 } : Room).slots) := by
  refine MetFree.of_bodySF (plainFor_of_name pn_java_lang_StringUTF16) hisR ?_
  intro p e s m args below meth c s₁ Bd hml0 hP hK
  obtain ⟨rfl, hZ, hh⟩ := hP
  have hx := Bd.exec
  have hby := Bd.bytes
  have hml : c.maxLocals = 2 := hml0
  have hown : s.vm.findClass "java/lang/StringUTF16" = some m.cls := findClass_of_methodNamed Bd.named
  have hnm := (name_of_methodNamed Bd.named Bd.method).1
  have hlk : meth.locks = false := BodyLoose.notSynchronized Bd
  have X0 : Stand p l e ({ frames := 0, cells := 0, slots := 0, locals := 0 } : Room) s m #[(.ref bb), (.int (1 : Int32))] below meth c s₁ [] 0 0 := Stand.of_body Bd
  have e0 : s₁.heap = h0 := by rw [← hh, Bd.state]; rfl
  have N0 := Fr.nil n0
  rw [ef_cod1 m bb]
  show Go p e below s (fun v h L => Q_cod1 Z bb kb v0 h0 n0 v h L) ({ frames := 0, cells := 0, slots := 0, locals := 0 } : Room).cells ({ frames := 0, cells := 0, slots := 0, locals := 0 } : Room).slots s₁ (mkF m 0 #[.val (.ref bb), .val (.int (1 : Int32))] [])
  refine Go.step (T' := s₁) (f' := (mkF m 1 #[.val (.ref bb), .val (.int (1 : Int32))] [(.int (1 : Int32))])) (fun t k => XS.iloadN X0.here hx rfl (hb hby d8_0) rfl k) ?_
  refine Go.step (T' := s₁) (f' := (mkF m 2 #[.val (.ref bb), .val (.int (1 : Int32))] [(.ref bb), (.int (1 : Int32))])) (fun t k => XS.aloadN X0.here hx rfl (hb hby d8_1) rfl rfl k) ?_
  obtain ⟨ca25, Aa25, qa25, Sa25, Na25, Ha25, Ga25⟩ := id P0
  refine Go.step (T' := s₁) (f' := (mkF m 3 #[.val (.ref bb), .val (.int (1 : Int32))] [(.int (1 : Int32)), (.int (1 : Int32))])) (fun t k => own_alen X0 hx hZ e0 Aa25 Sa25 Na25 (g := (mkF m 2 #[.val (.ref bb), .val (.int (1 : Int32))] [(.ref bb), (.int (1 : Int32))])) rfl rfl (hb hby d8_2) k) ?_
  refine Go.step (T' := s₁) (f' := (mkF m 4 #[.val (.ref bb), .val (.int (1 : Int32))] [(.int ((1 : Int32) - (1 : Int32)))])) (fun t k => XS.isub X0.here hx rfl (hb hby d8_3) rfl k) ?_
  rw [show ((1 : Int32) - (1 : Int32)) = (0 : Int32) from by decide]
  refine Go.step (T' := s₁) (f' := (mkF m 6 #[.val (.ref bb), .val (.int (1 : Int32))] [(.int (31 : Int32)), (.int (0 : Int32))])) (fun t k => XS.bipush X0.here hx rfl (hb hby d8_4) k) ?_
  refine Go.step (T' := s₁) (f' := (mkF m 7 #[.val (.ref bb), .val (.int (1 : Int32))] [(.int (((0 : Int32).toUInt32 >>> ((31 : Int32) &&& 31).toUInt32).toInt32))])) (fun t k => XS.iushr X0.here hx rfl (hb hby d8_6) rfl k) ?_
  rw [show (((0 : Int32).toUInt32 >>> ((31 : Int32) &&& 31).toUInt32).toInt32) = (0 : Int32) from by decide]
  refine Go.step (T' := s₁) (f' := (mkF m 8 #[.val (.ref bb), .val (.int (1 : Int32))] [(.int ((0 : Int32).toInt8.toInt32))])) (fun t k => XS.i2b X0.here hx rfl (hb hby d8_7) rfl k) ?_
  rw [show ((0 : Int32).toInt8.toInt32) = (0 : Int32) from by decide]
  refine Go.retZ X0 hx hlk (t := .byte) Bd.returns (by simp) (hb hby d8_8) e0 ?_ (by decide) (by decide)
  exact ⟨rfl, N0, rfl⟩
theorem d4_0 : decode jdk_42_method_149_code 0 = .ok (.aload_n 0, 1) := by decide +kernel
theorem d4_1 : decode jdk_42_method_149_code 1 = .ok (.invokespecial 1, 3) := by decide +kernel
theorem d4_4 : decode jdk_42_method_149_code 4 = .ok (.iload_n 3, 1) := by decide +kernel
theorem d4_5 : decode jdk_42_method_149_code 5 = .ok (.ifCond .ne 22, 3) := by decide +kernel
theorem d4_27 : decode jdk_42_method_149_code 27 = .ok (.getstatic 38, 3) := by decide +kernel
theorem d4_30 : decode jdk_42_method_149_code 30 = .ok (.ifCond .eq 28, 3) := by decide +kernel
theorem d4_33 : decode jdk_42_method_149_code 33 = .ok (.aload_n 1, 1) := by decide +kernel
theorem d4_34 : decode jdk_42_method_149_code 34 = .ok (.iload_n 2, 1) := by decide +kernel
theorem d4_35 : decode jdk_42_method_149_code 35 = .ok (.iload_n 3, 1) := by decide +kernel
theorem d4_36 : decode jdk_42_method_149_code 36 = .ok (.invokestatic 177, 3) := by decide +kernel
theorem d4_39 : decode jdk_42_method_149_code 39 = .ok (.astore 5, 2) := by decide +kernel
theorem d4_41 : decode jdk_42_method_149_code 41 = .ok (.aload_n 0, 1) := by decide +kernel
theorem d4_42 : decode jdk_42_method_149_code 42 = .ok (.aload 5, 2) := by decide +kernel
theorem d4_44 : decode jdk_42_method_149_code 44 = .ok (.iload_n 3, 1) := by decide +kernel
theorem d4_45 : decode jdk_42_method_149_code 45 = .ok (.invokestatic 47, 3) := by decide +kernel
theorem d4_48 : decode jdk_42_method_149_code 48 = .ok (.putfield 15, 3) := by decide +kernel
theorem d4_51 : decode jdk_42_method_149_code 51 = .ok (.aload_n 0, 1) := by decide +kernel
theorem d4_52 : decode jdk_42_method_149_code 52 = .ok (.aload 5, 2) := by decide +kernel
theorem d4_54 : decode jdk_42_method_149_code 54 = .ok (.putfield 9, 3) := by decide +kernel
theorem d4_57 : decode jdk_42_method_149_code 57 = .ok (.return_, 1) := by decide +kernel
theorem pn_java_lang_String : plainName "java/lang/String" = true := by first | (simp [plainName, overriddenIn]; done) | decide +kernel
theorem pd1 : parseMethodDescriptor "([CII)[B" = some ⟨[(.array .char), .int, .int], some (.array .byte)⟩ := by decide +kernel
theorem pd2 : parseMethodDescriptor "([BI)B" = some ⟨[(.array .byte), .int], some .byte⟩ := by decide +kernel
theorem ef_ini4_1 (m : MethodId) (ba : Addr) (bc : Addr) : entryFrame m #[(.ref ba), (.ref bc), (.int (0 : Int32)), (.int (1 : Int32)), .null] 6 = mkF m 0 #[.val (.ref ba), .val (.ref bc), .val (.int (0 : Int32)), .val (.int (1 : Int32)), .val .null, .unset] [] := by first | (simp [entryFrame, mkF, argsToLocals, Value.category]; done) | rfl
def Q_ini4_1 (Z : State) (ba : Addr) (bc : Addr) (kc : ClassId) (cc0 : Int32) (u0 : Value) (u1 : Value) (wz : Int32) (h0 : Heap) (n0 : Nat) (v : Option Value) (h : Heap) (L : List Loc) : Prop := ∃ bb : Addr, ∃ kb : ClassId, v = none ∧ Fr n0 L ∧ Keep h0 h [ba] ∧ Exa Z h ba "java/lang/String" ∧ Fld Z h ba "java/lang/String" "value" "[B" (.ref bb) ∧ Fld Z h ba "java/lang/String" "coder" "B" (.int (0 : Int32)) ∧ h0.size ≤ bb ∧ Arv Z h bb kb .byte (1 : Int32) [(.int (cc0.toInt8.toInt32))] (.int (0 : Int32))
set_option maxRecDepth 65536 in
set_option maxHeartbeats 40000000 in
theorem rm_ini4_1 (l : Launch) (Z : State) (a0 : Array Value) (hw : ∀ d ∈ tables_1, d.before a0 Z = true) (ws : List Jvm.Cond) (ba : Addr) (bc : Addr) (kc : ClassId) (cc0 : Int32) (u0 : Value) (u1 : Value) (wz : Int32) (h0 : Heap) (n0 : Nat) (O0 : Old Z n0 h0) (P0 : Exa Z h0 ba "java/lang/String") (P1 : Fld Z h0 ba "java/lang/String" "value" "[B" u0) (P2 : Fld Z h0 ba "java/lang/String" "coder" "B" u1) (P3 : n0 ≤ ba) (P4 : Arv Z h0 bc kc .char (1 : Int32) [(.int cc0)] (.int (0 : Int32))) (P5 : bc ≠ ba) (P6 : Sta Z Z.heap "java/lang/String" "COMPACT_STRINGS" "Z" (.int wz)) (hwz : ¬ (wz = (0 : Int32))) (hc0 : ¬ ((255 : Int32) < cc0)) :
    MetFree l (⟨"java/lang/String", "<init>", "([CIILjava/lang/Void;)V"⟩ : MethodName) (head1 (Jvm.Cond.code (⟨"java/lang/String", "<init>", "([CIILjava/lang/Void;)V"⟩ : MethodName) jdk_42_method_149_code 6 none :: ws) ({ frames := 2, cells := 1, slots := 1, locals := 35 } : Room)) (fun a U => a = #[(.ref ba), (.ref bc), (.int (0 : Int32)), (.int (1 : Int32)), .null] ∧ Z.Warmed39 U.vm ∧ U.heap = h0) (fun _ _ _ _ _ => True) (fun _ U o U' => ∃ v L, o = .returned v ∧ Q_ini4_1 Z ba bc kc cc0 u0 u1 wz h0 n0 v U'.heap L ∧ FrameEnd U o U' L ({ frames := 2, cells := 1, slots := 1, locals := 35 } : Room).cells ({ frames := 2, cells := 1, slots := 1, locals := 35 } : Room).slots) := by
  refine MetFree.of_bodySF (plainFor_of_name pn_java_lang_String) hisR ?_
  intro p e s m args below meth c s₁ Bd hml0 hP hK
  obtain ⟨rfl, hZ, hh⟩ := hP
  have hx := Bd.exec
  have hby := Bd.bytes
  have hml : c.maxLocals = 6 := hml0
  have hown : s.vm.findClass "java/lang/String" = some m.cls := findClass_of_methodNamed Bd.named
  have hnm := (name_of_methodNamed Bd.named Bd.method).1
  have hlk : meth.locks = false := BodyLoose.notSynchronized Bd
  have X0 : Stand p l e ({ frames := 2, cells := 1, slots := 1, locals := 35 } : Room) s m #[(.ref ba), (.ref bc), (.int (0 : Int32)), (.int (1 : Int32)), .null] below meth c s₁ [] 0 0 := Stand.of_body Bd
  have e0 : s₁.heap = h0 := by rw [← hh, Bd.state]; rfl
  have N0 := Fr.nil n0
  have K0 := Keep.refl h0 [ba]
  rw [ef_ini4_1 m ba bc]
  show Go p e below s (fun v h L => Q_ini4_1 Z ba bc kc cc0 u0 u1 wz h0 n0 v h L) ({ frames := 2, cells := 1, slots := 1, locals := 35 } : Room).cells ({ frames := 2, cells := 1, slots := 1, locals := 35 } : Room).slots s₁ (mkF m 0 #[.val (.ref ba), .val (.ref bc), .val (.int (0 : Int32)), .val (.int (1 : Int32)), .val .null, .unset] [])
  refine Go.step (T' := s₁) (f' := (mkF m 1 #[.val (.ref ba), .val (.ref bc), .val (.int (0 : Int32)), .val (.int (1 : Int32)), .val .null, .unset] [(.ref ba)])) (fun t k => XS.aloadN X0.here hx rfl (hb hby d4_0) rfl rfl k) ?_
  obtain ⟨T26, X26, e26, st26⟩ := initO X0 hx hZ hown (hw _ (List.mem_of_getElem? (i := 18) rfl)) (hw _ (List.mem_of_getElem? (i := 19) rfl)) (hw _ (List.mem_of_getElem? (i := 20) rfl)) e0 (g := (mkF m 1 #[.val (.ref ba), .val (.ref bc), .val (.int (0 : Int32)), .val (.int (1 : Int32)), .val .null, .unset] [(.ref ba)])) rfl (by rw [hml]; rfl) rfl (hb hby d4_1) (by decide) (W := 0) (by show 2 * 0 + _ ≤ _; exact Nat.le_of_eq rfl) (by decide)
  refine Go.step (T' := T26) (f' := (mkF m 4 #[.val (.ref ba), .val (.ref bc), .val (.int (0 : Int32)), .val (.int (1 : Int32)), .val .null, .unset] [])) st26 ?_
  clear st26 X0
  refine Go.step (T' := T26) (f' := (mkF m 5 #[.val (.ref ba), .val (.ref bc), .val (.int (0 : Int32)), .val (.int (1 : Int32)), .val .null, .unset] [(.int (1 : Int32))])) (fun t k => XS.iloadN X26.here hx rfl (hb hby d4_4) rfl k) ?_
  refine Go.step (T' := T26) (f' := (mkF m 27 #[.val (.ref ba), .val (.ref bc), .val (.int (0 : Int32)), .val (.int (1 : Int32)), .val .null, .unset] [])) (fun t k => XS.ifYes X26.here hx rfl (pc0 := 5) (pc' := 27) rfl (hb hby d4_5) rfl ((if0 _ _).trans (feq (by decide : ¬ ((1 : Int32) = (0 : Int32)))).2) (by decide) (by decide) k) ?_
  obtain ⟨T27, X27, e27, st27⟩ := getS2 X26 hx hZ hown (host := "") (Or.inl (hw _ (List.mem_of_getElem? (i := 29) rfl))) Via.refl e26 (P6.ext O0.2) (g := (mkF m 27 #[.val (.ref ba), .val (.ref bc), .val (.int (0 : Int32)), .val (.int (1 : Int32)), .val .null, .unset] [])) rfl (hb hby d4_27)
  refine Go.step (T' := T27) (f' := (mkF m 30 #[.val (.ref ba), .val (.ref bc), .val (.int (0 : Int32)), .val (.int (1 : Int32)), .val .null, .unset] [(.int wz)])) st27 ?_
  clear st27 X26
  refine Go.step (T' := T27) (f' := (mkF m 33 #[.val (.ref ba), .val (.ref bc), .val (.int (0 : Int32)), .val (.int (1 : Int32)), .val .null, .unset] [])) (fun t k => XS.ifNo X27.here hx rfl (hb hby d4_30) rfl ((if0 _ _).trans (feq hwz).1) k) ?_
  refine Go.step (T' := T27) (f' := (mkF m 34 #[.val (.ref ba), .val (.ref bc), .val (.int (0 : Int32)), .val (.int (1 : Int32)), .val .null, .unset] [(.ref bc)])) (fun t k => XS.aloadN X27.here hx rfl (hb hby d4_33) rfl rfl k) ?_
  refine Go.step (T' := T27) (f' := (mkF m 35 #[.val (.ref ba), .val (.ref bc), .val (.int (0 : Int32)), .val (.int (1 : Int32)), .val .null, .unset] [(.int (0 : Int32)), (.ref bc)])) (fun t k => XS.iloadN X27.here hx rfl (hb hby d4_34) rfl k) ?_
  refine Go.step (T' := T27) (f' := (mkF m 36 #[.val (.ref ba), .val (.ref bc), .val (.int (0 : Int32)), .val (.int (1 : Int32)), .val .null, .unset] [(.int (1 : Int32)), (.int (0 : Int32)), (.ref bc)])) (fun t k => XS.iloadN X27.here hx rfl (hb hby d4_35) rfl k) ?_
  obtain ⟨_, _, ⟨T28, L28, k28, n28⟩, -, X28, ⟨Lc28, hQ28, l28, y28, z28⟩, st28⟩ := Jvm.LawKit.callS X27 hx (y := (⟨"java/lang/StringUTF16", "compress", "([CII)[B"⟩ : MethodName)) hown (mvT hZ (hw _ (List.mem_of_getElem? (i := 30) rfl))) (mvT hZ (hw _ (List.mem_of_getElem? (i := 31) rfl))) (mvT hZ (hw _ (List.mem_of_getElem? (i := 32) rfl))) (mvT hZ (hw _ (List.mem_of_getElem? (i := 33) rfl))) (by decide) (backOf (W := 0) (rm_cmp1 l Z a0 hw [] bc kc cc0 h0 n0 O0 P4 hc0) hZ (hw _ (List.mem_of_getElem? (i := 33) rfl)) (hw _ (List.mem_of_getElem? (i := 32) rfl)) (by decide) (by decide)) (g := (mkF m 36 #[.val (.ref ba), .val (.ref bc), .val (.int (0 : Int32)), .val (.int (1 : Int32)), .val .null, .unset] [(.int (1 : Int32)), (.int (0 : Int32)), (.ref bc)])) rfl (by rw [hml]; rfl) (argsL := [(.ref bc), (.int (0 : Int32)), (.int (1 : Int32))]) (rest := []) (lenOf pd1 rfl) rfl (by show 2 * 0 + _ ≤ _; exact Nat.le_of_eq rfl) (hb hby d4_36) (fun _ _ => ⟨rfl, e27, (by decide : 0 + 1 ≤ _), (by decide : 0 + 1 ≤ _)⟩)
  dsimp only [Pt.U, Pt.locs, Pt.cells, Pt.slots] at X28 l28 y28 z28 st28 hQ28
  subst l28 y28 z28
  obtain ⟨u29, u30, rfl, Nq28, hh28, p31, p32⟩ := hQ28
  have N33 := Fr.app N0 Nq28
  have f34 := P0.keep hh28
  have f35 := P1.keep hh28 nin0
  have f36 := P2.keep hh28 nin0
  have f37 := P4.keep hh28 nin0
  have O38 := O0.keep hh28 all0
  have K39 := K0.trans hh28 all0
  have g40 : n0 ≤ u29 := Nat.le_trans (own_old_le O0) p31
  have g41 : h0.size ≤ u29 := Nat.le_trans K0.1 p31
  have ne42 : ba ≠ u29 := Nat.ne_of_lt (Nat.lt_of_lt_of_le P0.lt p31)
  have ne43 : bc ≠ u29 := Nat.ne_of_lt (Nat.lt_of_lt_of_le P4.lt p31)
  refine Go.step (T' := T28) (f' := (mkF m 39 #[.val (.ref ba), .val (.ref bc), .val (.int (0 : Int32)), .val (.int (1 : Int32)), .val .null, .unset] [(.ref u29)])) st28 ?_
  clear st28 X27 Nq28
  refine Go.step (T' := T28) (f' := (mkF m 41 #[.val (.ref ba), .val (.ref bc), .val (.int (0 : Int32)), .val (.int (1 : Int32)), .val .null, .val (.ref u29)] [])) (fun t k => XS.astore X28.here hx rfl (hb hby d4_39) rfl rfl (l' := #[.val (.ref ba), .val (.ref bc), .val (.int (0 : Int32)), .val (.int (1 : Int32)), .val .null, .val (.ref u29)]) rfl k) ?_
  refine Go.step (T' := T28) (f' := (mkF m 42 #[.val (.ref ba), .val (.ref bc), .val (.int (0 : Int32)), .val (.int (1 : Int32)), .val .null, .val (.ref u29)] [(.ref ba)])) (fun t k => XS.aloadN X28.here hx rfl (hb hby d4_41) rfl rfl k) ?_
  refine Go.step (T' := T28) (f' := (mkF m 44 #[.val (.ref ba), .val (.ref bc), .val (.int (0 : Int32)), .val (.int (1 : Int32)), .val .null, .val (.ref u29)] [(.ref u29), (.ref ba)])) (fun t k => XS.aload X28.here hx rfl (hb hby d4_42) rfl rfl k) ?_
  refine Go.step (T' := T28) (f' := (mkF m 45 #[.val (.ref ba), .val (.ref bc), .val (.int (0 : Int32)), .val (.int (1 : Int32)), .val .null, .val (.ref u29)] [(.int (1 : Int32)), (.ref u29), (.ref ba)])) (fun t k => XS.iloadN X28.here hx rfl (hb hby d4_44) rfl k) ?_
  obtain ⟨_, _, ⟨T44, L44, k44, n44⟩, -, X44, ⟨Lc44, hQ44, l44, y44, z44⟩, st44⟩ := Jvm.LawKit.callS X28 hx (y := (⟨"java/lang/StringUTF16", "coderFromArrayLen", "([BI)B"⟩ : MethodName)) hown (mvT hZ (hw _ (List.mem_of_getElem? (i := 37) rfl))) (mvT hZ (hw _ (List.mem_of_getElem? (i := 38) rfl))) (mvT hZ (hw _ (List.mem_of_getElem? (i := 32) rfl))) (mvT hZ (hw _ (List.mem_of_getElem? (i := 39) rfl))) (by decide) (backOf (W := 1) (rm_cod1 l Z a0 hw [] u29 u30 (cc0.toInt8.toInt32) T28.heap n0 O38 p32) hZ (hw _ (List.mem_of_getElem? (i := 39) rfl)) (hw _ (List.mem_of_getElem? (i := 32) rfl)) (by decide) (by decide)) (g := (mkF m 45 #[.val (.ref ba), .val (.ref bc), .val (.int (0 : Int32)), .val (.int (1 : Int32)), .val .null, .val (.ref u29)] [(.int (1 : Int32)), (.ref u29), (.ref ba)])) rfl (by rw [hml]; rfl) (argsL := [(.ref u29), (.int (1 : Int32))]) (rest := [(.ref ba)]) (lenOf pd2 rfl) rfl (by show 2 * 0 + _ ≤ _; exact Nat.le_of_eq rfl) (hb hby d4_45) (fun _ _ => ⟨rfl, rfl, (by decide : 1 + 0 ≤ _), (by decide : 1 + 0 ≤ _)⟩)
  dsimp only [Pt.U, Pt.locs, Pt.cells, Pt.slots] at X44 l44 y44 z44 st44 hQ44
  subst l44 y44 z44
  obtain ⟨rfl, Nq44, hh44⟩ := hQ44
  have N45 := Fr.app N33 Nq44
  refine Go.step (T' := T44) (f' := (mkF m 48 #[.val (.ref ba), .val (.ref bc), .val (.int (0 : Int32)), .val (.int (1 : Int32)), .val .null, .val (.ref u29)] [(.int (0 : Int32)), (.ref ba)])) st44 ?_
  clear st44 X28 N33 Nq44
  obtain ⟨T46, h46, X46, e46, W46, st46⟩ := putFN X44 hx hZ hown (hw _ (List.mem_of_getElem? (i := 28) rfl)) Via.refl hh44 f36 f34 (Or.inr ⟨(hw _ (List.mem_of_getElem? (i := 24) rfl)), rfl, hnm⟩) (hw _ (List.mem_of_getElem? (i := 8) rfl)) (ty := .byte) (v' := (.int (0 : Int32))) (by decide) rfl (by decide) (g := (mkF m 48 #[.val (.ref ba), .val (.ref bc), .val (.int (0 : Int32)), .val (.int (1 : Int32)), .val .null, .val (.ref u29)] [(.int (0 : Int32)), (.ref ba)])) rfl rfl (hb hby d4_48)
  have f47 := f36.same W46
  have f48 := f34.wr W46
  have f49 := f35.other W46 (Or.inr (slot_ne (Or.inr (hw _ (List.mem_of_getElem? (i := 23) rfl))) (Or.inr (hw _ (List.mem_of_getElem? (i := 24) rfl))) (by decide) (t := (.array .byte)) (t' := .byte) (by decide) (by decide)))
  have f50 := f37.other W46 P5
  have f51 := p32.other W46 (Ne.symm ne42)
  have O52 := O38.wr W46 P3
  have K53 := K39.wr W46 (Or.inl (List.mem_of_getElem? (i := 0) rfl))
  have N54 := Fr.snoc X46 N45 P3
  refine Go.step (T' := T46) (f' := (mkF m 51 #[.val (.ref ba), .val (.ref bc), .val (.int (0 : Int32)), .val (.int (1 : Int32)), .val .null, .val (.ref u29)] [])) st46 ?_
  clear st46 X44 f34 f35 f37 p32 O38 K39 N45
  refine Go.step (T' := T46) (f' := (mkF m 52 #[.val (.ref ba), .val (.ref bc), .val (.int (0 : Int32)), .val (.int (1 : Int32)), .val .null, .val (.ref u29)] [(.ref ba)])) (fun t k => XS.aloadN X46.here hx rfl (hb hby d4_51) rfl rfl k) ?_
  refine Go.step (T' := T46) (f' := (mkF m 54 #[.val (.ref ba), .val (.ref bc), .val (.int (0 : Int32)), .val (.int (1 : Int32)), .val .null, .val (.ref u29)] [(.ref u29), (.ref ba)])) (fun t k => XS.aload X46.here hx rfl (hb hby d4_52) rfl rfl k) ?_
  obtain ⟨T55, h55, X55, e55, W55, st55⟩ := putF X46 hx hZ hown (host := "") (Or.inl (hw _ (List.mem_of_getElem? (i := 27) rfl))) Via.refl e46 f49 f48 (Or.inr ⟨(hw _ (List.mem_of_getElem? (i := 23) rfl)), rfl, hnm⟩) (hw _ (List.mem_of_getElem? (i := 8) rfl)) (ty := (.array .byte)) (by decide) rfl rfl (g := (mkF m 54 #[.val (.ref ba), .val (.ref bc), .val (.int (0 : Int32)), .val (.int (1 : Int32)), .val .null, .val (.ref u29)] [(.ref u29), (.ref ba)])) rfl rfl (hb hby d4_54)
  have f56 := f49.same W55
  have f57 := f48.wr W55
  have f58 := f50.other W55 P5
  have f59 := f51.other W55 (Ne.symm ne42)
  have f60 := f47.other W55 (Or.inr (slot_ne (Or.inr (hw _ (List.mem_of_getElem? (i := 24) rfl))) (Or.inr (hw _ (List.mem_of_getElem? (i := 23) rfl))) (by decide) (t := .byte) (t' := (.array .byte)) (by decide) (by decide)))
  have O61 := O52.wr W55 P3
  have K62 := K53.wr W55 (Or.inl (List.mem_of_getElem? (i := 0) rfl))
  have N63 := Fr.snoc X55 N54 P3
  refine Go.step (T' := T55) (f' := (mkF m 57 #[.val (.ref ba), .val (.ref bc), .val (.int (0 : Int32)), .val (.int (1 : Int32)), .val .null, .val (.ref u29)] [])) st55 ?_
  clear st55 X46 f48 f50 f51 f47 O52 K53 N54
  refine Go.retV X55 hx hlk Bd.returns (hb hby d4_57) e55 ?_ (by decide) (by decide)
  exact ⟨u29, u30, rfl, N63, K62, f57, f56, f60, g41, f59⟩
theorem d3_0 : decode jdk_42_method_3_code 0 = .ok (.aload_n 0, 1) := by decide +kernel
theorem d3_1 : decode jdk_42_method_3_code 1 = .ok (.aload_n 1, 1) := by decide +kernel
theorem d3_2 : decode jdk_42_method_3_code 2 = .ok (.iconst 0, 1) := by decide +kernel
theorem d3_3 : decode jdk_42_method_3_code 3 = .ok (.aload_n 1, 1) := by decide +kernel
theorem d3_4 : decode jdk_42_method_3_code 4 = .ok (.arraylength, 1) := by decide +kernel
theorem d3_5 : decode jdk_42_method_3_code 5 = .ok (.aconst_null, 1) := by decide +kernel
theorem d3_6 : decode jdk_42_method_3_code 6 = .ok (.invokespecial 27, 3) := by decide +kernel
theorem d3_9 : decode jdk_42_method_3_code 9 = .ok (.return_, 1) := by decide +kernel
theorem pd3 : parseMethodDescriptor "([CIILjava/lang/Void;)V" = some ⟨[(.array .char), .int, .int, (.object "java/lang/Void")], none⟩ := by decide +kernel
theorem ef_ini1_1 (m : MethodId) (ba : Addr) (bc : Addr) : entryFrame m #[(.ref ba), (.ref bc)] 2 = mkF m 0 #[.val (.ref ba), .val (.ref bc)] [] := by first | (simp [entryFrame, mkF, argsToLocals, Value.category]; done) | rfl
def Q_ini1_1 (Z : State) (ba : Addr) (bc : Addr) (kc : ClassId) (cc0 : Int32) (u0 : Value) (u1 : Value) (wz : Int32) (h0 : Heap) (n0 : Nat) (v : Option Value) (h : Heap) (L : List Loc) : Prop := ∃ bb : Addr, ∃ kb : ClassId, v = none ∧ Fr n0 L ∧ Keep h0 h [ba] ∧ Exa Z h ba "java/lang/String" ∧ Fld Z h ba "java/lang/String" "value" "[B" (.ref bb) ∧ Fld Z h ba "java/lang/String" "coder" "B" (.int (0 : Int32)) ∧ h0.size ≤ bb ∧ Arv Z h bb kb .byte (1 : Int32) [(.int (cc0.toInt8.toInt32))] (.int (0 : Int32))
set_option maxRecDepth 65536 in
set_option maxHeartbeats 40000000 in
theorem rm_ini1_1 (l : Launch) (Z : State) (a0 : Array Value) (hw : ∀ d ∈ tables_1, d.before a0 Z = true) (ws : List Jvm.Cond) (ba : Addr) (bc : Addr) (kc : ClassId) (cc0 : Int32) (u0 : Value) (u1 : Value) (wz : Int32) (h0 : Heap) (n0 : Nat) (O0 : Old Z n0 h0) (P0 : Exa Z h0 ba "java/lang/String") (P1 : Fld Z h0 ba "java/lang/String" "value" "[B" u0) (P2 : Fld Z h0 ba "java/lang/String" "coder" "B" u1) (P3 : n0 ≤ ba) (P4 : Arv Z h0 bc kc .char (1 : Int32) [(.int cc0)] (.int (0 : Int32))) (P5 : bc ≠ ba) (P6 : Sta Z Z.heap "java/lang/String" "COMPACT_STRINGS" "Z" (.int wz)) (hwz : ¬ (wz = (0 : Int32))) (hc0 : ¬ ((255 : Int32) < cc0)) :
    MetFree l (⟨"java/lang/String", "<init>", "([C)V"⟩ : MethodName) (head1 (Jvm.Cond.code (⟨"java/lang/String", "<init>", "([C)V"⟩ : MethodName) jdk_42_method_3_code 2 none :: ws) ({ frames := 3, cells := 1, slots := 1, locals := 52 } : Room)) (fun a U => a = #[(.ref ba), (.ref bc)] ∧ Z.Warmed39 U.vm ∧ U.heap = h0) (fun _ _ _ _ _ => True) (fun _ U o U' => ∃ v L, o = .returned v ∧ Q_ini1_1 Z ba bc kc cc0 u0 u1 wz h0 n0 v U'.heap L ∧ FrameEnd U o U' L ({ frames := 3, cells := 1, slots := 1, locals := 52 } : Room).cells ({ frames := 3, cells := 1, slots := 1, locals := 52 } : Room).slots) := by
  refine MetFree.of_bodySF (plainFor_of_name pn_java_lang_String) hisR ?_
  intro p e s m args below meth c s₁ Bd hml0 hP hK
  obtain ⟨rfl, hZ, hh⟩ := hP
  have hx := Bd.exec
  have hby := Bd.bytes
  have hml : c.maxLocals = 2 := hml0
  have hown : s.vm.findClass "java/lang/String" = some m.cls := findClass_of_methodNamed Bd.named
  have hnm := (name_of_methodNamed Bd.named Bd.method).1
  have hlk : meth.locks = false := BodyLoose.notSynchronized Bd
  have X0 : Stand p l e ({ frames := 3, cells := 1, slots := 1, locals := 52 } : Room) s m #[(.ref ba), (.ref bc)] below meth c s₁ [] 0 0 := Stand.of_body Bd
  have e0 : s₁.heap = h0 := by rw [← hh, Bd.state]; rfl
  have N0 := Fr.nil n0
  have K0 := Keep.refl h0 [ba]
  rw [ef_ini1_1 m ba bc]
  show Go p e below s (fun v h L => Q_ini1_1 Z ba bc kc cc0 u0 u1 wz h0 n0 v h L) ({ frames := 3, cells := 1, slots := 1, locals := 52 } : Room).cells ({ frames := 3, cells := 1, slots := 1, locals := 52 } : Room).slots s₁ (mkF m 0 #[.val (.ref ba), .val (.ref bc)] [])
  refine Go.step (T' := s₁) (f' := (mkF m 1 #[.val (.ref ba), .val (.ref bc)] [(.ref ba)])) (fun t k => XS.aloadN X0.here hx rfl (hb hby d3_0) rfl rfl k) ?_
  refine Go.step (T' := s₁) (f' := (mkF m 2 #[.val (.ref ba), .val (.ref bc)] [(.ref bc), (.ref ba)])) (fun t k => XS.aloadN X0.here hx rfl (hb hby d3_1) rfl rfl k) ?_
  refine Go.step (T' := s₁) (f' := (mkF m 3 #[.val (.ref ba), .val (.ref bc)] [(.int (0 : Int32)), (.ref bc), (.ref ba)])) (fun t k => XS.iconst X0.here hx rfl (hb hby d3_2) k) ?_
  refine Go.step (T' := s₁) (f' := (mkF m 4 #[.val (.ref ba), .val (.ref bc)] [(.ref bc), (.int (0 : Int32)), (.ref bc), (.ref ba)])) (fun t k => XS.aloadN X0.here hx rfl (hb hby d3_3) rfl rfl k) ?_
  obtain ⟨ca64, Aa64, qa64, Sa64, Na64, Ha64, Ga64⟩ := id P4
  refine Go.step (T' := s₁) (f' := (mkF m 5 #[.val (.ref ba), .val (.ref bc)] [(.int (1 : Int32)), (.int (0 : Int32)), (.ref bc), (.ref ba)])) (fun t k => own_alen X0 hx hZ e0 Aa64 Sa64 Na64 (g := (mkF m 4 #[.val (.ref ba), .val (.ref bc)] [(.ref bc), (.int (0 : Int32)), (.ref bc), (.ref ba)])) rfl rfl (hb hby d3_4) k) ?_
  refine Go.step (T' := s₁) (f' := (mkF m 6 #[.val (.ref ba), .val (.ref bc)] [.null, (.int (1 : Int32)), (.int (0 : Int32)), (.ref bc), (.ref ba)])) (fun t k => XS.aconstNull X0.here hx rfl (hb hby d3_5) k) ?_
  obtain ⟨_, _, ⟨T65, L65, k65, n65⟩, -, X65, ⟨Lc65, hQ65, l65, y65, z65⟩, st65⟩ := X0.specialBack hx (y := (⟨"java/lang/String", "<init>", "([CIILjava/lang/Void;)V"⟩ : MethodName)) rfl hown (mvT hZ (hw _ (List.mem_of_getElem? (i := 14) rfl))) (mvT hZ (hw _ (List.mem_of_getElem? (i := 15) rfl))) (mvT hZ (hw _ (List.mem_of_getElem? (i := 17) rfl))) (by decide) (backOf (W := 0) (rm_ini4_1 l Z a0 hw [] ba bc kc cc0 u0 u1 wz h0 n0 O0 P0 P1 P2 P3 P4 P5 P6 hwz hc0) hZ (hw _ (List.mem_of_getElem? (i := 17) rfl)) (hw _ (List.mem_of_getElem? (i := 9) rfl)) (by decide) (by decide)) (g := (mkF m 6 #[.val (.ref ba), .val (.ref bc)] [.null, (.int (1 : Int32)), (.int (0 : Int32)), (.ref bc), (.ref ba)])) rfl (by rw [hml]; rfl) (Steps.refl _) (a := ba) (argsL := [(.ref bc), (.int (0 : Int32)), (.int (1 : Int32)), .null]) (rest := []) (lenOf pd3 rfl) rfl (by show 2 * 0 + _ ≤ _; exact Nat.le_of_eq rfl) (hb hby d3_6) (fun _ _ => ⟨rfl, e0, (by decide : 0 + 1 ≤ _), (by decide : 0 + 1 ≤ _)⟩)
  dsimp only [Pt.U, Pt.locs, Pt.cells, Pt.slots] at X65 l65 y65 z65 st65 hQ65
  subst l65 y65 z65
  obtain ⟨u66, u67, rfl, Nq65, hh65, p68, p69, p70, p71, p72⟩ := hQ65
  have N73 := Fr.app N0 Nq65
  have f74 := P0.keep hh65
  have f75 := P4.keep hh65 (ninS P5 nin0)
  have O76 := O0.keep hh65 (allS P3 all0)
  have K77 := K0.trans hh65 (allS (Or.inl (List.mem_of_getElem? (i := 0) rfl)) all0)
  have g78 : n0 ≤ u66 := Nat.le_trans (own_old_le O0) p71
  have g79 : h0.size ≤ u66 := Nat.le_trans K0.1 p71
  have ne80 : ba ≠ u66 := Nat.ne_of_lt (Nat.lt_of_lt_of_le P0.lt p71)
  have ne81 : bc ≠ u66 := Nat.ne_of_lt (Nat.lt_of_lt_of_le P4.lt p71)
  refine Go.via (T' := T65) (f' := (mkF m 9 #[.val (.ref ba), .val (.ref bc)] [])) st65 ?_
  clear st65 X0 Nq65
  refine Go.retV X65 hx hlk Bd.returns (hb hby d3_9) rfl ?_ (by decide) (by decide)
  exact ⟨u66, u67, rfl, N73, K77, p68, p69, p70, g79, p72⟩
theorem ef_cpr2 (m : MethodId) (bc : Addr) (bb : Addr) : entryFrame m #[(.ref bc), (.int (0 : Int32)), (.ref bb), (.int (0 : Int32)), (.int (2 : Int32))] 7 = mkF m 0 #[.val (.ref bc), .val (.int (0 : Int32)), .val (.ref bb), .val (.int (0 : Int32)), .val (.int (2 : Int32)), .unset, .unset] [] := by first | (simp [entryFrame, mkF, argsToLocals, Value.category]; done) | rfl
def Q_cpr2 (Z : State) (bc : Addr) (bb : Addr) (kc : ClassId) (cc0 : Int32) (cc1 : Int32) (kb : ClassId) (h0 : Heap) (n0 : Nat) (v : Option Value) (h : Heap) (L : List Loc) : Prop := v = some (.int (2 : Int32)) ∧ Fr n0 L ∧ Keep h0 h [bb] ∧ Arv Z h bb kb .byte (2 : Int32) [(.int (cc0.toInt8.toInt32)), (.int (cc1.toInt8.toInt32))] (.int (0 : Int32))
set_option maxRecDepth 65536 in
set_option maxHeartbeats 40000000 in
theorem rm_cpr2 (l : Launch) (Z : State) (a0 : Array Value) (hw : ∀ d ∈ tables_1, d.before a0 Z = true) (ws : List Jvm.Cond) (bc : Addr) (bb : Addr) (kc : ClassId) (cc0 : Int32) (cc1 : Int32) (kb : ClassId) (h0 : Heap) (n0 : Nat) (O0 : Old Z n0 h0) (P0 : Arv Z h0 bc kc .char (2 : Int32) [(.int cc0), (.int cc1)] (.int (0 : Int32))) (P1 : Arv Z h0 bb kb .byte (2 : Int32) [(.int (0 : Int32)), (.int (0 : Int32))] (.int (0 : Int32))) (P2 : n0 ≤ bb) (P3 : bc ≠ bb) (hc0 : ¬ ((255 : Int32) < cc0)) (hc1 : ¬ ((255 : Int32) < cc1)) :
    MetFree l (⟨"java/lang/StringUTF16", "compress", "([CI[BII)I"⟩ : MethodName) (head1 (Jvm.Cond.code (⟨"java/lang/StringUTF16", "compress", "([CI[BII)I"⟩ : MethodName) jdk_52_method_21_code 7 (some .int) :: ws) ({ frames := 0, cells := 0, slots := 0, locals := 0 } : Room)) (fun a U => a = #[(.ref bc), (.int (0 : Int32)), (.ref bb), (.int (0 : Int32)), (.int (2 : Int32))] ∧ Z.Warmed39 U.vm ∧ U.heap = h0) (fun _ _ _ _ _ => True) (fun _ U o U' => ∃ v L, o = .returned v ∧ Q_cpr2 Z bc bb kc cc0 cc1 kb h0 n0 v U'.heap L ∧ FrameEnd U o U' L ({ frames := 0, cells := 0, slots := 0, locals := 0 } : Room).cells ({ frames := 0, cells := 0, slots := 0, locals := 0 } : Room).slots) := by
  refine MetFree.of_bodySF (plainFor_of_name pn_java_lang_StringUTF16) hisR ?_
  intro p e s m args below meth c s₁ Bd hml0 hP hK
  obtain ⟨rfl, hZ, hh⟩ := hP
  have hx := Bd.exec
  have hby := Bd.bytes
  have hml : c.maxLocals = 7 := hml0
  have hown : s.vm.findClass "java/lang/StringUTF16" = some m.cls := findClass_of_methodNamed Bd.named
  have hnm := (name_of_methodNamed Bd.named Bd.method).1
  have hlk : meth.locks = false := BodyLoose.notSynchronized Bd
  have X0 : Stand p l e ({ frames := 0, cells := 0, slots := 0, locals := 0 } : Room) s m #[(.ref bc), (.int (0 : Int32)), (.ref bb), (.int (0 : Int32)), (.int (2 : Int32))] below meth c s₁ [] 0 0 := Stand.of_body Bd
  have e0 : s₁.heap = h0 := by rw [← hh, Bd.state]; rfl
  have N0 := Fr.nil n0
  have K0 := Keep.refl h0 [bb]
  rw [ef_cpr2 m bc bb]
  show Go p e below s (fun v h L => Q_cpr2 Z bc bb kc cc0 cc1 kb h0 n0 v h L) ({ frames := 0, cells := 0, slots := 0, locals := 0 } : Room).cells ({ frames := 0, cells := 0, slots := 0, locals := 0 } : Room).slots s₁ (mkF m 0 #[.val (.ref bc), .val (.int (0 : Int32)), .val (.ref bb), .val (.int (0 : Int32)), .val (.int (2 : Int32)), .unset, .unset] [])
  refine Go.step (T' := s₁) (f' := (mkF m 1 #[.val (.ref bc), .val (.int (0 : Int32)), .val (.ref bb), .val (.int (0 : Int32)), .val (.int (2 : Int32)), .unset, .unset] [(.int (0 : Int32))])) (fun t k => XS.iconst X0.here hx rfl (hb hby d7_0) k) ?_
  refine Go.step (T' := s₁) (f' := (mkF m 3 #[.val (.ref bc), .val (.int (0 : Int32)), .val (.ref bb), .val (.int (0 : Int32)), .val (.int (2 : Int32)), .val (.int (0 : Int32)), .unset] [])) (fun t k => XS.istore X0.here hx rfl (hb hby d7_1) rfl (l' := #[.val (.ref bc), .val (.int (0 : Int32)), .val (.ref bb), .val (.int (0 : Int32)), .val (.int (2 : Int32)), .val (.int (0 : Int32)), .unset]) rfl k) ?_
  refine Go.step (T' := s₁) (f' := (mkF m 5 #[.val (.ref bc), .val (.int (0 : Int32)), .val (.ref bb), .val (.int (0 : Int32)), .val (.int (2 : Int32)), .val (.int (0 : Int32)), .unset] [(.int (0 : Int32))])) (fun t k => XS.iload X0.here hx rfl (hb hby d7_3) rfl k) ?_
  refine Go.step (T' := s₁) (f' := (mkF m 7 #[.val (.ref bc), .val (.int (0 : Int32)), .val (.ref bb), .val (.int (0 : Int32)), .val (.int (2 : Int32)), .val (.int (0 : Int32)), .unset] [(.int (2 : Int32)), (.int (0 : Int32))])) (fun t k => XS.iload X0.here hx rfl (hb hby d7_5) rfl k) ?_
  refine Go.step (T' := s₁) (f' := (mkF m 10 #[.val (.ref bc), .val (.int (0 : Int32)), .val (.ref bb), .val (.int (0 : Int32)), .val (.int (2 : Int32)), .val (.int (0 : Int32)), .unset] [])) (fun t k => XS.icmpNo X0.here hx rfl (hb hby d7_7) rfl (tlt (by decide : (0 : Int32) < (2 : Int32))).2.1 k) ?_
  refine Go.step (T' := s₁) (f' := (mkF m 11 #[.val (.ref bc), .val (.int (0 : Int32)), .val (.ref bb), .val (.int (0 : Int32)), .val (.int (2 : Int32)), .val (.int (0 : Int32)), .unset] [(.ref bc)])) (fun t k => XS.aloadN X0.here hx rfl (hb hby d7_10) rfl rfl k) ?_
  refine Go.step (T' := s₁) (f' := (mkF m 12 #[.val (.ref bc), .val (.int (0 : Int32)), .val (.ref bb), .val (.int (0 : Int32)), .val (.int (2 : Int32)), .val (.int (0 : Int32)), .unset] [(.int (0 : Int32)), (.ref bc)])) (fun t k => XS.iloadN X0.here hx rfl (hb hby d7_11) rfl k) ?_
  obtain ⟨ca82, Aa82, qa82, Sa82, Na82, Ha82, Ga82⟩ := id P0
  have ia82 : ¬ ((0 : Int32) < 0 ∨ ca82.slots.size ≤ ((0 : Int32)).toNatClampNeg) := inb_of Sa82 ⟨by decide, by decide⟩
  have va82 := Ha82.at (v := (.int cc0)) ia82 rfl
  refine Go.step (T' := s₁) (f' := (mkF m 13 #[.val (.ref bc), .val (.int (0 : Int32)), .val (.ref bb), .val (.int (0 : Int32)), .val (.int (2 : Int32)), .val (.int (0 : Int32)), .unset] [(.int cc0)])) (fun t k => X0.caload hx (j := (0 : Int32)) (v := (.int cc0)) (by rw [e0]; exact Aa82.1) (State.isArrayOf_alike hZ.alike Aa82.2.1) Aa82.2.2 ia82 va82 (g := (mkF m 12 #[.val (.ref bc), .val (.int (0 : Int32)), .val (.ref bb), .val (.int (0 : Int32)), .val (.int (2 : Int32)), .val (.int (0 : Int32)), .unset] [(.int (0 : Int32)), (.ref bc)])) rfl rfl (hb hby d7_12) t k) ?_
  refine Go.step (T' := s₁) (f' := (mkF m 15 #[.val (.ref bc), .val (.int (0 : Int32)), .val (.ref bb), .val (.int (0 : Int32)), .val (.int (2 : Int32)), .val (.int (0 : Int32)), .val (.int cc0)] [])) (fun t k => XS.istore X0.here hx rfl (hb hby d7_13) rfl (l' := #[.val (.ref bc), .val (.int (0 : Int32)), .val (.ref bb), .val (.int (0 : Int32)), .val (.int (2 : Int32)), .val (.int (0 : Int32)), .val (.int cc0)]) rfl k) ?_
  refine Go.step (T' := s₁) (f' := (mkF m 17 #[.val (.ref bc), .val (.int (0 : Int32)), .val (.ref bb), .val (.int (0 : Int32)), .val (.int (2 : Int32)), .val (.int (0 : Int32)), .val (.int cc0)] [(.int cc0)])) (fun t k => XS.iload X0.here hx rfl (hb hby d7_15) rfl k) ?_
  refine Go.step (T' := s₁) (f' := (mkF m 20 #[.val (.ref bc), .val (.int (0 : Int32)), .val (.ref bb), .val (.int (0 : Int32)), .val (.int (2 : Int32)), .val (.int (0 : Int32)), .val (.int cc0)] [(.int (255 : Int32)), (.int cc0)])) (fun t k => XS.sipush X0.here hx rfl (hb hby d7_17) k) ?_
  refine Go.step (T' := s₁) (f' := (mkF m 26 #[.val (.ref bc), .val (.int (0 : Int32)), .val (.ref bb), .val (.int (0 : Int32)), .val (.int (2 : Int32)), .val (.int (0 : Int32)), .val (.int cc0)] [])) (fun t k => XS.icmpYes X0.here hx rfl (pc0 := 20) (pc' := 26) rfl (hb hby d7_20) rfl (flt hc0).2.2.2 (by decide) (by decide) k) ?_
  refine Go.step (T' := s₁) (f' := (mkF m 27 #[.val (.ref bc), .val (.int (0 : Int32)), .val (.ref bb), .val (.int (0 : Int32)), .val (.int (2 : Int32)), .val (.int (0 : Int32)), .val (.int cc0)] [(.ref bb)])) (fun t k => XS.aloadN X0.here hx rfl (hb hby d7_26) rfl rfl k) ?_
  refine Go.step (T' := s₁) (f' := (mkF m 28 #[.val (.ref bc), .val (.int (0 : Int32)), .val (.ref bb), .val (.int (0 : Int32)), .val (.int (2 : Int32)), .val (.int (0 : Int32)), .val (.int cc0)] [(.int (0 : Int32)), (.ref bb)])) (fun t k => XS.iloadN X0.here hx rfl (hb hby d7_27) rfl k) ?_
  refine Go.step (T' := s₁) (f' := (mkF m 30 #[.val (.ref bc), .val (.int (0 : Int32)), .val (.ref bb), .val (.int (0 : Int32)), .val (.int (2 : Int32)), .val (.int (0 : Int32)), .val (.int cc0)] [(.int cc0), (.int (0 : Int32)), (.ref bb)])) (fun t k => XS.iload X0.here hx rfl (hb hby d7_28) rfl k) ?_
  refine Go.step (T' := s₁) (f' := (mkF m 31 #[.val (.ref bc), .val (.int (0 : Int32)), .val (.ref bb), .val (.int (0 : Int32)), .val (.int (2 : Int32)), .val (.int (0 : Int32)), .val (.int cc0)] [(.int (cc0.toInt8.toInt32)), (.int (0 : Int32)), (.ref bb)])) (fun t k => XS.i2b X0.here hx rfl (hb hby d7_30) rfl k) ?_
  obtain ⟨ca83, Aa83, qa83, Sa83, Na83, Ha83, Ga83⟩ := id P1
  have ia83 : ¬ ((0 : Int32) < 0 ∨ ca83.slots.size ≤ ((0 : Int32)).toNatClampNeg) := inb_of Sa83 ⟨by decide, by decide⟩
  obtain ⟨T84, h84, X84, e84, W84, st84⟩ := stB X0 hx hZ e0 Aa83 (j := (0 : Int32)) ia83 (g := (mkF m 31 #[.val (.ref bc), .val (.int (0 : Int32)), .val (.ref bb), .val (.int (0 : Int32)), .val (.int (2 : Int32)), .val (.int (0 : Int32)), .val (.int cc0)] [(.int (cc0.toInt8.toInt32)), (.int (0 : Int32)), (.ref bb)])) rfl rfl (hb hby d7_31)
  have f85 := Arv.set Aa83 qa83 Sa83 Na83 Ha83 Ga83 (fits_nar_byte _) W84 0 rfl (Nat.le_of_ble_eq_true rfl)
  rw [own_nar8] at f85
  have f86 : Arv Z h84 bb kb .byte (2 : Int32) [(.int (cc0.toInt8.toInt32)), (.int (0 : Int32))] (.int (0 : Int32)) := f85
  have f87 := P0.other W84 P3
  have O88 := O0.wr W84 P2
  have K89 := K0.wr W84 (Or.inl (List.mem_of_getElem? (i := 0) rfl))
  have N90 := Fr.snoc X84 N0 P2
  refine Go.step (T' := T84) (f' := (mkF m 32 #[.val (.ref bc), .val (.int (0 : Int32)), .val (.ref bb), .val (.int (0 : Int32)), .val (.int (2 : Int32)), .val (.int (0 : Int32)), .val (.int cc0)] [])) st84 ?_
  clear st84 X0
  refine Go.step (T' := T84) (f' := (mkF m 35 #[.val (.ref bc), .val (.int ((0 : Int32) + (1 : Int32))), .val (.ref bb), .val (.int (0 : Int32)), .val (.int (2 : Int32)), .val (.int (0 : Int32)), .val (.int cc0)] [])) (fun t k => XS.iinc X84.here hx rfl (hb hby d7_32) rfl (l' := #[.val (.ref bc), .val (.int ((0 : Int32) + (1 : Int32))), .val (.ref bb), .val (.int (0 : Int32)), .val (.int (2 : Int32)), .val (.int (0 : Int32)), .val (.int cc0)]) rfl k) ?_
  rw [show ((0 : Int32) + (1 : Int32)) = (1 : Int32) from by decide]
  refine Go.step (T' := T84) (f' := (mkF m 38 #[.val (.ref bc), .val (.int (1 : Int32)), .val (.ref bb), .val (.int ((0 : Int32) + (1 : Int32))), .val (.int (2 : Int32)), .val (.int (0 : Int32)), .val (.int cc0)] [])) (fun t k => XS.iinc X84.here hx rfl (hb hby d7_35) rfl (l' := #[.val (.ref bc), .val (.int (1 : Int32)), .val (.ref bb), .val (.int ((0 : Int32) + (1 : Int32))), .val (.int (2 : Int32)), .val (.int (0 : Int32)), .val (.int cc0)]) rfl k) ?_
  rw [show ((0 : Int32) + (1 : Int32)) = (1 : Int32) from by decide]
  refine Go.step (T' := T84) (f' := (mkF m 41 #[.val (.ref bc), .val (.int (1 : Int32)), .val (.ref bb), .val (.int (1 : Int32)), .val (.int (2 : Int32)), .val (.int ((0 : Int32) + (1 : Int32))), .val (.int cc0)] [])) (fun t k => XS.iinc X84.here hx rfl (hb hby d7_38) rfl (l' := #[.val (.ref bc), .val (.int (1 : Int32)), .val (.ref bb), .val (.int (1 : Int32)), .val (.int (2 : Int32)), .val (.int ((0 : Int32) + (1 : Int32))), .val (.int cc0)]) rfl k) ?_
  rw [show ((0 : Int32) + (1 : Int32)) = (1 : Int32) from by decide]
  refine Go.step (T' := T84) (f' := (mkF m 3 #[.val (.ref bc), .val (.int (1 : Int32)), .val (.ref bb), .val (.int (1 : Int32)), .val (.int (2 : Int32)), .val (.int (1 : Int32)), .val (.int cc0)] [])) (fun t k => XS.goto X84.here hx rfl (pc0 := 41) (pc' := 3) rfl (hb hby d7_41) (by decide) (by decide) k) ?_
  refine Go.step (T' := T84) (f' := (mkF m 5 #[.val (.ref bc), .val (.int (1 : Int32)), .val (.ref bb), .val (.int (1 : Int32)), .val (.int (2 : Int32)), .val (.int (1 : Int32)), .val (.int cc0)] [(.int (1 : Int32))])) (fun t k => XS.iload X84.here hx rfl (hb hby d7_3) rfl k) ?_
  refine Go.step (T' := T84) (f' := (mkF m 7 #[.val (.ref bc), .val (.int (1 : Int32)), .val (.ref bb), .val (.int (1 : Int32)), .val (.int (2 : Int32)), .val (.int (1 : Int32)), .val (.int cc0)] [(.int (2 : Int32)), (.int (1 : Int32))])) (fun t k => XS.iload X84.here hx rfl (hb hby d7_5) rfl k) ?_
  refine Go.step (T' := T84) (f' := (mkF m 10 #[.val (.ref bc), .val (.int (1 : Int32)), .val (.ref bb), .val (.int (1 : Int32)), .val (.int (2 : Int32)), .val (.int (1 : Int32)), .val (.int cc0)] [])) (fun t k => XS.icmpNo X84.here hx rfl (hb hby d7_7) rfl (tlt (by decide : (1 : Int32) < (2 : Int32))).2.1 k) ?_
  refine Go.step (T' := T84) (f' := (mkF m 11 #[.val (.ref bc), .val (.int (1 : Int32)), .val (.ref bb), .val (.int (1 : Int32)), .val (.int (2 : Int32)), .val (.int (1 : Int32)), .val (.int cc0)] [(.ref bc)])) (fun t k => XS.aloadN X84.here hx rfl (hb hby d7_10) rfl rfl k) ?_
  refine Go.step (T' := T84) (f' := (mkF m 12 #[.val (.ref bc), .val (.int (1 : Int32)), .val (.ref bb), .val (.int (1 : Int32)), .val (.int (2 : Int32)), .val (.int (1 : Int32)), .val (.int cc0)] [(.int (1 : Int32)), (.ref bc)])) (fun t k => XS.iloadN X84.here hx rfl (hb hby d7_11) rfl k) ?_
  obtain ⟨ca91, Aa91, qa91, Sa91, Na91, Ha91, Ga91⟩ := id f87
  have ia91 : ¬ ((1 : Int32) < 0 ∨ ca91.slots.size ≤ ((1 : Int32)).toNatClampNeg) := inb_of Sa91 ⟨by decide, by decide⟩
  have va91 := Ha91.at (v := (.int cc1)) ia91 rfl
  refine Go.step (T' := T84) (f' := (mkF m 13 #[.val (.ref bc), .val (.int (1 : Int32)), .val (.ref bb), .val (.int (1 : Int32)), .val (.int (2 : Int32)), .val (.int (1 : Int32)), .val (.int cc0)] [(.int cc1)])) (fun t k => X84.caload hx (j := (1 : Int32)) (v := (.int cc1)) (by rw [e84]; exact Aa91.1) (State.isArrayOf_alike hZ.alike Aa91.2.1) Aa91.2.2 ia91 va91 (g := (mkF m 12 #[.val (.ref bc), .val (.int (1 : Int32)), .val (.ref bb), .val (.int (1 : Int32)), .val (.int (2 : Int32)), .val (.int (1 : Int32)), .val (.int cc0)] [(.int (1 : Int32)), (.ref bc)])) rfl rfl (hb hby d7_12) t k) ?_
  refine Go.step (T' := T84) (f' := (mkF m 15 #[.val (.ref bc), .val (.int (1 : Int32)), .val (.ref bb), .val (.int (1 : Int32)), .val (.int (2 : Int32)), .val (.int (1 : Int32)), .val (.int cc1)] [])) (fun t k => XS.istore X84.here hx rfl (hb hby d7_13) rfl (l' := #[.val (.ref bc), .val (.int (1 : Int32)), .val (.ref bb), .val (.int (1 : Int32)), .val (.int (2 : Int32)), .val (.int (1 : Int32)), .val (.int cc1)]) rfl k) ?_
  refine Go.step (T' := T84) (f' := (mkF m 17 #[.val (.ref bc), .val (.int (1 : Int32)), .val (.ref bb), .val (.int (1 : Int32)), .val (.int (2 : Int32)), .val (.int (1 : Int32)), .val (.int cc1)] [(.int cc1)])) (fun t k => XS.iload X84.here hx rfl (hb hby d7_15) rfl k) ?_
  refine Go.step (T' := T84) (f' := (mkF m 20 #[.val (.ref bc), .val (.int (1 : Int32)), .val (.ref bb), .val (.int (1 : Int32)), .val (.int (2 : Int32)), .val (.int (1 : Int32)), .val (.int cc1)] [(.int (255 : Int32)), (.int cc1)])) (fun t k => XS.sipush X84.here hx rfl (hb hby d7_17) k) ?_
  refine Go.step (T' := T84) (f' := (mkF m 26 #[.val (.ref bc), .val (.int (1 : Int32)), .val (.ref bb), .val (.int (1 : Int32)), .val (.int (2 : Int32)), .val (.int (1 : Int32)), .val (.int cc1)] [])) (fun t k => XS.icmpYes X84.here hx rfl (pc0 := 20) (pc' := 26) rfl (hb hby d7_20) rfl (flt hc1).2.2.2 (by decide) (by decide) k) ?_
  refine Go.step (T' := T84) (f' := (mkF m 27 #[.val (.ref bc), .val (.int (1 : Int32)), .val (.ref bb), .val (.int (1 : Int32)), .val (.int (2 : Int32)), .val (.int (1 : Int32)), .val (.int cc1)] [(.ref bb)])) (fun t k => XS.aloadN X84.here hx rfl (hb hby d7_26) rfl rfl k) ?_
  refine Go.step (T' := T84) (f' := (mkF m 28 #[.val (.ref bc), .val (.int (1 : Int32)), .val (.ref bb), .val (.int (1 : Int32)), .val (.int (2 : Int32)), .val (.int (1 : Int32)), .val (.int cc1)] [(.int (1 : Int32)), (.ref bb)])) (fun t k => XS.iloadN X84.here hx rfl (hb hby d7_27) rfl k) ?_
  refine Go.step (T' := T84) (f' := (mkF m 30 #[.val (.ref bc), .val (.int (1 : Int32)), .val (.ref bb), .val (.int (1 : Int32)), .val (.int (2 : Int32)), .val (.int (1 : Int32)), .val (.int cc1)] [(.int cc1), (.int (1 : Int32)), (.ref bb)])) (fun t k => XS.iload X84.here hx rfl (hb hby d7_28) rfl k) ?_
  refine Go.step (T' := T84) (f' := (mkF m 31 #[.val (.ref bc), .val (.int (1 : Int32)), .val (.ref bb), .val (.int (1 : Int32)), .val (.int (2 : Int32)), .val (.int (1 : Int32)), .val (.int cc1)] [(.int (cc1.toInt8.toInt32)), (.int (1 : Int32)), (.ref bb)])) (fun t k => XS.i2b X84.here hx rfl (hb hby d7_30) rfl k) ?_
  obtain ⟨ca92, Aa92, qa92, Sa92, Na92, Ha92, Ga92⟩ := id f86
  have ia92 : ¬ ((1 : Int32) < 0 ∨ ca92.slots.size ≤ ((1 : Int32)).toNatClampNeg) := inb_of Sa92 ⟨by decide, by decide⟩
  obtain ⟨T93, h93, X93, e93, W93, st93⟩ := stB X84 hx hZ e84 Aa92 (j := (1 : Int32)) ia92 (g := (mkF m 31 #[.val (.ref bc), .val (.int (1 : Int32)), .val (.ref bb), .val (.int (1 : Int32)), .val (.int (2 : Int32)), .val (.int (1 : Int32)), .val (.int cc1)] [(.int (cc1.toInt8.toInt32)), (.int (1 : Int32)), (.ref bb)])) rfl rfl (hb hby d7_31)
  have f94 := Arv.set Aa92 qa92 Sa92 Na92 Ha92 Ga92 (fits_nar_byte _) W93 1 rfl (Nat.le_of_ble_eq_true rfl)
  rw [own_nar8] at f94
  have f95 : Arv Z h93 bb kb .byte (2 : Int32) [(.int (cc0.toInt8.toInt32)), (.int (cc1.toInt8.toInt32))] (.int (0 : Int32)) := f94
  have f96 := f87.other W93 P3
  have O97 := O88.wr W93 P2
  have K98 := K89.wr W93 (Or.inl (List.mem_of_getElem? (i := 0) rfl))
  have N99 := Fr.snoc X93 N90 P2
  refine Go.step (T' := T93) (f' := (mkF m 32 #[.val (.ref bc), .val (.int (1 : Int32)), .val (.ref bb), .val (.int (1 : Int32)), .val (.int (2 : Int32)), .val (.int (1 : Int32)), .val (.int cc1)] [])) st93 ?_
  clear st93 X84 f87 O88 K89 N90
  refine Go.step (T' := T93) (f' := (mkF m 35 #[.val (.ref bc), .val (.int ((1 : Int32) + (1 : Int32))), .val (.ref bb), .val (.int (1 : Int32)), .val (.int (2 : Int32)), .val (.int (1 : Int32)), .val (.int cc1)] [])) (fun t k => XS.iinc X93.here hx rfl (hb hby d7_32) rfl (l' := #[.val (.ref bc), .val (.int ((1 : Int32) + (1 : Int32))), .val (.ref bb), .val (.int (1 : Int32)), .val (.int (2 : Int32)), .val (.int (1 : Int32)), .val (.int cc1)]) rfl k) ?_
  rw [show ((1 : Int32) + (1 : Int32)) = (2 : Int32) from by decide]
  refine Go.step (T' := T93) (f' := (mkF m 38 #[.val (.ref bc), .val (.int (2 : Int32)), .val (.ref bb), .val (.int ((1 : Int32) + (1 : Int32))), .val (.int (2 : Int32)), .val (.int (1 : Int32)), .val (.int cc1)] [])) (fun t k => XS.iinc X93.here hx rfl (hb hby d7_35) rfl (l' := #[.val (.ref bc), .val (.int (2 : Int32)), .val (.ref bb), .val (.int ((1 : Int32) + (1 : Int32))), .val (.int (2 : Int32)), .val (.int (1 : Int32)), .val (.int cc1)]) rfl k) ?_
  rw [show ((1 : Int32) + (1 : Int32)) = (2 : Int32) from by decide]
  refine Go.step (T' := T93) (f' := (mkF m 41 #[.val (.ref bc), .val (.int (2 : Int32)), .val (.ref bb), .val (.int (2 : Int32)), .val (.int (2 : Int32)), .val (.int ((1 : Int32) + (1 : Int32))), .val (.int cc1)] [])) (fun t k => XS.iinc X93.here hx rfl (hb hby d7_38) rfl (l' := #[.val (.ref bc), .val (.int (2 : Int32)), .val (.ref bb), .val (.int (2 : Int32)), .val (.int (2 : Int32)), .val (.int ((1 : Int32) + (1 : Int32))), .val (.int cc1)]) rfl k) ?_
  rw [show ((1 : Int32) + (1 : Int32)) = (2 : Int32) from by decide]
  refine Go.step (T' := T93) (f' := (mkF m 3 #[.val (.ref bc), .val (.int (2 : Int32)), .val (.ref bb), .val (.int (2 : Int32)), .val (.int (2 : Int32)), .val (.int (2 : Int32)), .val (.int cc1)] [])) (fun t k => XS.goto X93.here hx rfl (pc0 := 41) (pc' := 3) rfl (hb hby d7_41) (by decide) (by decide) k) ?_
  refine Go.step (T' := T93) (f' := (mkF m 5 #[.val (.ref bc), .val (.int (2 : Int32)), .val (.ref bb), .val (.int (2 : Int32)), .val (.int (2 : Int32)), .val (.int (2 : Int32)), .val (.int cc1)] [(.int (2 : Int32))])) (fun t k => XS.iload X93.here hx rfl (hb hby d7_3) rfl k) ?_
  refine Go.step (T' := T93) (f' := (mkF m 7 #[.val (.ref bc), .val (.int (2 : Int32)), .val (.ref bb), .val (.int (2 : Int32)), .val (.int (2 : Int32)), .val (.int (2 : Int32)), .val (.int cc1)] [(.int (2 : Int32)), (.int (2 : Int32))])) (fun t k => XS.iload X93.here hx rfl (hb hby d7_5) rfl k) ?_
  refine Go.step (T' := T93) (f' := (mkF m 44 #[.val (.ref bc), .val (.int (2 : Int32)), .val (.ref bb), .val (.int (2 : Int32)), .val (.int (2 : Int32)), .val (.int (2 : Int32)), .val (.int cc1)] [])) (fun t k => XS.icmpYes X93.here hx rfl (pc0 := 7) (pc' := 44) rfl (hb hby d7_7) rfl (flt (by decide : ¬ ((2 : Int32) < (2 : Int32)))).2.1 (by decide) (by decide) k) ?_
  refine Go.step (T' := T93) (f' := (mkF m 46 #[.val (.ref bc), .val (.int (2 : Int32)), .val (.ref bb), .val (.int (2 : Int32)), .val (.int (2 : Int32)), .val (.int (2 : Int32)), .val (.int cc1)] [(.int (2 : Int32))])) (fun t k => XS.iload X93.here hx rfl (hb hby d7_44) rfl k) ?_
  refine Go.retI X93 hx hlk Bd.returns (hb hby d7_46) e93 ?_ (by decide) (by decide)
  exact ⟨rfl, N99, K98, f95⟩
theorem ef_cmp2 (m : MethodId) (bc : Addr) : entryFrame m #[(.ref bc), (.int (0 : Int32)), (.int (2 : Int32))] 6 = mkF m 0 #[.val (.ref bc), .val (.int (0 : Int32)), .val (.int (2 : Int32)), .unset, .unset, .unset] [] := by first | (simp [entryFrame, mkF, argsToLocals, Value.category]; done) | rfl
def Q_cmp2 (Z : State) (bc : Addr) (kc : ClassId) (cc0 : Int32) (cc1 : Int32) (h0 : Heap) (n0 : Nat) (v : Option Value) (h : Heap) (L : List Loc) : Prop := ∃ bb : Addr, ∃ kb : ClassId, v = some (.ref bb) ∧ Fr n0 L ∧ Keep h0 h [] ∧ h0.size ≤ bb ∧ Arv Z h bb kb .byte (2 : Int32) [(.int (cc0.toInt8.toInt32)), (.int (cc1.toInt8.toInt32))] (.int (0 : Int32))
set_option maxRecDepth 65536 in
set_option maxHeartbeats 40000000 in
theorem rm_cmp2 (l : Launch) (Z : State) (a0 : Array Value) (hw : ∀ d ∈ tables_1, d.before a0 Z = true) (ws : List Jvm.Cond) (bc : Addr) (kc : ClassId) (cc0 : Int32) (cc1 : Int32) (h0 : Heap) (n0 : Nat) (O0 : Old Z n0 h0) (P0 : Arv Z h0 bc kc .char (2 : Int32) [(.int cc0), (.int cc1)] (.int (0 : Int32))) (hc0 : ¬ ((255 : Int32) < cc0)) (hc1 : ¬ ((255 : Int32) < cc1)) :
    MetFree l (⟨"java/lang/StringUTF16", "compress", "([CII)[B"⟩ : MethodName) (head1 (Jvm.Cond.code (⟨"java/lang/StringUTF16", "compress", "([CII)[B"⟩ : MethodName) jdk_52_method_16_code 6 (some (.array .byte)) :: ws) ({ frames := 1, cells := 1, slots := 2, locals := 18 } : Room)) (fun a U => a = #[(.ref bc), (.int (0 : Int32)), (.int (2 : Int32))] ∧ Z.Warmed39 U.vm ∧ U.heap = h0) (fun _ _ _ _ _ => True) (fun _ U o U' => ∃ v L, o = .returned v ∧ Q_cmp2 Z bc kc cc0 cc1 h0 n0 v U'.heap L ∧ FrameEnd U o U' L ({ frames := 1, cells := 1, slots := 2, locals := 18 } : Room).cells ({ frames := 1, cells := 1, slots := 2, locals := 18 } : Room).slots) := by
  refine MetFree.of_bodySF (plainFor_of_name pn_java_lang_StringUTF16) hisR ?_
  intro p e s m args below meth c s₁ Bd hml0 hP hK
  obtain ⟨rfl, hZ, hh⟩ := hP
  have hx := Bd.exec
  have hby := Bd.bytes
  have hml : c.maxLocals = 6 := hml0
  have hown : s.vm.findClass "java/lang/StringUTF16" = some m.cls := findClass_of_methodNamed Bd.named
  have hnm := (name_of_methodNamed Bd.named Bd.method).1
  have hlk : meth.locks = false := BodyLoose.notSynchronized Bd
  have X0 : Stand p l e ({ frames := 1, cells := 1, slots := 2, locals := 18 } : Room) s m #[(.ref bc), (.int (0 : Int32)), (.int (2 : Int32))] below meth c s₁ [] 0 0 := Stand.of_body Bd
  have e0 : s₁.heap = h0 := by rw [← hh, Bd.state]; rfl
  have N0 := Fr.nil n0
  have K0 := Keep.refl h0 []
  rw [ef_cmp2 m bc]
  show Go p e below s (fun v h L => Q_cmp2 Z bc kc cc0 cc1 h0 n0 v h L) ({ frames := 1, cells := 1, slots := 2, locals := 18 } : Room).cells ({ frames := 1, cells := 1, slots := 2, locals := 18 } : Room).slots s₁ (mkF m 0 #[.val (.ref bc), .val (.int (0 : Int32)), .val (.int (2 : Int32)), .unset, .unset, .unset] [])
  refine Go.step (T' := s₁) (f' := (mkF m 1 #[.val (.ref bc), .val (.int (0 : Int32)), .val (.int (2 : Int32)), .unset, .unset, .unset] [(.int (2 : Int32))])) (fun t k => XS.iloadN X0.here hx rfl (hb hby d6_0) rfl k) ?_
  obtain ⟨T100, h100, k100, X100, e100, E100, A100, Y100, st100⟩ := newPE X0 hx hZ (hw _ (List.mem_of_getElem? (i := 22) rfl)) e0 (g := (mkF m 1 #[.val (.ref bc), .val (.int (0 : Int32)), .val (.int (2 : Int32)), .unset, .unset, .unset] [(.int (2 : Int32))])) rfl (hb hby d6_1) rfl (by decide) (cap := 2) (by decide) (by decide) (by decide) (by decide) (ad := "[B") (by decide)
  obtain ⟨b100, g100⟩ : ∃ z, z = h0.size := ⟨_, rfl⟩
  rw [← g100] at A100 Y100 st100
  have g101 : n0 ≤ b100 := Nat.le_trans (own_old_le O0) (Nat.le_of_eq g100.symm)
  have g102 : h0.size ≤ b100 := Nat.le_trans K0.1 (Nat.le_of_eq g100.symm)
  have ne103 : bc ≠ b100 := Nat.ne_of_lt (Nat.lt_of_lt_of_le P0.lt (Nat.le_of_eq g100.symm))
  have f104 := P0.ext E100
  have O105 := O0.ext E100
  have K106 := K0.ext E100
  have f107 : Arv Z h100 b100 k100 .byte (2 : Int32) [(.int (0 : Int32)), (.int (0 : Int32))] (.int (0 : Int32)) := (Arv.new A100 (by decide)).pad (pad_rep [] (.int (0 : Int32)) 2)
  refine Go.step (T' := T100) (f' := (mkF m 3 #[.val (.ref bc), .val (.int (0 : Int32)), .val (.int (2 : Int32)), .unset, .unset, .unset] [(.ref b100)])) st100 ?_
  clear st100 X0
  refine Go.step (T' := T100) (f' := (mkF m 4 #[.val (.ref bc), .val (.int (0 : Int32)), .val (.int (2 : Int32)), .val (.ref b100), .unset, .unset] [])) (fun t k => XS.astoreN X100.here hx rfl (hb hby d6_3) rfl rfl (l' := #[.val (.ref bc), .val (.int (0 : Int32)), .val (.int (2 : Int32)), .val (.ref b100), .unset, .unset]) rfl k) ?_
  refine Go.step (T' := T100) (f' := (mkF m 5 #[.val (.ref bc), .val (.int (0 : Int32)), .val (.int (2 : Int32)), .val (.ref b100), .unset, .unset] [(.ref bc)])) (fun t k => XS.aloadN X100.here hx rfl (hb hby d6_4) rfl rfl k) ?_
  refine Go.step (T' := T100) (f' := (mkF m 6 #[.val (.ref bc), .val (.int (0 : Int32)), .val (.int (2 : Int32)), .val (.ref b100), .unset, .unset] [(.int (0 : Int32)), (.ref bc)])) (fun t k => XS.iloadN X100.here hx rfl (hb hby d6_5) rfl k) ?_
  refine Go.step (T' := T100) (f' := (mkF m 7 #[.val (.ref bc), .val (.int (0 : Int32)), .val (.int (2 : Int32)), .val (.ref b100), .unset, .unset] [(.ref b100), (.int (0 : Int32)), (.ref bc)])) (fun t k => XS.aloadN X100.here hx rfl (hb hby d6_6) rfl rfl k) ?_
  refine Go.step (T' := T100) (f' := (mkF m 8 #[.val (.ref bc), .val (.int (0 : Int32)), .val (.int (2 : Int32)), .val (.ref b100), .unset, .unset] [(.int (0 : Int32)), (.ref b100), (.int (0 : Int32)), (.ref bc)])) (fun t k => XS.iconst X100.here hx rfl (hb hby d6_7) k) ?_
  refine Go.step (T' := T100) (f' := (mkF m 9 #[.val (.ref bc), .val (.int (0 : Int32)), .val (.int (2 : Int32)), .val (.ref b100), .unset, .unset] [(.int (2 : Int32)), (.int (0 : Int32)), (.ref b100), (.int (0 : Int32)), (.ref bc)])) (fun t k => XS.iloadN X100.here hx rfl (hb hby d6_8) rfl k) ?_
  obtain ⟨_, _, ⟨T108, L108, k108, n108⟩, -, X108, ⟨Lc108, hQ108, l108, y108, z108⟩, st108⟩ := Jvm.LawKit.callS X100 hx (y := (⟨"java/lang/StringUTF16", "compress", "([CI[BII)I"⟩ : MethodName)) hown (mvT hZ (hw _ (List.mem_of_getElem? (i := 34) rfl))) (mvT hZ (hw _ (List.mem_of_getElem? (i := 35) rfl))) (mvT hZ (hw _ (List.mem_of_getElem? (i := 32) rfl))) (mvT hZ (hw _ (List.mem_of_getElem? (i := 36) rfl))) (by decide) (backOf (W := 0) (rm_cpr2 l Z a0 hw [] bc b100 kc cc0 cc1 k100 h100 n0 O105 f104 f107 g101 ne103 hc0 hc1) hZ (hw _ (List.mem_of_getElem? (i := 36) rfl)) (hw _ (List.mem_of_getElem? (i := 32) rfl)) (by decide) (by decide)) (g := (mkF m 9 #[.val (.ref bc), .val (.int (0 : Int32)), .val (.int (2 : Int32)), .val (.ref b100), .unset, .unset] [(.int (2 : Int32)), (.int (0 : Int32)), (.ref b100), (.int (0 : Int32)), (.ref bc)])) rfl (by rw [hml]; rfl) (argsL := [(.ref bc), (.int (0 : Int32)), (.ref b100), (.int (0 : Int32)), (.int (2 : Int32))]) (rest := []) (lenOf pd0 rfl) rfl (by show 2 * 0 + _ ≤ _; exact Nat.le_of_eq rfl) (hb hby d6_9) (fun _ _ => ⟨rfl, e100, (by decide : 1 + 0 ≤ _), (by decide : 2 + 0 ≤ _)⟩)
  dsimp only [Pt.U, Pt.locs, Pt.cells, Pt.slots] at X108 l108 y108 z108 st108 hQ108
  subst l108 y108 z108
  obtain ⟨rfl, Nq108, hh108, p109⟩ := hQ108
  have N110 := Fr.app N0 Nq108
  have f111 := f104.keep hh108 (ninS ne103 nin0)
  have f112 := Y100.keep hh108
  have O113 := O105.keep hh108 (allS g101 all0)
  have K114 := K106.trans hh108 (allS (Or.inr g102) all0)
  refine Go.step (T' := T108) (f' := (mkF m 12 #[.val (.ref bc), .val (.int (0 : Int32)), .val (.int (2 : Int32)), .val (.ref b100), .unset, .unset] [(.int (2 : Int32))])) st108 ?_
  clear st108 X100 Nq108
  refine Go.step (T' := T108) (f' := (mkF m 14 #[.val (.ref bc), .val (.int (0 : Int32)), .val (.int (2 : Int32)), .val (.ref b100), .val (.int (2 : Int32)), .unset] [])) (fun t k => XS.istore X108.here hx rfl (hb hby d6_12) rfl (l' := #[.val (.ref bc), .val (.int (0 : Int32)), .val (.int (2 : Int32)), .val (.ref b100), .val (.int (2 : Int32)), .unset]) rfl k) ?_
  refine Go.step (T' := T108) (f' := (mkF m 16 #[.val (.ref bc), .val (.int (0 : Int32)), .val (.int (2 : Int32)), .val (.ref b100), .val (.int (2 : Int32)), .unset] [(.int (2 : Int32))])) (fun t k => XS.iload X108.here hx rfl (hb hby d6_14) rfl k) ?_
  refine Go.step (T' := T108) (f' := (mkF m 17 #[.val (.ref bc), .val (.int (0 : Int32)), .val (.int (2 : Int32)), .val (.ref b100), .val (.int (2 : Int32)), .unset] [(.int (2 : Int32)), (.int (2 : Int32))])) (fun t k => XS.iloadN X108.here hx rfl (hb hby d6_16) rfl k) ?_
  refine Go.step (T' := T108) (f' := (mkF m 57 #[.val (.ref bc), .val (.int (0 : Int32)), .val (.int (2 : Int32)), .val (.ref b100), .val (.int (2 : Int32)), .unset] [])) (fun t k => XS.icmpYes X108.here hx rfl (pc0 := 17) (pc' := 57) rfl (hb hby d6_17) rfl (teq (by decide : (2 : Int32) = (2 : Int32))).1 (by decide) (by decide) k) ?_
  refine Go.step (T' := T108) (f' := (mkF m 58 #[.val (.ref bc), .val (.int (0 : Int32)), .val (.int (2 : Int32)), .val (.ref b100), .val (.int (2 : Int32)), .unset] [(.ref b100)])) (fun t k => XS.aloadN X108.here hx rfl (hb hby d6_57) rfl rfl k) ?_
  refine Go.retA X108 hx hlk Bd.returns rfl rfl (hb hby d6_58) rfl ?_ (by decide) (by decide)
  exact ⟨b100, k100, rfl, N110, K114, g102, p109⟩
theorem ef_cod2 (m : MethodId) (bb : Addr) : entryFrame m #[(.ref bb), (.int (2 : Int32))] 2 = mkF m 0 #[.val (.ref bb), .val (.int (2 : Int32))] [] := by first | (simp [entryFrame, mkF, argsToLocals, Value.category]; done) | rfl
def Q_cod2 (Z : State) (bb : Addr) (kb : ClassId) (v0 : Int32) (v1 : Int32) (h0 : Heap) (n0 : Nat) (v : Option Value) (h : Heap) (L : List Loc) : Prop := v = some (.int (0 : Int32)) ∧ Fr n0 L ∧ h = h0
set_option maxRecDepth 65536 in
set_option maxHeartbeats 40000000 in
theorem rm_cod2 (l : Launch) (Z : State) (a0 : Array Value) (hw : ∀ d ∈ tables_1, d.before a0 Z = true) (ws : List Jvm.Cond) (bb : Addr) (kb : ClassId) (v0 : Int32) (v1 : Int32) (h0 : Heap) (n0 : Nat) (O0 : Old Z n0 h0) (P0 : Arv Z h0 bb kb .byte (2 : Int32) [(.int v0), (.int v1)] (.int (0 : Int32))) :
    MetFree l (⟨"java/lang/StringUTF16", "coderFromArrayLen", "([BI)B"⟩ : MethodName) (head1 (Jvm.Cond.code (⟨"java/lang/StringUTF16", "coderFromArrayLen", "([BI)B"⟩ : MethodName) jdk_52_method_15_code 2 (some .byte) :: ws) ({ frames := 0, cells := 0, slots := 0, locals := 0 } : Room)) (fun a U => a = #[(.ref bb), (.int (2 : Int32))] ∧ Z.Warmed39 U.vm ∧ U.heap = h0) (fun _ _ _ _ _ => True) (fun _ U o U' => ∃ v L, o = .returned v ∧ Q_cod2 Z bb kb v0 v1 h0 n0 v U'.heap L ∧ FrameEnd U o U' L ({ frames := 0, cells := 0, slots := 0, locals := 0 } : Room).cells ({ frames := 0, cells := 0, slots := 0, locals := 0 } : Room).slots) := by
  refine MetFree.of_bodySF (plainFor_of_name pn_java_lang_StringUTF16) hisR ?_
  intro p e s m args below meth c s₁ Bd hml0 hP hK
  obtain ⟨rfl, hZ, hh⟩ := hP
  have hx := Bd.exec
  have hby := Bd.bytes
  have hml : c.maxLocals = 2 := hml0
  have hown : s.vm.findClass "java/lang/StringUTF16" = some m.cls := findClass_of_methodNamed Bd.named
  have hnm := (name_of_methodNamed Bd.named Bd.method).1
  have hlk : meth.locks = false := BodyLoose.notSynchronized Bd
  have X0 : Stand p l e ({ frames := 0, cells := 0, slots := 0, locals := 0 } : Room) s m #[(.ref bb), (.int (2 : Int32))] below meth c s₁ [] 0 0 := Stand.of_body Bd
  have e0 : s₁.heap = h0 := by rw [← hh, Bd.state]; rfl
  have N0 := Fr.nil n0
  rw [ef_cod2 m bb]
  show Go p e below s (fun v h L => Q_cod2 Z bb kb v0 v1 h0 n0 v h L) ({ frames := 0, cells := 0, slots := 0, locals := 0 } : Room).cells ({ frames := 0, cells := 0, slots := 0, locals := 0 } : Room).slots s₁ (mkF m 0 #[.val (.ref bb), .val (.int (2 : Int32))] [])
  refine Go.step (T' := s₁) (f' := (mkF m 1 #[.val (.ref bb), .val (.int (2 : Int32))] [(.int (2 : Int32))])) (fun t k => XS.iloadN X0.here hx rfl (hb hby d8_0) rfl k) ?_
  refine Go.step (T' := s₁) (f' := (mkF m 2 #[.val (.ref bb), .val (.int (2 : Int32))] [(.ref bb), (.int (2 : Int32))])) (fun t k => XS.aloadN X0.here hx rfl (hb hby d8_1) rfl rfl k) ?_
  obtain ⟨ca115, Aa115, qa115, Sa115, Na115, Ha115, Ga115⟩ := id P0
  refine Go.step (T' := s₁) (f' := (mkF m 3 #[.val (.ref bb), .val (.int (2 : Int32))] [(.int (2 : Int32)), (.int (2 : Int32))])) (fun t k => own_alen X0 hx hZ e0 Aa115 Sa115 Na115 (g := (mkF m 2 #[.val (.ref bb), .val (.int (2 : Int32))] [(.ref bb), (.int (2 : Int32))])) rfl rfl (hb hby d8_2) k) ?_
  refine Go.step (T' := s₁) (f' := (mkF m 4 #[.val (.ref bb), .val (.int (2 : Int32))] [(.int ((2 : Int32) - (2 : Int32)))])) (fun t k => XS.isub X0.here hx rfl (hb hby d8_3) rfl k) ?_
  rw [show ((2 : Int32) - (2 : Int32)) = (0 : Int32) from by decide]
  refine Go.step (T' := s₁) (f' := (mkF m 6 #[.val (.ref bb), .val (.int (2 : Int32))] [(.int (31 : Int32)), (.int (0 : Int32))])) (fun t k => XS.bipush X0.here hx rfl (hb hby d8_4) k) ?_
  refine Go.step (T' := s₁) (f' := (mkF m 7 #[.val (.ref bb), .val (.int (2 : Int32))] [(.int (((0 : Int32).toUInt32 >>> ((31 : Int32) &&& 31).toUInt32).toInt32))])) (fun t k => XS.iushr X0.here hx rfl (hb hby d8_6) rfl k) ?_
  rw [show (((0 : Int32).toUInt32 >>> ((31 : Int32) &&& 31).toUInt32).toInt32) = (0 : Int32) from by decide]
  refine Go.step (T' := s₁) (f' := (mkF m 8 #[.val (.ref bb), .val (.int (2 : Int32))] [(.int ((0 : Int32).toInt8.toInt32))])) (fun t k => XS.i2b X0.here hx rfl (hb hby d8_7) rfl k) ?_
  rw [show ((0 : Int32).toInt8.toInt32) = (0 : Int32) from by decide]
  refine Go.retZ X0 hx hlk (t := .byte) Bd.returns (by simp) (hb hby d8_8) e0 ?_ (by decide) (by decide)
  exact ⟨rfl, N0, rfl⟩
theorem ef_ini4_2 (m : MethodId) (ba : Addr) (bc : Addr) : entryFrame m #[(.ref ba), (.ref bc), (.int (0 : Int32)), (.int (2 : Int32)), .null] 6 = mkF m 0 #[.val (.ref ba), .val (.ref bc), .val (.int (0 : Int32)), .val (.int (2 : Int32)), .val .null, .unset] [] := by first | (simp [entryFrame, mkF, argsToLocals, Value.category]; done) | rfl
def Q_ini4_2 (Z : State) (ba : Addr) (bc : Addr) (kc : ClassId) (cc0 : Int32) (cc1 : Int32) (u0 : Value) (u1 : Value) (wz : Int32) (h0 : Heap) (n0 : Nat) (v : Option Value) (h : Heap) (L : List Loc) : Prop := ∃ bb : Addr, ∃ kb : ClassId, v = none ∧ Fr n0 L ∧ Keep h0 h [ba] ∧ Exa Z h ba "java/lang/String" ∧ Fld Z h ba "java/lang/String" "value" "[B" (.ref bb) ∧ Fld Z h ba "java/lang/String" "coder" "B" (.int (0 : Int32)) ∧ h0.size ≤ bb ∧ Arv Z h bb kb .byte (2 : Int32) [(.int (cc0.toInt8.toInt32)), (.int (cc1.toInt8.toInt32))] (.int (0 : Int32))
set_option maxRecDepth 65536 in
set_option maxHeartbeats 40000000 in
theorem rm_ini4_2 (l : Launch) (Z : State) (a0 : Array Value) (hw : ∀ d ∈ tables_1, d.before a0 Z = true) (ws : List Jvm.Cond) (ba : Addr) (bc : Addr) (kc : ClassId) (cc0 : Int32) (cc1 : Int32) (u0 : Value) (u1 : Value) (wz : Int32) (h0 : Heap) (n0 : Nat) (O0 : Old Z n0 h0) (P0 : Exa Z h0 ba "java/lang/String") (P1 : Fld Z h0 ba "java/lang/String" "value" "[B" u0) (P2 : Fld Z h0 ba "java/lang/String" "coder" "B" u1) (P3 : n0 ≤ ba) (P4 : Arv Z h0 bc kc .char (2 : Int32) [(.int cc0), (.int cc1)] (.int (0 : Int32))) (P5 : bc ≠ ba) (P6 : Sta Z Z.heap "java/lang/String" "COMPACT_STRINGS" "Z" (.int wz)) (hwz : ¬ (wz = (0 : Int32))) (hc0 : ¬ ((255 : Int32) < cc0)) (hc1 : ¬ ((255 : Int32) < cc1)) :
    MetFree l (⟨"java/lang/String", "<init>", "([CIILjava/lang/Void;)V"⟩ : MethodName) (head1 (Jvm.Cond.code (⟨"java/lang/String", "<init>", "([CIILjava/lang/Void;)V"⟩ : MethodName) jdk_42_method_149_code 6 none :: ws) ({ frames := 2, cells := 1, slots := 2, locals := 35 } : Room)) (fun a U => a = #[(.ref ba), (.ref bc), (.int (0 : Int32)), (.int (2 : Int32)), .null] ∧ Z.Warmed39 U.vm ∧ U.heap = h0) (fun _ _ _ _ _ => True) (fun _ U o U' => ∃ v L, o = .returned v ∧ Q_ini4_2 Z ba bc kc cc0 cc1 u0 u1 wz h0 n0 v U'.heap L ∧ FrameEnd U o U' L ({ frames := 2, cells := 1, slots := 2, locals := 35 } : Room).cells ({ frames := 2, cells := 1, slots := 2, locals := 35 } : Room).slots) := by
  refine MetFree.of_bodySF (plainFor_of_name pn_java_lang_String) hisR ?_
  intro p e s m args below meth c s₁ Bd hml0 hP hK
  obtain ⟨rfl, hZ, hh⟩ := hP
  have hx := Bd.exec
  have hby := Bd.bytes
  have hml : c.maxLocals = 6 := hml0
  have hown : s.vm.findClass "java/lang/String" = some m.cls := findClass_of_methodNamed Bd.named
  have hnm := (name_of_methodNamed Bd.named Bd.method).1
  have hlk : meth.locks = false := BodyLoose.notSynchronized Bd
  have X0 : Stand p l e ({ frames := 2, cells := 1, slots := 2, locals := 35 } : Room) s m #[(.ref ba), (.ref bc), (.int (0 : Int32)), (.int (2 : Int32)), .null] below meth c s₁ [] 0 0 := Stand.of_body Bd
  have e0 : s₁.heap = h0 := by rw [← hh, Bd.state]; rfl
  have N0 := Fr.nil n0
  have K0 := Keep.refl h0 [ba]
  rw [ef_ini4_2 m ba bc]
  show Go p e below s (fun v h L => Q_ini4_2 Z ba bc kc cc0 cc1 u0 u1 wz h0 n0 v h L) ({ frames := 2, cells := 1, slots := 2, locals := 35 } : Room).cells ({ frames := 2, cells := 1, slots := 2, locals := 35 } : Room).slots s₁ (mkF m 0 #[.val (.ref ba), .val (.ref bc), .val (.int (0 : Int32)), .val (.int (2 : Int32)), .val .null, .unset] [])
  refine Go.step (T' := s₁) (f' := (mkF m 1 #[.val (.ref ba), .val (.ref bc), .val (.int (0 : Int32)), .val (.int (2 : Int32)), .val .null, .unset] [(.ref ba)])) (fun t k => XS.aloadN X0.here hx rfl (hb hby d4_0) rfl rfl k) ?_
  obtain ⟨T116, X116, e116, st116⟩ := initO X0 hx hZ hown (hw _ (List.mem_of_getElem? (i := 18) rfl)) (hw _ (List.mem_of_getElem? (i := 19) rfl)) (hw _ (List.mem_of_getElem? (i := 20) rfl)) e0 (g := (mkF m 1 #[.val (.ref ba), .val (.ref bc), .val (.int (0 : Int32)), .val (.int (2 : Int32)), .val .null, .unset] [(.ref ba)])) rfl (by rw [hml]; rfl) rfl (hb hby d4_1) (by decide) (W := 0) (by show 2 * 0 + _ ≤ _; exact Nat.le_of_eq rfl) (by decide)
  refine Go.step (T' := T116) (f' := (mkF m 4 #[.val (.ref ba), .val (.ref bc), .val (.int (0 : Int32)), .val (.int (2 : Int32)), .val .null, .unset] [])) st116 ?_
  clear st116 X0
  refine Go.step (T' := T116) (f' := (mkF m 5 #[.val (.ref ba), .val (.ref bc), .val (.int (0 : Int32)), .val (.int (2 : Int32)), .val .null, .unset] [(.int (2 : Int32))])) (fun t k => XS.iloadN X116.here hx rfl (hb hby d4_4) rfl k) ?_
  refine Go.step (T' := T116) (f' := (mkF m 27 #[.val (.ref ba), .val (.ref bc), .val (.int (0 : Int32)), .val (.int (2 : Int32)), .val .null, .unset] [])) (fun t k => XS.ifYes X116.here hx rfl (pc0 := 5) (pc' := 27) rfl (hb hby d4_5) rfl ((if0 _ _).trans (feq (by decide : ¬ ((2 : Int32) = (0 : Int32)))).2) (by decide) (by decide) k) ?_
  obtain ⟨T117, X117, e117, st117⟩ := getS2 X116 hx hZ hown (host := "") (Or.inl (hw _ (List.mem_of_getElem? (i := 29) rfl))) Via.refl e116 (P6.ext O0.2) (g := (mkF m 27 #[.val (.ref ba), .val (.ref bc), .val (.int (0 : Int32)), .val (.int (2 : Int32)), .val .null, .unset] [])) rfl (hb hby d4_27)
  refine Go.step (T' := T117) (f' := (mkF m 30 #[.val (.ref ba), .val (.ref bc), .val (.int (0 : Int32)), .val (.int (2 : Int32)), .val .null, .unset] [(.int wz)])) st117 ?_
  clear st117 X116
  refine Go.step (T' := T117) (f' := (mkF m 33 #[.val (.ref ba), .val (.ref bc), .val (.int (0 : Int32)), .val (.int (2 : Int32)), .val .null, .unset] [])) (fun t k => XS.ifNo X117.here hx rfl (hb hby d4_30) rfl ((if0 _ _).trans (feq hwz).1) k) ?_
  refine Go.step (T' := T117) (f' := (mkF m 34 #[.val (.ref ba), .val (.ref bc), .val (.int (0 : Int32)), .val (.int (2 : Int32)), .val .null, .unset] [(.ref bc)])) (fun t k => XS.aloadN X117.here hx rfl (hb hby d4_33) rfl rfl k) ?_
  refine Go.step (T' := T117) (f' := (mkF m 35 #[.val (.ref ba), .val (.ref bc), .val (.int (0 : Int32)), .val (.int (2 : Int32)), .val .null, .unset] [(.int (0 : Int32)), (.ref bc)])) (fun t k => XS.iloadN X117.here hx rfl (hb hby d4_34) rfl k) ?_
  refine Go.step (T' := T117) (f' := (mkF m 36 #[.val (.ref ba), .val (.ref bc), .val (.int (0 : Int32)), .val (.int (2 : Int32)), .val .null, .unset] [(.int (2 : Int32)), (.int (0 : Int32)), (.ref bc)])) (fun t k => XS.iloadN X117.here hx rfl (hb hby d4_35) rfl k) ?_
  obtain ⟨_, _, ⟨T118, L118, k118, n118⟩, -, X118, ⟨Lc118, hQ118, l118, y118, z118⟩, st118⟩ := Jvm.LawKit.callS X117 hx (y := (⟨"java/lang/StringUTF16", "compress", "([CII)[B"⟩ : MethodName)) hown (mvT hZ (hw _ (List.mem_of_getElem? (i := 30) rfl))) (mvT hZ (hw _ (List.mem_of_getElem? (i := 31) rfl))) (mvT hZ (hw _ (List.mem_of_getElem? (i := 32) rfl))) (mvT hZ (hw _ (List.mem_of_getElem? (i := 33) rfl))) (by decide) (backOf (W := 0) (rm_cmp2 l Z a0 hw [] bc kc cc0 cc1 h0 n0 O0 P4 hc0 hc1) hZ (hw _ (List.mem_of_getElem? (i := 33) rfl)) (hw _ (List.mem_of_getElem? (i := 32) rfl)) (by decide) (by decide)) (g := (mkF m 36 #[.val (.ref ba), .val (.ref bc), .val (.int (0 : Int32)), .val (.int (2 : Int32)), .val .null, .unset] [(.int (2 : Int32)), (.int (0 : Int32)), (.ref bc)])) rfl (by rw [hml]; rfl) (argsL := [(.ref bc), (.int (0 : Int32)), (.int (2 : Int32))]) (rest := []) (lenOf pd1 rfl) rfl (by show 2 * 0 + _ ≤ _; exact Nat.le_of_eq rfl) (hb hby d4_36) (fun _ _ => ⟨rfl, e117, (by decide : 0 + 1 ≤ _), (by decide : 0 + 2 ≤ _)⟩)
  dsimp only [Pt.U, Pt.locs, Pt.cells, Pt.slots] at X118 l118 y118 z118 st118 hQ118
  subst l118 y118 z118
  obtain ⟨u119, u120, rfl, Nq118, hh118, p121, p122⟩ := hQ118
  have N123 := Fr.app N0 Nq118
  have f124 := P0.keep hh118
  have f125 := P1.keep hh118 nin0
  have f126 := P2.keep hh118 nin0
  have f127 := P4.keep hh118 nin0
  have O128 := O0.keep hh118 all0
  have K129 := K0.trans hh118 all0
  have g130 : n0 ≤ u119 := Nat.le_trans (own_old_le O0) p121
  have g131 : h0.size ≤ u119 := Nat.le_trans K0.1 p121
  have ne132 : ba ≠ u119 := Nat.ne_of_lt (Nat.lt_of_lt_of_le P0.lt p121)
  have ne133 : bc ≠ u119 := Nat.ne_of_lt (Nat.lt_of_lt_of_le P4.lt p121)
  refine Go.step (T' := T118) (f' := (mkF m 39 #[.val (.ref ba), .val (.ref bc), .val (.int (0 : Int32)), .val (.int (2 : Int32)), .val .null, .unset] [(.ref u119)])) st118 ?_
  clear st118 X117 Nq118
  refine Go.step (T' := T118) (f' := (mkF m 41 #[.val (.ref ba), .val (.ref bc), .val (.int (0 : Int32)), .val (.int (2 : Int32)), .val .null, .val (.ref u119)] [])) (fun t k => XS.astore X118.here hx rfl (hb hby d4_39) rfl rfl (l' := #[.val (.ref ba), .val (.ref bc), .val (.int (0 : Int32)), .val (.int (2 : Int32)), .val .null, .val (.ref u119)]) rfl k) ?_
  refine Go.step (T' := T118) (f' := (mkF m 42 #[.val (.ref ba), .val (.ref bc), .val (.int (0 : Int32)), .val (.int (2 : Int32)), .val .null, .val (.ref u119)] [(.ref ba)])) (fun t k => XS.aloadN X118.here hx rfl (hb hby d4_41) rfl rfl k) ?_
  refine Go.step (T' := T118) (f' := (mkF m 44 #[.val (.ref ba), .val (.ref bc), .val (.int (0 : Int32)), .val (.int (2 : Int32)), .val .null, .val (.ref u119)] [(.ref u119), (.ref ba)])) (fun t k => XS.aload X118.here hx rfl (hb hby d4_42) rfl rfl k) ?_
  refine Go.step (T' := T118) (f' := (mkF m 45 #[.val (.ref ba), .val (.ref bc), .val (.int (0 : Int32)), .val (.int (2 : Int32)), .val .null, .val (.ref u119)] [(.int (2 : Int32)), (.ref u119), (.ref ba)])) (fun t k => XS.iloadN X118.here hx rfl (hb hby d4_44) rfl k) ?_
  obtain ⟨_, _, ⟨T134, L134, k134, n134⟩, -, X134, ⟨Lc134, hQ134, l134, y134, z134⟩, st134⟩ := Jvm.LawKit.callS X118 hx (y := (⟨"java/lang/StringUTF16", "coderFromArrayLen", "([BI)B"⟩ : MethodName)) hown (mvT hZ (hw _ (List.mem_of_getElem? (i := 37) rfl))) (mvT hZ (hw _ (List.mem_of_getElem? (i := 38) rfl))) (mvT hZ (hw _ (List.mem_of_getElem? (i := 32) rfl))) (mvT hZ (hw _ (List.mem_of_getElem? (i := 39) rfl))) (by decide) (backOf (W := 1) (rm_cod2 l Z a0 hw [] u119 u120 (cc0.toInt8.toInt32) (cc1.toInt8.toInt32) T118.heap n0 O128 p122) hZ (hw _ (List.mem_of_getElem? (i := 39) rfl)) (hw _ (List.mem_of_getElem? (i := 32) rfl)) (by decide) (by decide)) (g := (mkF m 45 #[.val (.ref ba), .val (.ref bc), .val (.int (0 : Int32)), .val (.int (2 : Int32)), .val .null, .val (.ref u119)] [(.int (2 : Int32)), (.ref u119), (.ref ba)])) rfl (by rw [hml]; rfl) (argsL := [(.ref u119), (.int (2 : Int32))]) (rest := [(.ref ba)]) (lenOf pd2 rfl) rfl (by show 2 * 0 + _ ≤ _; exact Nat.le_of_eq rfl) (hb hby d4_45) (fun _ _ => ⟨rfl, rfl, (by decide : 1 + 0 ≤ _), (by decide : 2 + 0 ≤ _)⟩)
  dsimp only [Pt.U, Pt.locs, Pt.cells, Pt.slots] at X134 l134 y134 z134 st134 hQ134
  subst l134 y134 z134
  obtain ⟨rfl, Nq134, hh134⟩ := hQ134
  have N135 := Fr.app N123 Nq134
  refine Go.step (T' := T134) (f' := (mkF m 48 #[.val (.ref ba), .val (.ref bc), .val (.int (0 : Int32)), .val (.int (2 : Int32)), .val .null, .val (.ref u119)] [(.int (0 : Int32)), (.ref ba)])) st134 ?_
  clear st134 X118 N123 Nq134
  obtain ⟨T136, h136, X136, e136, W136, st136⟩ := putFN X134 hx hZ hown (hw _ (List.mem_of_getElem? (i := 28) rfl)) Via.refl hh134 f126 f124 (Or.inr ⟨(hw _ (List.mem_of_getElem? (i := 24) rfl)), rfl, hnm⟩) (hw _ (List.mem_of_getElem? (i := 8) rfl)) (ty := .byte) (v' := (.int (0 : Int32))) (by decide) rfl (by decide) (g := (mkF m 48 #[.val (.ref ba), .val (.ref bc), .val (.int (0 : Int32)), .val (.int (2 : Int32)), .val .null, .val (.ref u119)] [(.int (0 : Int32)), (.ref ba)])) rfl rfl (hb hby d4_48)
  have f137 := f126.same W136
  have f138 := f124.wr W136
  have f139 := f125.other W136 (Or.inr (slot_ne (Or.inr (hw _ (List.mem_of_getElem? (i := 23) rfl))) (Or.inr (hw _ (List.mem_of_getElem? (i := 24) rfl))) (by decide) (t := (.array .byte)) (t' := .byte) (by decide) (by decide)))
  have f140 := f127.other W136 P5
  have f141 := p122.other W136 (Ne.symm ne132)
  have O142 := O128.wr W136 P3
  have K143 := K129.wr W136 (Or.inl (List.mem_of_getElem? (i := 0) rfl))
  have N144 := Fr.snoc X136 N135 P3
  refine Go.step (T' := T136) (f' := (mkF m 51 #[.val (.ref ba), .val (.ref bc), .val (.int (0 : Int32)), .val (.int (2 : Int32)), .val .null, .val (.ref u119)] [])) st136 ?_
  clear st136 X134 f124 f125 f127 p122 O128 K129 N135
  refine Go.step (T' := T136) (f' := (mkF m 52 #[.val (.ref ba), .val (.ref bc), .val (.int (0 : Int32)), .val (.int (2 : Int32)), .val .null, .val (.ref u119)] [(.ref ba)])) (fun t k => XS.aloadN X136.here hx rfl (hb hby d4_51) rfl rfl k) ?_
  refine Go.step (T' := T136) (f' := (mkF m 54 #[.val (.ref ba), .val (.ref bc), .val (.int (0 : Int32)), .val (.int (2 : Int32)), .val .null, .val (.ref u119)] [(.ref u119), (.ref ba)])) (fun t k => XS.aload X136.here hx rfl (hb hby d4_52) rfl rfl k) ?_
  obtain ⟨T145, h145, X145, e145, W145, st145⟩ := putF X136 hx hZ hown (host := "") (Or.inl (hw _ (List.mem_of_getElem? (i := 27) rfl))) Via.refl e136 f139 f138 (Or.inr ⟨(hw _ (List.mem_of_getElem? (i := 23) rfl)), rfl, hnm⟩) (hw _ (List.mem_of_getElem? (i := 8) rfl)) (ty := (.array .byte)) (by decide) rfl rfl (g := (mkF m 54 #[.val (.ref ba), .val (.ref bc), .val (.int (0 : Int32)), .val (.int (2 : Int32)), .val .null, .val (.ref u119)] [(.ref u119), (.ref ba)])) rfl rfl (hb hby d4_54)
  have f146 := f139.same W145
  have f147 := f138.wr W145
  have f148 := f140.other W145 P5
  have f149 := f141.other W145 (Ne.symm ne132)
  have f150 := f137.other W145 (Or.inr (slot_ne (Or.inr (hw _ (List.mem_of_getElem? (i := 24) rfl))) (Or.inr (hw _ (List.mem_of_getElem? (i := 23) rfl))) (by decide) (t := .byte) (t' := (.array .byte)) (by decide) (by decide)))
  have O151 := O142.wr W145 P3
  have K152 := K143.wr W145 (Or.inl (List.mem_of_getElem? (i := 0) rfl))
  have N153 := Fr.snoc X145 N144 P3
  refine Go.step (T' := T145) (f' := (mkF m 57 #[.val (.ref ba), .val (.ref bc), .val (.int (0 : Int32)), .val (.int (2 : Int32)), .val .null, .val (.ref u119)] [])) st145 ?_
  clear st145 X136 f138 f140 f141 f137 O142 K143 N144
  refine Go.retV X145 hx hlk Bd.returns (hb hby d4_57) e145 ?_ (by decide) (by decide)
  exact ⟨u119, u120, rfl, N153, K152, f147, f146, f150, g131, f149⟩
theorem ef_ini1_2 (m : MethodId) (ba : Addr) (bc : Addr) : entryFrame m #[(.ref ba), (.ref bc)] 2 = mkF m 0 #[.val (.ref ba), .val (.ref bc)] [] := by first | (simp [entryFrame, mkF, argsToLocals, Value.category]; done) | rfl
def Q_ini1_2 (Z : State) (ba : Addr) (bc : Addr) (kc : ClassId) (cc0 : Int32) (cc1 : Int32) (u0 : Value) (u1 : Value) (wz : Int32) (h0 : Heap) (n0 : Nat) (v : Option Value) (h : Heap) (L : List Loc) : Prop := ∃ bb : Addr, ∃ kb : ClassId, v = none ∧ Fr n0 L ∧ Keep h0 h [ba] ∧ Exa Z h ba "java/lang/String" ∧ Fld Z h ba "java/lang/String" "value" "[B" (.ref bb) ∧ Fld Z h ba "java/lang/String" "coder" "B" (.int (0 : Int32)) ∧ h0.size ≤ bb ∧ Arv Z h bb kb .byte (2 : Int32) [(.int (cc0.toInt8.toInt32)), (.int (cc1.toInt8.toInt32))] (.int (0 : Int32))
set_option maxRecDepth 65536 in
set_option maxHeartbeats 40000000 in
theorem rm_ini1_2 (l : Launch) (Z : State) (a0 : Array Value) (hw : ∀ d ∈ tables_1, d.before a0 Z = true) (ws : List Jvm.Cond) (ba : Addr) (bc : Addr) (kc : ClassId) (cc0 : Int32) (cc1 : Int32) (u0 : Value) (u1 : Value) (wz : Int32) (h0 : Heap) (n0 : Nat) (O0 : Old Z n0 h0) (P0 : Exa Z h0 ba "java/lang/String") (P1 : Fld Z h0 ba "java/lang/String" "value" "[B" u0) (P2 : Fld Z h0 ba "java/lang/String" "coder" "B" u1) (P3 : n0 ≤ ba) (P4 : Arv Z h0 bc kc .char (2 : Int32) [(.int cc0), (.int cc1)] (.int (0 : Int32))) (P5 : bc ≠ ba) (P6 : Sta Z Z.heap "java/lang/String" "COMPACT_STRINGS" "Z" (.int wz)) (hwz : ¬ (wz = (0 : Int32))) (hc0 : ¬ ((255 : Int32) < cc0)) (hc1 : ¬ ((255 : Int32) < cc1)) :
    MetFree l (⟨"java/lang/String", "<init>", "([C)V"⟩ : MethodName) (head1 (Jvm.Cond.code (⟨"java/lang/String", "<init>", "([C)V"⟩ : MethodName) jdk_42_method_3_code 2 none :: ws) ({ frames := 3, cells := 1, slots := 2, locals := 52 } : Room)) (fun a U => a = #[(.ref ba), (.ref bc)] ∧ Z.Warmed39 U.vm ∧ U.heap = h0) (fun _ _ _ _ _ => True) (fun _ U o U' => ∃ v L, o = .returned v ∧ Q_ini1_2 Z ba bc kc cc0 cc1 u0 u1 wz h0 n0 v U'.heap L ∧ FrameEnd U o U' L ({ frames := 3, cells := 1, slots := 2, locals := 52 } : Room).cells ({ frames := 3, cells := 1, slots := 2, locals := 52 } : Room).slots) := by
  refine MetFree.of_bodySF (plainFor_of_name pn_java_lang_String) hisR ?_
  intro p e s m args below meth c s₁ Bd hml0 hP hK
  obtain ⟨rfl, hZ, hh⟩ := hP
  have hx := Bd.exec
  have hby := Bd.bytes
  have hml : c.maxLocals = 2 := hml0
  have hown : s.vm.findClass "java/lang/String" = some m.cls := findClass_of_methodNamed Bd.named
  have hnm := (name_of_methodNamed Bd.named Bd.method).1
  have hlk : meth.locks = false := BodyLoose.notSynchronized Bd
  have X0 : Stand p l e ({ frames := 3, cells := 1, slots := 2, locals := 52 } : Room) s m #[(.ref ba), (.ref bc)] below meth c s₁ [] 0 0 := Stand.of_body Bd
  have e0 : s₁.heap = h0 := by rw [← hh, Bd.state]; rfl
  have N0 := Fr.nil n0
  have K0 := Keep.refl h0 [ba]
  rw [ef_ini1_2 m ba bc]
  show Go p e below s (fun v h L => Q_ini1_2 Z ba bc kc cc0 cc1 u0 u1 wz h0 n0 v h L) ({ frames := 3, cells := 1, slots := 2, locals := 52 } : Room).cells ({ frames := 3, cells := 1, slots := 2, locals := 52 } : Room).slots s₁ (mkF m 0 #[.val (.ref ba), .val (.ref bc)] [])
  refine Go.step (T' := s₁) (f' := (mkF m 1 #[.val (.ref ba), .val (.ref bc)] [(.ref ba)])) (fun t k => XS.aloadN X0.here hx rfl (hb hby d3_0) rfl rfl k) ?_
  refine Go.step (T' := s₁) (f' := (mkF m 2 #[.val (.ref ba), .val (.ref bc)] [(.ref bc), (.ref ba)])) (fun t k => XS.aloadN X0.here hx rfl (hb hby d3_1) rfl rfl k) ?_
  refine Go.step (T' := s₁) (f' := (mkF m 3 #[.val (.ref ba), .val (.ref bc)] [(.int (0 : Int32)), (.ref bc), (.ref ba)])) (fun t k => XS.iconst X0.here hx rfl (hb hby d3_2) k) ?_
  refine Go.step (T' := s₁) (f' := (mkF m 4 #[.val (.ref ba), .val (.ref bc)] [(.ref bc), (.int (0 : Int32)), (.ref bc), (.ref ba)])) (fun t k => XS.aloadN X0.here hx rfl (hb hby d3_3) rfl rfl k) ?_
  obtain ⟨ca154, Aa154, qa154, Sa154, Na154, Ha154, Ga154⟩ := id P4
  refine Go.step (T' := s₁) (f' := (mkF m 5 #[.val (.ref ba), .val (.ref bc)] [(.int (2 : Int32)), (.int (0 : Int32)), (.ref bc), (.ref ba)])) (fun t k => own_alen X0 hx hZ e0 Aa154 Sa154 Na154 (g := (mkF m 4 #[.val (.ref ba), .val (.ref bc)] [(.ref bc), (.int (0 : Int32)), (.ref bc), (.ref ba)])) rfl rfl (hb hby d3_4) k) ?_
  refine Go.step (T' := s₁) (f' := (mkF m 6 #[.val (.ref ba), .val (.ref bc)] [.null, (.int (2 : Int32)), (.int (0 : Int32)), (.ref bc), (.ref ba)])) (fun t k => XS.aconstNull X0.here hx rfl (hb hby d3_5) k) ?_
  obtain ⟨_, _, ⟨T155, L155, k155, n155⟩, -, X155, ⟨Lc155, hQ155, l155, y155, z155⟩, st155⟩ := X0.specialBack hx (y := (⟨"java/lang/String", "<init>", "([CIILjava/lang/Void;)V"⟩ : MethodName)) rfl hown (mvT hZ (hw _ (List.mem_of_getElem? (i := 14) rfl))) (mvT hZ (hw _ (List.mem_of_getElem? (i := 15) rfl))) (mvT hZ (hw _ (List.mem_of_getElem? (i := 17) rfl))) (by decide) (backOf (W := 0) (rm_ini4_2 l Z a0 hw [] ba bc kc cc0 cc1 u0 u1 wz h0 n0 O0 P0 P1 P2 P3 P4 P5 P6 hwz hc0 hc1) hZ (hw _ (List.mem_of_getElem? (i := 17) rfl)) (hw _ (List.mem_of_getElem? (i := 9) rfl)) (by decide) (by decide)) (g := (mkF m 6 #[.val (.ref ba), .val (.ref bc)] [.null, (.int (2 : Int32)), (.int (0 : Int32)), (.ref bc), (.ref ba)])) rfl (by rw [hml]; rfl) (Steps.refl _) (a := ba) (argsL := [(.ref bc), (.int (0 : Int32)), (.int (2 : Int32)), .null]) (rest := []) (lenOf pd3 rfl) rfl (by show 2 * 0 + _ ≤ _; exact Nat.le_of_eq rfl) (hb hby d3_6) (fun _ _ => ⟨rfl, e0, (by decide : 0 + 1 ≤ _), (by decide : 0 + 2 ≤ _)⟩)
  dsimp only [Pt.U, Pt.locs, Pt.cells, Pt.slots] at X155 l155 y155 z155 st155 hQ155
  subst l155 y155 z155
  obtain ⟨u156, u157, rfl, Nq155, hh155, p158, p159, p160, p161, p162⟩ := hQ155
  have N163 := Fr.app N0 Nq155
  have f164 := P0.keep hh155
  have f165 := P4.keep hh155 (ninS P5 nin0)
  have O166 := O0.keep hh155 (allS P3 all0)
  have K167 := K0.trans hh155 (allS (Or.inl (List.mem_of_getElem? (i := 0) rfl)) all0)
  have g168 : n0 ≤ u156 := Nat.le_trans (own_old_le O0) p161
  have g169 : h0.size ≤ u156 := Nat.le_trans K0.1 p161
  have ne170 : ba ≠ u156 := Nat.ne_of_lt (Nat.lt_of_lt_of_le P0.lt p161)
  have ne171 : bc ≠ u156 := Nat.ne_of_lt (Nat.lt_of_lt_of_le P4.lt p161)
  refine Go.via (T' := T155) (f' := (mkF m 9 #[.val (.ref ba), .val (.ref bc)] [])) st155 ?_
  clear st155 X0 Nq155
  refine Go.retV X155 hx hlk Bd.returns (hb hby d3_9) rfl ?_ (by decide) (by decide)
  exact ⟨u156, u157, rfl, N163, K167, p158, p159, p160, g169, p162⟩
theorem ef_cpr3 (m : MethodId) (bc : Addr) (bb : Addr) : entryFrame m #[(.ref bc), (.int (0 : Int32)), (.ref bb), (.int (0 : Int32)), (.int (3 : Int32))] 7 = mkF m 0 #[.val (.ref bc), .val (.int (0 : Int32)), .val (.ref bb), .val (.int (0 : Int32)), .val (.int (3 : Int32)), .unset, .unset] [] := by first | (simp [entryFrame, mkF, argsToLocals, Value.category]; done) | rfl
def Q_cpr3 (Z : State) (bc : Addr) (bb : Addr) (kc : ClassId) (cc0 : Int32) (cc1 : Int32) (cc2 : Int32) (kb : ClassId) (h0 : Heap) (n0 : Nat) (v : Option Value) (h : Heap) (L : List Loc) : Prop := v = some (.int (3 : Int32)) ∧ Fr n0 L ∧ Keep h0 h [bb] ∧ Arv Z h bb kb .byte (3 : Int32) [(.int (cc0.toInt8.toInt32)), (.int (cc1.toInt8.toInt32)), (.int (cc2.toInt8.toInt32))] (.int (0 : Int32))
set_option maxRecDepth 65536 in
set_option maxHeartbeats 40000000 in
theorem rm_cpr3 (l : Launch) (Z : State) (a0 : Array Value) (hw : ∀ d ∈ tables_1, d.before a0 Z = true) (ws : List Jvm.Cond) (bc : Addr) (bb : Addr) (kc : ClassId) (cc0 : Int32) (cc1 : Int32) (cc2 : Int32) (kb : ClassId) (h0 : Heap) (n0 : Nat) (O0 : Old Z n0 h0) (P0 : Arv Z h0 bc kc .char (3 : Int32) [(.int cc0), (.int cc1), (.int cc2)] (.int (0 : Int32))) (P1 : Arv Z h0 bb kb .byte (3 : Int32) [(.int (0 : Int32)), (.int (0 : Int32)), (.int (0 : Int32))] (.int (0 : Int32))) (P2 : n0 ≤ bb) (P3 : bc ≠ bb) (hc0 : ¬ ((255 : Int32) < cc0)) (hc1 : ¬ ((255 : Int32) < cc1)) (hc2 : ¬ ((255 : Int32) < cc2)) :
    MetFree l (⟨"java/lang/StringUTF16", "compress", "([CI[BII)I"⟩ : MethodName) (head1 (Jvm.Cond.code (⟨"java/lang/StringUTF16", "compress", "([CI[BII)I"⟩ : MethodName) jdk_52_method_21_code 7 (some .int) :: ws) ({ frames := 0, cells := 0, slots := 0, locals := 0 } : Room)) (fun a U => a = #[(.ref bc), (.int (0 : Int32)), (.ref bb), (.int (0 : Int32)), (.int (3 : Int32))] ∧ Z.Warmed39 U.vm ∧ U.heap = h0) (fun _ _ _ _ _ => True) (fun _ U o U' => ∃ v L, o = .returned v ∧ Q_cpr3 Z bc bb kc cc0 cc1 cc2 kb h0 n0 v U'.heap L ∧ FrameEnd U o U' L ({ frames := 0, cells := 0, slots := 0, locals := 0 } : Room).cells ({ frames := 0, cells := 0, slots := 0, locals := 0 } : Room).slots) := by
  refine MetFree.of_bodySF (plainFor_of_name pn_java_lang_StringUTF16) hisR ?_
  intro p e s m args below meth c s₁ Bd hml0 hP hK
  obtain ⟨rfl, hZ, hh⟩ := hP
  have hx := Bd.exec
  have hby := Bd.bytes
  have hml : c.maxLocals = 7 := hml0
  have hown : s.vm.findClass "java/lang/StringUTF16" = some m.cls := findClass_of_methodNamed Bd.named
  have hnm := (name_of_methodNamed Bd.named Bd.method).1
  have hlk : meth.locks = false := BodyLoose.notSynchronized Bd
  have X0 : Stand p l e ({ frames := 0, cells := 0, slots := 0, locals := 0 } : Room) s m #[(.ref bc), (.int (0 : Int32)), (.ref bb), (.int (0 : Int32)), (.int (3 : Int32))] below meth c s₁ [] 0 0 := Stand.of_body Bd
  have e0 : s₁.heap = h0 := by rw [← hh, Bd.state]; rfl
  have N0 := Fr.nil n0
  have K0 := Keep.refl h0 [bb]
  rw [ef_cpr3 m bc bb]
  show Go p e below s (fun v h L => Q_cpr3 Z bc bb kc cc0 cc1 cc2 kb h0 n0 v h L) ({ frames := 0, cells := 0, slots := 0, locals := 0 } : Room).cells ({ frames := 0, cells := 0, slots := 0, locals := 0 } : Room).slots s₁ (mkF m 0 #[.val (.ref bc), .val (.int (0 : Int32)), .val (.ref bb), .val (.int (0 : Int32)), .val (.int (3 : Int32)), .unset, .unset] [])
  refine Go.step (T' := s₁) (f' := (mkF m 1 #[.val (.ref bc), .val (.int (0 : Int32)), .val (.ref bb), .val (.int (0 : Int32)), .val (.int (3 : Int32)), .unset, .unset] [(.int (0 : Int32))])) (fun t k => XS.iconst X0.here hx rfl (hb hby d7_0) k) ?_
  refine Go.step (T' := s₁) (f' := (mkF m 3 #[.val (.ref bc), .val (.int (0 : Int32)), .val (.ref bb), .val (.int (0 : Int32)), .val (.int (3 : Int32)), .val (.int (0 : Int32)), .unset] [])) (fun t k => XS.istore X0.here hx rfl (hb hby d7_1) rfl (l' := #[.val (.ref bc), .val (.int (0 : Int32)), .val (.ref bb), .val (.int (0 : Int32)), .val (.int (3 : Int32)), .val (.int (0 : Int32)), .unset]) rfl k) ?_
  refine Go.step (T' := s₁) (f' := (mkF m 5 #[.val (.ref bc), .val (.int (0 : Int32)), .val (.ref bb), .val (.int (0 : Int32)), .val (.int (3 : Int32)), .val (.int (0 : Int32)), .unset] [(.int (0 : Int32))])) (fun t k => XS.iload X0.here hx rfl (hb hby d7_3) rfl k) ?_
  refine Go.step (T' := s₁) (f' := (mkF m 7 #[.val (.ref bc), .val (.int (0 : Int32)), .val (.ref bb), .val (.int (0 : Int32)), .val (.int (3 : Int32)), .val (.int (0 : Int32)), .unset] [(.int (3 : Int32)), (.int (0 : Int32))])) (fun t k => XS.iload X0.here hx rfl (hb hby d7_5) rfl k) ?_
  refine Go.step (T' := s₁) (f' := (mkF m 10 #[.val (.ref bc), .val (.int (0 : Int32)), .val (.ref bb), .val (.int (0 : Int32)), .val (.int (3 : Int32)), .val (.int (0 : Int32)), .unset] [])) (fun t k => XS.icmpNo X0.here hx rfl (hb hby d7_7) rfl (tlt (by decide : (0 : Int32) < (3 : Int32))).2.1 k) ?_
  refine Go.step (T' := s₁) (f' := (mkF m 11 #[.val (.ref bc), .val (.int (0 : Int32)), .val (.ref bb), .val (.int (0 : Int32)), .val (.int (3 : Int32)), .val (.int (0 : Int32)), .unset] [(.ref bc)])) (fun t k => XS.aloadN X0.here hx rfl (hb hby d7_10) rfl rfl k) ?_
  refine Go.step (T' := s₁) (f' := (mkF m 12 #[.val (.ref bc), .val (.int (0 : Int32)), .val (.ref bb), .val (.int (0 : Int32)), .val (.int (3 : Int32)), .val (.int (0 : Int32)), .unset] [(.int (0 : Int32)), (.ref bc)])) (fun t k => XS.iloadN X0.here hx rfl (hb hby d7_11) rfl k) ?_
  obtain ⟨ca172, Aa172, qa172, Sa172, Na172, Ha172, Ga172⟩ := id P0
  have ia172 : ¬ ((0 : Int32) < 0 ∨ ca172.slots.size ≤ ((0 : Int32)).toNatClampNeg) := inb_of Sa172 ⟨by decide, by decide⟩
  have va172 := Ha172.at (v := (.int cc0)) ia172 rfl
  refine Go.step (T' := s₁) (f' := (mkF m 13 #[.val (.ref bc), .val (.int (0 : Int32)), .val (.ref bb), .val (.int (0 : Int32)), .val (.int (3 : Int32)), .val (.int (0 : Int32)), .unset] [(.int cc0)])) (fun t k => X0.caload hx (j := (0 : Int32)) (v := (.int cc0)) (by rw [e0]; exact Aa172.1) (State.isArrayOf_alike hZ.alike Aa172.2.1) Aa172.2.2 ia172 va172 (g := (mkF m 12 #[.val (.ref bc), .val (.int (0 : Int32)), .val (.ref bb), .val (.int (0 : Int32)), .val (.int (3 : Int32)), .val (.int (0 : Int32)), .unset] [(.int (0 : Int32)), (.ref bc)])) rfl rfl (hb hby d7_12) t k) ?_
  refine Go.step (T' := s₁) (f' := (mkF m 15 #[.val (.ref bc), .val (.int (0 : Int32)), .val (.ref bb), .val (.int (0 : Int32)), .val (.int (3 : Int32)), .val (.int (0 : Int32)), .val (.int cc0)] [])) (fun t k => XS.istore X0.here hx rfl (hb hby d7_13) rfl (l' := #[.val (.ref bc), .val (.int (0 : Int32)), .val (.ref bb), .val (.int (0 : Int32)), .val (.int (3 : Int32)), .val (.int (0 : Int32)), .val (.int cc0)]) rfl k) ?_
  refine Go.step (T' := s₁) (f' := (mkF m 17 #[.val (.ref bc), .val (.int (0 : Int32)), .val (.ref bb), .val (.int (0 : Int32)), .val (.int (3 : Int32)), .val (.int (0 : Int32)), .val (.int cc0)] [(.int cc0)])) (fun t k => XS.iload X0.here hx rfl (hb hby d7_15) rfl k) ?_
  refine Go.step (T' := s₁) (f' := (mkF m 20 #[.val (.ref bc), .val (.int (0 : Int32)), .val (.ref bb), .val (.int (0 : Int32)), .val (.int (3 : Int32)), .val (.int (0 : Int32)), .val (.int cc0)] [(.int (255 : Int32)), (.int cc0)])) (fun t k => XS.sipush X0.here hx rfl (hb hby d7_17) k) ?_
  refine Go.step (T' := s₁) (f' := (mkF m 26 #[.val (.ref bc), .val (.int (0 : Int32)), .val (.ref bb), .val (.int (0 : Int32)), .val (.int (3 : Int32)), .val (.int (0 : Int32)), .val (.int cc0)] [])) (fun t k => XS.icmpYes X0.here hx rfl (pc0 := 20) (pc' := 26) rfl (hb hby d7_20) rfl (flt hc0).2.2.2 (by decide) (by decide) k) ?_
  refine Go.step (T' := s₁) (f' := (mkF m 27 #[.val (.ref bc), .val (.int (0 : Int32)), .val (.ref bb), .val (.int (0 : Int32)), .val (.int (3 : Int32)), .val (.int (0 : Int32)), .val (.int cc0)] [(.ref bb)])) (fun t k => XS.aloadN X0.here hx rfl (hb hby d7_26) rfl rfl k) ?_
  refine Go.step (T' := s₁) (f' := (mkF m 28 #[.val (.ref bc), .val (.int (0 : Int32)), .val (.ref bb), .val (.int (0 : Int32)), .val (.int (3 : Int32)), .val (.int (0 : Int32)), .val (.int cc0)] [(.int (0 : Int32)), (.ref bb)])) (fun t k => XS.iloadN X0.here hx rfl (hb hby d7_27) rfl k) ?_
  refine Go.step (T' := s₁) (f' := (mkF m 30 #[.val (.ref bc), .val (.int (0 : Int32)), .val (.ref bb), .val (.int (0 : Int32)), .val (.int (3 : Int32)), .val (.int (0 : Int32)), .val (.int cc0)] [(.int cc0), (.int (0 : Int32)), (.ref bb)])) (fun t k => XS.iload X0.here hx rfl (hb hby d7_28) rfl k) ?_
  refine Go.step (T' := s₁) (f' := (mkF m 31 #[.val (.ref bc), .val (.int (0 : Int32)), .val (.ref bb), .val (.int (0 : Int32)), .val (.int (3 : Int32)), .val (.int (0 : Int32)), .val (.int cc0)] [(.int (cc0.toInt8.toInt32)), (.int (0 : Int32)), (.ref bb)])) (fun t k => XS.i2b X0.here hx rfl (hb hby d7_30) rfl k) ?_
  obtain ⟨ca173, Aa173, qa173, Sa173, Na173, Ha173, Ga173⟩ := id P1
  have ia173 : ¬ ((0 : Int32) < 0 ∨ ca173.slots.size ≤ ((0 : Int32)).toNatClampNeg) := inb_of Sa173 ⟨by decide, by decide⟩
  obtain ⟨T174, h174, X174, e174, W174, st174⟩ := stB X0 hx hZ e0 Aa173 (j := (0 : Int32)) ia173 (g := (mkF m 31 #[.val (.ref bc), .val (.int (0 : Int32)), .val (.ref bb), .val (.int (0 : Int32)), .val (.int (3 : Int32)), .val (.int (0 : Int32)), .val (.int cc0)] [(.int (cc0.toInt8.toInt32)), (.int (0 : Int32)), (.ref bb)])) rfl rfl (hb hby d7_31)
  have f175 := Arv.set Aa173 qa173 Sa173 Na173 Ha173 Ga173 (fits_nar_byte _) W174 0 rfl (Nat.le_of_ble_eq_true rfl)
  rw [own_nar8] at f175
  have f176 : Arv Z h174 bb kb .byte (3 : Int32) [(.int (cc0.toInt8.toInt32)), (.int (0 : Int32)), (.int (0 : Int32))] (.int (0 : Int32)) := f175
  have f177 := P0.other W174 P3
  have O178 := O0.wr W174 P2
  have K179 := K0.wr W174 (Or.inl (List.mem_of_getElem? (i := 0) rfl))
  have N180 := Fr.snoc X174 N0 P2
  refine Go.step (T' := T174) (f' := (mkF m 32 #[.val (.ref bc), .val (.int (0 : Int32)), .val (.ref bb), .val (.int (0 : Int32)), .val (.int (3 : Int32)), .val (.int (0 : Int32)), .val (.int cc0)] [])) st174 ?_
  clear st174 X0
  refine Go.step (T' := T174) (f' := (mkF m 35 #[.val (.ref bc), .val (.int ((0 : Int32) + (1 : Int32))), .val (.ref bb), .val (.int (0 : Int32)), .val (.int (3 : Int32)), .val (.int (0 : Int32)), .val (.int cc0)] [])) (fun t k => XS.iinc X174.here hx rfl (hb hby d7_32) rfl (l' := #[.val (.ref bc), .val (.int ((0 : Int32) + (1 : Int32))), .val (.ref bb), .val (.int (0 : Int32)), .val (.int (3 : Int32)), .val (.int (0 : Int32)), .val (.int cc0)]) rfl k) ?_
  rw [show ((0 : Int32) + (1 : Int32)) = (1 : Int32) from by decide]
  refine Go.step (T' := T174) (f' := (mkF m 38 #[.val (.ref bc), .val (.int (1 : Int32)), .val (.ref bb), .val (.int ((0 : Int32) + (1 : Int32))), .val (.int (3 : Int32)), .val (.int (0 : Int32)), .val (.int cc0)] [])) (fun t k => XS.iinc X174.here hx rfl (hb hby d7_35) rfl (l' := #[.val (.ref bc), .val (.int (1 : Int32)), .val (.ref bb), .val (.int ((0 : Int32) + (1 : Int32))), .val (.int (3 : Int32)), .val (.int (0 : Int32)), .val (.int cc0)]) rfl k) ?_
  rw [show ((0 : Int32) + (1 : Int32)) = (1 : Int32) from by decide]
  refine Go.step (T' := T174) (f' := (mkF m 41 #[.val (.ref bc), .val (.int (1 : Int32)), .val (.ref bb), .val (.int (1 : Int32)), .val (.int (3 : Int32)), .val (.int ((0 : Int32) + (1 : Int32))), .val (.int cc0)] [])) (fun t k => XS.iinc X174.here hx rfl (hb hby d7_38) rfl (l' := #[.val (.ref bc), .val (.int (1 : Int32)), .val (.ref bb), .val (.int (1 : Int32)), .val (.int (3 : Int32)), .val (.int ((0 : Int32) + (1 : Int32))), .val (.int cc0)]) rfl k) ?_
  rw [show ((0 : Int32) + (1 : Int32)) = (1 : Int32) from by decide]
  refine Go.step (T' := T174) (f' := (mkF m 3 #[.val (.ref bc), .val (.int (1 : Int32)), .val (.ref bb), .val (.int (1 : Int32)), .val (.int (3 : Int32)), .val (.int (1 : Int32)), .val (.int cc0)] [])) (fun t k => XS.goto X174.here hx rfl (pc0 := 41) (pc' := 3) rfl (hb hby d7_41) (by decide) (by decide) k) ?_
  refine Go.step (T' := T174) (f' := (mkF m 5 #[.val (.ref bc), .val (.int (1 : Int32)), .val (.ref bb), .val (.int (1 : Int32)), .val (.int (3 : Int32)), .val (.int (1 : Int32)), .val (.int cc0)] [(.int (1 : Int32))])) (fun t k => XS.iload X174.here hx rfl (hb hby d7_3) rfl k) ?_
  refine Go.step (T' := T174) (f' := (mkF m 7 #[.val (.ref bc), .val (.int (1 : Int32)), .val (.ref bb), .val (.int (1 : Int32)), .val (.int (3 : Int32)), .val (.int (1 : Int32)), .val (.int cc0)] [(.int (3 : Int32)), (.int (1 : Int32))])) (fun t k => XS.iload X174.here hx rfl (hb hby d7_5) rfl k) ?_
  refine Go.step (T' := T174) (f' := (mkF m 10 #[.val (.ref bc), .val (.int (1 : Int32)), .val (.ref bb), .val (.int (1 : Int32)), .val (.int (3 : Int32)), .val (.int (1 : Int32)), .val (.int cc0)] [])) (fun t k => XS.icmpNo X174.here hx rfl (hb hby d7_7) rfl (tlt (by decide : (1 : Int32) < (3 : Int32))).2.1 k) ?_
  refine Go.step (T' := T174) (f' := (mkF m 11 #[.val (.ref bc), .val (.int (1 : Int32)), .val (.ref bb), .val (.int (1 : Int32)), .val (.int (3 : Int32)), .val (.int (1 : Int32)), .val (.int cc0)] [(.ref bc)])) (fun t k => XS.aloadN X174.here hx rfl (hb hby d7_10) rfl rfl k) ?_
  refine Go.step (T' := T174) (f' := (mkF m 12 #[.val (.ref bc), .val (.int (1 : Int32)), .val (.ref bb), .val (.int (1 : Int32)), .val (.int (3 : Int32)), .val (.int (1 : Int32)), .val (.int cc0)] [(.int (1 : Int32)), (.ref bc)])) (fun t k => XS.iloadN X174.here hx rfl (hb hby d7_11) rfl k) ?_
  obtain ⟨ca181, Aa181, qa181, Sa181, Na181, Ha181, Ga181⟩ := id f177
  have ia181 : ¬ ((1 : Int32) < 0 ∨ ca181.slots.size ≤ ((1 : Int32)).toNatClampNeg) := inb_of Sa181 ⟨by decide, by decide⟩
  have va181 := Ha181.at (v := (.int cc1)) ia181 rfl
  refine Go.step (T' := T174) (f' := (mkF m 13 #[.val (.ref bc), .val (.int (1 : Int32)), .val (.ref bb), .val (.int (1 : Int32)), .val (.int (3 : Int32)), .val (.int (1 : Int32)), .val (.int cc0)] [(.int cc1)])) (fun t k => X174.caload hx (j := (1 : Int32)) (v := (.int cc1)) (by rw [e174]; exact Aa181.1) (State.isArrayOf_alike hZ.alike Aa181.2.1) Aa181.2.2 ia181 va181 (g := (mkF m 12 #[.val (.ref bc), .val (.int (1 : Int32)), .val (.ref bb), .val (.int (1 : Int32)), .val (.int (3 : Int32)), .val (.int (1 : Int32)), .val (.int cc0)] [(.int (1 : Int32)), (.ref bc)])) rfl rfl (hb hby d7_12) t k) ?_
  refine Go.step (T' := T174) (f' := (mkF m 15 #[.val (.ref bc), .val (.int (1 : Int32)), .val (.ref bb), .val (.int (1 : Int32)), .val (.int (3 : Int32)), .val (.int (1 : Int32)), .val (.int cc1)] [])) (fun t k => XS.istore X174.here hx rfl (hb hby d7_13) rfl (l' := #[.val (.ref bc), .val (.int (1 : Int32)), .val (.ref bb), .val (.int (1 : Int32)), .val (.int (3 : Int32)), .val (.int (1 : Int32)), .val (.int cc1)]) rfl k) ?_
  refine Go.step (T' := T174) (f' := (mkF m 17 #[.val (.ref bc), .val (.int (1 : Int32)), .val (.ref bb), .val (.int (1 : Int32)), .val (.int (3 : Int32)), .val (.int (1 : Int32)), .val (.int cc1)] [(.int cc1)])) (fun t k => XS.iload X174.here hx rfl (hb hby d7_15) rfl k) ?_
  refine Go.step (T' := T174) (f' := (mkF m 20 #[.val (.ref bc), .val (.int (1 : Int32)), .val (.ref bb), .val (.int (1 : Int32)), .val (.int (3 : Int32)), .val (.int (1 : Int32)), .val (.int cc1)] [(.int (255 : Int32)), (.int cc1)])) (fun t k => XS.sipush X174.here hx rfl (hb hby d7_17) k) ?_
  refine Go.step (T' := T174) (f' := (mkF m 26 #[.val (.ref bc), .val (.int (1 : Int32)), .val (.ref bb), .val (.int (1 : Int32)), .val (.int (3 : Int32)), .val (.int (1 : Int32)), .val (.int cc1)] [])) (fun t k => XS.icmpYes X174.here hx rfl (pc0 := 20) (pc' := 26) rfl (hb hby d7_20) rfl (flt hc1).2.2.2 (by decide) (by decide) k) ?_
  refine Go.step (T' := T174) (f' := (mkF m 27 #[.val (.ref bc), .val (.int (1 : Int32)), .val (.ref bb), .val (.int (1 : Int32)), .val (.int (3 : Int32)), .val (.int (1 : Int32)), .val (.int cc1)] [(.ref bb)])) (fun t k => XS.aloadN X174.here hx rfl (hb hby d7_26) rfl rfl k) ?_
  refine Go.step (T' := T174) (f' := (mkF m 28 #[.val (.ref bc), .val (.int (1 : Int32)), .val (.ref bb), .val (.int (1 : Int32)), .val (.int (3 : Int32)), .val (.int (1 : Int32)), .val (.int cc1)] [(.int (1 : Int32)), (.ref bb)])) (fun t k => XS.iloadN X174.here hx rfl (hb hby d7_27) rfl k) ?_
  refine Go.step (T' := T174) (f' := (mkF m 30 #[.val (.ref bc), .val (.int (1 : Int32)), .val (.ref bb), .val (.int (1 : Int32)), .val (.int (3 : Int32)), .val (.int (1 : Int32)), .val (.int cc1)] [(.int cc1), (.int (1 : Int32)), (.ref bb)])) (fun t k => XS.iload X174.here hx rfl (hb hby d7_28) rfl k) ?_
  refine Go.step (T' := T174) (f' := (mkF m 31 #[.val (.ref bc), .val (.int (1 : Int32)), .val (.ref bb), .val (.int (1 : Int32)), .val (.int (3 : Int32)), .val (.int (1 : Int32)), .val (.int cc1)] [(.int (cc1.toInt8.toInt32)), (.int (1 : Int32)), (.ref bb)])) (fun t k => XS.i2b X174.here hx rfl (hb hby d7_30) rfl k) ?_
  obtain ⟨ca182, Aa182, qa182, Sa182, Na182, Ha182, Ga182⟩ := id f176
  have ia182 : ¬ ((1 : Int32) < 0 ∨ ca182.slots.size ≤ ((1 : Int32)).toNatClampNeg) := inb_of Sa182 ⟨by decide, by decide⟩
  obtain ⟨T183, h183, X183, e183, W183, st183⟩ := stB X174 hx hZ e174 Aa182 (j := (1 : Int32)) ia182 (g := (mkF m 31 #[.val (.ref bc), .val (.int (1 : Int32)), .val (.ref bb), .val (.int (1 : Int32)), .val (.int (3 : Int32)), .val (.int (1 : Int32)), .val (.int cc1)] [(.int (cc1.toInt8.toInt32)), (.int (1 : Int32)), (.ref bb)])) rfl rfl (hb hby d7_31)
  have f184 := Arv.set Aa182 qa182 Sa182 Na182 Ha182 Ga182 (fits_nar_byte _) W183 1 rfl (Nat.le_of_ble_eq_true rfl)
  rw [own_nar8] at f184
  have f185 : Arv Z h183 bb kb .byte (3 : Int32) [(.int (cc0.toInt8.toInt32)), (.int (cc1.toInt8.toInt32)), (.int (0 : Int32))] (.int (0 : Int32)) := f184
  have f186 := f177.other W183 P3
  have O187 := O178.wr W183 P2
  have K188 := K179.wr W183 (Or.inl (List.mem_of_getElem? (i := 0) rfl))
  have N189 := Fr.snoc X183 N180 P2
  refine Go.step (T' := T183) (f' := (mkF m 32 #[.val (.ref bc), .val (.int (1 : Int32)), .val (.ref bb), .val (.int (1 : Int32)), .val (.int (3 : Int32)), .val (.int (1 : Int32)), .val (.int cc1)] [])) st183 ?_
  clear st183 X174 f177 O178 K179 N180
  refine Go.step (T' := T183) (f' := (mkF m 35 #[.val (.ref bc), .val (.int ((1 : Int32) + (1 : Int32))), .val (.ref bb), .val (.int (1 : Int32)), .val (.int (3 : Int32)), .val (.int (1 : Int32)), .val (.int cc1)] [])) (fun t k => XS.iinc X183.here hx rfl (hb hby d7_32) rfl (l' := #[.val (.ref bc), .val (.int ((1 : Int32) + (1 : Int32))), .val (.ref bb), .val (.int (1 : Int32)), .val (.int (3 : Int32)), .val (.int (1 : Int32)), .val (.int cc1)]) rfl k) ?_
  rw [show ((1 : Int32) + (1 : Int32)) = (2 : Int32) from by decide]
  refine Go.step (T' := T183) (f' := (mkF m 38 #[.val (.ref bc), .val (.int (2 : Int32)), .val (.ref bb), .val (.int ((1 : Int32) + (1 : Int32))), .val (.int (3 : Int32)), .val (.int (1 : Int32)), .val (.int cc1)] [])) (fun t k => XS.iinc X183.here hx rfl (hb hby d7_35) rfl (l' := #[.val (.ref bc), .val (.int (2 : Int32)), .val (.ref bb), .val (.int ((1 : Int32) + (1 : Int32))), .val (.int (3 : Int32)), .val (.int (1 : Int32)), .val (.int cc1)]) rfl k) ?_
  rw [show ((1 : Int32) + (1 : Int32)) = (2 : Int32) from by decide]
  refine Go.step (T' := T183) (f' := (mkF m 41 #[.val (.ref bc), .val (.int (2 : Int32)), .val (.ref bb), .val (.int (2 : Int32)), .val (.int (3 : Int32)), .val (.int ((1 : Int32) + (1 : Int32))), .val (.int cc1)] [])) (fun t k => XS.iinc X183.here hx rfl (hb hby d7_38) rfl (l' := #[.val (.ref bc), .val (.int (2 : Int32)), .val (.ref bb), .val (.int (2 : Int32)), .val (.int (3 : Int32)), .val (.int ((1 : Int32) + (1 : Int32))), .val (.int cc1)]) rfl k) ?_
  rw [show ((1 : Int32) + (1 : Int32)) = (2 : Int32) from by decide]
  refine Go.step (T' := T183) (f' := (mkF m 3 #[.val (.ref bc), .val (.int (2 : Int32)), .val (.ref bb), .val (.int (2 : Int32)), .val (.int (3 : Int32)), .val (.int (2 : Int32)), .val (.int cc1)] [])) (fun t k => XS.goto X183.here hx rfl (pc0 := 41) (pc' := 3) rfl (hb hby d7_41) (by decide) (by decide) k) ?_
  refine Go.step (T' := T183) (f' := (mkF m 5 #[.val (.ref bc), .val (.int (2 : Int32)), .val (.ref bb), .val (.int (2 : Int32)), .val (.int (3 : Int32)), .val (.int (2 : Int32)), .val (.int cc1)] [(.int (2 : Int32))])) (fun t k => XS.iload X183.here hx rfl (hb hby d7_3) rfl k) ?_
  refine Go.step (T' := T183) (f' := (mkF m 7 #[.val (.ref bc), .val (.int (2 : Int32)), .val (.ref bb), .val (.int (2 : Int32)), .val (.int (3 : Int32)), .val (.int (2 : Int32)), .val (.int cc1)] [(.int (3 : Int32)), (.int (2 : Int32))])) (fun t k => XS.iload X183.here hx rfl (hb hby d7_5) rfl k) ?_
  refine Go.step (T' := T183) (f' := (mkF m 10 #[.val (.ref bc), .val (.int (2 : Int32)), .val (.ref bb), .val (.int (2 : Int32)), .val (.int (3 : Int32)), .val (.int (2 : Int32)), .val (.int cc1)] [])) (fun t k => XS.icmpNo X183.here hx rfl (hb hby d7_7) rfl (tlt (by decide : (2 : Int32) < (3 : Int32))).2.1 k) ?_
  refine Go.step (T' := T183) (f' := (mkF m 11 #[.val (.ref bc), .val (.int (2 : Int32)), .val (.ref bb), .val (.int (2 : Int32)), .val (.int (3 : Int32)), .val (.int (2 : Int32)), .val (.int cc1)] [(.ref bc)])) (fun t k => XS.aloadN X183.here hx rfl (hb hby d7_10) rfl rfl k) ?_
  refine Go.step (T' := T183) (f' := (mkF m 12 #[.val (.ref bc), .val (.int (2 : Int32)), .val (.ref bb), .val (.int (2 : Int32)), .val (.int (3 : Int32)), .val (.int (2 : Int32)), .val (.int cc1)] [(.int (2 : Int32)), (.ref bc)])) (fun t k => XS.iloadN X183.here hx rfl (hb hby d7_11) rfl k) ?_
  obtain ⟨ca190, Aa190, qa190, Sa190, Na190, Ha190, Ga190⟩ := id f186
  have ia190 : ¬ ((2 : Int32) < 0 ∨ ca190.slots.size ≤ ((2 : Int32)).toNatClampNeg) := inb_of Sa190 ⟨by decide, by decide⟩
  have va190 := Ha190.at (v := (.int cc2)) ia190 rfl
  refine Go.step (T' := T183) (f' := (mkF m 13 #[.val (.ref bc), .val (.int (2 : Int32)), .val (.ref bb), .val (.int (2 : Int32)), .val (.int (3 : Int32)), .val (.int (2 : Int32)), .val (.int cc1)] [(.int cc2)])) (fun t k => X183.caload hx (j := (2 : Int32)) (v := (.int cc2)) (by rw [e183]; exact Aa190.1) (State.isArrayOf_alike hZ.alike Aa190.2.1) Aa190.2.2 ia190 va190 (g := (mkF m 12 #[.val (.ref bc), .val (.int (2 : Int32)), .val (.ref bb), .val (.int (2 : Int32)), .val (.int (3 : Int32)), .val (.int (2 : Int32)), .val (.int cc1)] [(.int (2 : Int32)), (.ref bc)])) rfl rfl (hb hby d7_12) t k) ?_
  refine Go.step (T' := T183) (f' := (mkF m 15 #[.val (.ref bc), .val (.int (2 : Int32)), .val (.ref bb), .val (.int (2 : Int32)), .val (.int (3 : Int32)), .val (.int (2 : Int32)), .val (.int cc2)] [])) (fun t k => XS.istore X183.here hx rfl (hb hby d7_13) rfl (l' := #[.val (.ref bc), .val (.int (2 : Int32)), .val (.ref bb), .val (.int (2 : Int32)), .val (.int (3 : Int32)), .val (.int (2 : Int32)), .val (.int cc2)]) rfl k) ?_
  refine Go.step (T' := T183) (f' := (mkF m 17 #[.val (.ref bc), .val (.int (2 : Int32)), .val (.ref bb), .val (.int (2 : Int32)), .val (.int (3 : Int32)), .val (.int (2 : Int32)), .val (.int cc2)] [(.int cc2)])) (fun t k => XS.iload X183.here hx rfl (hb hby d7_15) rfl k) ?_
  refine Go.step (T' := T183) (f' := (mkF m 20 #[.val (.ref bc), .val (.int (2 : Int32)), .val (.ref bb), .val (.int (2 : Int32)), .val (.int (3 : Int32)), .val (.int (2 : Int32)), .val (.int cc2)] [(.int (255 : Int32)), (.int cc2)])) (fun t k => XS.sipush X183.here hx rfl (hb hby d7_17) k) ?_
  refine Go.step (T' := T183) (f' := (mkF m 26 #[.val (.ref bc), .val (.int (2 : Int32)), .val (.ref bb), .val (.int (2 : Int32)), .val (.int (3 : Int32)), .val (.int (2 : Int32)), .val (.int cc2)] [])) (fun t k => XS.icmpYes X183.here hx rfl (pc0 := 20) (pc' := 26) rfl (hb hby d7_20) rfl (flt hc2).2.2.2 (by decide) (by decide) k) ?_
  refine Go.step (T' := T183) (f' := (mkF m 27 #[.val (.ref bc), .val (.int (2 : Int32)), .val (.ref bb), .val (.int (2 : Int32)), .val (.int (3 : Int32)), .val (.int (2 : Int32)), .val (.int cc2)] [(.ref bb)])) (fun t k => XS.aloadN X183.here hx rfl (hb hby d7_26) rfl rfl k) ?_
  refine Go.step (T' := T183) (f' := (mkF m 28 #[.val (.ref bc), .val (.int (2 : Int32)), .val (.ref bb), .val (.int (2 : Int32)), .val (.int (3 : Int32)), .val (.int (2 : Int32)), .val (.int cc2)] [(.int (2 : Int32)), (.ref bb)])) (fun t k => XS.iloadN X183.here hx rfl (hb hby d7_27) rfl k) ?_
  refine Go.step (T' := T183) (f' := (mkF m 30 #[.val (.ref bc), .val (.int (2 : Int32)), .val (.ref bb), .val (.int (2 : Int32)), .val (.int (3 : Int32)), .val (.int (2 : Int32)), .val (.int cc2)] [(.int cc2), (.int (2 : Int32)), (.ref bb)])) (fun t k => XS.iload X183.here hx rfl (hb hby d7_28) rfl k) ?_
  refine Go.step (T' := T183) (f' := (mkF m 31 #[.val (.ref bc), .val (.int (2 : Int32)), .val (.ref bb), .val (.int (2 : Int32)), .val (.int (3 : Int32)), .val (.int (2 : Int32)), .val (.int cc2)] [(.int (cc2.toInt8.toInt32)), (.int (2 : Int32)), (.ref bb)])) (fun t k => XS.i2b X183.here hx rfl (hb hby d7_30) rfl k) ?_
  obtain ⟨ca191, Aa191, qa191, Sa191, Na191, Ha191, Ga191⟩ := id f185
  have ia191 : ¬ ((2 : Int32) < 0 ∨ ca191.slots.size ≤ ((2 : Int32)).toNatClampNeg) := inb_of Sa191 ⟨by decide, by decide⟩
  obtain ⟨T192, h192, X192, e192, W192, st192⟩ := stB X183 hx hZ e183 Aa191 (j := (2 : Int32)) ia191 (g := (mkF m 31 #[.val (.ref bc), .val (.int (2 : Int32)), .val (.ref bb), .val (.int (2 : Int32)), .val (.int (3 : Int32)), .val (.int (2 : Int32)), .val (.int cc2)] [(.int (cc2.toInt8.toInt32)), (.int (2 : Int32)), (.ref bb)])) rfl rfl (hb hby d7_31)
  have f193 := Arv.set Aa191 qa191 Sa191 Na191 Ha191 Ga191 (fits_nar_byte _) W192 2 rfl (Nat.le_of_ble_eq_true rfl)
  rw [own_nar8] at f193
  have f194 : Arv Z h192 bb kb .byte (3 : Int32) [(.int (cc0.toInt8.toInt32)), (.int (cc1.toInt8.toInt32)), (.int (cc2.toInt8.toInt32))] (.int (0 : Int32)) := f193
  have f195 := f186.other W192 P3
  have O196 := O187.wr W192 P2
  have K197 := K188.wr W192 (Or.inl (List.mem_of_getElem? (i := 0) rfl))
  have N198 := Fr.snoc X192 N189 P2
  refine Go.step (T' := T192) (f' := (mkF m 32 #[.val (.ref bc), .val (.int (2 : Int32)), .val (.ref bb), .val (.int (2 : Int32)), .val (.int (3 : Int32)), .val (.int (2 : Int32)), .val (.int cc2)] [])) st192 ?_
  clear st192 X183 f186 O187 K188 N189
  refine Go.step (T' := T192) (f' := (mkF m 35 #[.val (.ref bc), .val (.int ((2 : Int32) + (1 : Int32))), .val (.ref bb), .val (.int (2 : Int32)), .val (.int (3 : Int32)), .val (.int (2 : Int32)), .val (.int cc2)] [])) (fun t k => XS.iinc X192.here hx rfl (hb hby d7_32) rfl (l' := #[.val (.ref bc), .val (.int ((2 : Int32) + (1 : Int32))), .val (.ref bb), .val (.int (2 : Int32)), .val (.int (3 : Int32)), .val (.int (2 : Int32)), .val (.int cc2)]) rfl k) ?_
  rw [show ((2 : Int32) + (1 : Int32)) = (3 : Int32) from by decide]
  refine Go.step (T' := T192) (f' := (mkF m 38 #[.val (.ref bc), .val (.int (3 : Int32)), .val (.ref bb), .val (.int ((2 : Int32) + (1 : Int32))), .val (.int (3 : Int32)), .val (.int (2 : Int32)), .val (.int cc2)] [])) (fun t k => XS.iinc X192.here hx rfl (hb hby d7_35) rfl (l' := #[.val (.ref bc), .val (.int (3 : Int32)), .val (.ref bb), .val (.int ((2 : Int32) + (1 : Int32))), .val (.int (3 : Int32)), .val (.int (2 : Int32)), .val (.int cc2)]) rfl k) ?_
  rw [show ((2 : Int32) + (1 : Int32)) = (3 : Int32) from by decide]
  refine Go.step (T' := T192) (f' := (mkF m 41 #[.val (.ref bc), .val (.int (3 : Int32)), .val (.ref bb), .val (.int (3 : Int32)), .val (.int (3 : Int32)), .val (.int ((2 : Int32) + (1 : Int32))), .val (.int cc2)] [])) (fun t k => XS.iinc X192.here hx rfl (hb hby d7_38) rfl (l' := #[.val (.ref bc), .val (.int (3 : Int32)), .val (.ref bb), .val (.int (3 : Int32)), .val (.int (3 : Int32)), .val (.int ((2 : Int32) + (1 : Int32))), .val (.int cc2)]) rfl k) ?_
  rw [show ((2 : Int32) + (1 : Int32)) = (3 : Int32) from by decide]
  refine Go.step (T' := T192) (f' := (mkF m 3 #[.val (.ref bc), .val (.int (3 : Int32)), .val (.ref bb), .val (.int (3 : Int32)), .val (.int (3 : Int32)), .val (.int (3 : Int32)), .val (.int cc2)] [])) (fun t k => XS.goto X192.here hx rfl (pc0 := 41) (pc' := 3) rfl (hb hby d7_41) (by decide) (by decide) k) ?_
  refine Go.step (T' := T192) (f' := (mkF m 5 #[.val (.ref bc), .val (.int (3 : Int32)), .val (.ref bb), .val (.int (3 : Int32)), .val (.int (3 : Int32)), .val (.int (3 : Int32)), .val (.int cc2)] [(.int (3 : Int32))])) (fun t k => XS.iload X192.here hx rfl (hb hby d7_3) rfl k) ?_
  refine Go.step (T' := T192) (f' := (mkF m 7 #[.val (.ref bc), .val (.int (3 : Int32)), .val (.ref bb), .val (.int (3 : Int32)), .val (.int (3 : Int32)), .val (.int (3 : Int32)), .val (.int cc2)] [(.int (3 : Int32)), (.int (3 : Int32))])) (fun t k => XS.iload X192.here hx rfl (hb hby d7_5) rfl k) ?_
  refine Go.step (T' := T192) (f' := (mkF m 44 #[.val (.ref bc), .val (.int (3 : Int32)), .val (.ref bb), .val (.int (3 : Int32)), .val (.int (3 : Int32)), .val (.int (3 : Int32)), .val (.int cc2)] [])) (fun t k => XS.icmpYes X192.here hx rfl (pc0 := 7) (pc' := 44) rfl (hb hby d7_7) rfl (flt (by decide : ¬ ((3 : Int32) < (3 : Int32)))).2.1 (by decide) (by decide) k) ?_
  refine Go.step (T' := T192) (f' := (mkF m 46 #[.val (.ref bc), .val (.int (3 : Int32)), .val (.ref bb), .val (.int (3 : Int32)), .val (.int (3 : Int32)), .val (.int (3 : Int32)), .val (.int cc2)] [(.int (3 : Int32))])) (fun t k => XS.iload X192.here hx rfl (hb hby d7_44) rfl k) ?_
  refine Go.retI X192 hx hlk Bd.returns (hb hby d7_46) e192 ?_ (by decide) (by decide)
  exact ⟨rfl, N198, K197, f194⟩
theorem ef_cmp3 (m : MethodId) (bc : Addr) : entryFrame m #[(.ref bc), (.int (0 : Int32)), (.int (3 : Int32))] 6 = mkF m 0 #[.val (.ref bc), .val (.int (0 : Int32)), .val (.int (3 : Int32)), .unset, .unset, .unset] [] := by first | (simp [entryFrame, mkF, argsToLocals, Value.category]; done) | rfl
def Q_cmp3 (Z : State) (bc : Addr) (kc : ClassId) (cc0 : Int32) (cc1 : Int32) (cc2 : Int32) (h0 : Heap) (n0 : Nat) (v : Option Value) (h : Heap) (L : List Loc) : Prop := ∃ bb : Addr, ∃ kb : ClassId, v = some (.ref bb) ∧ Fr n0 L ∧ Keep h0 h [] ∧ h0.size ≤ bb ∧ Arv Z h bb kb .byte (3 : Int32) [(.int (cc0.toInt8.toInt32)), (.int (cc1.toInt8.toInt32)), (.int (cc2.toInt8.toInt32))] (.int (0 : Int32))
set_option maxRecDepth 65536 in
set_option maxHeartbeats 40000000 in
theorem rm_cmp3 (l : Launch) (Z : State) (a0 : Array Value) (hw : ∀ d ∈ tables_1, d.before a0 Z = true) (ws : List Jvm.Cond) (bc : Addr) (kc : ClassId) (cc0 : Int32) (cc1 : Int32) (cc2 : Int32) (h0 : Heap) (n0 : Nat) (O0 : Old Z n0 h0) (P0 : Arv Z h0 bc kc .char (3 : Int32) [(.int cc0), (.int cc1), (.int cc2)] (.int (0 : Int32))) (hc0 : ¬ ((255 : Int32) < cc0)) (hc1 : ¬ ((255 : Int32) < cc1)) (hc2 : ¬ ((255 : Int32) < cc2)) :
    MetFree l (⟨"java/lang/StringUTF16", "compress", "([CII)[B"⟩ : MethodName) (head1 (Jvm.Cond.code (⟨"java/lang/StringUTF16", "compress", "([CII)[B"⟩ : MethodName) jdk_52_method_16_code 6 (some (.array .byte)) :: ws) ({ frames := 1, cells := 1, slots := 3, locals := 18 } : Room)) (fun a U => a = #[(.ref bc), (.int (0 : Int32)), (.int (3 : Int32))] ∧ Z.Warmed39 U.vm ∧ U.heap = h0) (fun _ _ _ _ _ => True) (fun _ U o U' => ∃ v L, o = .returned v ∧ Q_cmp3 Z bc kc cc0 cc1 cc2 h0 n0 v U'.heap L ∧ FrameEnd U o U' L ({ frames := 1, cells := 1, slots := 3, locals := 18 } : Room).cells ({ frames := 1, cells := 1, slots := 3, locals := 18 } : Room).slots) := by
  refine MetFree.of_bodySF (plainFor_of_name pn_java_lang_StringUTF16) hisR ?_
  intro p e s m args below meth c s₁ Bd hml0 hP hK
  obtain ⟨rfl, hZ, hh⟩ := hP
  have hx := Bd.exec
  have hby := Bd.bytes
  have hml : c.maxLocals = 6 := hml0
  have hown : s.vm.findClass "java/lang/StringUTF16" = some m.cls := findClass_of_methodNamed Bd.named
  have hnm := (name_of_methodNamed Bd.named Bd.method).1
  have hlk : meth.locks = false := BodyLoose.notSynchronized Bd
  have X0 : Stand p l e ({ frames := 1, cells := 1, slots := 3, locals := 18 } : Room) s m #[(.ref bc), (.int (0 : Int32)), (.int (3 : Int32))] below meth c s₁ [] 0 0 := Stand.of_body Bd
  have e0 : s₁.heap = h0 := by rw [← hh, Bd.state]; rfl
  have N0 := Fr.nil n0
  have K0 := Keep.refl h0 []
  rw [ef_cmp3 m bc]
  show Go p e below s (fun v h L => Q_cmp3 Z bc kc cc0 cc1 cc2 h0 n0 v h L) ({ frames := 1, cells := 1, slots := 3, locals := 18 } : Room).cells ({ frames := 1, cells := 1, slots := 3, locals := 18 } : Room).slots s₁ (mkF m 0 #[.val (.ref bc), .val (.int (0 : Int32)), .val (.int (3 : Int32)), .unset, .unset, .unset] [])
  refine Go.step (T' := s₁) (f' := (mkF m 1 #[.val (.ref bc), .val (.int (0 : Int32)), .val (.int (3 : Int32)), .unset, .unset, .unset] [(.int (3 : Int32))])) (fun t k => XS.iloadN X0.here hx rfl (hb hby d6_0) rfl k) ?_
  obtain ⟨T199, h199, k199, X199, e199, E199, A199, Y199, st199⟩ := newPE X0 hx hZ (hw _ (List.mem_of_getElem? (i := 22) rfl)) e0 (g := (mkF m 1 #[.val (.ref bc), .val (.int (0 : Int32)), .val (.int (3 : Int32)), .unset, .unset, .unset] [(.int (3 : Int32))])) rfl (hb hby d6_1) rfl (by decide) (cap := 3) (by decide) (by decide) (by decide) (by decide) (ad := "[B") (by decide)
  obtain ⟨b199, g199⟩ : ∃ z, z = h0.size := ⟨_, rfl⟩
  rw [← g199] at A199 Y199 st199
  have g200 : n0 ≤ b199 := Nat.le_trans (own_old_le O0) (Nat.le_of_eq g199.symm)
  have g201 : h0.size ≤ b199 := Nat.le_trans K0.1 (Nat.le_of_eq g199.symm)
  have ne202 : bc ≠ b199 := Nat.ne_of_lt (Nat.lt_of_lt_of_le P0.lt (Nat.le_of_eq g199.symm))
  have f203 := P0.ext E199
  have O204 := O0.ext E199
  have K205 := K0.ext E199
  have f206 : Arv Z h199 b199 k199 .byte (3 : Int32) [(.int (0 : Int32)), (.int (0 : Int32)), (.int (0 : Int32))] (.int (0 : Int32)) := (Arv.new A199 (by decide)).pad (pad_rep [] (.int (0 : Int32)) 3)
  refine Go.step (T' := T199) (f' := (mkF m 3 #[.val (.ref bc), .val (.int (0 : Int32)), .val (.int (3 : Int32)), .unset, .unset, .unset] [(.ref b199)])) st199 ?_
  clear st199 X0
  refine Go.step (T' := T199) (f' := (mkF m 4 #[.val (.ref bc), .val (.int (0 : Int32)), .val (.int (3 : Int32)), .val (.ref b199), .unset, .unset] [])) (fun t k => XS.astoreN X199.here hx rfl (hb hby d6_3) rfl rfl (l' := #[.val (.ref bc), .val (.int (0 : Int32)), .val (.int (3 : Int32)), .val (.ref b199), .unset, .unset]) rfl k) ?_
  refine Go.step (T' := T199) (f' := (mkF m 5 #[.val (.ref bc), .val (.int (0 : Int32)), .val (.int (3 : Int32)), .val (.ref b199), .unset, .unset] [(.ref bc)])) (fun t k => XS.aloadN X199.here hx rfl (hb hby d6_4) rfl rfl k) ?_
  refine Go.step (T' := T199) (f' := (mkF m 6 #[.val (.ref bc), .val (.int (0 : Int32)), .val (.int (3 : Int32)), .val (.ref b199), .unset, .unset] [(.int (0 : Int32)), (.ref bc)])) (fun t k => XS.iloadN X199.here hx rfl (hb hby d6_5) rfl k) ?_
  refine Go.step (T' := T199) (f' := (mkF m 7 #[.val (.ref bc), .val (.int (0 : Int32)), .val (.int (3 : Int32)), .val (.ref b199), .unset, .unset] [(.ref b199), (.int (0 : Int32)), (.ref bc)])) (fun t k => XS.aloadN X199.here hx rfl (hb hby d6_6) rfl rfl k) ?_
  refine Go.step (T' := T199) (f' := (mkF m 8 #[.val (.ref bc), .val (.int (0 : Int32)), .val (.int (3 : Int32)), .val (.ref b199), .unset, .unset] [(.int (0 : Int32)), (.ref b199), (.int (0 : Int32)), (.ref bc)])) (fun t k => XS.iconst X199.here hx rfl (hb hby d6_7) k) ?_
  refine Go.step (T' := T199) (f' := (mkF m 9 #[.val (.ref bc), .val (.int (0 : Int32)), .val (.int (3 : Int32)), .val (.ref b199), .unset, .unset] [(.int (3 : Int32)), (.int (0 : Int32)), (.ref b199), (.int (0 : Int32)), (.ref bc)])) (fun t k => XS.iloadN X199.here hx rfl (hb hby d6_8) rfl k) ?_
  obtain ⟨_, _, ⟨T207, L207, k207, n207⟩, -, X207, ⟨Lc207, hQ207, l207, y207, z207⟩, st207⟩ := Jvm.LawKit.callS X199 hx (y := (⟨"java/lang/StringUTF16", "compress", "([CI[BII)I"⟩ : MethodName)) hown (mvT hZ (hw _ (List.mem_of_getElem? (i := 34) rfl))) (mvT hZ (hw _ (List.mem_of_getElem? (i := 35) rfl))) (mvT hZ (hw _ (List.mem_of_getElem? (i := 32) rfl))) (mvT hZ (hw _ (List.mem_of_getElem? (i := 36) rfl))) (by decide) (backOf (W := 0) (rm_cpr3 l Z a0 hw [] bc b199 kc cc0 cc1 cc2 k199 h199 n0 O204 f203 f206 g200 ne202 hc0 hc1 hc2) hZ (hw _ (List.mem_of_getElem? (i := 36) rfl)) (hw _ (List.mem_of_getElem? (i := 32) rfl)) (by decide) (by decide)) (g := (mkF m 9 #[.val (.ref bc), .val (.int (0 : Int32)), .val (.int (3 : Int32)), .val (.ref b199), .unset, .unset] [(.int (3 : Int32)), (.int (0 : Int32)), (.ref b199), (.int (0 : Int32)), (.ref bc)])) rfl (by rw [hml]; rfl) (argsL := [(.ref bc), (.int (0 : Int32)), (.ref b199), (.int (0 : Int32)), (.int (3 : Int32))]) (rest := []) (lenOf pd0 rfl) rfl (by show 2 * 0 + _ ≤ _; exact Nat.le_of_eq rfl) (hb hby d6_9) (fun _ _ => ⟨rfl, e199, (by decide : 1 + 0 ≤ _), (by decide : 3 + 0 ≤ _)⟩)
  dsimp only [Pt.U, Pt.locs, Pt.cells, Pt.slots] at X207 l207 y207 z207 st207 hQ207
  subst l207 y207 z207
  obtain ⟨rfl, Nq207, hh207, p208⟩ := hQ207
  have N209 := Fr.app N0 Nq207
  have f210 := f203.keep hh207 (ninS ne202 nin0)
  have f211 := Y199.keep hh207
  have O212 := O204.keep hh207 (allS g200 all0)
  have K213 := K205.trans hh207 (allS (Or.inr g201) all0)
  refine Go.step (T' := T207) (f' := (mkF m 12 #[.val (.ref bc), .val (.int (0 : Int32)), .val (.int (3 : Int32)), .val (.ref b199), .unset, .unset] [(.int (3 : Int32))])) st207 ?_
  clear st207 X199 Nq207
  refine Go.step (T' := T207) (f' := (mkF m 14 #[.val (.ref bc), .val (.int (0 : Int32)), .val (.int (3 : Int32)), .val (.ref b199), .val (.int (3 : Int32)), .unset] [])) (fun t k => XS.istore X207.here hx rfl (hb hby d6_12) rfl (l' := #[.val (.ref bc), .val (.int (0 : Int32)), .val (.int (3 : Int32)), .val (.ref b199), .val (.int (3 : Int32)), .unset]) rfl k) ?_
  refine Go.step (T' := T207) (f' := (mkF m 16 #[.val (.ref bc), .val (.int (0 : Int32)), .val (.int (3 : Int32)), .val (.ref b199), .val (.int (3 : Int32)), .unset] [(.int (3 : Int32))])) (fun t k => XS.iload X207.here hx rfl (hb hby d6_14) rfl k) ?_
  refine Go.step (T' := T207) (f' := (mkF m 17 #[.val (.ref bc), .val (.int (0 : Int32)), .val (.int (3 : Int32)), .val (.ref b199), .val (.int (3 : Int32)), .unset] [(.int (3 : Int32)), (.int (3 : Int32))])) (fun t k => XS.iloadN X207.here hx rfl (hb hby d6_16) rfl k) ?_
  refine Go.step (T' := T207) (f' := (mkF m 57 #[.val (.ref bc), .val (.int (0 : Int32)), .val (.int (3 : Int32)), .val (.ref b199), .val (.int (3 : Int32)), .unset] [])) (fun t k => XS.icmpYes X207.here hx rfl (pc0 := 17) (pc' := 57) rfl (hb hby d6_17) rfl (teq (by decide : (3 : Int32) = (3 : Int32))).1 (by decide) (by decide) k) ?_
  refine Go.step (T' := T207) (f' := (mkF m 58 #[.val (.ref bc), .val (.int (0 : Int32)), .val (.int (3 : Int32)), .val (.ref b199), .val (.int (3 : Int32)), .unset] [(.ref b199)])) (fun t k => XS.aloadN X207.here hx rfl (hb hby d6_57) rfl rfl k) ?_
  refine Go.retA X207 hx hlk Bd.returns rfl rfl (hb hby d6_58) rfl ?_ (by decide) (by decide)
  exact ⟨b199, k199, rfl, N209, K213, g201, p208⟩
theorem ef_cod3 (m : MethodId) (bb : Addr) : entryFrame m #[(.ref bb), (.int (3 : Int32))] 2 = mkF m 0 #[.val (.ref bb), .val (.int (3 : Int32))] [] := by first | (simp [entryFrame, mkF, argsToLocals, Value.category]; done) | rfl
def Q_cod3 (Z : State) (bb : Addr) (kb : ClassId) (v0 : Int32) (v1 : Int32) (v2 : Int32) (h0 : Heap) (n0 : Nat) (v : Option Value) (h : Heap) (L : List Loc) : Prop := v = some (.int (0 : Int32)) ∧ Fr n0 L ∧ h = h0
set_option maxRecDepth 65536 in
set_option maxHeartbeats 40000000 in
theorem rm_cod3 (l : Launch) (Z : State) (a0 : Array Value) (hw : ∀ d ∈ tables_1, d.before a0 Z = true) (ws : List Jvm.Cond) (bb : Addr) (kb : ClassId) (v0 : Int32) (v1 : Int32) (v2 : Int32) (h0 : Heap) (n0 : Nat) (O0 : Old Z n0 h0) (P0 : Arv Z h0 bb kb .byte (3 : Int32) [(.int v0), (.int v1), (.int v2)] (.int (0 : Int32))) :
    MetFree l (⟨"java/lang/StringUTF16", "coderFromArrayLen", "([BI)B"⟩ : MethodName) (head1 (Jvm.Cond.code (⟨"java/lang/StringUTF16", "coderFromArrayLen", "([BI)B"⟩ : MethodName) jdk_52_method_15_code 2 (some .byte) :: ws) ({ frames := 0, cells := 0, slots := 0, locals := 0 } : Room)) (fun a U => a = #[(.ref bb), (.int (3 : Int32))] ∧ Z.Warmed39 U.vm ∧ U.heap = h0) (fun _ _ _ _ _ => True) (fun _ U o U' => ∃ v L, o = .returned v ∧ Q_cod3 Z bb kb v0 v1 v2 h0 n0 v U'.heap L ∧ FrameEnd U o U' L ({ frames := 0, cells := 0, slots := 0, locals := 0 } : Room).cells ({ frames := 0, cells := 0, slots := 0, locals := 0 } : Room).slots) := by
  refine MetFree.of_bodySF (plainFor_of_name pn_java_lang_StringUTF16) hisR ?_
  intro p e s m args below meth c s₁ Bd hml0 hP hK
  obtain ⟨rfl, hZ, hh⟩ := hP
  have hx := Bd.exec
  have hby := Bd.bytes
  have hml : c.maxLocals = 2 := hml0
  have hown : s.vm.findClass "java/lang/StringUTF16" = some m.cls := findClass_of_methodNamed Bd.named
  have hnm := (name_of_methodNamed Bd.named Bd.method).1
  have hlk : meth.locks = false := BodyLoose.notSynchronized Bd
  have X0 : Stand p l e ({ frames := 0, cells := 0, slots := 0, locals := 0 } : Room) s m #[(.ref bb), (.int (3 : Int32))] below meth c s₁ [] 0 0 := Stand.of_body Bd
  have e0 : s₁.heap = h0 := by rw [← hh, Bd.state]; rfl
  have N0 := Fr.nil n0
  rw [ef_cod3 m bb]
  show Go p e below s (fun v h L => Q_cod3 Z bb kb v0 v1 v2 h0 n0 v h L) ({ frames := 0, cells := 0, slots := 0, locals := 0 } : Room).cells ({ frames := 0, cells := 0, slots := 0, locals := 0 } : Room).slots s₁ (mkF m 0 #[.val (.ref bb), .val (.int (3 : Int32))] [])
  refine Go.step (T' := s₁) (f' := (mkF m 1 #[.val (.ref bb), .val (.int (3 : Int32))] [(.int (3 : Int32))])) (fun t k => XS.iloadN X0.here hx rfl (hb hby d8_0) rfl k) ?_
  refine Go.step (T' := s₁) (f' := (mkF m 2 #[.val (.ref bb), .val (.int (3 : Int32))] [(.ref bb), (.int (3 : Int32))])) (fun t k => XS.aloadN X0.here hx rfl (hb hby d8_1) rfl rfl k) ?_
  obtain ⟨ca214, Aa214, qa214, Sa214, Na214, Ha214, Ga214⟩ := id P0
  refine Go.step (T' := s₁) (f' := (mkF m 3 #[.val (.ref bb), .val (.int (3 : Int32))] [(.int (3 : Int32)), (.int (3 : Int32))])) (fun t k => own_alen X0 hx hZ e0 Aa214 Sa214 Na214 (g := (mkF m 2 #[.val (.ref bb), .val (.int (3 : Int32))] [(.ref bb), (.int (3 : Int32))])) rfl rfl (hb hby d8_2) k) ?_
  refine Go.step (T' := s₁) (f' := (mkF m 4 #[.val (.ref bb), .val (.int (3 : Int32))] [(.int ((3 : Int32) - (3 : Int32)))])) (fun t k => XS.isub X0.here hx rfl (hb hby d8_3) rfl k) ?_
  rw [show ((3 : Int32) - (3 : Int32)) = (0 : Int32) from by decide]
  refine Go.step (T' := s₁) (f' := (mkF m 6 #[.val (.ref bb), .val (.int (3 : Int32))] [(.int (31 : Int32)), (.int (0 : Int32))])) (fun t k => XS.bipush X0.here hx rfl (hb hby d8_4) k) ?_
  refine Go.step (T' := s₁) (f' := (mkF m 7 #[.val (.ref bb), .val (.int (3 : Int32))] [(.int (((0 : Int32).toUInt32 >>> ((31 : Int32) &&& 31).toUInt32).toInt32))])) (fun t k => XS.iushr X0.here hx rfl (hb hby d8_6) rfl k) ?_
  rw [show (((0 : Int32).toUInt32 >>> ((31 : Int32) &&& 31).toUInt32).toInt32) = (0 : Int32) from by decide]
  refine Go.step (T' := s₁) (f' := (mkF m 8 #[.val (.ref bb), .val (.int (3 : Int32))] [(.int ((0 : Int32).toInt8.toInt32))])) (fun t k => XS.i2b X0.here hx rfl (hb hby d8_7) rfl k) ?_
  rw [show ((0 : Int32).toInt8.toInt32) = (0 : Int32) from by decide]
  refine Go.retZ X0 hx hlk (t := .byte) Bd.returns (by simp) (hb hby d8_8) e0 ?_ (by decide) (by decide)
  exact ⟨rfl, N0, rfl⟩
theorem ef_ini4_3 (m : MethodId) (ba : Addr) (bc : Addr) : entryFrame m #[(.ref ba), (.ref bc), (.int (0 : Int32)), (.int (3 : Int32)), .null] 6 = mkF m 0 #[.val (.ref ba), .val (.ref bc), .val (.int (0 : Int32)), .val (.int (3 : Int32)), .val .null, .unset] [] := by first | (simp [entryFrame, mkF, argsToLocals, Value.category]; done) | rfl
def Q_ini4_3 (Z : State) (ba : Addr) (bc : Addr) (kc : ClassId) (cc0 : Int32) (cc1 : Int32) (cc2 : Int32) (u0 : Value) (u1 : Value) (wz : Int32) (h0 : Heap) (n0 : Nat) (v : Option Value) (h : Heap) (L : List Loc) : Prop := ∃ bb : Addr, ∃ kb : ClassId, v = none ∧ Fr n0 L ∧ Keep h0 h [ba] ∧ Exa Z h ba "java/lang/String" ∧ Fld Z h ba "java/lang/String" "value" "[B" (.ref bb) ∧ Fld Z h ba "java/lang/String" "coder" "B" (.int (0 : Int32)) ∧ h0.size ≤ bb ∧ Arv Z h bb kb .byte (3 : Int32) [(.int (cc0.toInt8.toInt32)), (.int (cc1.toInt8.toInt32)), (.int (cc2.toInt8.toInt32))] (.int (0 : Int32))
set_option maxRecDepth 65536 in
set_option maxHeartbeats 40000000 in
theorem rm_ini4_3 (l : Launch) (Z : State) (a0 : Array Value) (hw : ∀ d ∈ tables_1, d.before a0 Z = true) (ws : List Jvm.Cond) (ba : Addr) (bc : Addr) (kc : ClassId) (cc0 : Int32) (cc1 : Int32) (cc2 : Int32) (u0 : Value) (u1 : Value) (wz : Int32) (h0 : Heap) (n0 : Nat) (O0 : Old Z n0 h0) (P0 : Exa Z h0 ba "java/lang/String") (P1 : Fld Z h0 ba "java/lang/String" "value" "[B" u0) (P2 : Fld Z h0 ba "java/lang/String" "coder" "B" u1) (P3 : n0 ≤ ba) (P4 : Arv Z h0 bc kc .char (3 : Int32) [(.int cc0), (.int cc1), (.int cc2)] (.int (0 : Int32))) (P5 : bc ≠ ba) (P6 : Sta Z Z.heap "java/lang/String" "COMPACT_STRINGS" "Z" (.int wz)) (hwz : ¬ (wz = (0 : Int32))) (hc0 : ¬ ((255 : Int32) < cc0)) (hc1 : ¬ ((255 : Int32) < cc1)) (hc2 : ¬ ((255 : Int32) < cc2)) :
    MetFree l (⟨"java/lang/String", "<init>", "([CIILjava/lang/Void;)V"⟩ : MethodName) (head1 (Jvm.Cond.code (⟨"java/lang/String", "<init>", "([CIILjava/lang/Void;)V"⟩ : MethodName) jdk_42_method_149_code 6 none :: ws) ({ frames := 2, cells := 1, slots := 3, locals := 35 } : Room)) (fun a U => a = #[(.ref ba), (.ref bc), (.int (0 : Int32)), (.int (3 : Int32)), .null] ∧ Z.Warmed39 U.vm ∧ U.heap = h0) (fun _ _ _ _ _ => True) (fun _ U o U' => ∃ v L, o = .returned v ∧ Q_ini4_3 Z ba bc kc cc0 cc1 cc2 u0 u1 wz h0 n0 v U'.heap L ∧ FrameEnd U o U' L ({ frames := 2, cells := 1, slots := 3, locals := 35 } : Room).cells ({ frames := 2, cells := 1, slots := 3, locals := 35 } : Room).slots) := by
  refine MetFree.of_bodySF (plainFor_of_name pn_java_lang_String) hisR ?_
  intro p e s m args below meth c s₁ Bd hml0 hP hK
  obtain ⟨rfl, hZ, hh⟩ := hP
  have hx := Bd.exec
  have hby := Bd.bytes
  have hml : c.maxLocals = 6 := hml0
  have hown : s.vm.findClass "java/lang/String" = some m.cls := findClass_of_methodNamed Bd.named
  have hnm := (name_of_methodNamed Bd.named Bd.method).1
  have hlk : meth.locks = false := BodyLoose.notSynchronized Bd
  have X0 : Stand p l e ({ frames := 2, cells := 1, slots := 3, locals := 35 } : Room) s m #[(.ref ba), (.ref bc), (.int (0 : Int32)), (.int (3 : Int32)), .null] below meth c s₁ [] 0 0 := Stand.of_body Bd
  have e0 : s₁.heap = h0 := by rw [← hh, Bd.state]; rfl
  have N0 := Fr.nil n0
  have K0 := Keep.refl h0 [ba]
  rw [ef_ini4_3 m ba bc]
  show Go p e below s (fun v h L => Q_ini4_3 Z ba bc kc cc0 cc1 cc2 u0 u1 wz h0 n0 v h L) ({ frames := 2, cells := 1, slots := 3, locals := 35 } : Room).cells ({ frames := 2, cells := 1, slots := 3, locals := 35 } : Room).slots s₁ (mkF m 0 #[.val (.ref ba), .val (.ref bc), .val (.int (0 : Int32)), .val (.int (3 : Int32)), .val .null, .unset] [])
  refine Go.step (T' := s₁) (f' := (mkF m 1 #[.val (.ref ba), .val (.ref bc), .val (.int (0 : Int32)), .val (.int (3 : Int32)), .val .null, .unset] [(.ref ba)])) (fun t k => XS.aloadN X0.here hx rfl (hb hby d4_0) rfl rfl k) ?_
  obtain ⟨T215, X215, e215, st215⟩ := initO X0 hx hZ hown (hw _ (List.mem_of_getElem? (i := 18) rfl)) (hw _ (List.mem_of_getElem? (i := 19) rfl)) (hw _ (List.mem_of_getElem? (i := 20) rfl)) e0 (g := (mkF m 1 #[.val (.ref ba), .val (.ref bc), .val (.int (0 : Int32)), .val (.int (3 : Int32)), .val .null, .unset] [(.ref ba)])) rfl (by rw [hml]; rfl) rfl (hb hby d4_1) (by decide) (W := 0) (by show 2 * 0 + _ ≤ _; exact Nat.le_of_eq rfl) (by decide)
  refine Go.step (T' := T215) (f' := (mkF m 4 #[.val (.ref ba), .val (.ref bc), .val (.int (0 : Int32)), .val (.int (3 : Int32)), .val .null, .unset] [])) st215 ?_
  clear st215 X0
  refine Go.step (T' := T215) (f' := (mkF m 5 #[.val (.ref ba), .val (.ref bc), .val (.int (0 : Int32)), .val (.int (3 : Int32)), .val .null, .unset] [(.int (3 : Int32))])) (fun t k => XS.iloadN X215.here hx rfl (hb hby d4_4) rfl k) ?_
  refine Go.step (T' := T215) (f' := (mkF m 27 #[.val (.ref ba), .val (.ref bc), .val (.int (0 : Int32)), .val (.int (3 : Int32)), .val .null, .unset] [])) (fun t k => XS.ifYes X215.here hx rfl (pc0 := 5) (pc' := 27) rfl (hb hby d4_5) rfl ((if0 _ _).trans (feq (by decide : ¬ ((3 : Int32) = (0 : Int32)))).2) (by decide) (by decide) k) ?_
  obtain ⟨T216, X216, e216, st216⟩ := getS2 X215 hx hZ hown (host := "") (Or.inl (hw _ (List.mem_of_getElem? (i := 29) rfl))) Via.refl e215 (P6.ext O0.2) (g := (mkF m 27 #[.val (.ref ba), .val (.ref bc), .val (.int (0 : Int32)), .val (.int (3 : Int32)), .val .null, .unset] [])) rfl (hb hby d4_27)
  refine Go.step (T' := T216) (f' := (mkF m 30 #[.val (.ref ba), .val (.ref bc), .val (.int (0 : Int32)), .val (.int (3 : Int32)), .val .null, .unset] [(.int wz)])) st216 ?_
  clear st216 X215
  refine Go.step (T' := T216) (f' := (mkF m 33 #[.val (.ref ba), .val (.ref bc), .val (.int (0 : Int32)), .val (.int (3 : Int32)), .val .null, .unset] [])) (fun t k => XS.ifNo X216.here hx rfl (hb hby d4_30) rfl ((if0 _ _).trans (feq hwz).1) k) ?_
  refine Go.step (T' := T216) (f' := (mkF m 34 #[.val (.ref ba), .val (.ref bc), .val (.int (0 : Int32)), .val (.int (3 : Int32)), .val .null, .unset] [(.ref bc)])) (fun t k => XS.aloadN X216.here hx rfl (hb hby d4_33) rfl rfl k) ?_
  refine Go.step (T' := T216) (f' := (mkF m 35 #[.val (.ref ba), .val (.ref bc), .val (.int (0 : Int32)), .val (.int (3 : Int32)), .val .null, .unset] [(.int (0 : Int32)), (.ref bc)])) (fun t k => XS.iloadN X216.here hx rfl (hb hby d4_34) rfl k) ?_
  refine Go.step (T' := T216) (f' := (mkF m 36 #[.val (.ref ba), .val (.ref bc), .val (.int (0 : Int32)), .val (.int (3 : Int32)), .val .null, .unset] [(.int (3 : Int32)), (.int (0 : Int32)), (.ref bc)])) (fun t k => XS.iloadN X216.here hx rfl (hb hby d4_35) rfl k) ?_
  obtain ⟨_, _, ⟨T217, L217, k217, n217⟩, -, X217, ⟨Lc217, hQ217, l217, y217, z217⟩, st217⟩ := Jvm.LawKit.callS X216 hx (y := (⟨"java/lang/StringUTF16", "compress", "([CII)[B"⟩ : MethodName)) hown (mvT hZ (hw _ (List.mem_of_getElem? (i := 30) rfl))) (mvT hZ (hw _ (List.mem_of_getElem? (i := 31) rfl))) (mvT hZ (hw _ (List.mem_of_getElem? (i := 32) rfl))) (mvT hZ (hw _ (List.mem_of_getElem? (i := 33) rfl))) (by decide) (backOf (W := 0) (rm_cmp3 l Z a0 hw [] bc kc cc0 cc1 cc2 h0 n0 O0 P4 hc0 hc1 hc2) hZ (hw _ (List.mem_of_getElem? (i := 33) rfl)) (hw _ (List.mem_of_getElem? (i := 32) rfl)) (by decide) (by decide)) (g := (mkF m 36 #[.val (.ref ba), .val (.ref bc), .val (.int (0 : Int32)), .val (.int (3 : Int32)), .val .null, .unset] [(.int (3 : Int32)), (.int (0 : Int32)), (.ref bc)])) rfl (by rw [hml]; rfl) (argsL := [(.ref bc), (.int (0 : Int32)), (.int (3 : Int32))]) (rest := []) (lenOf pd1 rfl) rfl (by show 2 * 0 + _ ≤ _; exact Nat.le_of_eq rfl) (hb hby d4_36) (fun _ _ => ⟨rfl, e216, (by decide : 0 + 1 ≤ _), (by decide : 0 + 3 ≤ _)⟩)
  dsimp only [Pt.U, Pt.locs, Pt.cells, Pt.slots] at X217 l217 y217 z217 st217 hQ217
  subst l217 y217 z217
  obtain ⟨u218, u219, rfl, Nq217, hh217, p220, p221⟩ := hQ217
  have N222 := Fr.app N0 Nq217
  have f223 := P0.keep hh217
  have f224 := P1.keep hh217 nin0
  have f225 := P2.keep hh217 nin0
  have f226 := P4.keep hh217 nin0
  have O227 := O0.keep hh217 all0
  have K228 := K0.trans hh217 all0
  have g229 : n0 ≤ u218 := Nat.le_trans (own_old_le O0) p220
  have g230 : h0.size ≤ u218 := Nat.le_trans K0.1 p220
  have ne231 : ba ≠ u218 := Nat.ne_of_lt (Nat.lt_of_lt_of_le P0.lt p220)
  have ne232 : bc ≠ u218 := Nat.ne_of_lt (Nat.lt_of_lt_of_le P4.lt p220)
  refine Go.step (T' := T217) (f' := (mkF m 39 #[.val (.ref ba), .val (.ref bc), .val (.int (0 : Int32)), .val (.int (3 : Int32)), .val .null, .unset] [(.ref u218)])) st217 ?_
  clear st217 X216 Nq217
  refine Go.step (T' := T217) (f' := (mkF m 41 #[.val (.ref ba), .val (.ref bc), .val (.int (0 : Int32)), .val (.int (3 : Int32)), .val .null, .val (.ref u218)] [])) (fun t k => XS.astore X217.here hx rfl (hb hby d4_39) rfl rfl (l' := #[.val (.ref ba), .val (.ref bc), .val (.int (0 : Int32)), .val (.int (3 : Int32)), .val .null, .val (.ref u218)]) rfl k) ?_
  refine Go.step (T' := T217) (f' := (mkF m 42 #[.val (.ref ba), .val (.ref bc), .val (.int (0 : Int32)), .val (.int (3 : Int32)), .val .null, .val (.ref u218)] [(.ref ba)])) (fun t k => XS.aloadN X217.here hx rfl (hb hby d4_41) rfl rfl k) ?_
  refine Go.step (T' := T217) (f' := (mkF m 44 #[.val (.ref ba), .val (.ref bc), .val (.int (0 : Int32)), .val (.int (3 : Int32)), .val .null, .val (.ref u218)] [(.ref u218), (.ref ba)])) (fun t k => XS.aload X217.here hx rfl (hb hby d4_42) rfl rfl k) ?_
  refine Go.step (T' := T217) (f' := (mkF m 45 #[.val (.ref ba), .val (.ref bc), .val (.int (0 : Int32)), .val (.int (3 : Int32)), .val .null, .val (.ref u218)] [(.int (3 : Int32)), (.ref u218), (.ref ba)])) (fun t k => XS.iloadN X217.here hx rfl (hb hby d4_44) rfl k) ?_
  obtain ⟨_, _, ⟨T233, L233, k233, n233⟩, -, X233, ⟨Lc233, hQ233, l233, y233, z233⟩, st233⟩ := Jvm.LawKit.callS X217 hx (y := (⟨"java/lang/StringUTF16", "coderFromArrayLen", "([BI)B"⟩ : MethodName)) hown (mvT hZ (hw _ (List.mem_of_getElem? (i := 37) rfl))) (mvT hZ (hw _ (List.mem_of_getElem? (i := 38) rfl))) (mvT hZ (hw _ (List.mem_of_getElem? (i := 32) rfl))) (mvT hZ (hw _ (List.mem_of_getElem? (i := 39) rfl))) (by decide) (backOf (W := 1) (rm_cod3 l Z a0 hw [] u218 u219 (cc0.toInt8.toInt32) (cc1.toInt8.toInt32) (cc2.toInt8.toInt32) T217.heap n0 O227 p221) hZ (hw _ (List.mem_of_getElem? (i := 39) rfl)) (hw _ (List.mem_of_getElem? (i := 32) rfl)) (by decide) (by decide)) (g := (mkF m 45 #[.val (.ref ba), .val (.ref bc), .val (.int (0 : Int32)), .val (.int (3 : Int32)), .val .null, .val (.ref u218)] [(.int (3 : Int32)), (.ref u218), (.ref ba)])) rfl (by rw [hml]; rfl) (argsL := [(.ref u218), (.int (3 : Int32))]) (rest := [(.ref ba)]) (lenOf pd2 rfl) rfl (by show 2 * 0 + _ ≤ _; exact Nat.le_of_eq rfl) (hb hby d4_45) (fun _ _ => ⟨rfl, rfl, (by decide : 1 + 0 ≤ _), (by decide : 3 + 0 ≤ _)⟩)
  dsimp only [Pt.U, Pt.locs, Pt.cells, Pt.slots] at X233 l233 y233 z233 st233 hQ233
  subst l233 y233 z233
  obtain ⟨rfl, Nq233, hh233⟩ := hQ233
  have N234 := Fr.app N222 Nq233
  refine Go.step (T' := T233) (f' := (mkF m 48 #[.val (.ref ba), .val (.ref bc), .val (.int (0 : Int32)), .val (.int (3 : Int32)), .val .null, .val (.ref u218)] [(.int (0 : Int32)), (.ref ba)])) st233 ?_
  clear st233 X217 N222 Nq233
  obtain ⟨T235, h235, X235, e235, W235, st235⟩ := putFN X233 hx hZ hown (hw _ (List.mem_of_getElem? (i := 28) rfl)) Via.refl hh233 f225 f223 (Or.inr ⟨(hw _ (List.mem_of_getElem? (i := 24) rfl)), rfl, hnm⟩) (hw _ (List.mem_of_getElem? (i := 8) rfl)) (ty := .byte) (v' := (.int (0 : Int32))) (by decide) rfl (by decide) (g := (mkF m 48 #[.val (.ref ba), .val (.ref bc), .val (.int (0 : Int32)), .val (.int (3 : Int32)), .val .null, .val (.ref u218)] [(.int (0 : Int32)), (.ref ba)])) rfl rfl (hb hby d4_48)
  have f236 := f225.same W235
  have f237 := f223.wr W235
  have f238 := f224.other W235 (Or.inr (slot_ne (Or.inr (hw _ (List.mem_of_getElem? (i := 23) rfl))) (Or.inr (hw _ (List.mem_of_getElem? (i := 24) rfl))) (by decide) (t := (.array .byte)) (t' := .byte) (by decide) (by decide)))
  have f239 := f226.other W235 P5
  have f240 := p221.other W235 (Ne.symm ne231)
  have O241 := O227.wr W235 P3
  have K242 := K228.wr W235 (Or.inl (List.mem_of_getElem? (i := 0) rfl))
  have N243 := Fr.snoc X235 N234 P3
  refine Go.step (T' := T235) (f' := (mkF m 51 #[.val (.ref ba), .val (.ref bc), .val (.int (0 : Int32)), .val (.int (3 : Int32)), .val .null, .val (.ref u218)] [])) st235 ?_
  clear st235 X233 f223 f224 f226 p221 O227 K228 N234
  refine Go.step (T' := T235) (f' := (mkF m 52 #[.val (.ref ba), .val (.ref bc), .val (.int (0 : Int32)), .val (.int (3 : Int32)), .val .null, .val (.ref u218)] [(.ref ba)])) (fun t k => XS.aloadN X235.here hx rfl (hb hby d4_51) rfl rfl k) ?_
  refine Go.step (T' := T235) (f' := (mkF m 54 #[.val (.ref ba), .val (.ref bc), .val (.int (0 : Int32)), .val (.int (3 : Int32)), .val .null, .val (.ref u218)] [(.ref u218), (.ref ba)])) (fun t k => XS.aload X235.here hx rfl (hb hby d4_52) rfl rfl k) ?_
  obtain ⟨T244, h244, X244, e244, W244, st244⟩ := putF X235 hx hZ hown (host := "") (Or.inl (hw _ (List.mem_of_getElem? (i := 27) rfl))) Via.refl e235 f238 f237 (Or.inr ⟨(hw _ (List.mem_of_getElem? (i := 23) rfl)), rfl, hnm⟩) (hw _ (List.mem_of_getElem? (i := 8) rfl)) (ty := (.array .byte)) (by decide) rfl rfl (g := (mkF m 54 #[.val (.ref ba), .val (.ref bc), .val (.int (0 : Int32)), .val (.int (3 : Int32)), .val .null, .val (.ref u218)] [(.ref u218), (.ref ba)])) rfl rfl (hb hby d4_54)
  have f245 := f238.same W244
  have f246 := f237.wr W244
  have f247 := f239.other W244 P5
  have f248 := f240.other W244 (Ne.symm ne231)
  have f249 := f236.other W244 (Or.inr (slot_ne (Or.inr (hw _ (List.mem_of_getElem? (i := 24) rfl))) (Or.inr (hw _ (List.mem_of_getElem? (i := 23) rfl))) (by decide) (t := .byte) (t' := (.array .byte)) (by decide) (by decide)))
  have O250 := O241.wr W244 P3
  have K251 := K242.wr W244 (Or.inl (List.mem_of_getElem? (i := 0) rfl))
  have N252 := Fr.snoc X244 N243 P3
  refine Go.step (T' := T244) (f' := (mkF m 57 #[.val (.ref ba), .val (.ref bc), .val (.int (0 : Int32)), .val (.int (3 : Int32)), .val .null, .val (.ref u218)] [])) st244 ?_
  clear st244 X235 f237 f239 f240 f236 O241 K242 N243
  refine Go.retV X244 hx hlk Bd.returns (hb hby d4_57) e244 ?_ (by decide) (by decide)
  exact ⟨u218, u219, rfl, N252, K251, f246, f245, f249, g230, f248⟩
theorem ef_ini1_3 (m : MethodId) (ba : Addr) (bc : Addr) : entryFrame m #[(.ref ba), (.ref bc)] 2 = mkF m 0 #[.val (.ref ba), .val (.ref bc)] [] := by first | (simp [entryFrame, mkF, argsToLocals, Value.category]; done) | rfl
def Q_ini1_3 (Z : State) (ba : Addr) (bc : Addr) (kc : ClassId) (cc0 : Int32) (cc1 : Int32) (cc2 : Int32) (u0 : Value) (u1 : Value) (wz : Int32) (h0 : Heap) (n0 : Nat) (v : Option Value) (h : Heap) (L : List Loc) : Prop := ∃ bb : Addr, ∃ kb : ClassId, v = none ∧ Fr n0 L ∧ Keep h0 h [ba] ∧ Exa Z h ba "java/lang/String" ∧ Fld Z h ba "java/lang/String" "value" "[B" (.ref bb) ∧ Fld Z h ba "java/lang/String" "coder" "B" (.int (0 : Int32)) ∧ h0.size ≤ bb ∧ Arv Z h bb kb .byte (3 : Int32) [(.int (cc0.toInt8.toInt32)), (.int (cc1.toInt8.toInt32)), (.int (cc2.toInt8.toInt32))] (.int (0 : Int32))
set_option maxRecDepth 65536 in
set_option maxHeartbeats 40000000 in
theorem rm_ini1_3 (l : Launch) (Z : State) (a0 : Array Value) (hw : ∀ d ∈ tables_1, d.before a0 Z = true) (ws : List Jvm.Cond) (ba : Addr) (bc : Addr) (kc : ClassId) (cc0 : Int32) (cc1 : Int32) (cc2 : Int32) (u0 : Value) (u1 : Value) (wz : Int32) (h0 : Heap) (n0 : Nat) (O0 : Old Z n0 h0) (P0 : Exa Z h0 ba "java/lang/String") (P1 : Fld Z h0 ba "java/lang/String" "value" "[B" u0) (P2 : Fld Z h0 ba "java/lang/String" "coder" "B" u1) (P3 : n0 ≤ ba) (P4 : Arv Z h0 bc kc .char (3 : Int32) [(.int cc0), (.int cc1), (.int cc2)] (.int (0 : Int32))) (P5 : bc ≠ ba) (P6 : Sta Z Z.heap "java/lang/String" "COMPACT_STRINGS" "Z" (.int wz)) (hwz : ¬ (wz = (0 : Int32))) (hc0 : ¬ ((255 : Int32) < cc0)) (hc1 : ¬ ((255 : Int32) < cc1)) (hc2 : ¬ ((255 : Int32) < cc2)) :
    MetFree l (⟨"java/lang/String", "<init>", "([C)V"⟩ : MethodName) (head1 (Jvm.Cond.code (⟨"java/lang/String", "<init>", "([C)V"⟩ : MethodName) jdk_42_method_3_code 2 none :: ws) ({ frames := 3, cells := 1, slots := 3, locals := 52 } : Room)) (fun a U => a = #[(.ref ba), (.ref bc)] ∧ Z.Warmed39 U.vm ∧ U.heap = h0) (fun _ _ _ _ _ => True) (fun _ U o U' => ∃ v L, o = .returned v ∧ Q_ini1_3 Z ba bc kc cc0 cc1 cc2 u0 u1 wz h0 n0 v U'.heap L ∧ FrameEnd U o U' L ({ frames := 3, cells := 1, slots := 3, locals := 52 } : Room).cells ({ frames := 3, cells := 1, slots := 3, locals := 52 } : Room).slots) := by
  refine MetFree.of_bodySF (plainFor_of_name pn_java_lang_String) hisR ?_
  intro p e s m args below meth c s₁ Bd hml0 hP hK
  obtain ⟨rfl, hZ, hh⟩ := hP
  have hx := Bd.exec
  have hby := Bd.bytes
  have hml : c.maxLocals = 2 := hml0
  have hown : s.vm.findClass "java/lang/String" = some m.cls := findClass_of_methodNamed Bd.named
  have hnm := (name_of_methodNamed Bd.named Bd.method).1
  have hlk : meth.locks = false := BodyLoose.notSynchronized Bd
  have X0 : Stand p l e ({ frames := 3, cells := 1, slots := 3, locals := 52 } : Room) s m #[(.ref ba), (.ref bc)] below meth c s₁ [] 0 0 := Stand.of_body Bd
  have e0 : s₁.heap = h0 := by rw [← hh, Bd.state]; rfl
  have N0 := Fr.nil n0
  have K0 := Keep.refl h0 [ba]
  rw [ef_ini1_3 m ba bc]
  show Go p e below s (fun v h L => Q_ini1_3 Z ba bc kc cc0 cc1 cc2 u0 u1 wz h0 n0 v h L) ({ frames := 3, cells := 1, slots := 3, locals := 52 } : Room).cells ({ frames := 3, cells := 1, slots := 3, locals := 52 } : Room).slots s₁ (mkF m 0 #[.val (.ref ba), .val (.ref bc)] [])
  refine Go.step (T' := s₁) (f' := (mkF m 1 #[.val (.ref ba), .val (.ref bc)] [(.ref ba)])) (fun t k => XS.aloadN X0.here hx rfl (hb hby d3_0) rfl rfl k) ?_
  refine Go.step (T' := s₁) (f' := (mkF m 2 #[.val (.ref ba), .val (.ref bc)] [(.ref bc), (.ref ba)])) (fun t k => XS.aloadN X0.here hx rfl (hb hby d3_1) rfl rfl k) ?_
  refine Go.step (T' := s₁) (f' := (mkF m 3 #[.val (.ref ba), .val (.ref bc)] [(.int (0 : Int32)), (.ref bc), (.ref ba)])) (fun t k => XS.iconst X0.here hx rfl (hb hby d3_2) k) ?_
  refine Go.step (T' := s₁) (f' := (mkF m 4 #[.val (.ref ba), .val (.ref bc)] [(.ref bc), (.int (0 : Int32)), (.ref bc), (.ref ba)])) (fun t k => XS.aloadN X0.here hx rfl (hb hby d3_3) rfl rfl k) ?_
  obtain ⟨ca253, Aa253, qa253, Sa253, Na253, Ha253, Ga253⟩ := id P4
  refine Go.step (T' := s₁) (f' := (mkF m 5 #[.val (.ref ba), .val (.ref bc)] [(.int (3 : Int32)), (.int (0 : Int32)), (.ref bc), (.ref ba)])) (fun t k => own_alen X0 hx hZ e0 Aa253 Sa253 Na253 (g := (mkF m 4 #[.val (.ref ba), .val (.ref bc)] [(.ref bc), (.int (0 : Int32)), (.ref bc), (.ref ba)])) rfl rfl (hb hby d3_4) k) ?_
  refine Go.step (T' := s₁) (f' := (mkF m 6 #[.val (.ref ba), .val (.ref bc)] [.null, (.int (3 : Int32)), (.int (0 : Int32)), (.ref bc), (.ref ba)])) (fun t k => XS.aconstNull X0.here hx rfl (hb hby d3_5) k) ?_
  obtain ⟨_, _, ⟨T254, L254, k254, n254⟩, -, X254, ⟨Lc254, hQ254, l254, y254, z254⟩, st254⟩ := X0.specialBack hx (y := (⟨"java/lang/String", "<init>", "([CIILjava/lang/Void;)V"⟩ : MethodName)) rfl hown (mvT hZ (hw _ (List.mem_of_getElem? (i := 14) rfl))) (mvT hZ (hw _ (List.mem_of_getElem? (i := 15) rfl))) (mvT hZ (hw _ (List.mem_of_getElem? (i := 17) rfl))) (by decide) (backOf (W := 0) (rm_ini4_3 l Z a0 hw [] ba bc kc cc0 cc1 cc2 u0 u1 wz h0 n0 O0 P0 P1 P2 P3 P4 P5 P6 hwz hc0 hc1 hc2) hZ (hw _ (List.mem_of_getElem? (i := 17) rfl)) (hw _ (List.mem_of_getElem? (i := 9) rfl)) (by decide) (by decide)) (g := (mkF m 6 #[.val (.ref ba), .val (.ref bc)] [.null, (.int (3 : Int32)), (.int (0 : Int32)), (.ref bc), (.ref ba)])) rfl (by rw [hml]; rfl) (Steps.refl _) (a := ba) (argsL := [(.ref bc), (.int (0 : Int32)), (.int (3 : Int32)), .null]) (rest := []) (lenOf pd3 rfl) rfl (by show 2 * 0 + _ ≤ _; exact Nat.le_of_eq rfl) (hb hby d3_6) (fun _ _ => ⟨rfl, e0, (by decide : 0 + 1 ≤ _), (by decide : 0 + 3 ≤ _)⟩)
  dsimp only [Pt.U, Pt.locs, Pt.cells, Pt.slots] at X254 l254 y254 z254 st254 hQ254
  subst l254 y254 z254
  obtain ⟨u255, u256, rfl, Nq254, hh254, p257, p258, p259, p260, p261⟩ := hQ254
  have N262 := Fr.app N0 Nq254
  have f263 := P0.keep hh254
  have f264 := P4.keep hh254 (ninS P5 nin0)
  have O265 := O0.keep hh254 (allS P3 all0)
  have K266 := K0.trans hh254 (allS (Or.inl (List.mem_of_getElem? (i := 0) rfl)) all0)
  have g267 : n0 ≤ u255 := Nat.le_trans (own_old_le O0) p260
  have g268 : h0.size ≤ u255 := Nat.le_trans K0.1 p260
  have ne269 : ba ≠ u255 := Nat.ne_of_lt (Nat.lt_of_lt_of_le P0.lt p260)
  have ne270 : bc ≠ u255 := Nat.ne_of_lt (Nat.lt_of_lt_of_le P4.lt p260)
  refine Go.via (T' := T254) (f' := (mkF m 9 #[.val (.ref ba), .val (.ref bc)] [])) st254 ?_
  clear st254 X0 Nq254
  refine Go.retV X254 hx hlk Bd.returns (hb hby d3_9) rfl ?_ (by decide) (by decide)
  exact ⟨u255, u256, rfl, N262, K266, p257, p258, p259, g268, p261⟩
theorem d4_8 : decode jdk_42_method_149_code 8 = .ok (.aload_n 0, 1) := by decide +kernel
theorem d4_9 : decode jdk_42_method_149_code 9 = .ok (.ldc 7, 2) := by decide +kernel
theorem d4_11 : decode jdk_42_method_149_code 11 = .ok (.getfield 9, 3) := by decide +kernel
theorem d4_14 : decode jdk_42_method_149_code 14 = .ok (.putfield 9, 3) := by decide +kernel
theorem d4_17 : decode jdk_42_method_149_code 17 = .ok (.aload_n 0, 1) := by decide +kernel
theorem d4_18 : decode jdk_42_method_149_code 18 = .ok (.ldc 7, 2) := by decide +kernel
theorem d4_20 : decode jdk_42_method_149_code 20 = .ok (.getfield 15, 3) := by decide +kernel
theorem d4_23 : decode jdk_42_method_149_code 23 = .ok (.putfield 15, 3) := by decide +kernel
theorem d4_26 : decode jdk_42_method_149_code 26 = .ok (.return_, 1) := by decide +kernel
theorem ef_ini4_0 (m : MethodId) (ba : Addr) (bc : Addr) : entryFrame m #[(.ref ba), (.ref bc), (.int (0 : Int32)), (.int (0 : Int32)), .null] 6 = mkF m 0 #[.val (.ref ba), .val (.ref bc), .val (.int (0 : Int32)), .val (.int (0 : Int32)), .val .null, .unset] [] := by first | (simp [entryFrame, mkF, argsToLocals, Value.category]; done) | rfl
def Q_ini4_0 (Z : State) (ba : Addr) (bc : Addr) (u1 : Value) (h0 : Heap) (n0 : Nat) (v : Option Value) (h : Heap) (L : List Loc) : Prop := ∃ bv : Addr, ∃ kv : ClassId, v = none ∧ Fr n0 L ∧ Keep h0 h [ba] ∧ Exa Z h ba "java/lang/String" ∧ Fld Z h ba "java/lang/String" "value" "[B" (.ref bv) ∧ Fld Z h ba "java/lang/String" "coder" "B" (.int (0 : Int32)) ∧ Arv Z h bv kv .byte (0 : Int32) [] (.int (0 : Int32))
set_option maxRecDepth 65536 in
set_option maxHeartbeats 40000000 in
theorem rm_ini4_0 (l : Launch) (Z : State) (a0 : Array Value) (hw : ∀ d ∈ tables_1, d.before a0 Z = true) (ws : List Jvm.Cond) (ba : Addr) (bc : Addr) (u1 : Value) (h0 : Heap) (n0 : Nat) (O0 : Old Z n0 h0) (hEL : EW Z a0 own_EL) (P0 : Exa Z h0 ba "java/lang/String") (P1 : Fld Z h0 ba "java/lang/String" "value" "[B" .null) (P2 : Fld Z h0 ba "java/lang/String" "coder" "B" u1) (P3 : n0 ≤ ba) :
    MetFree l (⟨"java/lang/String", "<init>", "([CIILjava/lang/Void;)V"⟩ : MethodName) (head1 (Jvm.Cond.code (⟨"java/lang/String", "<init>", "([CIILjava/lang/Void;)V"⟩ : MethodName) jdk_42_method_149_code 6 none :: ws) ({ frames := 1, cells := 4, slots := 8, locals := 12 } : Room)) (fun a U => a = #[(.ref ba), (.ref bc), (.int (0 : Int32)), (.int (0 : Int32)), .null] ∧ Z.Warmed39 U.vm ∧ U.heap = h0 ∧ CHv Z own_EL U.vm h0) (fun _ _ _ _ _ => True) (fun _ U o U' => ∃ v L, o = .returned v ∧ Q_ini4_0 Z ba bc u1 h0 n0 v U'.heap L ∧ CHr Z own_EL U.vm U.heap U'.vm U'.heap ∧ ReturnedEndW U o U' L ({ frames := 1, cells := 4, slots := 8, locals := 12 } : Room).cells ({ frames := 1, cells := 4, slots := 8, locals := 12 } : Room).slots) := by
  refine MetFree.of_bodySF (plainFor_of_name pn_java_lang_String) hisR ?_
  intro p e s m args below meth c s₁ Bd hml0 hP hK
  obtain ⟨rfl, hZ, hh, hC0⟩ := hP
  have hx := Bd.exec
  have hby := Bd.bytes
  have hml : c.maxLocals = 6 := hml0
  have hown : (s.setVm s.vm).vm.findClass "java/lang/String" = some m.cls := findClass_of_methodNamed Bd.named
  have hnm := (name_of_methodNamed Bd.named Bd.method).1
  have hlk : meth.locks = false := BodyLoose.notSynchronized Bd
  have X0 : Stand p l e ({ frames := 1, cells := 4, slots := 8, locals := 12 } : Room) (s.setVm s.vm) m #[(.ref ba), (.ref bc), (.int (0 : Int32)), (.int (0 : Int32)), .null] below meth c s₁ [] 0 0 := Stand.of_body Bd
  have e0 : s₁.heap = h0 := by rw [← hh, Bd.state]; rfl
  have N0 := Fr.nil n0
  have hZ : Z.Warmed39 (s.setVm s.vm).vm := hZ
  have hS0 : s.Since s.vm 0 := (State.WarmedH.refl s).since 0
  have hk0 : 0 ≤ h0.size := Nat.zero_le _
  have CR0 : CHr Z own_EL s.vm s.heap s.vm h0 := by rw [hh]; exact CHr.refl hC0
  have K0 := Keep.refl h0 [ba]
  rw [ef_ini4_0 m ba bc]
  show GoH p e below s Z own_EL (fun v h L => Q_ini4_0 Z ba bc u1 h0 n0 v h L) ({ frames := 1, cells := 4, slots := 8, locals := 12 } : Room).cells ({ frames := 1, cells := 4, slots := 8, locals := 12 } : Room).slots s₁ (mkF m 0 #[.val (.ref ba), .val (.ref bc), .val (.int (0 : Int32)), .val (.int (0 : Int32)), .val .null, .unset] [])
  have sf0_ : Safe Z own_EL s.vm h0 ba := own_safe_null hZ.alike P0 P1
  refine GoH.step (T' := s₁) (f' := (mkF m 1 #[.val (.ref ba), .val (.ref bc), .val (.int (0 : Int32)), .val (.int (0 : Int32)), .val .null, .unset] [(.ref ba)])) (fun t k => XS.aloadN X0.here hx rfl (hb hby d4_0) rfl rfl k) ?_
  obtain ⟨T271, X271, e271, st271⟩ := initO X0 hx hZ hown (hw _ (List.mem_of_getElem? (i := 18) rfl)) (hw _ (List.mem_of_getElem? (i := 19) rfl)) (hw _ (List.mem_of_getElem? (i := 20) rfl)) e0 (g := (mkF m 1 #[.val (.ref ba), .val (.ref bc), .val (.int (0 : Int32)), .val (.int (0 : Int32)), .val .null, .unset] [(.ref ba)])) rfl (by rw [hml]; rfl) rfl (hb hby d4_1) (by decide) (W := 0) (by show 2 * 0 + _ ≤ _; exact Nat.le_of_eq rfl) (by decide)
  refine GoH.step (T' := T271) (f' := (mkF m 4 #[.val (.ref ba), .val (.ref bc), .val (.int (0 : Int32)), .val (.int (0 : Int32)), .val .null, .unset] [])) st271 ?_
  clear st271 X0
  refine GoH.step (T' := T271) (f' := (mkF m 5 #[.val (.ref ba), .val (.ref bc), .val (.int (0 : Int32)), .val (.int (0 : Int32)), .val .null, .unset] [(.int (0 : Int32))])) (fun t k => XS.iloadN X271.here hx rfl (hb hby d4_4) rfl k) ?_
  refine GoH.step (T' := T271) (f' := (mkF m 8 #[.val (.ref ba), .val (.ref bc), .val (.int (0 : Int32)), .val (.int (0 : Int32)), .val .null, .unset] [])) (fun t k => XS.ifNo X271.here hx rfl (hb hby d4_5) rfl ((if0 _ _).trans (teq (by decide : (0 : Int32) = (0 : Int32))).2) k) ?_
  refine GoH.step (T' := T271) (f' := (mkF m 9 #[.val (.ref ba), .val (.ref bc), .val (.int (0 : Int32)), .val (.int (0 : Int32)), .val .null, .unset] [(.ref ba)])) (fun t k => XS.aloadN X271.here hx rfl (hb hby d4_8) rfl rfl k) ?_
  obtain ⟨a272, T272, h272, kk272, b272, k272, X272, e272, E272, hS272, hk272, hZ, hown, Y272, C272, F272, A272, la272, lb272, ch272, Li272, sx272, st272⟩ := ldcCH (s := s) (vm0 := s.vm) X271 hx hZ hown (hw _ (List.mem_of_getElem? (i := 21) rfl)) (own_wS hw) e271 hS0 hk0 hEL (by decide) CR0.1 (vs := []) (z := (0 : Int32)) (by decide) (by decide) (by decide) (g := (mkF m 9 #[.val (.ref ba), .val (.ref bc), .val (.int (0 : Int32)), .val (.int (0 : Int32)), .val .null, .unset] [(.ref ba)])) rfl (hb hby d4_9) (n := 0) (by decide) (by decide) (by decide) (by decide)
  have sf273 := ch272.safe P0.lt sf0_
  have CR274 := CR0.trans ch272
  have f275 := P0.ext E272
  have f276 := P1.ext E272
  have f277 := P2.ext E272
  have O278 := O0.ext E272
  have K279 := K0.ext E272
  have ne280 := (sx272 _ sf273).1
  have ne281 := (sx272 _ sf273).2
  refine GoH.step (T' := T272) (f' := (mkF m 11 #[.val (.ref ba), .val (.ref bc), .val (.int (0 : Int32)), .val (.int (0 : Int32)), .val .null, .unset] [(.ref a272), (.ref ba)])) st272 ?_
  clear st272 X271 sf0_ CR0 hS0 hk0
  obtain ⟨T282, X282, e282, st282⟩ := getF X272 hx hZ hown (host := "") (Or.inl (hw _ (List.mem_of_getElem? (i := 27) rfl))) Via.refl e272 F272 (g := (mkF m 11 #[.val (.ref ba), .val (.ref bc), .val (.int (0 : Int32)), .val (.int (0 : Int32)), .val .null, .unset] [(.ref a272), (.ref ba)])) rfl rfl (hb hby d4_11)
  refine GoH.step (T' := T282) (f' := (mkF m 14 #[.val (.ref ba), .val (.ref bc), .val (.int (0 : Int32)), .val (.int (0 : Int32)), .val .null, .unset] [(.ref b272), (.ref ba)])) st282 ?_
  clear st282 X272
  obtain ⟨T283, h283, X283, e283, W283, st283⟩ := putF X282 hx hZ hown (host := "") (Or.inl (hw _ (List.mem_of_getElem? (i := 27) rfl))) Via.refl e282 f276 f275 (Or.inr ⟨(hw _ (List.mem_of_getElem? (i := 23) rfl)), rfl, hnm⟩) (hw _ (List.mem_of_getElem? (i := 8) rfl)) (ty := (.array .byte)) (by decide) rfl rfl (g := (mkF m 14 #[.val (.ref ba), .val (.ref bc), .val (.int (0 : Int32)), .val (.int (0 : Int32)), .val .null, .unset] [(.ref b272), (.ref ba)])) rfl rfl (hb hby d4_14)
  have f284 := f276.same W283
  have sa285 : Safe Z own_EL T272.vm h272 ba := sf273
  have sf286 := Safe.wr W283 sa285 CR274.1 sf273
  have CR287 := CR274.trans (CHr.wr W283 sa285 CR274.1)
  have hk288 := (by rw [W283.size]; exact hk272 : _ ≤ h283.size)
  have f289 := f275.wr W283
  have f290 := f277.other W283 (Or.inr (slot_ne (Or.inr (hw _ (List.mem_of_getElem? (i := 24) rfl))) (Or.inr (hw _ (List.mem_of_getElem? (i := 23) rfl))) (by decide) (t := .byte) (t' := (.array .byte)) (by decide) (by decide)))
  have f291 := Y272.wr W283
  have f292 := C272.other W283 (Or.inl (Ne.symm ne280))
  have f293 := F272.other W283 (Or.inl (Ne.symm ne280))
  have f294 := A272.other W283 (Ne.symm ne281)
  have O295 := O278.wr W283 P3
  have K296 := K279.wr W283 (Or.inl (List.mem_of_getElem? (i := 0) rfl))
  have N297 := Fr.snoc X283 N0 P3
  refine GoH.step (T' := T283) (f' := (mkF m 17 #[.val (.ref ba), .val (.ref bc), .val (.int (0 : Int32)), .val (.int (0 : Int32)), .val .null, .unset] [])) st283 ?_
  clear st283 X282 sf273 CR274 hk272 sa285 f275 f277 Y272 C272 F272 A272 O278 K279
  refine GoH.step (T' := T283) (f' := (mkF m 18 #[.val (.ref ba), .val (.ref bc), .val (.int (0 : Int32)), .val (.int (0 : Int32)), .val .null, .unset] [(.ref ba)])) (fun t k => XS.aloadN X283.here hx rfl (hb hby d4_17) rfl rfl k) ?_
  obtain ⟨a298, T298, h298, kk298, b298, k298, X298, e298, E298, hS298, hk298, hZ, hown, Y298, C298, F298, A298, la298, lb298, ch298, Li298, sx298, st298⟩ := ldcCH (s := s) (vm0 := T272.vm) X283 hx hZ hown (hw _ (List.mem_of_getElem? (i := 21) rfl)) (own_wS hw) e283 hS272 hk288 hEL (by decide) CR287.1 (vs := []) (z := (0 : Int32)) (by decide) (by decide) (by decide) (g := (mkF m 18 #[.val (.ref ba), .val (.ref bc), .val (.int (0 : Int32)), .val (.int (0 : Int32)), .val .null, .unset] [(.ref ba)])) rfl (hb hby d4_18) (n := 0) (by decide) (by decide) (by decide) (by decide)
  have sf299 := ch298.safe f289.lt sf286
  have CR300 := CR287.trans ch298
  have f301 := f289.ext E298
  have f302 := f290.ext E298
  have f303 := f291.ext E298
  have f304 := f292.ext E298
  have f305 := f293.ext E298
  have f306 := f294.ext E298
  have f307 := f284.ext E298
  have O308 := O295.ext E298
  have K309 := K296.ext E298
  have ne310 := (sx298 _ sf299).1
  have ne311 := (sx298 _ sf299).2
  refine GoH.step (T' := T298) (f' := (mkF m 20 #[.val (.ref ba), .val (.ref bc), .val (.int (0 : Int32)), .val (.int (0 : Int32)), .val .null, .unset] [(.ref a298), (.ref ba)])) st298 ?_
  clear st298 X283 sf286 CR287 hS272 hk288 f289 f290 f291 f292 f293 f294 f284 O295 K296
  obtain ⟨T312, X312, e312, st312⟩ := getF X298 hx hZ hown (host := "") (Or.inl (hw _ (List.mem_of_getElem? (i := 28) rfl))) Via.refl e298 C298 (g := (mkF m 20 #[.val (.ref ba), .val (.ref bc), .val (.int (0 : Int32)), .val (.int (0 : Int32)), .val .null, .unset] [(.ref a298), (.ref ba)])) rfl rfl (hb hby d4_20)
  refine GoH.step (T' := T312) (f' := (mkF m 23 #[.val (.ref ba), .val (.ref bc), .val (.int (0 : Int32)), .val (.int (0 : Int32)), .val .null, .unset] [(.int (0 : Int32)), (.ref ba)])) st312 ?_
  clear st312 X298
  obtain ⟨T313, h313, X313, e313, W313, st313⟩ := putFN X312 hx hZ hown (hw _ (List.mem_of_getElem? (i := 28) rfl)) Via.refl e312 f302 f301 (Or.inr ⟨(hw _ (List.mem_of_getElem? (i := 24) rfl)), rfl, hnm⟩) (hw _ (List.mem_of_getElem? (i := 8) rfl)) (ty := .byte) (v' := (.int (0 : Int32))) (by decide) rfl (by decide) (g := (mkF m 23 #[.val (.ref ba), .val (.ref bc), .val (.int (0 : Int32)), .val (.int (0 : Int32)), .val .null, .unset] [(.int (0 : Int32)), (.ref ba)])) rfl rfl (hb hby d4_23)
  have f314 := f302.same W313
  have sa315 : Safe Z own_EL T298.vm h298 ba := sf299
  have sf316 := Safe.wr W313 sa315 CR300.1 sf299
  have CR317 := CR300.trans (CHr.wr W313 sa315 CR300.1)
  have hk318 := (by rw [W313.size]; exact hk298 : _ ≤ h313.size)
  have f319 := f301.wr W313
  have f320 := f303.wr W313
  have f321 := f304.other W313 (Or.inl (Ne.symm ne280))
  have f322 := f305.other W313 (Or.inl (Ne.symm ne280))
  have f323 := f306.other W313 (Ne.symm ne281)
  have f324 := f307.other W313 (Or.inr (slot_ne (Or.inr (hw _ (List.mem_of_getElem? (i := 23) rfl))) (Or.inr (hw _ (List.mem_of_getElem? (i := 24) rfl))) (by decide) (t := (.array .byte)) (t' := .byte) (by decide) (by decide)))
  have f325 := Y298.wr W313
  have f326 := C298.other W313 (Or.inl (Ne.symm ne310))
  have f327 := F298.other W313 (Or.inl (Ne.symm ne310))
  have f328 := A298.other W313 (Ne.symm ne311)
  have O329 := O308.wr W313 P3
  have K330 := K309.wr W313 (Or.inl (List.mem_of_getElem? (i := 0) rfl))
  have N331 := Fr.snoc X313 N297 P3
  refine GoH.step (T' := T313) (f' := (mkF m 26 #[.val (.ref ba), .val (.ref bc), .val (.int (0 : Int32)), .val (.int (0 : Int32)), .val .null, .unset] [])) st313 ?_
  clear st313 X312 sf299 CR300 hk298 sa315 f301 f303 f304 f305 f306 f307 Y298 C298 F298 A298 O308 K309 N297
  refine GoH.fin X313 hZ hEL hS298 hk318 CR317 hlk (v := none) (fun _ => rfl) (fun fs hr => X313.returnOut hx Bd.returns (hb hby d4_26) hr) e313 ?_ (by decide) (by decide)
  exact ⟨b272, k272, rfl, N331, K330, f319, f324, f314, f323⟩
theorem ef_ini1_0 (m : MethodId) (ba : Addr) (bc : Addr) : entryFrame m #[(.ref ba), (.ref bc)] 2 = mkF m 0 #[.val (.ref ba), .val (.ref bc)] [] := by first | (simp [entryFrame, mkF, argsToLocals, Value.category]; done) | rfl
def Q_ini1_0 (Z : State) (ba : Addr) (bc : Addr) (u1 : Value) (kc : ClassId) (h0 : Heap) (n0 : Nat) (v : Option Value) (h : Heap) (L : List Loc) : Prop := ∃ bv : Addr, ∃ kv : ClassId, v = none ∧ Fr n0 L ∧ Keep h0 h [ba] ∧ Exa Z h ba "java/lang/String" ∧ Fld Z h ba "java/lang/String" "value" "[B" (.ref bv) ∧ Fld Z h ba "java/lang/String" "coder" "B" (.int (0 : Int32)) ∧ Arv Z h bv kv .byte (0 : Int32) [] (.int (0 : Int32))
set_option maxRecDepth 65536 in
set_option maxHeartbeats 40000000 in
theorem rm_ini1_0 (l : Launch) (Z : State) (a0 : Array Value) (hw : ∀ d ∈ tables_1, d.before a0 Z = true) (ws : List Jvm.Cond) (ba : Addr) (bc : Addr) (u1 : Value) (kc : ClassId) (h0 : Heap) (n0 : Nat) (O0 : Old Z n0 h0) (hEL : EW Z a0 own_EL) (P0 : Exa Z h0 ba "java/lang/String") (P1 : Fld Z h0 ba "java/lang/String" "value" "[B" .null) (P2 : Fld Z h0 ba "java/lang/String" "coder" "B" u1) (P3 : n0 ≤ ba) (P4 : Arv Z h0 bc kc .char (0 : Int32) [] (.int (0 : Int32))) (P5 : bc ≠ ba) :
    MetFree l (⟨"java/lang/String", "<init>", "([C)V"⟩ : MethodName) (head1 (Jvm.Cond.code (⟨"java/lang/String", "<init>", "([C)V"⟩ : MethodName) jdk_42_method_3_code 2 none :: ws) ({ frames := 2, cells := 4, slots := 8, locals := 29 } : Room)) (fun a U => a = #[(.ref ba), (.ref bc)] ∧ Z.Warmed39 U.vm ∧ U.heap = h0 ∧ CHv Z own_EL U.vm h0) (fun _ _ _ _ _ => True) (fun _ U o U' => ∃ v L, o = .returned v ∧ Q_ini1_0 Z ba bc u1 kc h0 n0 v U'.heap L ∧ CHr Z own_EL U.vm U.heap U'.vm U'.heap ∧ ReturnedEndW U o U' L ({ frames := 2, cells := 4, slots := 8, locals := 29 } : Room).cells ({ frames := 2, cells := 4, slots := 8, locals := 29 } : Room).slots) := by
  refine MetFree.of_bodySF (plainFor_of_name pn_java_lang_String) hisR ?_
  intro p e s m args below meth c s₁ Bd hml0 hP hK
  obtain ⟨rfl, hZ, hh, hC0⟩ := hP
  have hx := Bd.exec
  have hby := Bd.bytes
  have hml : c.maxLocals = 2 := hml0
  have hown : (s.setVm s.vm).vm.findClass "java/lang/String" = some m.cls := findClass_of_methodNamed Bd.named
  have hnm := (name_of_methodNamed Bd.named Bd.method).1
  have hlk : meth.locks = false := BodyLoose.notSynchronized Bd
  have X0 : Stand p l e ({ frames := 2, cells := 4, slots := 8, locals := 29 } : Room) (s.setVm s.vm) m #[(.ref ba), (.ref bc)] below meth c s₁ [] 0 0 := Stand.of_body Bd
  have e0 : s₁.heap = h0 := by rw [← hh, Bd.state]; rfl
  have N0 := Fr.nil n0
  have hZ : Z.Warmed39 (s.setVm s.vm).vm := hZ
  have hS0 : s.Since s.vm 0 := (State.WarmedH.refl s).since 0
  have hk0 : 0 ≤ h0.size := Nat.zero_le _
  have CR0 : CHr Z own_EL s.vm s.heap s.vm h0 := by rw [hh]; exact CHr.refl hC0
  have K0 := Keep.refl h0 [ba]
  rw [ef_ini1_0 m ba bc]
  show GoH p e below s Z own_EL (fun v h L => Q_ini1_0 Z ba bc u1 kc h0 n0 v h L) ({ frames := 2, cells := 4, slots := 8, locals := 29 } : Room).cells ({ frames := 2, cells := 4, slots := 8, locals := 29 } : Room).slots s₁ (mkF m 0 #[.val (.ref ba), .val (.ref bc)] [])
  refine GoH.step (T' := s₁) (f' := (mkF m 1 #[.val (.ref ba), .val (.ref bc)] [(.ref ba)])) (fun t k => XS.aloadN X0.here hx rfl (hb hby d3_0) rfl rfl k) ?_
  refine GoH.step (T' := s₁) (f' := (mkF m 2 #[.val (.ref ba), .val (.ref bc)] [(.ref bc), (.ref ba)])) (fun t k => XS.aloadN X0.here hx rfl (hb hby d3_1) rfl rfl k) ?_
  refine GoH.step (T' := s₁) (f' := (mkF m 3 #[.val (.ref ba), .val (.ref bc)] [(.int (0 : Int32)), (.ref bc), (.ref ba)])) (fun t k => XS.iconst X0.here hx rfl (hb hby d3_2) k) ?_
  refine GoH.step (T' := s₁) (f' := (mkF m 4 #[.val (.ref ba), .val (.ref bc)] [(.ref bc), (.int (0 : Int32)), (.ref bc), (.ref ba)])) (fun t k => XS.aloadN X0.here hx rfl (hb hby d3_3) rfl rfl k) ?_
  obtain ⟨ca332, Aa332, qa332, Sa332, Na332, Ha332, Ga332⟩ := id P4
  refine GoH.step (T' := s₁) (f' := (mkF m 5 #[.val (.ref ba), .val (.ref bc)] [(.int (0 : Int32)), (.int (0 : Int32)), (.ref bc), (.ref ba)])) (fun t k => own_alen X0 hx hZ e0 Aa332 Sa332 Na332 (g := (mkF m 4 #[.val (.ref ba), .val (.ref bc)] [(.ref bc), (.int (0 : Int32)), (.ref bc), (.ref ba)])) rfl rfl (hb hby d3_4) k) ?_
  refine GoH.step (T' := s₁) (f' := (mkF m 6 #[.val (.ref ba), .val (.ref bc)] [.null, (.int (0 : Int32)), (.int (0 : Int32)), (.ref bc), (.ref ba)])) (fun t k => XS.aconstNull X0.here hx rfl (hb hby d3_5) k) ?_
  obtain ⟨_, _, ⟨T333, L333, k333, n333⟩, -, X333, hS333, hg333, ⟨Lc333, hQ333, l333, y333, z333, ch333⟩, st333⟩ := X0.specialBackS hx (y := (⟨"java/lang/String", "<init>", "([CIILjava/lang/Void;)V"⟩ : MethodName)) rfl hown (mvT hZ (hw _ (List.mem_of_getElem? (i := 14) rfl))) (mvT hZ (hw _ (List.mem_of_getElem? (i := 15) rfl))) (mvT hZ (hw _ (List.mem_of_getElem? (i := 17) rfl))) (by decide) (backOfSH (s := s) (vm0 := s.vm) (W := 0) (rm_ini4_0 l Z a0 hw [] ba bc u1 h0 n0 O0 hEL P0 P1 P2 P3) hZ (hw _ (List.mem_of_getElem? (i := 17) rfl)) (hw _ (List.mem_of_getElem? (i := 9) rfl)) (by decide) (by decide) hEL CR0.1) (g := (mkF m 6 #[.val (.ref ba), .val (.ref bc)] [.null, (.int (0 : Int32)), (.int (0 : Int32)), (.ref bc), (.ref ba)])) rfl (by rw [hml]; rfl) (Steps.refl _) (a := ba) (argsL := [(.ref bc), (.int (0 : Int32)), (.int (0 : Int32)), .null]) (rest := []) (lenOf pd3 rfl) rfl (by show 2 * 0 + _ ≤ _; exact Nat.le_of_eq rfl) (hb hby d3_6) (fun _ _ => ⟨rfl, e0, (by decide : 0 + 4 ≤ _), (by decide : 0 + 8 ≤ _)⟩)
  dsimp only [Pt.U, Pt.locs, Pt.cells, Pt.slots] at X333 l333 y333 z333 st333 hQ333 hS333 hg333 ch333
  subst l333 y333 z333
  obtain ⟨X333, hS333, hZ, hown⟩ := rebS (s := s) (vm0 := s.vm) hS0 (show _ ≤ s₁.heap.size by rw [e0]; exact hk0) X333 hS333 hg333 hZ hown
  obtain ⟨u334, u335, rfl, Nq333, hh333, p336, p337, p338, p339⟩ := hQ333
  have N340 := Fr.app N0 Nq333
  have CR341 := CR0.trans ch333
  have hk342 := Nat.le_refl T333.heap.size
  have f343 := P0.keep hh333
  have f344 := P4.keep hh333 (ninS P5 nin0)
  have O345 := O0.keep hh333 (allS P3 all0)
  have K346 := K0.trans hh333 (allS (Or.inl (List.mem_of_getElem? (i := 0) rfl)) all0)
  refine GoH.via (T' := T333) (f' := (mkF m 9 #[.val (.ref ba), .val (.ref bc)] [])) st333 ?_
  clear st333 X0 Nq333 CR0 hk0 hS0
  refine GoH.fin X333 hZ hEL hS333 hk342 CR341 hlk (v := none) (fun _ => rfl) (fun fs hr => X333.returnOut hx Bd.returns (hb hby d3_9) hr) rfl ?_ (by decide) (by decide)
  exact ⟨u334, u335, rfl, N340, K346, p336, p337, p338, p339⟩
theorem d15_0 : decode jdk_43_method_13_code 0 = .ok (.aload_n 0, 1) := by decide +kernel
theorem d15_1 : decode jdk_43_method_13_code 1 = .ok (.arraylength, 1) := by decide +kernel
theorem d15_2 : decode jdk_43_method_13_code 2 = .ok (.aload_n 1, 1) := by decide +kernel
theorem d15_3 : decode jdk_43_method_13_code 3 = .ok (.arraylength, 1) := by decide +kernel
theorem d15_4 : decode jdk_43_method_13_code 4 = .ok (.if_icmp .ne 30, 3) := by decide +kernel
theorem d15_7 : decode jdk_43_method_13_code 7 = .ok (.iconst 0, 1) := by decide +kernel
theorem d15_8 : decode jdk_43_method_13_code 8 = .ok (.istore_n 2, 1) := by decide +kernel
theorem d15_9 : decode jdk_43_method_13_code 9 = .ok (.iload_n 2, 1) := by decide +kernel
theorem d15_10 : decode jdk_43_method_13_code 10 = .ok (.aload_n 0, 1) := by decide +kernel
theorem d15_11 : decode jdk_43_method_13_code 11 = .ok (.arraylength, 1) := by decide +kernel
theorem d15_12 : decode jdk_43_method_13_code 12 = .ok (.if_icmp .ge 20, 3) := by decide +kernel
theorem d15_15 : decode jdk_43_method_13_code 15 = .ok (.aload_n 0, 1) := by decide +kernel
theorem d15_16 : decode jdk_43_method_13_code 16 = .ok (.iload_n 2, 1) := by decide +kernel
theorem d15_17 : decode jdk_43_method_13_code 17 = .ok (.baload, 1) := by decide +kernel
theorem d15_18 : decode jdk_43_method_13_code 18 = .ok (.aload_n 1, 1) := by decide +kernel
theorem d15_19 : decode jdk_43_method_13_code 19 = .ok (.iload_n 2, 1) := by decide +kernel
theorem d15_20 : decode jdk_43_method_13_code 20 = .ok (.baload, 1) := by decide +kernel
theorem d15_21 : decode jdk_43_method_13_code 21 = .ok (.if_icmp .eq 5, 3) := by decide +kernel
theorem d15_24 : decode jdk_43_method_13_code 24 = .ok (.iconst 0, 1) := by decide +kernel
theorem d15_25 : decode jdk_43_method_13_code 25 = .ok (.ireturn, 1) := by decide +kernel
theorem d15_26 : decode jdk_43_method_13_code 26 = .ok (.iinc 2 1, 3) := by decide +kernel
theorem d15_29 : decode jdk_43_method_13_code 29 = .ok (.goto (-20), 3) := by decide +kernel
theorem d15_32 : decode jdk_43_method_13_code 32 = .ok (.iconst 1, 1) := by decide +kernel
theorem d15_33 : decode jdk_43_method_13_code 33 = .ok (.ireturn, 1) := by decide +kernel
theorem d15_34 : decode jdk_43_method_13_code 34 = .ok (.iconst 0, 1) := by decide +kernel
theorem d15_35 : decode jdk_43_method_13_code 35 = .ok (.ireturn, 1) := by decide +kernel
theorem pn_java_lang_StringLatin1 : plainName "java/lang/StringLatin1" = true := by first | (simp [plainName, overriddenIn]; done) | decide +kernel
theorem ef_leq (m : MethodId) (ba : Addr) (bb : Addr) : entryFrame m #[(.ref ba), (.ref bb)] 3 = mkF m 0 #[.val (.ref ba), .val (.ref bb), .unset] [] := by first | (simp [entryFrame, mkF, argsToLocals, Value.category]; done) | rfl
def Q_leq (Z : State) (ba : Addr) (bb : Addr) (ka : ClassId) (kb : ClassId) (xs : List Int32) (ys : List Int32) (h0 : Heap) (n0 : Nat) (v : Option Value) (h : Heap) (L : List Loc) : Prop := v = some (.int (if xs = ys then (1 : Int32) else 0)) ∧ Fr n0 L ∧ h = h0
set_option maxRecDepth 65536 in
set_option maxHeartbeats 40000000 in
theorem rm_leq (l : Launch) (Z : State) (a0 : Array Value) (hw : ∀ d ∈ tables_1, d.before a0 Z = true) (ws : List Jvm.Cond) (ba : Addr) (bb : Addr) (ka : ClassId) (kb : ClassId) (xs : List Int32) (ys : List Int32) (h0 : Heap) (n0 : Nat) (O0 : Old Z n0 h0) (P0 : Arv Z h0 ba ka .byte (Int32.ofNat xs.length) (xs.map Value.int) (.int (0 : Int32))) (P1 : Arv Z h0 bb kb .byte (Int32.ofNat ys.length) (ys.map Value.int) (.int (0 : Int32))) (hlx : xs.length ≤ 3) (hly : ys.length ≤ 3) :
    MetFree l (⟨"java/lang/StringLatin1", "equals", "([B[B)Z"⟩ : MethodName) (head1 (Jvm.Cond.code (⟨"java/lang/StringLatin1", "equals", "([B[B)Z"⟩ : MethodName) jdk_43_method_13_code 3 (some .boolean) :: ws) ({ frames := 0, cells := 0, slots := 0, locals := 0 } : Room)) (fun a U => a = #[(.ref ba), (.ref bb)] ∧ Z.Warmed39 U.vm ∧ U.heap = h0) (fun _ _ _ _ _ => True) (fun _ U o U' => ∃ v L, o = .returned v ∧ Q_leq Z ba bb ka kb xs ys h0 n0 v U'.heap L ∧ FrameEnd U o U' L ({ frames := 0, cells := 0, slots := 0, locals := 0 } : Room).cells ({ frames := 0, cells := 0, slots := 0, locals := 0 } : Room).slots) := by
  refine MetFree.of_bodySF (plainFor_of_name pn_java_lang_StringLatin1) hisR ?_
  intro p e s m args below meth c s₁ Bd hml0 hP hK
  obtain ⟨rfl, hZ, hh⟩ := hP
  have hx := Bd.exec
  have hby := Bd.bytes
  have hml : c.maxLocals = 3 := hml0
  have hown : s.vm.findClass "java/lang/StringLatin1" = some m.cls := findClass_of_methodNamed Bd.named
  have hnm := (name_of_methodNamed Bd.named Bd.method).1
  have hlk : meth.locks = false := BodyLoose.notSynchronized Bd
  have X0 : Stand p l e ({ frames := 0, cells := 0, slots := 0, locals := 0 } : Room) s m #[(.ref ba), (.ref bb)] below meth c s₁ [] 0 0 := Stand.of_body Bd
  have e0 : s₁.heap = h0 := by rw [← hh, Bd.state]; rfl
  have N0 := Fr.nil n0
  rw [ef_leq m ba bb]
  show Go p e below s (fun v h L => Q_leq Z ba bb ka kb xs ys h0 n0 v h L) ({ frames := 0, cells := 0, slots := 0, locals := 0 } : Room).cells ({ frames := 0, cells := 0, slots := 0, locals := 0 } : Room).slots s₁ (mkF m 0 #[.val (.ref ba), .val (.ref bb), .unset] [])
  rcases xs with _ | ⟨x0, _ | ⟨x1, _ | ⟨x2, _ | ⟨x3, xs⟩⟩⟩⟩
  ·
    rcases ys with _ | ⟨y0, _ | ⟨y1, _ | ⟨y2, _ | ⟨y3, ys⟩⟩⟩⟩
    ·
      have f347 : Arv Z h0 ba ka .byte (0 : Int32) [] (.int (0 : Int32)) := P0
      have f348 : Arv Z h0 bb kb .byte (0 : Int32) [] (.int (0 : Int32)) := P1
      refine Go.step (T' := s₁) (f' := (mkF m 1 #[.val (.ref ba), .val (.ref bb), .unset] [(.ref ba)])) (fun t k => XS.aloadN X0.here hx rfl (hb hby d15_0) rfl rfl k) ?_
      obtain ⟨ca349, Aa349, qa349, Sa349, Na349, Ha349, Ga349⟩ := id f347
      refine Go.step (T' := s₁) (f' := (mkF m 2 #[.val (.ref ba), .val (.ref bb), .unset] [(.int (0 : Int32))])) (fun t k => own_alen X0 hx hZ e0 Aa349 Sa349 Na349 (g := (mkF m 1 #[.val (.ref ba), .val (.ref bb), .unset] [(.ref ba)])) rfl rfl (hb hby d15_1) k) ?_
      refine Go.step (T' := s₁) (f' := (mkF m 3 #[.val (.ref ba), .val (.ref bb), .unset] [(.ref bb), (.int (0 : Int32))])) (fun t k => XS.aloadN X0.here hx rfl (hb hby d15_2) rfl rfl k) ?_
      obtain ⟨ca350, Aa350, qa350, Sa350, Na350, Ha350, Ga350⟩ := id f348
      refine Go.step (T' := s₁) (f' := (mkF m 4 #[.val (.ref ba), .val (.ref bb), .unset] [(.int (0 : Int32)), (.int (0 : Int32))])) (fun t k => own_alen X0 hx hZ e0 Aa350 Sa350 Na350 (g := (mkF m 3 #[.val (.ref ba), .val (.ref bb), .unset] [(.ref bb), (.int (0 : Int32))])) rfl rfl (hb hby d15_3) k) ?_
      refine Go.step (T' := s₁) (f' := (mkF m 7 #[.val (.ref ba), .val (.ref bb), .unset] [])) (fun t k => XS.icmpNo X0.here hx rfl (hb hby d15_4) rfl (teq (by decide : (0 : Int32) = (0 : Int32))).2 k) ?_
      refine Go.step (T' := s₁) (f' := (mkF m 8 #[.val (.ref ba), .val (.ref bb), .unset] [(.int (0 : Int32))])) (fun t k => XS.iconst X0.here hx rfl (hb hby d15_7) k) ?_
      refine Go.step (T' := s₁) (f' := (mkF m 9 #[.val (.ref ba), .val (.ref bb), .val (.int (0 : Int32))] [])) (fun t k => XS.istoreN X0.here hx rfl (hb hby d15_8) rfl (l' := #[.val (.ref ba), .val (.ref bb), .val (.int (0 : Int32))]) rfl k) ?_
      refine Go.step (T' := s₁) (f' := (mkF m 10 #[.val (.ref ba), .val (.ref bb), .val (.int (0 : Int32))] [(.int (0 : Int32))])) (fun t k => XS.iloadN X0.here hx rfl (hb hby d15_9) rfl k) ?_
      refine Go.step (T' := s₁) (f' := (mkF m 11 #[.val (.ref ba), .val (.ref bb), .val (.int (0 : Int32))] [(.ref ba), (.int (0 : Int32))])) (fun t k => XS.aloadN X0.here hx rfl (hb hby d15_10) rfl rfl k) ?_
      obtain ⟨ca351, Aa351, qa351, Sa351, Na351, Ha351, Ga351⟩ := id f347
      refine Go.step (T' := s₁) (f' := (mkF m 12 #[.val (.ref ba), .val (.ref bb), .val (.int (0 : Int32))] [(.int (0 : Int32)), (.int (0 : Int32))])) (fun t k => own_alen X0 hx hZ e0 Aa351 Sa351 Na351 (g := (mkF m 11 #[.val (.ref ba), .val (.ref bb), .val (.int (0 : Int32))] [(.ref ba), (.int (0 : Int32))])) rfl rfl (hb hby d15_11) k) ?_
      refine Go.step (T' := s₁) (f' := (mkF m 32 #[.val (.ref ba), .val (.ref bb), .val (.int (0 : Int32))] [])) (fun t k => XS.icmpYes X0.here hx rfl (pc0 := 12) (pc' := 32) rfl (hb hby d15_12) rfl (flt (by decide : ¬ ((0 : Int32) < (0 : Int32)))).2.1 (by decide) (by decide) k) ?_
      refine Go.step (T' := s₁) (f' := (mkF m 33 #[.val (.ref ba), .val (.ref bb), .val (.int (0 : Int32))] [(.int (1 : Int32))])) (fun t k => XS.iconst X0.here hx rfl (hb hby d15_32) k) ?_
      refine Go.retZ X0 hx hlk (t := .boolean) Bd.returns (by simp) (hb hby d15_33) e0 ?_ (by decide) (by decide)
      exact ⟨by simp [nar], N0, rfl⟩
    ·
      have f352 : Arv Z h0 ba ka .byte (0 : Int32) [] (.int (0 : Int32)) := P0
      have f353 : Arv Z h0 bb kb .byte (1 : Int32) [(.int y0)] (.int (0 : Int32)) := P1
      refine Go.step (T' := s₁) (f' := (mkF m 1 #[.val (.ref ba), .val (.ref bb), .unset] [(.ref ba)])) (fun t k => XS.aloadN X0.here hx rfl (hb hby d15_0) rfl rfl k) ?_
      obtain ⟨ca354, Aa354, qa354, Sa354, Na354, Ha354, Ga354⟩ := id f352
      refine Go.step (T' := s₁) (f' := (mkF m 2 #[.val (.ref ba), .val (.ref bb), .unset] [(.int (0 : Int32))])) (fun t k => own_alen X0 hx hZ e0 Aa354 Sa354 Na354 (g := (mkF m 1 #[.val (.ref ba), .val (.ref bb), .unset] [(.ref ba)])) rfl rfl (hb hby d15_1) k) ?_
      refine Go.step (T' := s₁) (f' := (mkF m 3 #[.val (.ref ba), .val (.ref bb), .unset] [(.ref bb), (.int (0 : Int32))])) (fun t k => XS.aloadN X0.here hx rfl (hb hby d15_2) rfl rfl k) ?_
      obtain ⟨ca355, Aa355, qa355, Sa355, Na355, Ha355, Ga355⟩ := id f353
      refine Go.step (T' := s₁) (f' := (mkF m 4 #[.val (.ref ba), .val (.ref bb), .unset] [(.int (1 : Int32)), (.int (0 : Int32))])) (fun t k => own_alen X0 hx hZ e0 Aa355 Sa355 Na355 (g := (mkF m 3 #[.val (.ref ba), .val (.ref bb), .unset] [(.ref bb), (.int (0 : Int32))])) rfl rfl (hb hby d15_3) k) ?_
      refine Go.step (T' := s₁) (f' := (mkF m 34 #[.val (.ref ba), .val (.ref bb), .unset] [])) (fun t k => XS.icmpYes X0.here hx rfl (pc0 := 4) (pc' := 34) rfl (hb hby d15_4) rfl (feq (by decide : ¬ ((0 : Int32) = (1 : Int32)))).2 (by decide) (by decide) k) ?_
      refine Go.step (T' := s₁) (f' := (mkF m 35 #[.val (.ref ba), .val (.ref bb), .unset] [(.int (0 : Int32))])) (fun t k => XS.iconst X0.here hx rfl (hb hby d15_34) k) ?_
      refine Go.retZ X0 hx hlk (t := .boolean) Bd.returns (by simp) (hb hby d15_35) e0 ?_ (by decide) (by decide)
      exact ⟨by simp [nar], N0, rfl⟩
    ·
      have f356 : Arv Z h0 ba ka .byte (0 : Int32) [] (.int (0 : Int32)) := P0
      have f357 : Arv Z h0 bb kb .byte (2 : Int32) [(.int y0), (.int y1)] (.int (0 : Int32)) := P1
      refine Go.step (T' := s₁) (f' := (mkF m 1 #[.val (.ref ba), .val (.ref bb), .unset] [(.ref ba)])) (fun t k => XS.aloadN X0.here hx rfl (hb hby d15_0) rfl rfl k) ?_
      obtain ⟨ca358, Aa358, qa358, Sa358, Na358, Ha358, Ga358⟩ := id f356
      refine Go.step (T' := s₁) (f' := (mkF m 2 #[.val (.ref ba), .val (.ref bb), .unset] [(.int (0 : Int32))])) (fun t k => own_alen X0 hx hZ e0 Aa358 Sa358 Na358 (g := (mkF m 1 #[.val (.ref ba), .val (.ref bb), .unset] [(.ref ba)])) rfl rfl (hb hby d15_1) k) ?_
      refine Go.step (T' := s₁) (f' := (mkF m 3 #[.val (.ref ba), .val (.ref bb), .unset] [(.ref bb), (.int (0 : Int32))])) (fun t k => XS.aloadN X0.here hx rfl (hb hby d15_2) rfl rfl k) ?_
      obtain ⟨ca359, Aa359, qa359, Sa359, Na359, Ha359, Ga359⟩ := id f357
      refine Go.step (T' := s₁) (f' := (mkF m 4 #[.val (.ref ba), .val (.ref bb), .unset] [(.int (2 : Int32)), (.int (0 : Int32))])) (fun t k => own_alen X0 hx hZ e0 Aa359 Sa359 Na359 (g := (mkF m 3 #[.val (.ref ba), .val (.ref bb), .unset] [(.ref bb), (.int (0 : Int32))])) rfl rfl (hb hby d15_3) k) ?_
      refine Go.step (T' := s₁) (f' := (mkF m 34 #[.val (.ref ba), .val (.ref bb), .unset] [])) (fun t k => XS.icmpYes X0.here hx rfl (pc0 := 4) (pc' := 34) rfl (hb hby d15_4) rfl (feq (by decide : ¬ ((0 : Int32) = (2 : Int32)))).2 (by decide) (by decide) k) ?_
      refine Go.step (T' := s₁) (f' := (mkF m 35 #[.val (.ref ba), .val (.ref bb), .unset] [(.int (0 : Int32))])) (fun t k => XS.iconst X0.here hx rfl (hb hby d15_34) k) ?_
      refine Go.retZ X0 hx hlk (t := .boolean) Bd.returns (by simp) (hb hby d15_35) e0 ?_ (by decide) (by decide)
      exact ⟨by simp [nar], N0, rfl⟩
    ·
      have f360 : Arv Z h0 ba ka .byte (0 : Int32) [] (.int (0 : Int32)) := P0
      have f361 : Arv Z h0 bb kb .byte (3 : Int32) [(.int y0), (.int y1), (.int y2)] (.int (0 : Int32)) := P1
      refine Go.step (T' := s₁) (f' := (mkF m 1 #[.val (.ref ba), .val (.ref bb), .unset] [(.ref ba)])) (fun t k => XS.aloadN X0.here hx rfl (hb hby d15_0) rfl rfl k) ?_
      obtain ⟨ca362, Aa362, qa362, Sa362, Na362, Ha362, Ga362⟩ := id f360
      refine Go.step (T' := s₁) (f' := (mkF m 2 #[.val (.ref ba), .val (.ref bb), .unset] [(.int (0 : Int32))])) (fun t k => own_alen X0 hx hZ e0 Aa362 Sa362 Na362 (g := (mkF m 1 #[.val (.ref ba), .val (.ref bb), .unset] [(.ref ba)])) rfl rfl (hb hby d15_1) k) ?_
      refine Go.step (T' := s₁) (f' := (mkF m 3 #[.val (.ref ba), .val (.ref bb), .unset] [(.ref bb), (.int (0 : Int32))])) (fun t k => XS.aloadN X0.here hx rfl (hb hby d15_2) rfl rfl k) ?_
      obtain ⟨ca363, Aa363, qa363, Sa363, Na363, Ha363, Ga363⟩ := id f361
      refine Go.step (T' := s₁) (f' := (mkF m 4 #[.val (.ref ba), .val (.ref bb), .unset] [(.int (3 : Int32)), (.int (0 : Int32))])) (fun t k => own_alen X0 hx hZ e0 Aa363 Sa363 Na363 (g := (mkF m 3 #[.val (.ref ba), .val (.ref bb), .unset] [(.ref bb), (.int (0 : Int32))])) rfl rfl (hb hby d15_3) k) ?_
      refine Go.step (T' := s₁) (f' := (mkF m 34 #[.val (.ref ba), .val (.ref bb), .unset] [])) (fun t k => XS.icmpYes X0.here hx rfl (pc0 := 4) (pc' := 34) rfl (hb hby d15_4) rfl (feq (by decide : ¬ ((0 : Int32) = (3 : Int32)))).2 (by decide) (by decide) k) ?_
      refine Go.step (T' := s₁) (f' := (mkF m 35 #[.val (.ref ba), .val (.ref bb), .unset] [(.int (0 : Int32))])) (fun t k => XS.iconst X0.here hx rfl (hb hby d15_34) k) ?_
      refine Go.retZ X0 hx hlk (t := .boolean) Bd.returns (by simp) (hb hby d15_35) e0 ?_ (by decide) (by decide)
      exact ⟨by simp [nar], N0, rfl⟩
    ·
      exact absurd hly (by simp)
  ·
    rcases ys with _ | ⟨y0, _ | ⟨y1, _ | ⟨y2, _ | ⟨y3, ys⟩⟩⟩⟩
    ·
      have f364 : Arv Z h0 ba ka .byte (1 : Int32) [(.int x0)] (.int (0 : Int32)) := P0
      have f365 : Arv Z h0 bb kb .byte (0 : Int32) [] (.int (0 : Int32)) := P1
      refine Go.step (T' := s₁) (f' := (mkF m 1 #[.val (.ref ba), .val (.ref bb), .unset] [(.ref ba)])) (fun t k => XS.aloadN X0.here hx rfl (hb hby d15_0) rfl rfl k) ?_
      obtain ⟨ca366, Aa366, qa366, Sa366, Na366, Ha366, Ga366⟩ := id f364
      refine Go.step (T' := s₁) (f' := (mkF m 2 #[.val (.ref ba), .val (.ref bb), .unset] [(.int (1 : Int32))])) (fun t k => own_alen X0 hx hZ e0 Aa366 Sa366 Na366 (g := (mkF m 1 #[.val (.ref ba), .val (.ref bb), .unset] [(.ref ba)])) rfl rfl (hb hby d15_1) k) ?_
      refine Go.step (T' := s₁) (f' := (mkF m 3 #[.val (.ref ba), .val (.ref bb), .unset] [(.ref bb), (.int (1 : Int32))])) (fun t k => XS.aloadN X0.here hx rfl (hb hby d15_2) rfl rfl k) ?_
      obtain ⟨ca367, Aa367, qa367, Sa367, Na367, Ha367, Ga367⟩ := id f365
      refine Go.step (T' := s₁) (f' := (mkF m 4 #[.val (.ref ba), .val (.ref bb), .unset] [(.int (0 : Int32)), (.int (1 : Int32))])) (fun t k => own_alen X0 hx hZ e0 Aa367 Sa367 Na367 (g := (mkF m 3 #[.val (.ref ba), .val (.ref bb), .unset] [(.ref bb), (.int (1 : Int32))])) rfl rfl (hb hby d15_3) k) ?_
      refine Go.step (T' := s₁) (f' := (mkF m 34 #[.val (.ref ba), .val (.ref bb), .unset] [])) (fun t k => XS.icmpYes X0.here hx rfl (pc0 := 4) (pc' := 34) rfl (hb hby d15_4) rfl (feq (by decide : ¬ ((1 : Int32) = (0 : Int32)))).2 (by decide) (by decide) k) ?_
      refine Go.step (T' := s₁) (f' := (mkF m 35 #[.val (.ref ba), .val (.ref bb), .unset] [(.int (0 : Int32))])) (fun t k => XS.iconst X0.here hx rfl (hb hby d15_34) k) ?_
      refine Go.retZ X0 hx hlk (t := .boolean) Bd.returns (by simp) (hb hby d15_35) e0 ?_ (by decide) (by decide)
      exact ⟨by simp [nar], N0, rfl⟩
    ·
      have f368 : Arv Z h0 ba ka .byte (1 : Int32) [(.int x0)] (.int (0 : Int32)) := P0
      have f369 : Arv Z h0 bb kb .byte (1 : Int32) [(.int y0)] (.int (0 : Int32)) := P1
      refine Go.step (T' := s₁) (f' := (mkF m 1 #[.val (.ref ba), .val (.ref bb), .unset] [(.ref ba)])) (fun t k => XS.aloadN X0.here hx rfl (hb hby d15_0) rfl rfl k) ?_
      obtain ⟨ca370, Aa370, qa370, Sa370, Na370, Ha370, Ga370⟩ := id f368
      refine Go.step (T' := s₁) (f' := (mkF m 2 #[.val (.ref ba), .val (.ref bb), .unset] [(.int (1 : Int32))])) (fun t k => own_alen X0 hx hZ e0 Aa370 Sa370 Na370 (g := (mkF m 1 #[.val (.ref ba), .val (.ref bb), .unset] [(.ref ba)])) rfl rfl (hb hby d15_1) k) ?_
      refine Go.step (T' := s₁) (f' := (mkF m 3 #[.val (.ref ba), .val (.ref bb), .unset] [(.ref bb), (.int (1 : Int32))])) (fun t k => XS.aloadN X0.here hx rfl (hb hby d15_2) rfl rfl k) ?_
      obtain ⟨ca371, Aa371, qa371, Sa371, Na371, Ha371, Ga371⟩ := id f369
      refine Go.step (T' := s₁) (f' := (mkF m 4 #[.val (.ref ba), .val (.ref bb), .unset] [(.int (1 : Int32)), (.int (1 : Int32))])) (fun t k => own_alen X0 hx hZ e0 Aa371 Sa371 Na371 (g := (mkF m 3 #[.val (.ref ba), .val (.ref bb), .unset] [(.ref bb), (.int (1 : Int32))])) rfl rfl (hb hby d15_3) k) ?_
      refine Go.step (T' := s₁) (f' := (mkF m 7 #[.val (.ref ba), .val (.ref bb), .unset] [])) (fun t k => XS.icmpNo X0.here hx rfl (hb hby d15_4) rfl (teq (by decide : (1 : Int32) = (1 : Int32))).2 k) ?_
      refine Go.step (T' := s₁) (f' := (mkF m 8 #[.val (.ref ba), .val (.ref bb), .unset] [(.int (0 : Int32))])) (fun t k => XS.iconst X0.here hx rfl (hb hby d15_7) k) ?_
      refine Go.step (T' := s₁) (f' := (mkF m 9 #[.val (.ref ba), .val (.ref bb), .val (.int (0 : Int32))] [])) (fun t k => XS.istoreN X0.here hx rfl (hb hby d15_8) rfl (l' := #[.val (.ref ba), .val (.ref bb), .val (.int (0 : Int32))]) rfl k) ?_
      refine Go.step (T' := s₁) (f' := (mkF m 10 #[.val (.ref ba), .val (.ref bb), .val (.int (0 : Int32))] [(.int (0 : Int32))])) (fun t k => XS.iloadN X0.here hx rfl (hb hby d15_9) rfl k) ?_
      refine Go.step (T' := s₁) (f' := (mkF m 11 #[.val (.ref ba), .val (.ref bb), .val (.int (0 : Int32))] [(.ref ba), (.int (0 : Int32))])) (fun t k => XS.aloadN X0.here hx rfl (hb hby d15_10) rfl rfl k) ?_
      obtain ⟨ca372, Aa372, qa372, Sa372, Na372, Ha372, Ga372⟩ := id f368
      refine Go.step (T' := s₁) (f' := (mkF m 12 #[.val (.ref ba), .val (.ref bb), .val (.int (0 : Int32))] [(.int (1 : Int32)), (.int (0 : Int32))])) (fun t k => own_alen X0 hx hZ e0 Aa372 Sa372 Na372 (g := (mkF m 11 #[.val (.ref ba), .val (.ref bb), .val (.int (0 : Int32))] [(.ref ba), (.int (0 : Int32))])) rfl rfl (hb hby d15_11) k) ?_
      refine Go.step (T' := s₁) (f' := (mkF m 15 #[.val (.ref ba), .val (.ref bb), .val (.int (0 : Int32))] [])) (fun t k => XS.icmpNo X0.here hx rfl (hb hby d15_12) rfl (tlt (by decide : (0 : Int32) < (1 : Int32))).2.1 k) ?_
      refine Go.step (T' := s₁) (f' := (mkF m 16 #[.val (.ref ba), .val (.ref bb), .val (.int (0 : Int32))] [(.ref ba)])) (fun t k => XS.aloadN X0.here hx rfl (hb hby d15_15) rfl rfl k) ?_
      refine Go.step (T' := s₁) (f' := (mkF m 17 #[.val (.ref ba), .val (.ref bb), .val (.int (0 : Int32))] [(.int (0 : Int32)), (.ref ba)])) (fun t k => XS.iloadN X0.here hx rfl (hb hby d15_16) rfl k) ?_
      obtain ⟨ca373, Aa373, qa373, Sa373, Na373, Ha373, Ga373⟩ := id f368
      have ia373 : ¬ ((0 : Int32) < 0 ∨ ca373.slots.size ≤ ((0 : Int32)).toNatClampNeg) := inb_of Sa373 ⟨by decide, by decide⟩
      have va373 := Ha373.at (v := (.int x0)) ia373 rfl
      refine Go.step (T' := s₁) (f' := (mkF m 18 #[.val (.ref ba), .val (.ref bb), .val (.int (0 : Int32))] [(.int x0)])) (fun t k => X0.baloadBytes hx (j := (0 : Int32)) (v := (.int x0)) (by rw [e0]; exact Aa373.1) (State.isArrayOf_alike hZ.alike Aa373.2.1) Aa373.2.2 ia373 va373 (g := (mkF m 17 #[.val (.ref ba), .val (.ref bb), .val (.int (0 : Int32))] [(.int (0 : Int32)), (.ref ba)])) rfl rfl (hb hby d15_17) t k) ?_
      refine Go.step (T' := s₁) (f' := (mkF m 19 #[.val (.ref ba), .val (.ref bb), .val (.int (0 : Int32))] [(.ref bb), (.int x0)])) (fun t k => XS.aloadN X0.here hx rfl (hb hby d15_18) rfl rfl k) ?_
      refine Go.step (T' := s₁) (f' := (mkF m 20 #[.val (.ref ba), .val (.ref bb), .val (.int (0 : Int32))] [(.int (0 : Int32)), (.ref bb), (.int x0)])) (fun t k => XS.iloadN X0.here hx rfl (hb hby d15_19) rfl k) ?_
      obtain ⟨ca374, Aa374, qa374, Sa374, Na374, Ha374, Ga374⟩ := id f369
      have ia374 : ¬ ((0 : Int32) < 0 ∨ ca374.slots.size ≤ ((0 : Int32)).toNatClampNeg) := inb_of Sa374 ⟨by decide, by decide⟩
      have va374 := Ha374.at (v := (.int y0)) ia374 rfl
      refine Go.step (T' := s₁) (f' := (mkF m 21 #[.val (.ref ba), .val (.ref bb), .val (.int (0 : Int32))] [(.int y0), (.int x0)])) (fun t k => X0.baloadBytes hx (j := (0 : Int32)) (v := (.int y0)) (by rw [e0]; exact Aa374.1) (State.isArrayOf_alike hZ.alike Aa374.2.1) Aa374.2.2 ia374 va374 (g := (mkF m 20 #[.val (.ref ba), .val (.ref bb), .val (.int (0 : Int32))] [(.int (0 : Int32)), (.ref bb), (.int x0)])) rfl rfl (hb hby d15_20) t k) ?_
      by_cases hc375 : x0 = y0
      ·
        refine Go.step (T' := s₁) (f' := (mkF m 26 #[.val (.ref ba), .val (.ref bb), .val (.int (0 : Int32))] [])) (fun t k => XS.icmpYes X0.here hx rfl (pc0 := 21) (pc' := 26) rfl (hb hby d15_21) rfl (teq hc375).1 (by decide) (by decide) k) ?_
        refine Go.step (T' := s₁) (f' := (mkF m 29 #[.val (.ref ba), .val (.ref bb), .val (.int ((0 : Int32) + (1 : Int32)))] [])) (fun t k => XS.iinc X0.here hx rfl (hb hby d15_26) rfl (l' := #[.val (.ref ba), .val (.ref bb), .val (.int ((0 : Int32) + (1 : Int32)))]) rfl k) ?_
        rw [show ((0 : Int32) + (1 : Int32)) = (1 : Int32) from by decide]
        refine Go.step (T' := s₁) (f' := (mkF m 9 #[.val (.ref ba), .val (.ref bb), .val (.int (1 : Int32))] [])) (fun t k => XS.goto X0.here hx rfl (pc0 := 29) (pc' := 9) rfl (hb hby d15_29) (by decide) (by decide) k) ?_
        refine Go.step (T' := s₁) (f' := (mkF m 10 #[.val (.ref ba), .val (.ref bb), .val (.int (1 : Int32))] [(.int (1 : Int32))])) (fun t k => XS.iloadN X0.here hx rfl (hb hby d15_9) rfl k) ?_
        refine Go.step (T' := s₁) (f' := (mkF m 11 #[.val (.ref ba), .val (.ref bb), .val (.int (1 : Int32))] [(.ref ba), (.int (1 : Int32))])) (fun t k => XS.aloadN X0.here hx rfl (hb hby d15_10) rfl rfl k) ?_
        obtain ⟨ca376, Aa376, qa376, Sa376, Na376, Ha376, Ga376⟩ := id f368
        refine Go.step (T' := s₁) (f' := (mkF m 12 #[.val (.ref ba), .val (.ref bb), .val (.int (1 : Int32))] [(.int (1 : Int32)), (.int (1 : Int32))])) (fun t k => own_alen X0 hx hZ e0 Aa376 Sa376 Na376 (g := (mkF m 11 #[.val (.ref ba), .val (.ref bb), .val (.int (1 : Int32))] [(.ref ba), (.int (1 : Int32))])) rfl rfl (hb hby d15_11) k) ?_
        refine Go.step (T' := s₁) (f' := (mkF m 32 #[.val (.ref ba), .val (.ref bb), .val (.int (1 : Int32))] [])) (fun t k => XS.icmpYes X0.here hx rfl (pc0 := 12) (pc' := 32) rfl (hb hby d15_12) rfl (flt (by decide : ¬ ((1 : Int32) < (1 : Int32)))).2.1 (by decide) (by decide) k) ?_
        refine Go.step (T' := s₁) (f' := (mkF m 33 #[.val (.ref ba), .val (.ref bb), .val (.int (1 : Int32))] [(.int (1 : Int32))])) (fun t k => XS.iconst X0.here hx rfl (hb hby d15_32) k) ?_
        refine Go.retZ X0 hx hlk (t := .boolean) Bd.returns (by simp) (hb hby d15_33) e0 ?_ (by decide) (by decide)
        exact ⟨by simp [nar, hc375], N0, rfl⟩
      ·
        refine Go.step (T' := s₁) (f' := (mkF m 24 #[.val (.ref ba), .val (.ref bb), .val (.int (0 : Int32))] [])) (fun t k => XS.icmpNo X0.here hx rfl (hb hby d15_21) rfl (feq hc375).1 k) ?_
        refine Go.step (T' := s₁) (f' := (mkF m 25 #[.val (.ref ba), .val (.ref bb), .val (.int (0 : Int32))] [(.int (0 : Int32))])) (fun t k => XS.iconst X0.here hx rfl (hb hby d15_24) k) ?_
        refine Go.retZ X0 hx hlk (t := .boolean) Bd.returns (by simp) (hb hby d15_25) e0 ?_ (by decide) (by decide)
        exact ⟨by simp [nar, hc375], N0, rfl⟩
    ·
      have f377 : Arv Z h0 ba ka .byte (1 : Int32) [(.int x0)] (.int (0 : Int32)) := P0
      have f378 : Arv Z h0 bb kb .byte (2 : Int32) [(.int y0), (.int y1)] (.int (0 : Int32)) := P1
      refine Go.step (T' := s₁) (f' := (mkF m 1 #[.val (.ref ba), .val (.ref bb), .unset] [(.ref ba)])) (fun t k => XS.aloadN X0.here hx rfl (hb hby d15_0) rfl rfl k) ?_
      obtain ⟨ca379, Aa379, qa379, Sa379, Na379, Ha379, Ga379⟩ := id f377
      refine Go.step (T' := s₁) (f' := (mkF m 2 #[.val (.ref ba), .val (.ref bb), .unset] [(.int (1 : Int32))])) (fun t k => own_alen X0 hx hZ e0 Aa379 Sa379 Na379 (g := (mkF m 1 #[.val (.ref ba), .val (.ref bb), .unset] [(.ref ba)])) rfl rfl (hb hby d15_1) k) ?_
      refine Go.step (T' := s₁) (f' := (mkF m 3 #[.val (.ref ba), .val (.ref bb), .unset] [(.ref bb), (.int (1 : Int32))])) (fun t k => XS.aloadN X0.here hx rfl (hb hby d15_2) rfl rfl k) ?_
      obtain ⟨ca380, Aa380, qa380, Sa380, Na380, Ha380, Ga380⟩ := id f378
      refine Go.step (T' := s₁) (f' := (mkF m 4 #[.val (.ref ba), .val (.ref bb), .unset] [(.int (2 : Int32)), (.int (1 : Int32))])) (fun t k => own_alen X0 hx hZ e0 Aa380 Sa380 Na380 (g := (mkF m 3 #[.val (.ref ba), .val (.ref bb), .unset] [(.ref bb), (.int (1 : Int32))])) rfl rfl (hb hby d15_3) k) ?_
      refine Go.step (T' := s₁) (f' := (mkF m 34 #[.val (.ref ba), .val (.ref bb), .unset] [])) (fun t k => XS.icmpYes X0.here hx rfl (pc0 := 4) (pc' := 34) rfl (hb hby d15_4) rfl (feq (by decide : ¬ ((1 : Int32) = (2 : Int32)))).2 (by decide) (by decide) k) ?_
      refine Go.step (T' := s₁) (f' := (mkF m 35 #[.val (.ref ba), .val (.ref bb), .unset] [(.int (0 : Int32))])) (fun t k => XS.iconst X0.here hx rfl (hb hby d15_34) k) ?_
      refine Go.retZ X0 hx hlk (t := .boolean) Bd.returns (by simp) (hb hby d15_35) e0 ?_ (by decide) (by decide)
      exact ⟨by simp [nar], N0, rfl⟩
    ·
      have f381 : Arv Z h0 ba ka .byte (1 : Int32) [(.int x0)] (.int (0 : Int32)) := P0
      have f382 : Arv Z h0 bb kb .byte (3 : Int32) [(.int y0), (.int y1), (.int y2)] (.int (0 : Int32)) := P1
      refine Go.step (T' := s₁) (f' := (mkF m 1 #[.val (.ref ba), .val (.ref bb), .unset] [(.ref ba)])) (fun t k => XS.aloadN X0.here hx rfl (hb hby d15_0) rfl rfl k) ?_
      obtain ⟨ca383, Aa383, qa383, Sa383, Na383, Ha383, Ga383⟩ := id f381
      refine Go.step (T' := s₁) (f' := (mkF m 2 #[.val (.ref ba), .val (.ref bb), .unset] [(.int (1 : Int32))])) (fun t k => own_alen X0 hx hZ e0 Aa383 Sa383 Na383 (g := (mkF m 1 #[.val (.ref ba), .val (.ref bb), .unset] [(.ref ba)])) rfl rfl (hb hby d15_1) k) ?_
      refine Go.step (T' := s₁) (f' := (mkF m 3 #[.val (.ref ba), .val (.ref bb), .unset] [(.ref bb), (.int (1 : Int32))])) (fun t k => XS.aloadN X0.here hx rfl (hb hby d15_2) rfl rfl k) ?_
      obtain ⟨ca384, Aa384, qa384, Sa384, Na384, Ha384, Ga384⟩ := id f382
      refine Go.step (T' := s₁) (f' := (mkF m 4 #[.val (.ref ba), .val (.ref bb), .unset] [(.int (3 : Int32)), (.int (1 : Int32))])) (fun t k => own_alen X0 hx hZ e0 Aa384 Sa384 Na384 (g := (mkF m 3 #[.val (.ref ba), .val (.ref bb), .unset] [(.ref bb), (.int (1 : Int32))])) rfl rfl (hb hby d15_3) k) ?_
      refine Go.step (T' := s₁) (f' := (mkF m 34 #[.val (.ref ba), .val (.ref bb), .unset] [])) (fun t k => XS.icmpYes X0.here hx rfl (pc0 := 4) (pc' := 34) rfl (hb hby d15_4) rfl (feq (by decide : ¬ ((1 : Int32) = (3 : Int32)))).2 (by decide) (by decide) k) ?_
      refine Go.step (T' := s₁) (f' := (mkF m 35 #[.val (.ref ba), .val (.ref bb), .unset] [(.int (0 : Int32))])) (fun t k => XS.iconst X0.here hx rfl (hb hby d15_34) k) ?_
      refine Go.retZ X0 hx hlk (t := .boolean) Bd.returns (by simp) (hb hby d15_35) e0 ?_ (by decide) (by decide)
      exact ⟨by simp [nar], N0, rfl⟩
    ·
      exact absurd hly (by simp)
  ·
    rcases ys with _ | ⟨y0, _ | ⟨y1, _ | ⟨y2, _ | ⟨y3, ys⟩⟩⟩⟩
    ·
      have f385 : Arv Z h0 ba ka .byte (2 : Int32) [(.int x0), (.int x1)] (.int (0 : Int32)) := P0
      have f386 : Arv Z h0 bb kb .byte (0 : Int32) [] (.int (0 : Int32)) := P1
      refine Go.step (T' := s₁) (f' := (mkF m 1 #[.val (.ref ba), .val (.ref bb), .unset] [(.ref ba)])) (fun t k => XS.aloadN X0.here hx rfl (hb hby d15_0) rfl rfl k) ?_
      obtain ⟨ca387, Aa387, qa387, Sa387, Na387, Ha387, Ga387⟩ := id f385
      refine Go.step (T' := s₁) (f' := (mkF m 2 #[.val (.ref ba), .val (.ref bb), .unset] [(.int (2 : Int32))])) (fun t k => own_alen X0 hx hZ e0 Aa387 Sa387 Na387 (g := (mkF m 1 #[.val (.ref ba), .val (.ref bb), .unset] [(.ref ba)])) rfl rfl (hb hby d15_1) k) ?_
      refine Go.step (T' := s₁) (f' := (mkF m 3 #[.val (.ref ba), .val (.ref bb), .unset] [(.ref bb), (.int (2 : Int32))])) (fun t k => XS.aloadN X0.here hx rfl (hb hby d15_2) rfl rfl k) ?_
      obtain ⟨ca388, Aa388, qa388, Sa388, Na388, Ha388, Ga388⟩ := id f386
      refine Go.step (T' := s₁) (f' := (mkF m 4 #[.val (.ref ba), .val (.ref bb), .unset] [(.int (0 : Int32)), (.int (2 : Int32))])) (fun t k => own_alen X0 hx hZ e0 Aa388 Sa388 Na388 (g := (mkF m 3 #[.val (.ref ba), .val (.ref bb), .unset] [(.ref bb), (.int (2 : Int32))])) rfl rfl (hb hby d15_3) k) ?_
      refine Go.step (T' := s₁) (f' := (mkF m 34 #[.val (.ref ba), .val (.ref bb), .unset] [])) (fun t k => XS.icmpYes X0.here hx rfl (pc0 := 4) (pc' := 34) rfl (hb hby d15_4) rfl (feq (by decide : ¬ ((2 : Int32) = (0 : Int32)))).2 (by decide) (by decide) k) ?_
      refine Go.step (T' := s₁) (f' := (mkF m 35 #[.val (.ref ba), .val (.ref bb), .unset] [(.int (0 : Int32))])) (fun t k => XS.iconst X0.here hx rfl (hb hby d15_34) k) ?_
      refine Go.retZ X0 hx hlk (t := .boolean) Bd.returns (by simp) (hb hby d15_35) e0 ?_ (by decide) (by decide)
      exact ⟨by simp [nar], N0, rfl⟩
    ·
      have f389 : Arv Z h0 ba ka .byte (2 : Int32) [(.int x0), (.int x1)] (.int (0 : Int32)) := P0
      have f390 : Arv Z h0 bb kb .byte (1 : Int32) [(.int y0)] (.int (0 : Int32)) := P1
      refine Go.step (T' := s₁) (f' := (mkF m 1 #[.val (.ref ba), .val (.ref bb), .unset] [(.ref ba)])) (fun t k => XS.aloadN X0.here hx rfl (hb hby d15_0) rfl rfl k) ?_
      obtain ⟨ca391, Aa391, qa391, Sa391, Na391, Ha391, Ga391⟩ := id f389
      refine Go.step (T' := s₁) (f' := (mkF m 2 #[.val (.ref ba), .val (.ref bb), .unset] [(.int (2 : Int32))])) (fun t k => own_alen X0 hx hZ e0 Aa391 Sa391 Na391 (g := (mkF m 1 #[.val (.ref ba), .val (.ref bb), .unset] [(.ref ba)])) rfl rfl (hb hby d15_1) k) ?_
      refine Go.step (T' := s₁) (f' := (mkF m 3 #[.val (.ref ba), .val (.ref bb), .unset] [(.ref bb), (.int (2 : Int32))])) (fun t k => XS.aloadN X0.here hx rfl (hb hby d15_2) rfl rfl k) ?_
      obtain ⟨ca392, Aa392, qa392, Sa392, Na392, Ha392, Ga392⟩ := id f390
      refine Go.step (T' := s₁) (f' := (mkF m 4 #[.val (.ref ba), .val (.ref bb), .unset] [(.int (1 : Int32)), (.int (2 : Int32))])) (fun t k => own_alen X0 hx hZ e0 Aa392 Sa392 Na392 (g := (mkF m 3 #[.val (.ref ba), .val (.ref bb), .unset] [(.ref bb), (.int (2 : Int32))])) rfl rfl (hb hby d15_3) k) ?_
      refine Go.step (T' := s₁) (f' := (mkF m 34 #[.val (.ref ba), .val (.ref bb), .unset] [])) (fun t k => XS.icmpYes X0.here hx rfl (pc0 := 4) (pc' := 34) rfl (hb hby d15_4) rfl (feq (by decide : ¬ ((2 : Int32) = (1 : Int32)))).2 (by decide) (by decide) k) ?_
      refine Go.step (T' := s₁) (f' := (mkF m 35 #[.val (.ref ba), .val (.ref bb), .unset] [(.int (0 : Int32))])) (fun t k => XS.iconst X0.here hx rfl (hb hby d15_34) k) ?_
      refine Go.retZ X0 hx hlk (t := .boolean) Bd.returns (by simp) (hb hby d15_35) e0 ?_ (by decide) (by decide)
      exact ⟨by simp [nar], N0, rfl⟩
    ·
      have f393 : Arv Z h0 ba ka .byte (2 : Int32) [(.int x0), (.int x1)] (.int (0 : Int32)) := P0
      have f394 : Arv Z h0 bb kb .byte (2 : Int32) [(.int y0), (.int y1)] (.int (0 : Int32)) := P1
      refine Go.step (T' := s₁) (f' := (mkF m 1 #[.val (.ref ba), .val (.ref bb), .unset] [(.ref ba)])) (fun t k => XS.aloadN X0.here hx rfl (hb hby d15_0) rfl rfl k) ?_
      obtain ⟨ca395, Aa395, qa395, Sa395, Na395, Ha395, Ga395⟩ := id f393
      refine Go.step (T' := s₁) (f' := (mkF m 2 #[.val (.ref ba), .val (.ref bb), .unset] [(.int (2 : Int32))])) (fun t k => own_alen X0 hx hZ e0 Aa395 Sa395 Na395 (g := (mkF m 1 #[.val (.ref ba), .val (.ref bb), .unset] [(.ref ba)])) rfl rfl (hb hby d15_1) k) ?_
      refine Go.step (T' := s₁) (f' := (mkF m 3 #[.val (.ref ba), .val (.ref bb), .unset] [(.ref bb), (.int (2 : Int32))])) (fun t k => XS.aloadN X0.here hx rfl (hb hby d15_2) rfl rfl k) ?_
      obtain ⟨ca396, Aa396, qa396, Sa396, Na396, Ha396, Ga396⟩ := id f394
      refine Go.step (T' := s₁) (f' := (mkF m 4 #[.val (.ref ba), .val (.ref bb), .unset] [(.int (2 : Int32)), (.int (2 : Int32))])) (fun t k => own_alen X0 hx hZ e0 Aa396 Sa396 Na396 (g := (mkF m 3 #[.val (.ref ba), .val (.ref bb), .unset] [(.ref bb), (.int (2 : Int32))])) rfl rfl (hb hby d15_3) k) ?_
      refine Go.step (T' := s₁) (f' := (mkF m 7 #[.val (.ref ba), .val (.ref bb), .unset] [])) (fun t k => XS.icmpNo X0.here hx rfl (hb hby d15_4) rfl (teq (by decide : (2 : Int32) = (2 : Int32))).2 k) ?_
      refine Go.step (T' := s₁) (f' := (mkF m 8 #[.val (.ref ba), .val (.ref bb), .unset] [(.int (0 : Int32))])) (fun t k => XS.iconst X0.here hx rfl (hb hby d15_7) k) ?_
      refine Go.step (T' := s₁) (f' := (mkF m 9 #[.val (.ref ba), .val (.ref bb), .val (.int (0 : Int32))] [])) (fun t k => XS.istoreN X0.here hx rfl (hb hby d15_8) rfl (l' := #[.val (.ref ba), .val (.ref bb), .val (.int (0 : Int32))]) rfl k) ?_
      refine Go.step (T' := s₁) (f' := (mkF m 10 #[.val (.ref ba), .val (.ref bb), .val (.int (0 : Int32))] [(.int (0 : Int32))])) (fun t k => XS.iloadN X0.here hx rfl (hb hby d15_9) rfl k) ?_
      refine Go.step (T' := s₁) (f' := (mkF m 11 #[.val (.ref ba), .val (.ref bb), .val (.int (0 : Int32))] [(.ref ba), (.int (0 : Int32))])) (fun t k => XS.aloadN X0.here hx rfl (hb hby d15_10) rfl rfl k) ?_
      obtain ⟨ca397, Aa397, qa397, Sa397, Na397, Ha397, Ga397⟩ := id f393
      refine Go.step (T' := s₁) (f' := (mkF m 12 #[.val (.ref ba), .val (.ref bb), .val (.int (0 : Int32))] [(.int (2 : Int32)), (.int (0 : Int32))])) (fun t k => own_alen X0 hx hZ e0 Aa397 Sa397 Na397 (g := (mkF m 11 #[.val (.ref ba), .val (.ref bb), .val (.int (0 : Int32))] [(.ref ba), (.int (0 : Int32))])) rfl rfl (hb hby d15_11) k) ?_
      refine Go.step (T' := s₁) (f' := (mkF m 15 #[.val (.ref ba), .val (.ref bb), .val (.int (0 : Int32))] [])) (fun t k => XS.icmpNo X0.here hx rfl (hb hby d15_12) rfl (tlt (by decide : (0 : Int32) < (2 : Int32))).2.1 k) ?_
      refine Go.step (T' := s₁) (f' := (mkF m 16 #[.val (.ref ba), .val (.ref bb), .val (.int (0 : Int32))] [(.ref ba)])) (fun t k => XS.aloadN X0.here hx rfl (hb hby d15_15) rfl rfl k) ?_
      refine Go.step (T' := s₁) (f' := (mkF m 17 #[.val (.ref ba), .val (.ref bb), .val (.int (0 : Int32))] [(.int (0 : Int32)), (.ref ba)])) (fun t k => XS.iloadN X0.here hx rfl (hb hby d15_16) rfl k) ?_
      obtain ⟨ca398, Aa398, qa398, Sa398, Na398, Ha398, Ga398⟩ := id f393
      have ia398 : ¬ ((0 : Int32) < 0 ∨ ca398.slots.size ≤ ((0 : Int32)).toNatClampNeg) := inb_of Sa398 ⟨by decide, by decide⟩
      have va398 := Ha398.at (v := (.int x0)) ia398 rfl
      refine Go.step (T' := s₁) (f' := (mkF m 18 #[.val (.ref ba), .val (.ref bb), .val (.int (0 : Int32))] [(.int x0)])) (fun t k => X0.baloadBytes hx (j := (0 : Int32)) (v := (.int x0)) (by rw [e0]; exact Aa398.1) (State.isArrayOf_alike hZ.alike Aa398.2.1) Aa398.2.2 ia398 va398 (g := (mkF m 17 #[.val (.ref ba), .val (.ref bb), .val (.int (0 : Int32))] [(.int (0 : Int32)), (.ref ba)])) rfl rfl (hb hby d15_17) t k) ?_
      refine Go.step (T' := s₁) (f' := (mkF m 19 #[.val (.ref ba), .val (.ref bb), .val (.int (0 : Int32))] [(.ref bb), (.int x0)])) (fun t k => XS.aloadN X0.here hx rfl (hb hby d15_18) rfl rfl k) ?_
      refine Go.step (T' := s₁) (f' := (mkF m 20 #[.val (.ref ba), .val (.ref bb), .val (.int (0 : Int32))] [(.int (0 : Int32)), (.ref bb), (.int x0)])) (fun t k => XS.iloadN X0.here hx rfl (hb hby d15_19) rfl k) ?_
      obtain ⟨ca399, Aa399, qa399, Sa399, Na399, Ha399, Ga399⟩ := id f394
      have ia399 : ¬ ((0 : Int32) < 0 ∨ ca399.slots.size ≤ ((0 : Int32)).toNatClampNeg) := inb_of Sa399 ⟨by decide, by decide⟩
      have va399 := Ha399.at (v := (.int y0)) ia399 rfl
      refine Go.step (T' := s₁) (f' := (mkF m 21 #[.val (.ref ba), .val (.ref bb), .val (.int (0 : Int32))] [(.int y0), (.int x0)])) (fun t k => X0.baloadBytes hx (j := (0 : Int32)) (v := (.int y0)) (by rw [e0]; exact Aa399.1) (State.isArrayOf_alike hZ.alike Aa399.2.1) Aa399.2.2 ia399 va399 (g := (mkF m 20 #[.val (.ref ba), .val (.ref bb), .val (.int (0 : Int32))] [(.int (0 : Int32)), (.ref bb), (.int x0)])) rfl rfl (hb hby d15_20) t k) ?_
      by_cases hc400 : x0 = y0
      ·
        refine Go.step (T' := s₁) (f' := (mkF m 26 #[.val (.ref ba), .val (.ref bb), .val (.int (0 : Int32))] [])) (fun t k => XS.icmpYes X0.here hx rfl (pc0 := 21) (pc' := 26) rfl (hb hby d15_21) rfl (teq hc400).1 (by decide) (by decide) k) ?_
        refine Go.step (T' := s₁) (f' := (mkF m 29 #[.val (.ref ba), .val (.ref bb), .val (.int ((0 : Int32) + (1 : Int32)))] [])) (fun t k => XS.iinc X0.here hx rfl (hb hby d15_26) rfl (l' := #[.val (.ref ba), .val (.ref bb), .val (.int ((0 : Int32) + (1 : Int32)))]) rfl k) ?_
        rw [show ((0 : Int32) + (1 : Int32)) = (1 : Int32) from by decide]
        refine Go.step (T' := s₁) (f' := (mkF m 9 #[.val (.ref ba), .val (.ref bb), .val (.int (1 : Int32))] [])) (fun t k => XS.goto X0.here hx rfl (pc0 := 29) (pc' := 9) rfl (hb hby d15_29) (by decide) (by decide) k) ?_
        refine Go.step (T' := s₁) (f' := (mkF m 10 #[.val (.ref ba), .val (.ref bb), .val (.int (1 : Int32))] [(.int (1 : Int32))])) (fun t k => XS.iloadN X0.here hx rfl (hb hby d15_9) rfl k) ?_
        refine Go.step (T' := s₁) (f' := (mkF m 11 #[.val (.ref ba), .val (.ref bb), .val (.int (1 : Int32))] [(.ref ba), (.int (1 : Int32))])) (fun t k => XS.aloadN X0.here hx rfl (hb hby d15_10) rfl rfl k) ?_
        obtain ⟨ca401, Aa401, qa401, Sa401, Na401, Ha401, Ga401⟩ := id f393
        refine Go.step (T' := s₁) (f' := (mkF m 12 #[.val (.ref ba), .val (.ref bb), .val (.int (1 : Int32))] [(.int (2 : Int32)), (.int (1 : Int32))])) (fun t k => own_alen X0 hx hZ e0 Aa401 Sa401 Na401 (g := (mkF m 11 #[.val (.ref ba), .val (.ref bb), .val (.int (1 : Int32))] [(.ref ba), (.int (1 : Int32))])) rfl rfl (hb hby d15_11) k) ?_
        refine Go.step (T' := s₁) (f' := (mkF m 15 #[.val (.ref ba), .val (.ref bb), .val (.int (1 : Int32))] [])) (fun t k => XS.icmpNo X0.here hx rfl (hb hby d15_12) rfl (tlt (by decide : (1 : Int32) < (2 : Int32))).2.1 k) ?_
        refine Go.step (T' := s₁) (f' := (mkF m 16 #[.val (.ref ba), .val (.ref bb), .val (.int (1 : Int32))] [(.ref ba)])) (fun t k => XS.aloadN X0.here hx rfl (hb hby d15_15) rfl rfl k) ?_
        refine Go.step (T' := s₁) (f' := (mkF m 17 #[.val (.ref ba), .val (.ref bb), .val (.int (1 : Int32))] [(.int (1 : Int32)), (.ref ba)])) (fun t k => XS.iloadN X0.here hx rfl (hb hby d15_16) rfl k) ?_
        obtain ⟨ca402, Aa402, qa402, Sa402, Na402, Ha402, Ga402⟩ := id f393
        have ia402 : ¬ ((1 : Int32) < 0 ∨ ca402.slots.size ≤ ((1 : Int32)).toNatClampNeg) := inb_of Sa402 ⟨by decide, by decide⟩
        have va402 := Ha402.at (v := (.int x1)) ia402 rfl
        refine Go.step (T' := s₁) (f' := (mkF m 18 #[.val (.ref ba), .val (.ref bb), .val (.int (1 : Int32))] [(.int x1)])) (fun t k => X0.baloadBytes hx (j := (1 : Int32)) (v := (.int x1)) (by rw [e0]; exact Aa402.1) (State.isArrayOf_alike hZ.alike Aa402.2.1) Aa402.2.2 ia402 va402 (g := (mkF m 17 #[.val (.ref ba), .val (.ref bb), .val (.int (1 : Int32))] [(.int (1 : Int32)), (.ref ba)])) rfl rfl (hb hby d15_17) t k) ?_
        refine Go.step (T' := s₁) (f' := (mkF m 19 #[.val (.ref ba), .val (.ref bb), .val (.int (1 : Int32))] [(.ref bb), (.int x1)])) (fun t k => XS.aloadN X0.here hx rfl (hb hby d15_18) rfl rfl k) ?_
        refine Go.step (T' := s₁) (f' := (mkF m 20 #[.val (.ref ba), .val (.ref bb), .val (.int (1 : Int32))] [(.int (1 : Int32)), (.ref bb), (.int x1)])) (fun t k => XS.iloadN X0.here hx rfl (hb hby d15_19) rfl k) ?_
        obtain ⟨ca403, Aa403, qa403, Sa403, Na403, Ha403, Ga403⟩ := id f394
        have ia403 : ¬ ((1 : Int32) < 0 ∨ ca403.slots.size ≤ ((1 : Int32)).toNatClampNeg) := inb_of Sa403 ⟨by decide, by decide⟩
        have va403 := Ha403.at (v := (.int y1)) ia403 rfl
        refine Go.step (T' := s₁) (f' := (mkF m 21 #[.val (.ref ba), .val (.ref bb), .val (.int (1 : Int32))] [(.int y1), (.int x1)])) (fun t k => X0.baloadBytes hx (j := (1 : Int32)) (v := (.int y1)) (by rw [e0]; exact Aa403.1) (State.isArrayOf_alike hZ.alike Aa403.2.1) Aa403.2.2 ia403 va403 (g := (mkF m 20 #[.val (.ref ba), .val (.ref bb), .val (.int (1 : Int32))] [(.int (1 : Int32)), (.ref bb), (.int x1)])) rfl rfl (hb hby d15_20) t k) ?_
        by_cases hc404 : x1 = y1
        ·
          refine Go.step (T' := s₁) (f' := (mkF m 26 #[.val (.ref ba), .val (.ref bb), .val (.int (1 : Int32))] [])) (fun t k => XS.icmpYes X0.here hx rfl (pc0 := 21) (pc' := 26) rfl (hb hby d15_21) rfl (teq hc404).1 (by decide) (by decide) k) ?_
          refine Go.step (T' := s₁) (f' := (mkF m 29 #[.val (.ref ba), .val (.ref bb), .val (.int ((1 : Int32) + (1 : Int32)))] [])) (fun t k => XS.iinc X0.here hx rfl (hb hby d15_26) rfl (l' := #[.val (.ref ba), .val (.ref bb), .val (.int ((1 : Int32) + (1 : Int32)))]) rfl k) ?_
          rw [show ((1 : Int32) + (1 : Int32)) = (2 : Int32) from by decide]
          refine Go.step (T' := s₁) (f' := (mkF m 9 #[.val (.ref ba), .val (.ref bb), .val (.int (2 : Int32))] [])) (fun t k => XS.goto X0.here hx rfl (pc0 := 29) (pc' := 9) rfl (hb hby d15_29) (by decide) (by decide) k) ?_
          refine Go.step (T' := s₁) (f' := (mkF m 10 #[.val (.ref ba), .val (.ref bb), .val (.int (2 : Int32))] [(.int (2 : Int32))])) (fun t k => XS.iloadN X0.here hx rfl (hb hby d15_9) rfl k) ?_
          refine Go.step (T' := s₁) (f' := (mkF m 11 #[.val (.ref ba), .val (.ref bb), .val (.int (2 : Int32))] [(.ref ba), (.int (2 : Int32))])) (fun t k => XS.aloadN X0.here hx rfl (hb hby d15_10) rfl rfl k) ?_
          obtain ⟨ca405, Aa405, qa405, Sa405, Na405, Ha405, Ga405⟩ := id f393
          refine Go.step (T' := s₁) (f' := (mkF m 12 #[.val (.ref ba), .val (.ref bb), .val (.int (2 : Int32))] [(.int (2 : Int32)), (.int (2 : Int32))])) (fun t k => own_alen X0 hx hZ e0 Aa405 Sa405 Na405 (g := (mkF m 11 #[.val (.ref ba), .val (.ref bb), .val (.int (2 : Int32))] [(.ref ba), (.int (2 : Int32))])) rfl rfl (hb hby d15_11) k) ?_
          refine Go.step (T' := s₁) (f' := (mkF m 32 #[.val (.ref ba), .val (.ref bb), .val (.int (2 : Int32))] [])) (fun t k => XS.icmpYes X0.here hx rfl (pc0 := 12) (pc' := 32) rfl (hb hby d15_12) rfl (flt (by decide : ¬ ((2 : Int32) < (2 : Int32)))).2.1 (by decide) (by decide) k) ?_
          refine Go.step (T' := s₁) (f' := (mkF m 33 #[.val (.ref ba), .val (.ref bb), .val (.int (2 : Int32))] [(.int (1 : Int32))])) (fun t k => XS.iconst X0.here hx rfl (hb hby d15_32) k) ?_
          refine Go.retZ X0 hx hlk (t := .boolean) Bd.returns (by simp) (hb hby d15_33) e0 ?_ (by decide) (by decide)
          exact ⟨by simp [nar, hc400, hc404], N0, rfl⟩
        ·
          refine Go.step (T' := s₁) (f' := (mkF m 24 #[.val (.ref ba), .val (.ref bb), .val (.int (1 : Int32))] [])) (fun t k => XS.icmpNo X0.here hx rfl (hb hby d15_21) rfl (feq hc404).1 k) ?_
          refine Go.step (T' := s₁) (f' := (mkF m 25 #[.val (.ref ba), .val (.ref bb), .val (.int (1 : Int32))] [(.int (0 : Int32))])) (fun t k => XS.iconst X0.here hx rfl (hb hby d15_24) k) ?_
          refine Go.retZ X0 hx hlk (t := .boolean) Bd.returns (by simp) (hb hby d15_25) e0 ?_ (by decide) (by decide)
          exact ⟨by simp [nar, hc400, hc404], N0, rfl⟩
      ·
        refine Go.step (T' := s₁) (f' := (mkF m 24 #[.val (.ref ba), .val (.ref bb), .val (.int (0 : Int32))] [])) (fun t k => XS.icmpNo X0.here hx rfl (hb hby d15_21) rfl (feq hc400).1 k) ?_
        refine Go.step (T' := s₁) (f' := (mkF m 25 #[.val (.ref ba), .val (.ref bb), .val (.int (0 : Int32))] [(.int (0 : Int32))])) (fun t k => XS.iconst X0.here hx rfl (hb hby d15_24) k) ?_
        refine Go.retZ X0 hx hlk (t := .boolean) Bd.returns (by simp) (hb hby d15_25) e0 ?_ (by decide) (by decide)
        exact ⟨by simp [nar, hc400], N0, rfl⟩
    ·
      have f406 : Arv Z h0 ba ka .byte (2 : Int32) [(.int x0), (.int x1)] (.int (0 : Int32)) := P0
      have f407 : Arv Z h0 bb kb .byte (3 : Int32) [(.int y0), (.int y1), (.int y2)] (.int (0 : Int32)) := P1
      refine Go.step (T' := s₁) (f' := (mkF m 1 #[.val (.ref ba), .val (.ref bb), .unset] [(.ref ba)])) (fun t k => XS.aloadN X0.here hx rfl (hb hby d15_0) rfl rfl k) ?_
      obtain ⟨ca408, Aa408, qa408, Sa408, Na408, Ha408, Ga408⟩ := id f406
      refine Go.step (T' := s₁) (f' := (mkF m 2 #[.val (.ref ba), .val (.ref bb), .unset] [(.int (2 : Int32))])) (fun t k => own_alen X0 hx hZ e0 Aa408 Sa408 Na408 (g := (mkF m 1 #[.val (.ref ba), .val (.ref bb), .unset] [(.ref ba)])) rfl rfl (hb hby d15_1) k) ?_
      refine Go.step (T' := s₁) (f' := (mkF m 3 #[.val (.ref ba), .val (.ref bb), .unset] [(.ref bb), (.int (2 : Int32))])) (fun t k => XS.aloadN X0.here hx rfl (hb hby d15_2) rfl rfl k) ?_
      obtain ⟨ca409, Aa409, qa409, Sa409, Na409, Ha409, Ga409⟩ := id f407
      refine Go.step (T' := s₁) (f' := (mkF m 4 #[.val (.ref ba), .val (.ref bb), .unset] [(.int (3 : Int32)), (.int (2 : Int32))])) (fun t k => own_alen X0 hx hZ e0 Aa409 Sa409 Na409 (g := (mkF m 3 #[.val (.ref ba), .val (.ref bb), .unset] [(.ref bb), (.int (2 : Int32))])) rfl rfl (hb hby d15_3) k) ?_
      refine Go.step (T' := s₁) (f' := (mkF m 34 #[.val (.ref ba), .val (.ref bb), .unset] [])) (fun t k => XS.icmpYes X0.here hx rfl (pc0 := 4) (pc' := 34) rfl (hb hby d15_4) rfl (feq (by decide : ¬ ((2 : Int32) = (3 : Int32)))).2 (by decide) (by decide) k) ?_
      refine Go.step (T' := s₁) (f' := (mkF m 35 #[.val (.ref ba), .val (.ref bb), .unset] [(.int (0 : Int32))])) (fun t k => XS.iconst X0.here hx rfl (hb hby d15_34) k) ?_
      refine Go.retZ X0 hx hlk (t := .boolean) Bd.returns (by simp) (hb hby d15_35) e0 ?_ (by decide) (by decide)
      exact ⟨by simp [nar], N0, rfl⟩
    ·
      exact absurd hly (by simp)
  ·
    rcases ys with _ | ⟨y0, _ | ⟨y1, _ | ⟨y2, _ | ⟨y3, ys⟩⟩⟩⟩
    ·
      have f410 : Arv Z h0 ba ka .byte (3 : Int32) [(.int x0), (.int x1), (.int x2)] (.int (0 : Int32)) := P0
      have f411 : Arv Z h0 bb kb .byte (0 : Int32) [] (.int (0 : Int32)) := P1
      refine Go.step (T' := s₁) (f' := (mkF m 1 #[.val (.ref ba), .val (.ref bb), .unset] [(.ref ba)])) (fun t k => XS.aloadN X0.here hx rfl (hb hby d15_0) rfl rfl k) ?_
      obtain ⟨ca412, Aa412, qa412, Sa412, Na412, Ha412, Ga412⟩ := id f410
      refine Go.step (T' := s₁) (f' := (mkF m 2 #[.val (.ref ba), .val (.ref bb), .unset] [(.int (3 : Int32))])) (fun t k => own_alen X0 hx hZ e0 Aa412 Sa412 Na412 (g := (mkF m 1 #[.val (.ref ba), .val (.ref bb), .unset] [(.ref ba)])) rfl rfl (hb hby d15_1) k) ?_
      refine Go.step (T' := s₁) (f' := (mkF m 3 #[.val (.ref ba), .val (.ref bb), .unset] [(.ref bb), (.int (3 : Int32))])) (fun t k => XS.aloadN X0.here hx rfl (hb hby d15_2) rfl rfl k) ?_
      obtain ⟨ca413, Aa413, qa413, Sa413, Na413, Ha413, Ga413⟩ := id f411
      refine Go.step (T' := s₁) (f' := (mkF m 4 #[.val (.ref ba), .val (.ref bb), .unset] [(.int (0 : Int32)), (.int (3 : Int32))])) (fun t k => own_alen X0 hx hZ e0 Aa413 Sa413 Na413 (g := (mkF m 3 #[.val (.ref ba), .val (.ref bb), .unset] [(.ref bb), (.int (3 : Int32))])) rfl rfl (hb hby d15_3) k) ?_
      refine Go.step (T' := s₁) (f' := (mkF m 34 #[.val (.ref ba), .val (.ref bb), .unset] [])) (fun t k => XS.icmpYes X0.here hx rfl (pc0 := 4) (pc' := 34) rfl (hb hby d15_4) rfl (feq (by decide : ¬ ((3 : Int32) = (0 : Int32)))).2 (by decide) (by decide) k) ?_
      refine Go.step (T' := s₁) (f' := (mkF m 35 #[.val (.ref ba), .val (.ref bb), .unset] [(.int (0 : Int32))])) (fun t k => XS.iconst X0.here hx rfl (hb hby d15_34) k) ?_
      refine Go.retZ X0 hx hlk (t := .boolean) Bd.returns (by simp) (hb hby d15_35) e0 ?_ (by decide) (by decide)
      exact ⟨by simp [nar], N0, rfl⟩
    ·
      have f414 : Arv Z h0 ba ka .byte (3 : Int32) [(.int x0), (.int x1), (.int x2)] (.int (0 : Int32)) := P0
      have f415 : Arv Z h0 bb kb .byte (1 : Int32) [(.int y0)] (.int (0 : Int32)) := P1
      refine Go.step (T' := s₁) (f' := (mkF m 1 #[.val (.ref ba), .val (.ref bb), .unset] [(.ref ba)])) (fun t k => XS.aloadN X0.here hx rfl (hb hby d15_0) rfl rfl k) ?_
      obtain ⟨ca416, Aa416, qa416, Sa416, Na416, Ha416, Ga416⟩ := id f414
      refine Go.step (T' := s₁) (f' := (mkF m 2 #[.val (.ref ba), .val (.ref bb), .unset] [(.int (3 : Int32))])) (fun t k => own_alen X0 hx hZ e0 Aa416 Sa416 Na416 (g := (mkF m 1 #[.val (.ref ba), .val (.ref bb), .unset] [(.ref ba)])) rfl rfl (hb hby d15_1) k) ?_
      refine Go.step (T' := s₁) (f' := (mkF m 3 #[.val (.ref ba), .val (.ref bb), .unset] [(.ref bb), (.int (3 : Int32))])) (fun t k => XS.aloadN X0.here hx rfl (hb hby d15_2) rfl rfl k) ?_
      obtain ⟨ca417, Aa417, qa417, Sa417, Na417, Ha417, Ga417⟩ := id f415
      refine Go.step (T' := s₁) (f' := (mkF m 4 #[.val (.ref ba), .val (.ref bb), .unset] [(.int (1 : Int32)), (.int (3 : Int32))])) (fun t k => own_alen X0 hx hZ e0 Aa417 Sa417 Na417 (g := (mkF m 3 #[.val (.ref ba), .val (.ref bb), .unset] [(.ref bb), (.int (3 : Int32))])) rfl rfl (hb hby d15_3) k) ?_
      refine Go.step (T' := s₁) (f' := (mkF m 34 #[.val (.ref ba), .val (.ref bb), .unset] [])) (fun t k => XS.icmpYes X0.here hx rfl (pc0 := 4) (pc' := 34) rfl (hb hby d15_4) rfl (feq (by decide : ¬ ((3 : Int32) = (1 : Int32)))).2 (by decide) (by decide) k) ?_
      refine Go.step (T' := s₁) (f' := (mkF m 35 #[.val (.ref ba), .val (.ref bb), .unset] [(.int (0 : Int32))])) (fun t k => XS.iconst X0.here hx rfl (hb hby d15_34) k) ?_
      refine Go.retZ X0 hx hlk (t := .boolean) Bd.returns (by simp) (hb hby d15_35) e0 ?_ (by decide) (by decide)
      exact ⟨by simp [nar], N0, rfl⟩
    ·
      have f418 : Arv Z h0 ba ka .byte (3 : Int32) [(.int x0), (.int x1), (.int x2)] (.int (0 : Int32)) := P0
      have f419 : Arv Z h0 bb kb .byte (2 : Int32) [(.int y0), (.int y1)] (.int (0 : Int32)) := P1
      refine Go.step (T' := s₁) (f' := (mkF m 1 #[.val (.ref ba), .val (.ref bb), .unset] [(.ref ba)])) (fun t k => XS.aloadN X0.here hx rfl (hb hby d15_0) rfl rfl k) ?_
      obtain ⟨ca420, Aa420, qa420, Sa420, Na420, Ha420, Ga420⟩ := id f418
      refine Go.step (T' := s₁) (f' := (mkF m 2 #[.val (.ref ba), .val (.ref bb), .unset] [(.int (3 : Int32))])) (fun t k => own_alen X0 hx hZ e0 Aa420 Sa420 Na420 (g := (mkF m 1 #[.val (.ref ba), .val (.ref bb), .unset] [(.ref ba)])) rfl rfl (hb hby d15_1) k) ?_
      refine Go.step (T' := s₁) (f' := (mkF m 3 #[.val (.ref ba), .val (.ref bb), .unset] [(.ref bb), (.int (3 : Int32))])) (fun t k => XS.aloadN X0.here hx rfl (hb hby d15_2) rfl rfl k) ?_
      obtain ⟨ca421, Aa421, qa421, Sa421, Na421, Ha421, Ga421⟩ := id f419
      refine Go.step (T' := s₁) (f' := (mkF m 4 #[.val (.ref ba), .val (.ref bb), .unset] [(.int (2 : Int32)), (.int (3 : Int32))])) (fun t k => own_alen X0 hx hZ e0 Aa421 Sa421 Na421 (g := (mkF m 3 #[.val (.ref ba), .val (.ref bb), .unset] [(.ref bb), (.int (3 : Int32))])) rfl rfl (hb hby d15_3) k) ?_
      refine Go.step (T' := s₁) (f' := (mkF m 34 #[.val (.ref ba), .val (.ref bb), .unset] [])) (fun t k => XS.icmpYes X0.here hx rfl (pc0 := 4) (pc' := 34) rfl (hb hby d15_4) rfl (feq (by decide : ¬ ((3 : Int32) = (2 : Int32)))).2 (by decide) (by decide) k) ?_
      refine Go.step (T' := s₁) (f' := (mkF m 35 #[.val (.ref ba), .val (.ref bb), .unset] [(.int (0 : Int32))])) (fun t k => XS.iconst X0.here hx rfl (hb hby d15_34) k) ?_
      refine Go.retZ X0 hx hlk (t := .boolean) Bd.returns (by simp) (hb hby d15_35) e0 ?_ (by decide) (by decide)
      exact ⟨by simp [nar], N0, rfl⟩
    ·
      have f422 : Arv Z h0 ba ka .byte (3 : Int32) [(.int x0), (.int x1), (.int x2)] (.int (0 : Int32)) := P0
      have f423 : Arv Z h0 bb kb .byte (3 : Int32) [(.int y0), (.int y1), (.int y2)] (.int (0 : Int32)) := P1
      refine Go.step (T' := s₁) (f' := (mkF m 1 #[.val (.ref ba), .val (.ref bb), .unset] [(.ref ba)])) (fun t k => XS.aloadN X0.here hx rfl (hb hby d15_0) rfl rfl k) ?_
      obtain ⟨ca424, Aa424, qa424, Sa424, Na424, Ha424, Ga424⟩ := id f422
      refine Go.step (T' := s₁) (f' := (mkF m 2 #[.val (.ref ba), .val (.ref bb), .unset] [(.int (3 : Int32))])) (fun t k => own_alen X0 hx hZ e0 Aa424 Sa424 Na424 (g := (mkF m 1 #[.val (.ref ba), .val (.ref bb), .unset] [(.ref ba)])) rfl rfl (hb hby d15_1) k) ?_
      refine Go.step (T' := s₁) (f' := (mkF m 3 #[.val (.ref ba), .val (.ref bb), .unset] [(.ref bb), (.int (3 : Int32))])) (fun t k => XS.aloadN X0.here hx rfl (hb hby d15_2) rfl rfl k) ?_
      obtain ⟨ca425, Aa425, qa425, Sa425, Na425, Ha425, Ga425⟩ := id f423
      refine Go.step (T' := s₁) (f' := (mkF m 4 #[.val (.ref ba), .val (.ref bb), .unset] [(.int (3 : Int32)), (.int (3 : Int32))])) (fun t k => own_alen X0 hx hZ e0 Aa425 Sa425 Na425 (g := (mkF m 3 #[.val (.ref ba), .val (.ref bb), .unset] [(.ref bb), (.int (3 : Int32))])) rfl rfl (hb hby d15_3) k) ?_
      refine Go.step (T' := s₁) (f' := (mkF m 7 #[.val (.ref ba), .val (.ref bb), .unset] [])) (fun t k => XS.icmpNo X0.here hx rfl (hb hby d15_4) rfl (teq (by decide : (3 : Int32) = (3 : Int32))).2 k) ?_
      refine Go.step (T' := s₁) (f' := (mkF m 8 #[.val (.ref ba), .val (.ref bb), .unset] [(.int (0 : Int32))])) (fun t k => XS.iconst X0.here hx rfl (hb hby d15_7) k) ?_
      refine Go.step (T' := s₁) (f' := (mkF m 9 #[.val (.ref ba), .val (.ref bb), .val (.int (0 : Int32))] [])) (fun t k => XS.istoreN X0.here hx rfl (hb hby d15_8) rfl (l' := #[.val (.ref ba), .val (.ref bb), .val (.int (0 : Int32))]) rfl k) ?_
      refine Go.step (T' := s₁) (f' := (mkF m 10 #[.val (.ref ba), .val (.ref bb), .val (.int (0 : Int32))] [(.int (0 : Int32))])) (fun t k => XS.iloadN X0.here hx rfl (hb hby d15_9) rfl k) ?_
      refine Go.step (T' := s₁) (f' := (mkF m 11 #[.val (.ref ba), .val (.ref bb), .val (.int (0 : Int32))] [(.ref ba), (.int (0 : Int32))])) (fun t k => XS.aloadN X0.here hx rfl (hb hby d15_10) rfl rfl k) ?_
      obtain ⟨ca426, Aa426, qa426, Sa426, Na426, Ha426, Ga426⟩ := id f422
      refine Go.step (T' := s₁) (f' := (mkF m 12 #[.val (.ref ba), .val (.ref bb), .val (.int (0 : Int32))] [(.int (3 : Int32)), (.int (0 : Int32))])) (fun t k => own_alen X0 hx hZ e0 Aa426 Sa426 Na426 (g := (mkF m 11 #[.val (.ref ba), .val (.ref bb), .val (.int (0 : Int32))] [(.ref ba), (.int (0 : Int32))])) rfl rfl (hb hby d15_11) k) ?_
      refine Go.step (T' := s₁) (f' := (mkF m 15 #[.val (.ref ba), .val (.ref bb), .val (.int (0 : Int32))] [])) (fun t k => XS.icmpNo X0.here hx rfl (hb hby d15_12) rfl (tlt (by decide : (0 : Int32) < (3 : Int32))).2.1 k) ?_
      refine Go.step (T' := s₁) (f' := (mkF m 16 #[.val (.ref ba), .val (.ref bb), .val (.int (0 : Int32))] [(.ref ba)])) (fun t k => XS.aloadN X0.here hx rfl (hb hby d15_15) rfl rfl k) ?_
      refine Go.step (T' := s₁) (f' := (mkF m 17 #[.val (.ref ba), .val (.ref bb), .val (.int (0 : Int32))] [(.int (0 : Int32)), (.ref ba)])) (fun t k => XS.iloadN X0.here hx rfl (hb hby d15_16) rfl k) ?_
      obtain ⟨ca427, Aa427, qa427, Sa427, Na427, Ha427, Ga427⟩ := id f422
      have ia427 : ¬ ((0 : Int32) < 0 ∨ ca427.slots.size ≤ ((0 : Int32)).toNatClampNeg) := inb_of Sa427 ⟨by decide, by decide⟩
      have va427 := Ha427.at (v := (.int x0)) ia427 rfl
      refine Go.step (T' := s₁) (f' := (mkF m 18 #[.val (.ref ba), .val (.ref bb), .val (.int (0 : Int32))] [(.int x0)])) (fun t k => X0.baloadBytes hx (j := (0 : Int32)) (v := (.int x0)) (by rw [e0]; exact Aa427.1) (State.isArrayOf_alike hZ.alike Aa427.2.1) Aa427.2.2 ia427 va427 (g := (mkF m 17 #[.val (.ref ba), .val (.ref bb), .val (.int (0 : Int32))] [(.int (0 : Int32)), (.ref ba)])) rfl rfl (hb hby d15_17) t k) ?_
      refine Go.step (T' := s₁) (f' := (mkF m 19 #[.val (.ref ba), .val (.ref bb), .val (.int (0 : Int32))] [(.ref bb), (.int x0)])) (fun t k => XS.aloadN X0.here hx rfl (hb hby d15_18) rfl rfl k) ?_
      refine Go.step (T' := s₁) (f' := (mkF m 20 #[.val (.ref ba), .val (.ref bb), .val (.int (0 : Int32))] [(.int (0 : Int32)), (.ref bb), (.int x0)])) (fun t k => XS.iloadN X0.here hx rfl (hb hby d15_19) rfl k) ?_
      obtain ⟨ca428, Aa428, qa428, Sa428, Na428, Ha428, Ga428⟩ := id f423
      have ia428 : ¬ ((0 : Int32) < 0 ∨ ca428.slots.size ≤ ((0 : Int32)).toNatClampNeg) := inb_of Sa428 ⟨by decide, by decide⟩
      have va428 := Ha428.at (v := (.int y0)) ia428 rfl
      refine Go.step (T' := s₁) (f' := (mkF m 21 #[.val (.ref ba), .val (.ref bb), .val (.int (0 : Int32))] [(.int y0), (.int x0)])) (fun t k => X0.baloadBytes hx (j := (0 : Int32)) (v := (.int y0)) (by rw [e0]; exact Aa428.1) (State.isArrayOf_alike hZ.alike Aa428.2.1) Aa428.2.2 ia428 va428 (g := (mkF m 20 #[.val (.ref ba), .val (.ref bb), .val (.int (0 : Int32))] [(.int (0 : Int32)), (.ref bb), (.int x0)])) rfl rfl (hb hby d15_20) t k) ?_
      by_cases hc429 : x0 = y0
      ·
        refine Go.step (T' := s₁) (f' := (mkF m 26 #[.val (.ref ba), .val (.ref bb), .val (.int (0 : Int32))] [])) (fun t k => XS.icmpYes X0.here hx rfl (pc0 := 21) (pc' := 26) rfl (hb hby d15_21) rfl (teq hc429).1 (by decide) (by decide) k) ?_
        refine Go.step (T' := s₁) (f' := (mkF m 29 #[.val (.ref ba), .val (.ref bb), .val (.int ((0 : Int32) + (1 : Int32)))] [])) (fun t k => XS.iinc X0.here hx rfl (hb hby d15_26) rfl (l' := #[.val (.ref ba), .val (.ref bb), .val (.int ((0 : Int32) + (1 : Int32)))]) rfl k) ?_
        rw [show ((0 : Int32) + (1 : Int32)) = (1 : Int32) from by decide]
        refine Go.step (T' := s₁) (f' := (mkF m 9 #[.val (.ref ba), .val (.ref bb), .val (.int (1 : Int32))] [])) (fun t k => XS.goto X0.here hx rfl (pc0 := 29) (pc' := 9) rfl (hb hby d15_29) (by decide) (by decide) k) ?_
        refine Go.step (T' := s₁) (f' := (mkF m 10 #[.val (.ref ba), .val (.ref bb), .val (.int (1 : Int32))] [(.int (1 : Int32))])) (fun t k => XS.iloadN X0.here hx rfl (hb hby d15_9) rfl k) ?_
        refine Go.step (T' := s₁) (f' := (mkF m 11 #[.val (.ref ba), .val (.ref bb), .val (.int (1 : Int32))] [(.ref ba), (.int (1 : Int32))])) (fun t k => XS.aloadN X0.here hx rfl (hb hby d15_10) rfl rfl k) ?_
        obtain ⟨ca430, Aa430, qa430, Sa430, Na430, Ha430, Ga430⟩ := id f422
        refine Go.step (T' := s₁) (f' := (mkF m 12 #[.val (.ref ba), .val (.ref bb), .val (.int (1 : Int32))] [(.int (3 : Int32)), (.int (1 : Int32))])) (fun t k => own_alen X0 hx hZ e0 Aa430 Sa430 Na430 (g := (mkF m 11 #[.val (.ref ba), .val (.ref bb), .val (.int (1 : Int32))] [(.ref ba), (.int (1 : Int32))])) rfl rfl (hb hby d15_11) k) ?_
        refine Go.step (T' := s₁) (f' := (mkF m 15 #[.val (.ref ba), .val (.ref bb), .val (.int (1 : Int32))] [])) (fun t k => XS.icmpNo X0.here hx rfl (hb hby d15_12) rfl (tlt (by decide : (1 : Int32) < (3 : Int32))).2.1 k) ?_
        refine Go.step (T' := s₁) (f' := (mkF m 16 #[.val (.ref ba), .val (.ref bb), .val (.int (1 : Int32))] [(.ref ba)])) (fun t k => XS.aloadN X0.here hx rfl (hb hby d15_15) rfl rfl k) ?_
        refine Go.step (T' := s₁) (f' := (mkF m 17 #[.val (.ref ba), .val (.ref bb), .val (.int (1 : Int32))] [(.int (1 : Int32)), (.ref ba)])) (fun t k => XS.iloadN X0.here hx rfl (hb hby d15_16) rfl k) ?_
        obtain ⟨ca431, Aa431, qa431, Sa431, Na431, Ha431, Ga431⟩ := id f422
        have ia431 : ¬ ((1 : Int32) < 0 ∨ ca431.slots.size ≤ ((1 : Int32)).toNatClampNeg) := inb_of Sa431 ⟨by decide, by decide⟩
        have va431 := Ha431.at (v := (.int x1)) ia431 rfl
        refine Go.step (T' := s₁) (f' := (mkF m 18 #[.val (.ref ba), .val (.ref bb), .val (.int (1 : Int32))] [(.int x1)])) (fun t k => X0.baloadBytes hx (j := (1 : Int32)) (v := (.int x1)) (by rw [e0]; exact Aa431.1) (State.isArrayOf_alike hZ.alike Aa431.2.1) Aa431.2.2 ia431 va431 (g := (mkF m 17 #[.val (.ref ba), .val (.ref bb), .val (.int (1 : Int32))] [(.int (1 : Int32)), (.ref ba)])) rfl rfl (hb hby d15_17) t k) ?_
        refine Go.step (T' := s₁) (f' := (mkF m 19 #[.val (.ref ba), .val (.ref bb), .val (.int (1 : Int32))] [(.ref bb), (.int x1)])) (fun t k => XS.aloadN X0.here hx rfl (hb hby d15_18) rfl rfl k) ?_
        refine Go.step (T' := s₁) (f' := (mkF m 20 #[.val (.ref ba), .val (.ref bb), .val (.int (1 : Int32))] [(.int (1 : Int32)), (.ref bb), (.int x1)])) (fun t k => XS.iloadN X0.here hx rfl (hb hby d15_19) rfl k) ?_
        obtain ⟨ca432, Aa432, qa432, Sa432, Na432, Ha432, Ga432⟩ := id f423
        have ia432 : ¬ ((1 : Int32) < 0 ∨ ca432.slots.size ≤ ((1 : Int32)).toNatClampNeg) := inb_of Sa432 ⟨by decide, by decide⟩
        have va432 := Ha432.at (v := (.int y1)) ia432 rfl
        refine Go.step (T' := s₁) (f' := (mkF m 21 #[.val (.ref ba), .val (.ref bb), .val (.int (1 : Int32))] [(.int y1), (.int x1)])) (fun t k => X0.baloadBytes hx (j := (1 : Int32)) (v := (.int y1)) (by rw [e0]; exact Aa432.1) (State.isArrayOf_alike hZ.alike Aa432.2.1) Aa432.2.2 ia432 va432 (g := (mkF m 20 #[.val (.ref ba), .val (.ref bb), .val (.int (1 : Int32))] [(.int (1 : Int32)), (.ref bb), (.int x1)])) rfl rfl (hb hby d15_20) t k) ?_
        by_cases hc433 : x1 = y1
        ·
          refine Go.step (T' := s₁) (f' := (mkF m 26 #[.val (.ref ba), .val (.ref bb), .val (.int (1 : Int32))] [])) (fun t k => XS.icmpYes X0.here hx rfl (pc0 := 21) (pc' := 26) rfl (hb hby d15_21) rfl (teq hc433).1 (by decide) (by decide) k) ?_
          refine Go.step (T' := s₁) (f' := (mkF m 29 #[.val (.ref ba), .val (.ref bb), .val (.int ((1 : Int32) + (1 : Int32)))] [])) (fun t k => XS.iinc X0.here hx rfl (hb hby d15_26) rfl (l' := #[.val (.ref ba), .val (.ref bb), .val (.int ((1 : Int32) + (1 : Int32)))]) rfl k) ?_
          rw [show ((1 : Int32) + (1 : Int32)) = (2 : Int32) from by decide]
          refine Go.step (T' := s₁) (f' := (mkF m 9 #[.val (.ref ba), .val (.ref bb), .val (.int (2 : Int32))] [])) (fun t k => XS.goto X0.here hx rfl (pc0 := 29) (pc' := 9) rfl (hb hby d15_29) (by decide) (by decide) k) ?_
          refine Go.step (T' := s₁) (f' := (mkF m 10 #[.val (.ref ba), .val (.ref bb), .val (.int (2 : Int32))] [(.int (2 : Int32))])) (fun t k => XS.iloadN X0.here hx rfl (hb hby d15_9) rfl k) ?_
          refine Go.step (T' := s₁) (f' := (mkF m 11 #[.val (.ref ba), .val (.ref bb), .val (.int (2 : Int32))] [(.ref ba), (.int (2 : Int32))])) (fun t k => XS.aloadN X0.here hx rfl (hb hby d15_10) rfl rfl k) ?_
          obtain ⟨ca434, Aa434, qa434, Sa434, Na434, Ha434, Ga434⟩ := id f422
          refine Go.step (T' := s₁) (f' := (mkF m 12 #[.val (.ref ba), .val (.ref bb), .val (.int (2 : Int32))] [(.int (3 : Int32)), (.int (2 : Int32))])) (fun t k => own_alen X0 hx hZ e0 Aa434 Sa434 Na434 (g := (mkF m 11 #[.val (.ref ba), .val (.ref bb), .val (.int (2 : Int32))] [(.ref ba), (.int (2 : Int32))])) rfl rfl (hb hby d15_11) k) ?_
          refine Go.step (T' := s₁) (f' := (mkF m 15 #[.val (.ref ba), .val (.ref bb), .val (.int (2 : Int32))] [])) (fun t k => XS.icmpNo X0.here hx rfl (hb hby d15_12) rfl (tlt (by decide : (2 : Int32) < (3 : Int32))).2.1 k) ?_
          refine Go.step (T' := s₁) (f' := (mkF m 16 #[.val (.ref ba), .val (.ref bb), .val (.int (2 : Int32))] [(.ref ba)])) (fun t k => XS.aloadN X0.here hx rfl (hb hby d15_15) rfl rfl k) ?_
          refine Go.step (T' := s₁) (f' := (mkF m 17 #[.val (.ref ba), .val (.ref bb), .val (.int (2 : Int32))] [(.int (2 : Int32)), (.ref ba)])) (fun t k => XS.iloadN X0.here hx rfl (hb hby d15_16) rfl k) ?_
          obtain ⟨ca435, Aa435, qa435, Sa435, Na435, Ha435, Ga435⟩ := id f422
          have ia435 : ¬ ((2 : Int32) < 0 ∨ ca435.slots.size ≤ ((2 : Int32)).toNatClampNeg) := inb_of Sa435 ⟨by decide, by decide⟩
          have va435 := Ha435.at (v := (.int x2)) ia435 rfl
          refine Go.step (T' := s₁) (f' := (mkF m 18 #[.val (.ref ba), .val (.ref bb), .val (.int (2 : Int32))] [(.int x2)])) (fun t k => X0.baloadBytes hx (j := (2 : Int32)) (v := (.int x2)) (by rw [e0]; exact Aa435.1) (State.isArrayOf_alike hZ.alike Aa435.2.1) Aa435.2.2 ia435 va435 (g := (mkF m 17 #[.val (.ref ba), .val (.ref bb), .val (.int (2 : Int32))] [(.int (2 : Int32)), (.ref ba)])) rfl rfl (hb hby d15_17) t k) ?_
          refine Go.step (T' := s₁) (f' := (mkF m 19 #[.val (.ref ba), .val (.ref bb), .val (.int (2 : Int32))] [(.ref bb), (.int x2)])) (fun t k => XS.aloadN X0.here hx rfl (hb hby d15_18) rfl rfl k) ?_
          refine Go.step (T' := s₁) (f' := (mkF m 20 #[.val (.ref ba), .val (.ref bb), .val (.int (2 : Int32))] [(.int (2 : Int32)), (.ref bb), (.int x2)])) (fun t k => XS.iloadN X0.here hx rfl (hb hby d15_19) rfl k) ?_
          obtain ⟨ca436, Aa436, qa436, Sa436, Na436, Ha436, Ga436⟩ := id f423
          have ia436 : ¬ ((2 : Int32) < 0 ∨ ca436.slots.size ≤ ((2 : Int32)).toNatClampNeg) := inb_of Sa436 ⟨by decide, by decide⟩
          have va436 := Ha436.at (v := (.int y2)) ia436 rfl
          refine Go.step (T' := s₁) (f' := (mkF m 21 #[.val (.ref ba), .val (.ref bb), .val (.int (2 : Int32))] [(.int y2), (.int x2)])) (fun t k => X0.baloadBytes hx (j := (2 : Int32)) (v := (.int y2)) (by rw [e0]; exact Aa436.1) (State.isArrayOf_alike hZ.alike Aa436.2.1) Aa436.2.2 ia436 va436 (g := (mkF m 20 #[.val (.ref ba), .val (.ref bb), .val (.int (2 : Int32))] [(.int (2 : Int32)), (.ref bb), (.int x2)])) rfl rfl (hb hby d15_20) t k) ?_
          by_cases hc437 : x2 = y2
          ·
            refine Go.step (T' := s₁) (f' := (mkF m 26 #[.val (.ref ba), .val (.ref bb), .val (.int (2 : Int32))] [])) (fun t k => XS.icmpYes X0.here hx rfl (pc0 := 21) (pc' := 26) rfl (hb hby d15_21) rfl (teq hc437).1 (by decide) (by decide) k) ?_
            refine Go.step (T' := s₁) (f' := (mkF m 29 #[.val (.ref ba), .val (.ref bb), .val (.int ((2 : Int32) + (1 : Int32)))] [])) (fun t k => XS.iinc X0.here hx rfl (hb hby d15_26) rfl (l' := #[.val (.ref ba), .val (.ref bb), .val (.int ((2 : Int32) + (1 : Int32)))]) rfl k) ?_
            rw [show ((2 : Int32) + (1 : Int32)) = (3 : Int32) from by decide]
            refine Go.step (T' := s₁) (f' := (mkF m 9 #[.val (.ref ba), .val (.ref bb), .val (.int (3 : Int32))] [])) (fun t k => XS.goto X0.here hx rfl (pc0 := 29) (pc' := 9) rfl (hb hby d15_29) (by decide) (by decide) k) ?_
            refine Go.step (T' := s₁) (f' := (mkF m 10 #[.val (.ref ba), .val (.ref bb), .val (.int (3 : Int32))] [(.int (3 : Int32))])) (fun t k => XS.iloadN X0.here hx rfl (hb hby d15_9) rfl k) ?_
            refine Go.step (T' := s₁) (f' := (mkF m 11 #[.val (.ref ba), .val (.ref bb), .val (.int (3 : Int32))] [(.ref ba), (.int (3 : Int32))])) (fun t k => XS.aloadN X0.here hx rfl (hb hby d15_10) rfl rfl k) ?_
            obtain ⟨ca438, Aa438, qa438, Sa438, Na438, Ha438, Ga438⟩ := id f422
            refine Go.step (T' := s₁) (f' := (mkF m 12 #[.val (.ref ba), .val (.ref bb), .val (.int (3 : Int32))] [(.int (3 : Int32)), (.int (3 : Int32))])) (fun t k => own_alen X0 hx hZ e0 Aa438 Sa438 Na438 (g := (mkF m 11 #[.val (.ref ba), .val (.ref bb), .val (.int (3 : Int32))] [(.ref ba), (.int (3 : Int32))])) rfl rfl (hb hby d15_11) k) ?_
            refine Go.step (T' := s₁) (f' := (mkF m 32 #[.val (.ref ba), .val (.ref bb), .val (.int (3 : Int32))] [])) (fun t k => XS.icmpYes X0.here hx rfl (pc0 := 12) (pc' := 32) rfl (hb hby d15_12) rfl (flt (by decide : ¬ ((3 : Int32) < (3 : Int32)))).2.1 (by decide) (by decide) k) ?_
            refine Go.step (T' := s₁) (f' := (mkF m 33 #[.val (.ref ba), .val (.ref bb), .val (.int (3 : Int32))] [(.int (1 : Int32))])) (fun t k => XS.iconst X0.here hx rfl (hb hby d15_32) k) ?_
            refine Go.retZ X0 hx hlk (t := .boolean) Bd.returns (by simp) (hb hby d15_33) e0 ?_ (by decide) (by decide)
            exact ⟨by simp [nar, hc429, hc433, hc437], N0, rfl⟩
          ·
            refine Go.step (T' := s₁) (f' := (mkF m 24 #[.val (.ref ba), .val (.ref bb), .val (.int (2 : Int32))] [])) (fun t k => XS.icmpNo X0.here hx rfl (hb hby d15_21) rfl (feq hc437).1 k) ?_
            refine Go.step (T' := s₁) (f' := (mkF m 25 #[.val (.ref ba), .val (.ref bb), .val (.int (2 : Int32))] [(.int (0 : Int32))])) (fun t k => XS.iconst X0.here hx rfl (hb hby d15_24) k) ?_
            refine Go.retZ X0 hx hlk (t := .boolean) Bd.returns (by simp) (hb hby d15_25) e0 ?_ (by decide) (by decide)
            exact ⟨by simp [nar, hc429, hc433, hc437], N0, rfl⟩
        ·
          refine Go.step (T' := s₁) (f' := (mkF m 24 #[.val (.ref ba), .val (.ref bb), .val (.int (1 : Int32))] [])) (fun t k => XS.icmpNo X0.here hx rfl (hb hby d15_21) rfl (feq hc433).1 k) ?_
          refine Go.step (T' := s₁) (f' := (mkF m 25 #[.val (.ref ba), .val (.ref bb), .val (.int (1 : Int32))] [(.int (0 : Int32))])) (fun t k => XS.iconst X0.here hx rfl (hb hby d15_24) k) ?_
          refine Go.retZ X0 hx hlk (t := .boolean) Bd.returns (by simp) (hb hby d15_25) e0 ?_ (by decide) (by decide)
          exact ⟨by simp [nar, hc429, hc433], N0, rfl⟩
      ·
        refine Go.step (T' := s₁) (f' := (mkF m 24 #[.val (.ref ba), .val (.ref bb), .val (.int (0 : Int32))] [])) (fun t k => XS.icmpNo X0.here hx rfl (hb hby d15_21) rfl (feq hc429).1 k) ?_
        refine Go.step (T' := s₁) (f' := (mkF m 25 #[.val (.ref ba), .val (.ref bb), .val (.int (0 : Int32))] [(.int (0 : Int32))])) (fun t k => XS.iconst X0.here hx rfl (hb hby d15_24) k) ?_
        refine Go.retZ X0 hx hlk (t := .boolean) Bd.returns (by simp) (hb hby d15_25) e0 ?_ (by decide) (by decide)
        exact ⟨by simp [nar, hc429], N0, rfl⟩
    ·
      exact absurd hly (by simp)
  ·
    exact absurd hlx (by simp)
theorem d14_0 : decode jdk_42_method_66_code 0 = .ok (.aload_n 0, 1) := by decide +kernel
theorem d14_1 : decode jdk_42_method_66_code 1 = .ok (.aload_n 1, 1) := by decide +kernel
theorem d14_2 : decode jdk_42_method_66_code 2 = .ok (.if_acmp .ne 5, 3) := by decide +kernel
theorem d14_5 : decode jdk_42_method_66_code 5 = .ok (.iconst 1, 1) := by decide +kernel
theorem d14_6 : decode jdk_42_method_66_code 6 = .ok (.ireturn, 1) := by decide +kernel
theorem d14_7 : decode jdk_42_method_66_code 7 = .ok (.aload_n 1, 1) := by decide +kernel
theorem d14_8 : decode jdk_42_method_66_code 8 = .ok (.instanceof 10, 3) := by decide +kernel
theorem d14_11 : decode jdk_42_method_66_code 11 = .ok (.ifCond .eq 43, 3) := by decide +kernel
theorem d14_14 : decode jdk_42_method_66_code 14 = .ok (.aload_n 1, 1) := by decide +kernel
theorem d14_15 : decode jdk_42_method_66_code 15 = .ok (.checkcast 10, 3) := by decide +kernel
theorem d14_18 : decode jdk_42_method_66_code 18 = .ok (.astore_n 2, 1) := by decide +kernel
theorem d14_19 : decode jdk_42_method_66_code 19 = .ok (.getstatic 38, 3) := by decide +kernel
theorem d14_22 : decode jdk_42_method_66_code 22 = .ok (.ifCond .eq 14, 3) := by decide +kernel
theorem d14_25 : decode jdk_42_method_66_code 25 = .ok (.aload_n 0, 1) := by decide +kernel
theorem d14_26 : decode jdk_42_method_66_code 26 = .ok (.getfield 15, 3) := by decide +kernel
theorem d14_29 : decode jdk_42_method_66_code 29 = .ok (.aload_n 2, 1) := by decide +kernel
theorem d14_30 : decode jdk_42_method_66_code 30 = .ok (.getfield 15, 3) := by decide +kernel
theorem d14_33 : decode jdk_42_method_66_code 33 = .ok (.if_icmp .ne 21, 3) := by decide +kernel
theorem d14_36 : decode jdk_42_method_66_code 36 = .ok (.aload_n 0, 1) := by decide +kernel
theorem d14_37 : decode jdk_42_method_66_code 37 = .ok (.getfield 9, 3) := by decide +kernel
theorem d14_40 : decode jdk_42_method_66_code 40 = .ok (.aload_n 2, 1) := by decide +kernel
theorem d14_41 : decode jdk_42_method_66_code 41 = .ok (.getfield 9, 3) := by decide +kernel
theorem d14_44 : decode jdk_42_method_66_code 44 = .ok (.invokestatic 541, 3) := by decide +kernel
theorem d14_47 : decode jdk_42_method_66_code 47 = .ok (.ifCond .eq 7, 3) := by decide +kernel
theorem d14_50 : decode jdk_42_method_66_code 50 = .ok (.iconst 1, 1) := by decide +kernel
theorem d14_51 : decode jdk_42_method_66_code 51 = .ok (.goto 4, 3) := by decide +kernel
theorem d14_54 : decode jdk_42_method_66_code 54 = .ok (.iconst 0, 1) := by decide +kernel
theorem d14_55 : decode jdk_42_method_66_code 55 = .ok (.ireturn, 1) := by decide +kernel
theorem pd4 : parseMethodDescriptor "([B[B)Z" = some ⟨[(.array .byte), (.array .byte)], some .boolean⟩ := by decide +kernel
theorem ef_seq (m : MethodId) (ba : Addr) (bb : Addr) : entryFrame m #[(.ref ba), (.ref bb)] 3 = mkF m 0 #[.val (.ref ba), .val (.ref bb), .unset] [] := by first | (simp [entryFrame, mkF, argsToLocals, Value.category]; done) | rfl
def Q_seq (Z : State) (ba : Addr) (bb : Addr) (va : Addr) (vb : Addr) (ka : ClassId) (kb : ClassId) (xs : List Int32) (ys : List Int32) (wz : Int32) (h0 : Heap) (n0 : Nat) (v : Option Value) (h : Heap) (L : List Loc) : Prop := v = some (.int (if xs = ys then (1 : Int32) else 0)) ∧ Fr n0 L ∧ h = h0
set_option maxRecDepth 65536 in
set_option maxHeartbeats 40000000 in
theorem rm_seq (l : Launch) (Z : State) (a0 : Array Value) (hw : ∀ d ∈ tables_1, d.before a0 Z = true) (ws : List Jvm.Cond) (ba : Addr) (bb : Addr) (va : Addr) (vb : Addr) (ka : ClassId) (kb : ClassId) (xs : List Int32) (ys : List Int32) (wz : Int32) (h0 : Heap) (n0 : Nat) (O0 : Old Z n0 h0) (P0 : Fld Z h0 ba "java/lang/String" "value" "[B" (.ref va)) (P1 : Fld Z h0 ba "java/lang/String" "coder" "B" (.int (0 : Int32))) (P2 : Arv Z h0 va ka .byte (Int32.ofNat xs.length) (xs.map Value.int) (.int (0 : Int32))) (P3 : Exa Z h0 bb "java/lang/String") (P4 : Fld Z h0 bb "java/lang/String" "value" "[B" (.ref vb)) (P5 : Fld Z h0 bb "java/lang/String" "coder" "B" (.int (0 : Int32))) (P6 : Arv Z h0 vb kb .byte (Int32.ofNat ys.length) (ys.map Value.int) (.int (0 : Int32))) (P7 : Sta Z Z.heap "java/lang/String" "COMPACT_STRINGS" "Z" (.int wz)) (hwz : ¬ (wz = (0 : Int32))) (hlx : xs.length ≤ 3) (hly : ys.length ≤ 3) :
    MetFree l (⟨"java/lang/String", "equals", "(Ljava/lang/Object;)Z"⟩ : MethodName) (head1 (Jvm.Cond.code (⟨"java/lang/String", "equals", "(Ljava/lang/Object;)Z"⟩ : MethodName) jdk_42_method_66_code 3 (some .boolean) :: ws) ({ frames := 1, cells := 0, slots := 0, locals := 14 } : Room)) (fun a U => a = #[(.ref ba), (.ref bb)] ∧ Z.Warmed39 U.vm ∧ U.heap = h0) (fun _ _ _ _ _ => True) (fun _ U o U' => ∃ v L, o = .returned v ∧ Q_seq Z ba bb va vb ka kb xs ys wz h0 n0 v U'.heap L ∧ FrameEnd U o U' L ({ frames := 1, cells := 0, slots := 0, locals := 14 } : Room).cells ({ frames := 1, cells := 0, slots := 0, locals := 14 } : Room).slots) := by
  refine MetFree.of_bodySF (plainFor_of_name pn_java_lang_String) hisR ?_
  intro p e s m args below meth c s₁ Bd hml0 hP hK
  obtain ⟨rfl, hZ, hh⟩ := hP
  have hx := Bd.exec
  have hby := Bd.bytes
  have hml : c.maxLocals = 3 := hml0
  have hown : s.vm.findClass "java/lang/String" = some m.cls := findClass_of_methodNamed Bd.named
  have hnm := (name_of_methodNamed Bd.named Bd.method).1
  have hlk : meth.locks = false := BodyLoose.notSynchronized Bd
  have X0 : Stand p l e ({ frames := 1, cells := 0, slots := 0, locals := 14 } : Room) s m #[(.ref ba), (.ref bb)] below meth c s₁ [] 0 0 := Stand.of_body Bd
  have e0 : s₁.heap = h0 := by rw [← hh, Bd.state]; rfl
  have N0 := Fr.nil n0
  rw [ef_seq m ba bb]
  show Go p e below s (fun v h L => Q_seq Z ba bb va vb ka kb xs ys wz h0 n0 v h L) ({ frames := 1, cells := 0, slots := 0, locals := 14 } : Room).cells ({ frames := 1, cells := 0, slots := 0, locals := 14 } : Room).slots s₁ (mkF m 0 #[.val (.ref ba), .val (.ref bb), .unset] [])
  refine Go.step (T' := s₁) (f' := (mkF m 1 #[.val (.ref ba), .val (.ref bb), .unset] [(.ref ba)])) (fun t k => XS.aloadN X0.here hx rfl (hb hby d14_0) rfl rfl k) ?_
  refine Go.step (T' := s₁) (f' := (mkF m 2 #[.val (.ref ba), .val (.ref bb), .unset] [(.ref bb), (.ref ba)])) (fun t k => XS.aloadN X0.here hx rfl (hb hby d14_1) rfl rfl k) ?_
  by_cases ha439 : ba = bb
  ·
    refine Go.step (T' := s₁) (f' := (mkF m 5 #[.val (.ref ba), .val (.ref bb), .unset] [])) (fun t k => Jvm.RoadKit.acmp (g := (mkF m 2 #[.val (.ref ba), .val (.ref bb), .unset] [(.ref bb), (.ref ba)])) X0 hx rfl rfl rfl (pc0 := 2) (pc' := 5) (same := true) rfl (hb hby d14_2) rfl (decide_eq_true (congrArg Value.ref ha439)) (by decide) (by decide) k) ?_
    refine Go.step (T' := s₁) (f' := (mkF m 6 #[.val (.ref ba), .val (.ref bb), .unset] [(.int (1 : Int32))])) (fun t k => XS.iconst X0.here hx rfl (hb hby d14_5) k) ?_
    refine Go.retZ X0 hx hlk (t := .boolean) Bd.returns (by simp) (hb hby d14_6) e0 ?_ (by decide) (by decide)
    exact ⟨by rw [if_pos (own_str_eq ha439 hlx hly P0 P2 P4 P6)]; rfl, N0, rfl⟩
  ·
    refine Go.step (T' := s₁) (f' := (mkF m 7 #[.val (.ref ba), .val (.ref bb), .unset] [])) (fun t k => Jvm.RoadKit.acmp (g := (mkF m 2 #[.val (.ref ba), .val (.ref bb), .unset] [(.ref bb), (.ref ba)])) X0 hx rfl rfl rfl (pc0 := 2) (pc' := 7) (same := false) rfl (hb hby d14_2) rfl (decide_eq_false fun q => ha439 (Value.ref.inj q)) (by decide) (by decide) k) ?_
    refine Go.step (T' := s₁) (f' := (mkF m 8 #[.val (.ref ba), .val (.ref bb), .unset] [(.ref bb)])) (fun t k => XS.aloadN X0.here hx rfl (hb hby d14_7) rfl rfl k) ?_
    obtain ⟨T440, X440, e440, st440⟩ := instY X0 hx hZ hown (hw _ (List.mem_of_getElem? (i := 77) rfl)) e0 (Ins.self P3) (g := (mkF m 8 #[.val (.ref ba), .val (.ref bb), .unset] [(.ref bb)])) rfl rfl (hb hby d14_8)
    refine Go.step (T' := T440) (f' := (mkF m 11 #[.val (.ref ba), .val (.ref bb), .unset] [(.int (1 : Int32))])) st440 ?_
    clear st440 X0
    refine Go.step (T' := T440) (f' := (mkF m 14 #[.val (.ref ba), .val (.ref bb), .unset] [])) (fun t k => XS.ifNo X440.here hx rfl (hb hby d14_11) rfl ((if0 _ _).trans (feq (by decide : ¬ ((1 : Int32) = (0 : Int32)))).1) k) ?_
    refine Go.step (T' := T440) (f' := (mkF m 15 #[.val (.ref ba), .val (.ref bb), .unset] [(.ref bb)])) (fun t k => XS.aloadN X440.here hx rfl (hb hby d14_14) rfl rfl k) ?_
    obtain ⟨T441, X441, e441, st441⟩ := castY X440 hx hZ hown (hw _ (List.mem_of_getElem? (i := 77) rfl)) e440 (Ins.self P3) (g := (mkF m 15 #[.val (.ref ba), .val (.ref bb), .unset] [(.ref bb)])) rfl rfl (hb hby d14_15)
    refine Go.step (T' := T441) (f' := (mkF m 18 #[.val (.ref ba), .val (.ref bb), .unset] [(.ref bb)])) st441 ?_
    clear st441 X440
    refine Go.step (T' := T441) (f' := (mkF m 19 #[.val (.ref ba), .val (.ref bb), .val (.ref bb)] [])) (fun t k => XS.astoreN X441.here hx rfl (hb hby d14_18) rfl rfl (l' := #[.val (.ref ba), .val (.ref bb), .val (.ref bb)]) rfl k) ?_
    obtain ⟨T442, X442, e442, st442⟩ := getS2 X441 hx hZ hown (host := "") (Or.inl (hw _ (List.mem_of_getElem? (i := 29) rfl))) Via.refl e441 (P7.ext O0.2) (g := (mkF m 19 #[.val (.ref ba), .val (.ref bb), .val (.ref bb)] [])) rfl (hb hby d14_19)
    refine Go.step (T' := T442) (f' := (mkF m 22 #[.val (.ref ba), .val (.ref bb), .val (.ref bb)] [(.int wz)])) st442 ?_
    clear st442 X441
    refine Go.step (T' := T442) (f' := (mkF m 25 #[.val (.ref ba), .val (.ref bb), .val (.ref bb)] [])) (fun t k => XS.ifNo X442.here hx rfl (hb hby d14_22) rfl ((if0 _ _).trans (feq hwz).1) k) ?_
    refine Go.step (T' := T442) (f' := (mkF m 26 #[.val (.ref ba), .val (.ref bb), .val (.ref bb)] [(.ref ba)])) (fun t k => XS.aloadN X442.here hx rfl (hb hby d14_25) rfl rfl k) ?_
    obtain ⟨T443, X443, e443, st443⟩ := getF X442 hx hZ hown (host := "") (Or.inl (hw _ (List.mem_of_getElem? (i := 28) rfl))) Via.refl e442 P1 (g := (mkF m 26 #[.val (.ref ba), .val (.ref bb), .val (.ref bb)] [(.ref ba)])) rfl rfl (hb hby d14_26)
    refine Go.step (T' := T443) (f' := (mkF m 29 #[.val (.ref ba), .val (.ref bb), .val (.ref bb)] [(.int (0 : Int32))])) st443 ?_
    clear st443 X442
    refine Go.step (T' := T443) (f' := (mkF m 30 #[.val (.ref ba), .val (.ref bb), .val (.ref bb)] [(.ref bb), (.int (0 : Int32))])) (fun t k => XS.aloadN X443.here hx rfl (hb hby d14_29) rfl rfl k) ?_
    obtain ⟨T444, X444, e444, st444⟩ := getF X443 hx hZ hown (host := "") (Or.inl (hw _ (List.mem_of_getElem? (i := 28) rfl))) Via.refl e443 P5 (g := (mkF m 30 #[.val (.ref ba), .val (.ref bb), .val (.ref bb)] [(.ref bb), (.int (0 : Int32))])) rfl rfl (hb hby d14_30)
    refine Go.step (T' := T444) (f' := (mkF m 33 #[.val (.ref ba), .val (.ref bb), .val (.ref bb)] [(.int (0 : Int32)), (.int (0 : Int32))])) st444 ?_
    clear st444 X443
    refine Go.step (T' := T444) (f' := (mkF m 36 #[.val (.ref ba), .val (.ref bb), .val (.ref bb)] [])) (fun t k => XS.icmpNo X444.here hx rfl (hb hby d14_33) rfl (teq (by decide : (0 : Int32) = (0 : Int32))).2 k) ?_
    refine Go.step (T' := T444) (f' := (mkF m 37 #[.val (.ref ba), .val (.ref bb), .val (.ref bb)] [(.ref ba)])) (fun t k => XS.aloadN X444.here hx rfl (hb hby d14_36) rfl rfl k) ?_
    obtain ⟨T445, X445, e445, st445⟩ := getF X444 hx hZ hown (host := "") (Or.inl (hw _ (List.mem_of_getElem? (i := 27) rfl))) Via.refl e444 P0 (g := (mkF m 37 #[.val (.ref ba), .val (.ref bb), .val (.ref bb)] [(.ref ba)])) rfl rfl (hb hby d14_37)
    refine Go.step (T' := T445) (f' := (mkF m 40 #[.val (.ref ba), .val (.ref bb), .val (.ref bb)] [(.ref va)])) st445 ?_
    clear st445 X444
    refine Go.step (T' := T445) (f' := (mkF m 41 #[.val (.ref ba), .val (.ref bb), .val (.ref bb)] [(.ref bb), (.ref va)])) (fun t k => XS.aloadN X445.here hx rfl (hb hby d14_40) rfl rfl k) ?_
    obtain ⟨T446, X446, e446, st446⟩ := getF X445 hx hZ hown (host := "") (Or.inl (hw _ (List.mem_of_getElem? (i := 27) rfl))) Via.refl e445 P4 (g := (mkF m 41 #[.val (.ref ba), .val (.ref bb), .val (.ref bb)] [(.ref bb), (.ref va)])) rfl rfl (hb hby d14_41)
    refine Go.step (T' := T446) (f' := (mkF m 44 #[.val (.ref ba), .val (.ref bb), .val (.ref bb)] [(.ref vb), (.ref va)])) st446 ?_
    clear st446 X445
    obtain ⟨_, _, ⟨T447, L447, k447, n447⟩, -, X447, ⟨Lc447, hQ447, l447, y447, z447⟩, st447⟩ := Jvm.LawKit.callS X446 hx (y := (⟨"java/lang/StringLatin1", "equals", "([B[B)Z"⟩ : MethodName)) hown (mvT hZ (hw _ (List.mem_of_getElem? (i := 78) rfl))) (mvT hZ (hw _ (List.mem_of_getElem? (i := 79) rfl))) (mvT hZ (hw _ (List.mem_of_getElem? (i := 80) rfl))) (mvT hZ (hw _ (List.mem_of_getElem? (i := 81) rfl))) (by decide) (backOf (W := 0) (rm_leq l Z a0 hw [] va vb ka kb xs ys h0 n0 O0 P2 P6 hlx hly) hZ (hw _ (List.mem_of_getElem? (i := 81) rfl)) (hw _ (List.mem_of_getElem? (i := 80) rfl)) (by decide) (by decide)) (g := (mkF m 44 #[.val (.ref ba), .val (.ref bb), .val (.ref bb)] [(.ref vb), (.ref va)])) rfl (by rw [hml]; rfl) (argsL := [(.ref va), (.ref vb)]) (rest := []) (lenOf pd4 rfl) rfl (by show 2 * 0 + _ ≤ _; exact Nat.le_of_eq rfl) (hb hby d14_44) (fun _ _ => ⟨rfl, e446, (by decide : 0 + 0 ≤ _), (by decide : 0 + 0 ≤ _)⟩)
    dsimp only [Pt.U, Pt.locs, Pt.cells, Pt.slots] at X447 l447 y447 z447 st447 hQ447
    subst l447 y447 z447
    obtain ⟨rfl, Nq447, hh447⟩ := hQ447
    have N448 := Fr.app N0 Nq447
    refine Go.step (T' := T447) (f' := (mkF m 47 #[.val (.ref ba), .val (.ref bb), .val (.ref bb)] [(.int (if xs = ys then (1 : Int32) else 0))])) st447 ?_
    clear st447 X446 Nq447
    by_cases hc449 : (if xs = ys then (1 : Int32) else 0) = (0 : Int32)
    ·
      refine Go.step (T' := T447) (f' := (mkF m 54 #[.val (.ref ba), .val (.ref bb), .val (.ref bb)] [])) (fun t k => XS.ifYes X447.here hx rfl (pc0 := 47) (pc' := 54) rfl (hb hby d14_47) rfl ((if0 _ _).trans (teq hc449).1) (by decide) (by decide) k) ?_
      refine Go.step (T' := T447) (f' := (mkF m 55 #[.val (.ref ba), .val (.ref bb), .val (.ref bb)] [(.int (0 : Int32))])) (fun t k => XS.iconst X447.here hx rfl (hb hby d14_54) k) ?_
      refine Go.retZ X447 hx hlk (t := .boolean) Bd.returns (by simp) (hb hby d14_55) hh447 ?_ (by decide) (by decide)
      exact ⟨by rw [hc449]; rfl, N448, rfl⟩
    ·
      refine Go.step (T' := T447) (f' := (mkF m 50 #[.val (.ref ba), .val (.ref bb), .val (.ref bb)] [])) (fun t k => XS.ifNo X447.here hx rfl (hb hby d14_47) rfl ((if0 _ _).trans (feq hc449).1) k) ?_
      refine Go.step (T' := T447) (f' := (mkF m 51 #[.val (.ref ba), .val (.ref bb), .val (.ref bb)] [(.int (1 : Int32))])) (fun t k => XS.iconst X447.here hx rfl (hb hby d14_50) k) ?_
      refine Go.step (T' := T447) (f' := (mkF m 55 #[.val (.ref ba), .val (.ref bb), .val (.ref bb)] [(.int (1 : Int32))])) (fun t k => XS.goto X447.here hx rfl (pc0 := 51) (pc' := 55) rfl (hb hby d14_51) (by decide) (by decide) k) ?_
      refine Go.retZ X447 hx hlk (t := .boolean) Bd.returns (by simp) (hb hby d14_55) hh447 ?_ (by decide) (by decide)
      exact ⟨by rw [own_if1 hc449]; rfl, N448, rfl⟩
theorem ef_seq1 (m : MethodId) (ba : Addr) : entryFrame m #[(.ref ba), (.ref ba)] 3 = mkF m 0 #[.val (.ref ba), .val (.ref ba), .unset] [] := by first | (simp [entryFrame, mkF, argsToLocals, Value.category]; done) | rfl
def Q_seq1 (Z : State) (ba : Addr) (h0 : Heap) (n0 : Nat) (v : Option Value) (h : Heap) (L : List Loc) : Prop := v = some (.int (1 : Int32)) ∧ Fr n0 L ∧ h = h0
set_option maxRecDepth 65536 in
set_option maxHeartbeats 40000000 in
theorem rm_seq1 (l : Launch) (Z : State) (a0 : Array Value) (hw : ∀ d ∈ tables_1, d.before a0 Z = true) (ws : List Jvm.Cond) (ba : Addr) (h0 : Heap) (n0 : Nat) (O0 : Old Z n0 h0) :
    MetFree l (⟨"java/lang/String", "equals", "(Ljava/lang/Object;)Z"⟩ : MethodName) (head1 (Jvm.Cond.code (⟨"java/lang/String", "equals", "(Ljava/lang/Object;)Z"⟩ : MethodName) jdk_42_method_66_code 3 (some .boolean) :: ws) ({ frames := 0, cells := 0, slots := 0, locals := 0 } : Room)) (fun a U => a = #[(.ref ba), (.ref ba)] ∧ Z.Warmed39 U.vm ∧ U.heap = h0) (fun _ _ _ _ _ => True) (fun _ U o U' => ∃ v L, o = .returned v ∧ Q_seq1 Z ba h0 n0 v U'.heap L ∧ FrameEnd U o U' L ({ frames := 0, cells := 0, slots := 0, locals := 0 } : Room).cells ({ frames := 0, cells := 0, slots := 0, locals := 0 } : Room).slots) := by
  refine MetFree.of_bodySF (plainFor_of_name pn_java_lang_String) hisR ?_
  intro p e s m args below meth c s₁ Bd hml0 hP hK
  obtain ⟨rfl, hZ, hh⟩ := hP
  have hx := Bd.exec
  have hby := Bd.bytes
  have hml : c.maxLocals = 3 := hml0
  have hown : s.vm.findClass "java/lang/String" = some m.cls := findClass_of_methodNamed Bd.named
  have hnm := (name_of_methodNamed Bd.named Bd.method).1
  have hlk : meth.locks = false := BodyLoose.notSynchronized Bd
  have X0 : Stand p l e ({ frames := 0, cells := 0, slots := 0, locals := 0 } : Room) s m #[(.ref ba), (.ref ba)] below meth c s₁ [] 0 0 := Stand.of_body Bd
  have e0 : s₁.heap = h0 := by rw [← hh, Bd.state]; rfl
  have N0 := Fr.nil n0
  rw [ef_seq1 m ba]
  show Go p e below s (fun v h L => Q_seq1 Z ba h0 n0 v h L) ({ frames := 0, cells := 0, slots := 0, locals := 0 } : Room).cells ({ frames := 0, cells := 0, slots := 0, locals := 0 } : Room).slots s₁ (mkF m 0 #[.val (.ref ba), .val (.ref ba), .unset] [])
  refine Go.step (T' := s₁) (f' := (mkF m 1 #[.val (.ref ba), .val (.ref ba), .unset] [(.ref ba)])) (fun t k => XS.aloadN X0.here hx rfl (hb hby d14_0) rfl rfl k) ?_
  refine Go.step (T' := s₁) (f' := (mkF m 2 #[.val (.ref ba), .val (.ref ba), .unset] [(.ref ba), (.ref ba)])) (fun t k => XS.aloadN X0.here hx rfl (hb hby d14_1) rfl rfl k) ?_
  refine Go.step (T' := s₁) (f' := (mkF m 5 #[.val (.ref ba), .val (.ref ba), .unset] [])) (fun t k => Jvm.RoadKit.acmp (g := (mkF m 2 #[.val (.ref ba), .val (.ref ba), .unset] [(.ref ba), (.ref ba)])) X0 hx rfl rfl rfl (pc0 := 2) (pc' := 5) (same := true) rfl (hb hby d14_2) rfl (decide_eq_true rfl) (by decide) (by decide) k) ?_
  refine Go.step (T' := s₁) (f' := (mkF m 6 #[.val (.ref ba), .val (.ref ba), .unset] [(.int (1 : Int32))])) (fun t k => XS.iconst X0.here hx rfl (hb hby d14_5) k) ?_
  refine Go.retZ X0 hx hlk (t := .boolean) Bd.returns (by simp) (hb hby d14_6) e0 ?_ (by decide) (by decide)
  exact ⟨rfl, N0, rfl⟩
theorem d2_0 : decode method_2_code 0 = .ok (.iload_n 0, 1) := by decide +kernel
theorem d2_1 : decode method_2_code 1 = .ok (.iconst 2, 1) := by decide +kernel
theorem d2_2 : decode method_2_code 2 = .ok (.bipush 8, 2) := by decide +kernel
theorem d2_4 : decode method_2_code 4 = .ok (.iload_n 1, 1) := by decide +kernel
theorem d2_5 : decode method_2_code 5 = .ok (.imul, 1) := by decide +kernel
theorem d2_6 : decode method_2_code 6 = .ok (.iadd, 1) := by decide +kernel
theorem d2_7 : decode method_2_code 7 = .ok (.iushr, 1) := by decide +kernel
theorem d2_8 : decode method_2_code 8 = .ok (.sipush 255, 3) := by decide +kernel
theorem d2_11 : decode method_2_code 11 = .ok (.iand, 1) := by decide +kernel
theorem d2_12 : decode method_2_code 12 = .ok (.ireturn, 1) := by decide +kernel
theorem pn_com_example_tenorbook_tenorbook_definitions_FloatingRateIndexEqualsPinLaw : plainName "com/example/tenorbook/tenorbook/definitions/FloatingRateIndexEqualsPinLaw" = true := by first | (simp [plainName, overriddenIn]; done) | decide +kernel
theorem ef_ch0 (m : MethodId) (ia : Int32) : entryFrame m #[(.int ia), (.int (0 : Int32))] 2 = mkF m 0 #[.val (.int ia), .val (.int (0 : Int32))] [] := by first | (simp [entryFrame, mkF, argsToLocals, Value.category]; done) | rfl
def Q_ch0 (Z : State) (ia : Int32) (h0 : Heap) (n0 : Nat) (v : Option Value) (h : Heap) (L : List Loc) : Prop := v = some (.int (own_ch (2 : Int32) ia)) ∧ Fr n0 L ∧ h = h0
set_option maxRecDepth 65536 in
set_option maxHeartbeats 40000000 in
theorem rm_ch0 (l : Launch) (Z : State) (a0 : Array Value) (hw : ∀ d ∈ tables_1, d.before a0 Z = true) (ws : List Jvm.Cond) (ia : Int32) (h0 : Heap) (n0 : Nat) (O0 : Old Z n0 h0) :
    MetFree l (⟨"com/example/tenorbook/tenorbook/definitions/FloatingRateIndexEqualsPinLaw", "ch", "(II)I"⟩ : MethodName) (head1 (Jvm.Cond.code (⟨"com/example/tenorbook/tenorbook/definitions/FloatingRateIndexEqualsPinLaw", "ch", "(II)I"⟩ : MethodName) method_2_code 2 (some .int) :: ws) ({ frames := 0, cells := 0, slots := 0, locals := 0 } : Room)) (fun a U => a = #[(.int ia), (.int (0 : Int32))] ∧ Z.Warmed39 U.vm ∧ U.heap = h0) (fun _ _ _ _ _ => True) (fun _ U o U' => ∃ v L, o = .returned v ∧ Q_ch0 Z ia h0 n0 v U'.heap L ∧ FrameEnd U o U' L ({ frames := 0, cells := 0, slots := 0, locals := 0 } : Room).cells ({ frames := 0, cells := 0, slots := 0, locals := 0 } : Room).slots) := by
  refine MetFree.of_bodySF (plainFor_of_name pn_com_example_tenorbook_tenorbook_definitions_FloatingRateIndexEqualsPinLaw) hisR ?_
  intro p e s m args below meth c s₁ Bd hml0 hP hK
  obtain ⟨rfl, hZ, hh⟩ := hP
  have hx := Bd.exec
  have hby := Bd.bytes
  have hml : c.maxLocals = 2 := hml0
  have hown : s.vm.findClass "com/example/tenorbook/tenorbook/definitions/FloatingRateIndexEqualsPinLaw" = some m.cls := findClass_of_methodNamed Bd.named
  have hnm := (name_of_methodNamed Bd.named Bd.method).1
  have hlk : meth.locks = false := BodyLoose.notSynchronized Bd
  have X0 : Stand p l e ({ frames := 0, cells := 0, slots := 0, locals := 0 } : Room) s m #[(.int ia), (.int (0 : Int32))] below meth c s₁ [] 0 0 := Stand.of_body Bd
  have e0 : s₁.heap = h0 := by rw [← hh, Bd.state]; rfl
  have N0 := Fr.nil n0
  rw [ef_ch0 m ia]
  show Go p e below s (fun v h L => Q_ch0 Z ia h0 n0 v h L) ({ frames := 0, cells := 0, slots := 0, locals := 0 } : Room).cells ({ frames := 0, cells := 0, slots := 0, locals := 0 } : Room).slots s₁ (mkF m 0 #[.val (.int ia), .val (.int (0 : Int32))] [])
  refine Go.step (T' := s₁) (f' := (mkF m 1 #[.val (.int ia), .val (.int (0 : Int32))] [(.int ia)])) (fun t k => XS.iloadN X0.here hx rfl (hb hby d2_0) rfl k) ?_
  refine Go.step (T' := s₁) (f' := (mkF m 2 #[.val (.int ia), .val (.int (0 : Int32))] [(.int (2 : Int32)), (.int ia)])) (fun t k => XS.iconst X0.here hx rfl (hb hby d2_1) k) ?_
  refine Go.step (T' := s₁) (f' := (mkF m 4 #[.val (.int ia), .val (.int (0 : Int32))] [(.int (8 : Int32)), (.int (2 : Int32)), (.int ia)])) (fun t k => XS.bipush X0.here hx rfl (hb hby d2_2) k) ?_
  refine Go.step (T' := s₁) (f' := (mkF m 5 #[.val (.int ia), .val (.int (0 : Int32))] [(.int (0 : Int32)), (.int (8 : Int32)), (.int (2 : Int32)), (.int ia)])) (fun t k => XS.iloadN X0.here hx rfl (hb hby d2_4) rfl k) ?_
  refine Go.step (T' := s₁) (f' := (mkF m 6 #[.val (.int ia), .val (.int (0 : Int32))] [(.int ((8 : Int32) * (0 : Int32))), (.int (2 : Int32)), (.int ia)])) (fun t k => XS.imul X0.here hx rfl (hb hby d2_5) rfl k) ?_
  rw [show ((8 : Int32) * (0 : Int32)) = (0 : Int32) from by decide]
  refine Go.step (T' := s₁) (f' := (mkF m 7 #[.val (.int ia), .val (.int (0 : Int32))] [(.int ((2 : Int32) + (0 : Int32))), (.int ia)])) (fun t k => XS.iadd X0.here hx rfl (hb hby d2_6) rfl k) ?_
  rw [show ((2 : Int32) + (0 : Int32)) = (2 : Int32) from by decide]
  refine Go.step (T' := s₁) (f' := (mkF m 8 #[.val (.int ia), .val (.int (0 : Int32))] [(.int ((ia.toUInt32 >>> ((2 : Int32) &&& 31).toUInt32).toInt32))])) (fun t k => XS.iushr X0.here hx rfl (hb hby d2_7) rfl k) ?_
  refine Go.step (T' := s₁) (f' := (mkF m 11 #[.val (.int ia), .val (.int (0 : Int32))] [(.int (255 : Int32)), (.int ((ia.toUInt32 >>> ((2 : Int32) &&& 31).toUInt32).toInt32))])) (fun t k => XS.sipush X0.here hx rfl (hb hby d2_8) k) ?_
  refine Go.step (T' := s₁) (f' := (mkF m 12 #[.val (.int ia), .val (.int (0 : Int32))] [(.int (((ia.toUInt32 >>> ((2 : Int32) &&& 31).toUInt32).toInt32) &&& (255 : Int32)))])) (fun t k => XS.iand X0.here hx rfl (hb hby d2_11) rfl k) ?_
  refine Go.retI X0 hx hlk Bd.returns (hb hby d2_12) e0 ?_ (by decide) (by decide)
  exact ⟨rfl, N0, rfl⟩
theorem ef_ch1 (m : MethodId) (ia : Int32) : entryFrame m #[(.int ia), (.int (1 : Int32))] 2 = mkF m 0 #[.val (.int ia), .val (.int (1 : Int32))] [] := by first | (simp [entryFrame, mkF, argsToLocals, Value.category]; done) | rfl
def Q_ch1 (Z : State) (ia : Int32) (h0 : Heap) (n0 : Nat) (v : Option Value) (h : Heap) (L : List Loc) : Prop := v = some (.int (own_ch (10 : Int32) ia)) ∧ Fr n0 L ∧ h = h0
set_option maxRecDepth 65536 in
set_option maxHeartbeats 40000000 in
theorem rm_ch1 (l : Launch) (Z : State) (a0 : Array Value) (hw : ∀ d ∈ tables_1, d.before a0 Z = true) (ws : List Jvm.Cond) (ia : Int32) (h0 : Heap) (n0 : Nat) (O0 : Old Z n0 h0) :
    MetFree l (⟨"com/example/tenorbook/tenorbook/definitions/FloatingRateIndexEqualsPinLaw", "ch", "(II)I"⟩ : MethodName) (head1 (Jvm.Cond.code (⟨"com/example/tenorbook/tenorbook/definitions/FloatingRateIndexEqualsPinLaw", "ch", "(II)I"⟩ : MethodName) method_2_code 2 (some .int) :: ws) ({ frames := 0, cells := 0, slots := 0, locals := 0 } : Room)) (fun a U => a = #[(.int ia), (.int (1 : Int32))] ∧ Z.Warmed39 U.vm ∧ U.heap = h0) (fun _ _ _ _ _ => True) (fun _ U o U' => ∃ v L, o = .returned v ∧ Q_ch1 Z ia h0 n0 v U'.heap L ∧ FrameEnd U o U' L ({ frames := 0, cells := 0, slots := 0, locals := 0 } : Room).cells ({ frames := 0, cells := 0, slots := 0, locals := 0 } : Room).slots) := by
  refine MetFree.of_bodySF (plainFor_of_name pn_com_example_tenorbook_tenorbook_definitions_FloatingRateIndexEqualsPinLaw) hisR ?_
  intro p e s m args below meth c s₁ Bd hml0 hP hK
  obtain ⟨rfl, hZ, hh⟩ := hP
  have hx := Bd.exec
  have hby := Bd.bytes
  have hml : c.maxLocals = 2 := hml0
  have hown : s.vm.findClass "com/example/tenorbook/tenorbook/definitions/FloatingRateIndexEqualsPinLaw" = some m.cls := findClass_of_methodNamed Bd.named
  have hnm := (name_of_methodNamed Bd.named Bd.method).1
  have hlk : meth.locks = false := BodyLoose.notSynchronized Bd
  have X0 : Stand p l e ({ frames := 0, cells := 0, slots := 0, locals := 0 } : Room) s m #[(.int ia), (.int (1 : Int32))] below meth c s₁ [] 0 0 := Stand.of_body Bd
  have e0 : s₁.heap = h0 := by rw [← hh, Bd.state]; rfl
  have N0 := Fr.nil n0
  rw [ef_ch1 m ia]
  show Go p e below s (fun v h L => Q_ch1 Z ia h0 n0 v h L) ({ frames := 0, cells := 0, slots := 0, locals := 0 } : Room).cells ({ frames := 0, cells := 0, slots := 0, locals := 0 } : Room).slots s₁ (mkF m 0 #[.val (.int ia), .val (.int (1 : Int32))] [])
  refine Go.step (T' := s₁) (f' := (mkF m 1 #[.val (.int ia), .val (.int (1 : Int32))] [(.int ia)])) (fun t k => XS.iloadN X0.here hx rfl (hb hby d2_0) rfl k) ?_
  refine Go.step (T' := s₁) (f' := (mkF m 2 #[.val (.int ia), .val (.int (1 : Int32))] [(.int (2 : Int32)), (.int ia)])) (fun t k => XS.iconst X0.here hx rfl (hb hby d2_1) k) ?_
  refine Go.step (T' := s₁) (f' := (mkF m 4 #[.val (.int ia), .val (.int (1 : Int32))] [(.int (8 : Int32)), (.int (2 : Int32)), (.int ia)])) (fun t k => XS.bipush X0.here hx rfl (hb hby d2_2) k) ?_
  refine Go.step (T' := s₁) (f' := (mkF m 5 #[.val (.int ia), .val (.int (1 : Int32))] [(.int (1 : Int32)), (.int (8 : Int32)), (.int (2 : Int32)), (.int ia)])) (fun t k => XS.iloadN X0.here hx rfl (hb hby d2_4) rfl k) ?_
  refine Go.step (T' := s₁) (f' := (mkF m 6 #[.val (.int ia), .val (.int (1 : Int32))] [(.int ((8 : Int32) * (1 : Int32))), (.int (2 : Int32)), (.int ia)])) (fun t k => XS.imul X0.here hx rfl (hb hby d2_5) rfl k) ?_
  rw [show ((8 : Int32) * (1 : Int32)) = (8 : Int32) from by decide]
  refine Go.step (T' := s₁) (f' := (mkF m 7 #[.val (.int ia), .val (.int (1 : Int32))] [(.int ((2 : Int32) + (8 : Int32))), (.int ia)])) (fun t k => XS.iadd X0.here hx rfl (hb hby d2_6) rfl k) ?_
  rw [show ((2 : Int32) + (8 : Int32)) = (10 : Int32) from by decide]
  refine Go.step (T' := s₁) (f' := (mkF m 8 #[.val (.int ia), .val (.int (1 : Int32))] [(.int ((ia.toUInt32 >>> ((10 : Int32) &&& 31).toUInt32).toInt32))])) (fun t k => XS.iushr X0.here hx rfl (hb hby d2_7) rfl k) ?_
  refine Go.step (T' := s₁) (f' := (mkF m 11 #[.val (.int ia), .val (.int (1 : Int32))] [(.int (255 : Int32)), (.int ((ia.toUInt32 >>> ((10 : Int32) &&& 31).toUInt32).toInt32))])) (fun t k => XS.sipush X0.here hx rfl (hb hby d2_8) k) ?_
  refine Go.step (T' := s₁) (f' := (mkF m 12 #[.val (.int ia), .val (.int (1 : Int32))] [(.int (((ia.toUInt32 >>> ((10 : Int32) &&& 31).toUInt32).toInt32) &&& (255 : Int32)))])) (fun t k => XS.iand X0.here hx rfl (hb hby d2_11) rfl k) ?_
  refine Go.retI X0 hx hlk Bd.returns (hb hby d2_12) e0 ?_ (by decide) (by decide)
  exact ⟨rfl, N0, rfl⟩
theorem ef_ch2 (m : MethodId) (ia : Int32) : entryFrame m #[(.int ia), (.int (2 : Int32))] 2 = mkF m 0 #[.val (.int ia), .val (.int (2 : Int32))] [] := by first | (simp [entryFrame, mkF, argsToLocals, Value.category]; done) | rfl
def Q_ch2 (Z : State) (ia : Int32) (h0 : Heap) (n0 : Nat) (v : Option Value) (h : Heap) (L : List Loc) : Prop := v = some (.int (own_ch (18 : Int32) ia)) ∧ Fr n0 L ∧ h = h0
set_option maxRecDepth 65536 in
set_option maxHeartbeats 40000000 in
theorem rm_ch2 (l : Launch) (Z : State) (a0 : Array Value) (hw : ∀ d ∈ tables_1, d.before a0 Z = true) (ws : List Jvm.Cond) (ia : Int32) (h0 : Heap) (n0 : Nat) (O0 : Old Z n0 h0) :
    MetFree l (⟨"com/example/tenorbook/tenorbook/definitions/FloatingRateIndexEqualsPinLaw", "ch", "(II)I"⟩ : MethodName) (head1 (Jvm.Cond.code (⟨"com/example/tenorbook/tenorbook/definitions/FloatingRateIndexEqualsPinLaw", "ch", "(II)I"⟩ : MethodName) method_2_code 2 (some .int) :: ws) ({ frames := 0, cells := 0, slots := 0, locals := 0 } : Room)) (fun a U => a = #[(.int ia), (.int (2 : Int32))] ∧ Z.Warmed39 U.vm ∧ U.heap = h0) (fun _ _ _ _ _ => True) (fun _ U o U' => ∃ v L, o = .returned v ∧ Q_ch2 Z ia h0 n0 v U'.heap L ∧ FrameEnd U o U' L ({ frames := 0, cells := 0, slots := 0, locals := 0 } : Room).cells ({ frames := 0, cells := 0, slots := 0, locals := 0 } : Room).slots) := by
  refine MetFree.of_bodySF (plainFor_of_name pn_com_example_tenorbook_tenorbook_definitions_FloatingRateIndexEqualsPinLaw) hisR ?_
  intro p e s m args below meth c s₁ Bd hml0 hP hK
  obtain ⟨rfl, hZ, hh⟩ := hP
  have hx := Bd.exec
  have hby := Bd.bytes
  have hml : c.maxLocals = 2 := hml0
  have hown : s.vm.findClass "com/example/tenorbook/tenorbook/definitions/FloatingRateIndexEqualsPinLaw" = some m.cls := findClass_of_methodNamed Bd.named
  have hnm := (name_of_methodNamed Bd.named Bd.method).1
  have hlk : meth.locks = false := BodyLoose.notSynchronized Bd
  have X0 : Stand p l e ({ frames := 0, cells := 0, slots := 0, locals := 0 } : Room) s m #[(.int ia), (.int (2 : Int32))] below meth c s₁ [] 0 0 := Stand.of_body Bd
  have e0 : s₁.heap = h0 := by rw [← hh, Bd.state]; rfl
  have N0 := Fr.nil n0
  rw [ef_ch2 m ia]
  show Go p e below s (fun v h L => Q_ch2 Z ia h0 n0 v h L) ({ frames := 0, cells := 0, slots := 0, locals := 0 } : Room).cells ({ frames := 0, cells := 0, slots := 0, locals := 0 } : Room).slots s₁ (mkF m 0 #[.val (.int ia), .val (.int (2 : Int32))] [])
  refine Go.step (T' := s₁) (f' := (mkF m 1 #[.val (.int ia), .val (.int (2 : Int32))] [(.int ia)])) (fun t k => XS.iloadN X0.here hx rfl (hb hby d2_0) rfl k) ?_
  refine Go.step (T' := s₁) (f' := (mkF m 2 #[.val (.int ia), .val (.int (2 : Int32))] [(.int (2 : Int32)), (.int ia)])) (fun t k => XS.iconst X0.here hx rfl (hb hby d2_1) k) ?_
  refine Go.step (T' := s₁) (f' := (mkF m 4 #[.val (.int ia), .val (.int (2 : Int32))] [(.int (8 : Int32)), (.int (2 : Int32)), (.int ia)])) (fun t k => XS.bipush X0.here hx rfl (hb hby d2_2) k) ?_
  refine Go.step (T' := s₁) (f' := (mkF m 5 #[.val (.int ia), .val (.int (2 : Int32))] [(.int (2 : Int32)), (.int (8 : Int32)), (.int (2 : Int32)), (.int ia)])) (fun t k => XS.iloadN X0.here hx rfl (hb hby d2_4) rfl k) ?_
  refine Go.step (T' := s₁) (f' := (mkF m 6 #[.val (.int ia), .val (.int (2 : Int32))] [(.int ((8 : Int32) * (2 : Int32))), (.int (2 : Int32)), (.int ia)])) (fun t k => XS.imul X0.here hx rfl (hb hby d2_5) rfl k) ?_
  rw [show ((8 : Int32) * (2 : Int32)) = (16 : Int32) from by decide]
  refine Go.step (T' := s₁) (f' := (mkF m 7 #[.val (.int ia), .val (.int (2 : Int32))] [(.int ((2 : Int32) + (16 : Int32))), (.int ia)])) (fun t k => XS.iadd X0.here hx rfl (hb hby d2_6) rfl k) ?_
  rw [show ((2 : Int32) + (16 : Int32)) = (18 : Int32) from by decide]
  refine Go.step (T' := s₁) (f' := (mkF m 8 #[.val (.int ia), .val (.int (2 : Int32))] [(.int ((ia.toUInt32 >>> ((18 : Int32) &&& 31).toUInt32).toInt32))])) (fun t k => XS.iushr X0.here hx rfl (hb hby d2_7) rfl k) ?_
  refine Go.step (T' := s₁) (f' := (mkF m 11 #[.val (.int ia), .val (.int (2 : Int32))] [(.int (255 : Int32)), (.int ((ia.toUInt32 >>> ((18 : Int32) &&& 31).toUInt32).toInt32))])) (fun t k => XS.sipush X0.here hx rfl (hb hby d2_8) k) ?_
  refine Go.step (T' := s₁) (f' := (mkF m 12 #[.val (.int ia), .val (.int (2 : Int32))] [(.int (((ia.toUInt32 >>> ((18 : Int32) &&& 31).toUInt32).toInt32) &&& (255 : Int32)))])) (fun t k => XS.iand X0.here hx rfl (hb hby d2_11) rfl k) ?_
  refine Go.retI X0 hx hlk Bd.returns (hb hby d2_12) e0 ?_ (by decide) (by decide)
  exact ⟨rfl, N0, rfl⟩
theorem d1_0 : decode method_3_code 0 = .ok (.iload_n 0, 1) := by decide +kernel
theorem d1_1 : decode method_3_code 1 = .ok (.iconst 3, 1) := by decide +kernel
theorem d1_2 : decode method_3_code 2 = .ok (.iand, 1) := by decide +kernel
theorem d1_3 : decode method_3_code 3 = .ok (.istore_n 1, 1) := by decide +kernel
theorem d1_4 : decode method_3_code 4 = .ok (.iload_n 0, 1) := by decide +kernel
theorem d1_5 : decode method_3_code 5 = .ok (.iconst 0, 1) := by decide +kernel
theorem d1_6 : decode method_3_code 6 = .ok (.invokestatic 7, 3) := by decide +kernel
theorem d1_9 : decode method_3_code 9 = .ok (.i2c, 1) := by decide +kernel
theorem d1_10 : decode method_3_code 10 = .ok (.istore_n 2, 1) := by decide +kernel
theorem d1_11 : decode method_3_code 11 = .ok (.iload_n 0, 1) := by decide +kernel
theorem d1_12 : decode method_3_code 12 = .ok (.iconst 1, 1) := by decide +kernel
theorem d1_13 : decode method_3_code 13 = .ok (.invokestatic 7, 3) := by decide +kernel
theorem d1_16 : decode method_3_code 16 = .ok (.i2c, 1) := by decide +kernel
theorem d1_17 : decode method_3_code 17 = .ok (.istore_n 3, 1) := by decide +kernel
theorem d1_18 : decode method_3_code 18 = .ok (.iload_n 0, 1) := by decide +kernel
theorem d1_19 : decode method_3_code 19 = .ok (.iconst 2, 1) := by decide +kernel
theorem d1_20 : decode method_3_code 20 = .ok (.invokestatic 7, 3) := by decide +kernel
theorem d1_23 : decode method_3_code 23 = .ok (.i2c, 1) := by decide +kernel
theorem d1_24 : decode method_3_code 24 = .ok (.istore 4, 2) := by decide +kernel
theorem d1_26 : decode method_3_code 26 = .ok (.iload_n 1, 1) := by decide +kernel
theorem d1_27 : decode method_3_code 27 = .ok (.ifCond .ne 14, 3) := by decide +kernel
theorem d1_30 : decode method_3_code 30 = .ok (.new 13, 3) := by decide +kernel
theorem d1_33 : decode method_3_code 33 = .ok (.dup, 1) := by decide +kernel
theorem d1_34 : decode method_3_code 34 = .ok (.iconst 0, 1) := by decide +kernel
theorem d1_35 : decode method_3_code 35 = .ok (.newarray .char, 2) := by decide +kernel
theorem d1_37 : decode method_3_code 37 = .ok (.invokespecial 15, 3) := by decide +kernel
theorem d1_40 : decode method_3_code 40 = .ok (.areturn, 1) := by decide +kernel
theorem d1_41 : decode method_3_code 41 = .ok (.iload_n 1, 1) := by decide +kernel
theorem d1_42 : decode method_3_code 42 = .ok (.iconst 1, 1) := by decide +kernel
theorem d1_43 : decode method_3_code 43 = .ok (.if_icmp .ne 23, 3) := by decide +kernel
theorem d1_46 : decode method_3_code 46 = .ok (.iconst 1, 1) := by decide +kernel
theorem d1_47 : decode method_3_code 47 = .ok (.newarray .char, 2) := by decide +kernel
theorem d1_49 : decode method_3_code 49 = .ok (.astore 5, 2) := by decide +kernel
theorem d1_51 : decode method_3_code 51 = .ok (.aload 5, 2) := by decide +kernel
theorem d1_53 : decode method_3_code 53 = .ok (.iconst 0, 1) := by decide +kernel
theorem d1_54 : decode method_3_code 54 = .ok (.iload_n 2, 1) := by decide +kernel
theorem d1_55 : decode method_3_code 55 = .ok (.castore, 1) := by decide +kernel
theorem d1_56 : decode method_3_code 56 = .ok (.new 13, 3) := by decide +kernel
theorem d1_59 : decode method_3_code 59 = .ok (.dup, 1) := by decide +kernel
theorem d1_60 : decode method_3_code 60 = .ok (.aload 5, 2) := by decide +kernel
theorem d1_62 : decode method_3_code 62 = .ok (.invokespecial 15, 3) := by decide +kernel
theorem d1_65 : decode method_3_code 65 = .ok (.areturn, 1) := by decide +kernel
theorem d1_66 : decode method_3_code 66 = .ok (.iload_n 1, 1) := by decide +kernel
theorem d1_67 : decode method_3_code 67 = .ok (.iconst 2, 1) := by decide +kernel
theorem d1_68 : decode method_3_code 68 = .ok (.if_icmp .ne 28, 3) := by decide +kernel
theorem d1_71 : decode method_3_code 71 = .ok (.iconst 2, 1) := by decide +kernel
theorem d1_72 : decode method_3_code 72 = .ok (.newarray .char, 2) := by decide +kernel
theorem d1_74 : decode method_3_code 74 = .ok (.astore 5, 2) := by decide +kernel
theorem d1_76 : decode method_3_code 76 = .ok (.aload 5, 2) := by decide +kernel
theorem d1_78 : decode method_3_code 78 = .ok (.iconst 0, 1) := by decide +kernel
theorem d1_79 : decode method_3_code 79 = .ok (.iload_n 2, 1) := by decide +kernel
theorem d1_80 : decode method_3_code 80 = .ok (.castore, 1) := by decide +kernel
theorem d1_81 : decode method_3_code 81 = .ok (.aload 5, 2) := by decide +kernel
theorem d1_83 : decode method_3_code 83 = .ok (.iconst 1, 1) := by decide +kernel
theorem d1_84 : decode method_3_code 84 = .ok (.iload_n 3, 1) := by decide +kernel
theorem d1_85 : decode method_3_code 85 = .ok (.castore, 1) := by decide +kernel
theorem d1_86 : decode method_3_code 86 = .ok (.new 13, 3) := by decide +kernel
theorem d1_89 : decode method_3_code 89 = .ok (.dup, 1) := by decide +kernel
theorem d1_90 : decode method_3_code 90 = .ok (.aload 5, 2) := by decide +kernel
theorem d1_92 : decode method_3_code 92 = .ok (.invokespecial 15, 3) := by decide +kernel
theorem d1_95 : decode method_3_code 95 = .ok (.areturn, 1) := by decide +kernel
theorem d1_96 : decode method_3_code 96 = .ok (.iconst 3, 1) := by decide +kernel
theorem d1_97 : decode method_3_code 97 = .ok (.newarray .char, 2) := by decide +kernel
theorem d1_99 : decode method_3_code 99 = .ok (.astore 5, 2) := by decide +kernel
theorem d1_101 : decode method_3_code 101 = .ok (.aload 5, 2) := by decide +kernel
theorem d1_103 : decode method_3_code 103 = .ok (.iconst 0, 1) := by decide +kernel
theorem d1_104 : decode method_3_code 104 = .ok (.iload_n 2, 1) := by decide +kernel
theorem d1_105 : decode method_3_code 105 = .ok (.castore, 1) := by decide +kernel
theorem d1_106 : decode method_3_code 106 = .ok (.aload 5, 2) := by decide +kernel
theorem d1_108 : decode method_3_code 108 = .ok (.iconst 1, 1) := by decide +kernel
theorem d1_109 : decode method_3_code 109 = .ok (.iload_n 3, 1) := by decide +kernel
theorem d1_110 : decode method_3_code 110 = .ok (.castore, 1) := by decide +kernel
theorem d1_111 : decode method_3_code 111 = .ok (.aload 5, 2) := by decide +kernel
theorem d1_113 : decode method_3_code 113 = .ok (.iconst 2, 1) := by decide +kernel
theorem d1_114 : decode method_3_code 114 = .ok (.iload 4, 2) := by decide +kernel
theorem d1_116 : decode method_3_code 116 = .ok (.castore, 1) := by decide +kernel
theorem d1_117 : decode method_3_code 117 = .ok (.new 13, 3) := by decide +kernel
theorem d1_120 : decode method_3_code 120 = .ok (.dup, 1) := by decide +kernel
theorem d1_121 : decode method_3_code 121 = .ok (.aload 5, 2) := by decide +kernel
theorem d1_123 : decode method_3_code 123 = .ok (.invokespecial 15, 3) := by decide +kernel
theorem d1_126 : decode method_3_code 126 = .ok (.areturn, 1) := by decide +kernel
theorem pd5 : parseMethodDescriptor "(II)I" = some ⟨[.int, .int], some .int⟩ := by decide +kernel
theorem pd6 : parseMethodDescriptor "([C)V" = some ⟨[(.array .char)], none⟩ := by decide +kernel
theorem ef_mk (m : MethodId) (ia : Int32) : entryFrame m #[(.int ia)] 6 = mkF m 0 #[.val (.int ia), .unset, .unset, .unset, .unset, .unset] [] := by first | (simp [entryFrame, mkF, argsToLocals, Value.category]; done) | rfl
def Q_mk (Z : State) (ia : Int32) (wz : Int32) (h0 : Heap) (n0 : Nat) (v : Option Value) (h : Heap) (L : List Loc) : Prop := ∃ bs : Addr, ∃ bv : Addr, ∃ kv : ClassId, v = some (.ref bs) ∧ Fr n0 L ∧ Keep h0 h [] ∧ Exa Z h bs "java/lang/String" ∧ Fld Z h bs "java/lang/String" "value" "[B" (.ref bv) ∧ Fld Z h bs "java/lang/String" "coder" "B" (.int (0 : Int32)) ∧ Arv Z h bv kv .byte (Int32.ofNat (own_str ia).length) ((own_str ia).map Value.int) (.int (0 : Int32))
set_option maxRecDepth 65536 in
set_option maxHeartbeats 40000000 in
theorem rm_mk (l : Launch) (Z : State) (a0 : Array Value) (hw : ∀ d ∈ tables_1, d.before a0 Z = true) (ws : List Jvm.Cond) (ia : Int32) (wz : Int32) (h0 : Heap) (n0 : Nat) (O0 : Old Z n0 h0) (hEL : EW Z a0 own_EL) (P0 : Sta Z Z.heap "java/lang/String" "COMPACT_STRINGS" "Z" (.int wz)) (hwz : ¬ (wz = (0 : Int32))) :
    MetFree l (⟨"com/example/tenorbook/tenorbook/definitions/FloatingRateIndexEqualsPinLaw", "mk", "(I)Ljava/lang/String;"⟩ : MethodName) (head1 (Jvm.Cond.code (⟨"com/example/tenorbook/tenorbook/definitions/FloatingRateIndexEqualsPinLaw", "mk", "(I)Ljava/lang/String;"⟩ : MethodName) method_3_code 6 (some (.object "java/lang/String")) :: ws) ({ frames := 4, cells := 6, slots := 12, locals := 66 } : Room)) (fun a U => a = #[(.int ia)] ∧ Z.Warmed39 U.vm ∧ U.heap = h0 ∧ CHv Z own_EL U.vm h0) (fun _ _ _ _ _ => True) (fun _ U o U' => ∃ v L, o = .returned v ∧ Q_mk Z ia wz h0 n0 v U'.heap L ∧ CHr Z own_EL U.vm U.heap U'.vm U'.heap ∧ ReturnedEndW U o U' L ({ frames := 4, cells := 6, slots := 12, locals := 66 } : Room).cells ({ frames := 4, cells := 6, slots := 12, locals := 66 } : Room).slots) := by
  refine MetFree.of_bodySF (plainFor_of_name pn_com_example_tenorbook_tenorbook_definitions_FloatingRateIndexEqualsPinLaw) hisR ?_
  intro p e s m args below meth c s₁ Bd hml0 hP hK
  obtain ⟨rfl, hZ, hh, hC0⟩ := hP
  have hx := Bd.exec
  have hby := Bd.bytes
  have hml : c.maxLocals = 6 := hml0
  have hown : (s.setVm s.vm).vm.findClass "com/example/tenorbook/tenorbook/definitions/FloatingRateIndexEqualsPinLaw" = some m.cls := findClass_of_methodNamed Bd.named
  have hnm := (name_of_methodNamed Bd.named Bd.method).1
  have hlk : meth.locks = false := BodyLoose.notSynchronized Bd
  have X0 : Stand p l e ({ frames := 4, cells := 6, slots := 12, locals := 66 } : Room) (s.setVm s.vm) m #[(.int ia)] below meth c s₁ [] 0 0 := Stand.of_body Bd
  have e0 : s₁.heap = h0 := by rw [← hh, Bd.state]; rfl
  have N0 := Fr.nil n0
  have hZ : Z.Warmed39 (s.setVm s.vm).vm := hZ
  have hS0 : s.Since s.vm 0 := (State.WarmedH.refl s).since 0
  have hk0 : 0 ≤ h0.size := Nat.zero_le _
  have CR0 : CHr Z own_EL s.vm s.heap s.vm h0 := by rw [hh]; exact CHr.refl hC0
  have K0 := Keep.refl h0 []
  rw [ef_mk m ia]
  show GoH p e below s Z own_EL (fun v h L => Q_mk Z ia wz h0 n0 v h L) ({ frames := 4, cells := 6, slots := 12, locals := 66 } : Room).cells ({ frames := 4, cells := 6, slots := 12, locals := 66 } : Room).slots s₁ (mkF m 0 #[.val (.int ia), .unset, .unset, .unset, .unset, .unset] [])
  refine GoH.step (T' := s₁) (f' := (mkF m 1 #[.val (.int ia), .unset, .unset, .unset, .unset, .unset] [(.int ia)])) (fun t k => XS.iloadN X0.here hx rfl (hb hby d1_0) rfl k) ?_
  refine GoH.step (T' := s₁) (f' := (mkF m 2 #[.val (.int ia), .unset, .unset, .unset, .unset, .unset] [(.int (3 : Int32)), (.int ia)])) (fun t k => XS.iconst X0.here hx rfl (hb hby d1_1) k) ?_
  refine GoH.step (T' := s₁) (f' := (mkF m 3 #[.val (.int ia), .unset, .unset, .unset, .unset, .unset] [(.int (ia &&& (3 : Int32)))])) (fun t k => XS.iand X0.here hx rfl (hb hby d1_2) rfl k) ?_
  refine GoH.step (T' := s₁) (f' := (mkF m 4 #[.val (.int ia), .val (.int (ia &&& (3 : Int32))), .unset, .unset, .unset, .unset] [])) (fun t k => XS.istoreN X0.here hx rfl (hb hby d1_3) rfl (l' := #[.val (.int ia), .val (.int (ia &&& (3 : Int32))), .unset, .unset, .unset, .unset]) rfl k) ?_
  refine GoH.step (T' := s₁) (f' := (mkF m 5 #[.val (.int ia), .val (.int (ia &&& (3 : Int32))), .unset, .unset, .unset, .unset] [(.int ia)])) (fun t k => XS.iloadN X0.here hx rfl (hb hby d1_4) rfl k) ?_
  refine GoH.step (T' := s₁) (f' := (mkF m 6 #[.val (.int ia), .val (.int (ia &&& (3 : Int32))), .unset, .unset, .unset, .unset] [(.int (0 : Int32)), (.int ia)])) (fun t k => XS.iconst X0.here hx rfl (hb hby d1_5) k) ?_
  obtain ⟨_, _, ⟨T450, L450, k450, n450⟩, -, X450, ⟨Lc450, hQ450, l450, y450, z450⟩, st450⟩ := Jvm.LawKit.callS X0 hx (y := (⟨"com/example/tenorbook/tenorbook/definitions/FloatingRateIndexEqualsPinLaw", "ch", "(II)I"⟩ : MethodName)) hown (mvT hZ (hw _ (List.mem_of_getElem? (i := 4) rfl))) (mvT hZ (hw _ (List.mem_of_getElem? (i := 5) rfl))) (mvT hZ (hw _ (List.mem_of_getElem? (i := 2) rfl))) (mvT hZ (hw _ (List.mem_of_getElem? (i := 6) rfl))) (by decide) (backOf (W := 0) (rm_ch0 l Z a0 hw [] ia h0 n0 O0 ) hZ (hw _ (List.mem_of_getElem? (i := 6) rfl)) (hw _ (List.mem_of_getElem? (i := 2) rfl)) (by decide) (by decide)) (g := (mkF m 6 #[.val (.int ia), .val (.int (ia &&& (3 : Int32))), .unset, .unset, .unset, .unset] [(.int (0 : Int32)), (.int ia)])) rfl (by rw [hml]; rfl) (argsL := [(.int ia), (.int (0 : Int32))]) (rest := []) (lenOf pd5 rfl) rfl (by show 2 * 0 + _ ≤ _; exact Nat.le_of_eq rfl) (hb hby d1_6) (fun _ _ => ⟨rfl, e0, (by decide : 0 + 0 ≤ _), (by decide : 0 + 0 ≤ _)⟩)
  dsimp only [Pt.U, Pt.locs, Pt.cells, Pt.slots] at X450 l450 y450 z450 st450 hQ450
  subst l450 y450 z450
  obtain ⟨rfl, Nq450, hh450⟩ := hQ450
  have N451 := Fr.app N0 Nq450
  refine GoH.step (T' := T450) (f' := (mkF m 9 #[.val (.int ia), .val (.int (ia &&& (3 : Int32))), .unset, .unset, .unset, .unset] [(.int (own_ch (2 : Int32) ia))])) st450 ?_
  clear st450 X0 Nq450
  refine GoH.step (T' := T450) (f' := (mkF m 10 #[.val (.int ia), .val (.int (ia &&& (3 : Int32))), .unset, .unset, .unset, .unset] [(.int ((own_ch (2 : Int32) ia).toUInt32.toUInt16.toUInt32.toInt32))])) (fun t k => XS.i2c X450.here hx rfl (hb hby d1_9) rfl k) ?_
  refine GoH.step (T' := T450) (f' := (mkF m 11 #[.val (.int ia), .val (.int (ia &&& (3 : Int32))), .val (.int ((own_ch (2 : Int32) ia).toUInt32.toUInt16.toUInt32.toInt32)), .unset, .unset, .unset] [])) (fun t k => XS.istoreN X450.here hx rfl (hb hby d1_10) rfl (l' := #[.val (.int ia), .val (.int (ia &&& (3 : Int32))), .val (.int ((own_ch (2 : Int32) ia).toUInt32.toUInt16.toUInt32.toInt32)), .unset, .unset, .unset]) rfl k) ?_
  refine GoH.step (T' := T450) (f' := (mkF m 12 #[.val (.int ia), .val (.int (ia &&& (3 : Int32))), .val (.int ((own_ch (2 : Int32) ia).toUInt32.toUInt16.toUInt32.toInt32)), .unset, .unset, .unset] [(.int ia)])) (fun t k => XS.iloadN X450.here hx rfl (hb hby d1_11) rfl k) ?_
  refine GoH.step (T' := T450) (f' := (mkF m 13 #[.val (.int ia), .val (.int (ia &&& (3 : Int32))), .val (.int ((own_ch (2 : Int32) ia).toUInt32.toUInt16.toUInt32.toInt32)), .unset, .unset, .unset] [(.int (1 : Int32)), (.int ia)])) (fun t k => XS.iconst X450.here hx rfl (hb hby d1_12) k) ?_
  obtain ⟨_, _, ⟨T452, L452, k452, n452⟩, -, X452, ⟨Lc452, hQ452, l452, y452, z452⟩, st452⟩ := Jvm.LawKit.callS X450 hx (y := (⟨"com/example/tenorbook/tenorbook/definitions/FloatingRateIndexEqualsPinLaw", "ch", "(II)I"⟩ : MethodName)) hown (mvT hZ (hw _ (List.mem_of_getElem? (i := 4) rfl))) (mvT hZ (hw _ (List.mem_of_getElem? (i := 5) rfl))) (mvT hZ (hw _ (List.mem_of_getElem? (i := 2) rfl))) (mvT hZ (hw _ (List.mem_of_getElem? (i := 6) rfl))) (by decide) (backOf (W := 0) (rm_ch1 l Z a0 hw [] ia h0 n0 O0 ) hZ (hw _ (List.mem_of_getElem? (i := 6) rfl)) (hw _ (List.mem_of_getElem? (i := 2) rfl)) (by decide) (by decide)) (g := (mkF m 13 #[.val (.int ia), .val (.int (ia &&& (3 : Int32))), .val (.int ((own_ch (2 : Int32) ia).toUInt32.toUInt16.toUInt32.toInt32)), .unset, .unset, .unset] [(.int (1 : Int32)), (.int ia)])) rfl (by rw [hml]; rfl) (argsL := [(.int ia), (.int (1 : Int32))]) (rest := []) (lenOf pd5 rfl) rfl (by show 2 * 0 + _ ≤ _; exact Nat.le_of_eq rfl) (hb hby d1_13) (fun _ _ => ⟨rfl, hh450, (by decide : 0 + 0 ≤ _), (by decide : 0 + 0 ≤ _)⟩)
  dsimp only [Pt.U, Pt.locs, Pt.cells, Pt.slots] at X452 l452 y452 z452 st452 hQ452
  subst l452 y452 z452
  obtain ⟨rfl, Nq452, hh452⟩ := hQ452
  have N453 := Fr.app N451 Nq452
  refine GoH.step (T' := T452) (f' := (mkF m 16 #[.val (.int ia), .val (.int (ia &&& (3 : Int32))), .val (.int ((own_ch (2 : Int32) ia).toUInt32.toUInt16.toUInt32.toInt32)), .unset, .unset, .unset] [(.int (own_ch (10 : Int32) ia))])) st452 ?_
  clear st452 X450 N451 Nq452
  refine GoH.step (T' := T452) (f' := (mkF m 17 #[.val (.int ia), .val (.int (ia &&& (3 : Int32))), .val (.int ((own_ch (2 : Int32) ia).toUInt32.toUInt16.toUInt32.toInt32)), .unset, .unset, .unset] [(.int ((own_ch (10 : Int32) ia).toUInt32.toUInt16.toUInt32.toInt32))])) (fun t k => XS.i2c X452.here hx rfl (hb hby d1_16) rfl k) ?_
  refine GoH.step (T' := T452) (f' := (mkF m 18 #[.val (.int ia), .val (.int (ia &&& (3 : Int32))), .val (.int ((own_ch (2 : Int32) ia).toUInt32.toUInt16.toUInt32.toInt32)), .val (.int ((own_ch (10 : Int32) ia).toUInt32.toUInt16.toUInt32.toInt32)), .unset, .unset] [])) (fun t k => XS.istoreN X452.here hx rfl (hb hby d1_17) rfl (l' := #[.val (.int ia), .val (.int (ia &&& (3 : Int32))), .val (.int ((own_ch (2 : Int32) ia).toUInt32.toUInt16.toUInt32.toInt32)), .val (.int ((own_ch (10 : Int32) ia).toUInt32.toUInt16.toUInt32.toInt32)), .unset, .unset]) rfl k) ?_
  refine GoH.step (T' := T452) (f' := (mkF m 19 #[.val (.int ia), .val (.int (ia &&& (3 : Int32))), .val (.int ((own_ch (2 : Int32) ia).toUInt32.toUInt16.toUInt32.toInt32)), .val (.int ((own_ch (10 : Int32) ia).toUInt32.toUInt16.toUInt32.toInt32)), .unset, .unset] [(.int ia)])) (fun t k => XS.iloadN X452.here hx rfl (hb hby d1_18) rfl k) ?_
  refine GoH.step (T' := T452) (f' := (mkF m 20 #[.val (.int ia), .val (.int (ia &&& (3 : Int32))), .val (.int ((own_ch (2 : Int32) ia).toUInt32.toUInt16.toUInt32.toInt32)), .val (.int ((own_ch (10 : Int32) ia).toUInt32.toUInt16.toUInt32.toInt32)), .unset, .unset] [(.int (2 : Int32)), (.int ia)])) (fun t k => XS.iconst X452.here hx rfl (hb hby d1_19) k) ?_
  obtain ⟨_, _, ⟨T454, L454, k454, n454⟩, -, X454, ⟨Lc454, hQ454, l454, y454, z454⟩, st454⟩ := Jvm.LawKit.callS X452 hx (y := (⟨"com/example/tenorbook/tenorbook/definitions/FloatingRateIndexEqualsPinLaw", "ch", "(II)I"⟩ : MethodName)) hown (mvT hZ (hw _ (List.mem_of_getElem? (i := 4) rfl))) (mvT hZ (hw _ (List.mem_of_getElem? (i := 5) rfl))) (mvT hZ (hw _ (List.mem_of_getElem? (i := 2) rfl))) (mvT hZ (hw _ (List.mem_of_getElem? (i := 6) rfl))) (by decide) (backOf (W := 0) (rm_ch2 l Z a0 hw [] ia h0 n0 O0 ) hZ (hw _ (List.mem_of_getElem? (i := 6) rfl)) (hw _ (List.mem_of_getElem? (i := 2) rfl)) (by decide) (by decide)) (g := (mkF m 20 #[.val (.int ia), .val (.int (ia &&& (3 : Int32))), .val (.int ((own_ch (2 : Int32) ia).toUInt32.toUInt16.toUInt32.toInt32)), .val (.int ((own_ch (10 : Int32) ia).toUInt32.toUInt16.toUInt32.toInt32)), .unset, .unset] [(.int (2 : Int32)), (.int ia)])) rfl (by rw [hml]; rfl) (argsL := [(.int ia), (.int (2 : Int32))]) (rest := []) (lenOf pd5 rfl) rfl (by show 2 * 0 + _ ≤ _; exact Nat.le_of_eq rfl) (hb hby d1_20) (fun _ _ => ⟨rfl, hh452, (by decide : 0 + 0 ≤ _), (by decide : 0 + 0 ≤ _)⟩)
  dsimp only [Pt.U, Pt.locs, Pt.cells, Pt.slots] at X454 l454 y454 z454 st454 hQ454
  subst l454 y454 z454
  obtain ⟨rfl, Nq454, hh454⟩ := hQ454
  have N455 := Fr.app N453 Nq454
  refine GoH.step (T' := T454) (f' := (mkF m 23 #[.val (.int ia), .val (.int (ia &&& (3 : Int32))), .val (.int ((own_ch (2 : Int32) ia).toUInt32.toUInt16.toUInt32.toInt32)), .val (.int ((own_ch (10 : Int32) ia).toUInt32.toUInt16.toUInt32.toInt32)), .unset, .unset] [(.int (own_ch (18 : Int32) ia))])) st454 ?_
  clear st454 X452 N453 Nq454
  refine GoH.step (T' := T454) (f' := (mkF m 24 #[.val (.int ia), .val (.int (ia &&& (3 : Int32))), .val (.int ((own_ch (2 : Int32) ia).toUInt32.toUInt16.toUInt32.toInt32)), .val (.int ((own_ch (10 : Int32) ia).toUInt32.toUInt16.toUInt32.toInt32)), .unset, .unset] [(.int ((own_ch (18 : Int32) ia).toUInt32.toUInt16.toUInt32.toInt32))])) (fun t k => XS.i2c X454.here hx rfl (hb hby d1_23) rfl k) ?_
  refine GoH.step (T' := T454) (f' := (mkF m 26 #[.val (.int ia), .val (.int (ia &&& (3 : Int32))), .val (.int ((own_ch (2 : Int32) ia).toUInt32.toUInt16.toUInt32.toInt32)), .val (.int ((own_ch (10 : Int32) ia).toUInt32.toUInt16.toUInt32.toInt32)), .val (.int ((own_ch (18 : Int32) ia).toUInt32.toUInt16.toUInt32.toInt32)), .unset] [])) (fun t k => XS.istore X454.here hx rfl (hb hby d1_24) rfl (l' := #[.val (.int ia), .val (.int (ia &&& (3 : Int32))), .val (.int ((own_ch (2 : Int32) ia).toUInt32.toUInt16.toUInt32.toInt32)), .val (.int ((own_ch (10 : Int32) ia).toUInt32.toUInt16.toUInt32.toInt32)), .val (.int ((own_ch (18 : Int32) ia).toUInt32.toUInt16.toUInt32.toInt32)), .unset]) rfl k) ?_
  refine GoH.step (T' := T454) (f' := (mkF m 27 #[.val (.int ia), .val (.int (ia &&& (3 : Int32))), .val (.int ((own_ch (2 : Int32) ia).toUInt32.toUInt16.toUInt32.toInt32)), .val (.int ((own_ch (10 : Int32) ia).toUInt32.toUInt16.toUInt32.toInt32)), .val (.int ((own_ch (18 : Int32) ia).toUInt32.toUInt16.toUInt32.toInt32)), .unset] [(.int (ia &&& (3 : Int32)))])) (fun t k => XS.iloadN X454.here hx rfl (hb hby d1_26) rfl k) ?_
  by_cases hc456 : (ia &&& (3 : Int32)) = (0 : Int32)
  ·
    refine GoH.step (T' := T454) (f' := (mkF m 30 #[.val (.int ia), .val (.int (ia &&& (3 : Int32))), .val (.int ((own_ch (2 : Int32) ia).toUInt32.toUInt16.toUInt32.toInt32)), .val (.int ((own_ch (10 : Int32) ia).toUInt32.toUInt16.toUInt32.toInt32)), .val (.int ((own_ch (18 : Int32) ia).toUInt32.toUInt16.toUInt32.toInt32)), .unset] [])) (fun t k => XS.ifNo X454.here hx rfl (hb hby d1_27) rfl ((if0 _ _).trans (teq hc456).2) k) ?_
    obtain ⟨T457, h457, X457, e457, E457, A457, D457, -, st457⟩ := newO X454 hx hZ hown (hw _ (List.mem_of_getElem? (i := 7) rfl)) (hw _ (List.mem_of_getElem? (i := 8) rfl)) (hw _ (List.mem_of_getElem? (i := 9) rfl)) hh454 (g := (mkF m 30 #[.val (.int ia), .val (.int (ia &&& (3 : Int32))), .val (.int ((own_ch (2 : Int32) ia).toUInt32.toUInt16.toUInt32.toInt32)), .val (.int ((own_ch (10 : Int32) ia).toUInt32.toUInt16.toUInt32.toInt32)), .val (.int ((own_ch (18 : Int32) ia).toUInt32.toUInt16.toUInt32.toInt32)), .unset] [])) rfl (hb hby d1_30) (by decide) (by decide)
    obtain ⟨b457, g457⟩ : ∃ z, z = h0.size := ⟨_, rfl⟩
    rw [← g457] at A457 D457 st457
    have sf458 : Safe Z own_EL s.vm h0 b457 := Safe.new (Nat.le_of_eq g457.symm)
    have g459 : n0 ≤ b457 := Nat.le_trans (own_old_le O0) (Nat.le_of_eq g457.symm)
    have g460 : h0.size ≤ b457 := Nat.le_trans K0.1 (Nat.le_of_eq g457.symm)
    have sf461 := Safe.ext E457 CR0.1 sf458
    have CR462 := CR0.trans (CHr.ext E457 CR0.1)
    have hk463 := Nat.le_trans hk0 E457.1
    have O464 := O0.ext E457
    have K465 := K0.ext E457
    have f466 : Fld Z h457 b457 "java/lang/String" "value" "[B" .null := D457 (Or.inr (hw _ (List.mem_of_getElem? (i := 23) rfl))) (ty := (.array .byte)) (by decide)
    have f467 : Fld Z h457 b457 "java/lang/String" "coder" "B" (.int (0 : Int32)) := D457 (Or.inr (hw _ (List.mem_of_getElem? (i := 24) rfl))) (ty := .byte) (by decide)
    refine GoH.step (T' := T457) (f' := (mkF m 33 #[.val (.int ia), .val (.int (ia &&& (3 : Int32))), .val (.int ((own_ch (2 : Int32) ia).toUInt32.toUInt16.toUInt32.toInt32)), .val (.int ((own_ch (10 : Int32) ia).toUInt32.toUInt16.toUInt32.toInt32)), .val (.int ((own_ch (18 : Int32) ia).toUInt32.toUInt16.toUInt32.toInt32)), .unset] [(.ref b457)])) st457 ?_
    clear st457 X454 sf458 CR0 hk0
    refine GoH.step (T' := T457) (f' := (mkF m 34 #[.val (.int ia), .val (.int (ia &&& (3 : Int32))), .val (.int ((own_ch (2 : Int32) ia).toUInt32.toUInt16.toUInt32.toInt32)), .val (.int ((own_ch (10 : Int32) ia).toUInt32.toUInt16.toUInt32.toInt32)), .val (.int ((own_ch (18 : Int32) ia).toUInt32.toUInt16.toUInt32.toInt32)), .unset] [(.ref b457), (.ref b457)])) (fun t k => XS.dup X457.here hx rfl (hb hby d1_33) rfl rfl k) ?_
    refine GoH.step (T' := T457) (f' := (mkF m 35 #[.val (.int ia), .val (.int (ia &&& (3 : Int32))), .val (.int ((own_ch (2 : Int32) ia).toUInt32.toUInt16.toUInt32.toInt32)), .val (.int ((own_ch (10 : Int32) ia).toUInt32.toUInt16.toUInt32.toInt32)), .val (.int ((own_ch (18 : Int32) ia).toUInt32.toUInt16.toUInt32.toInt32)), .unset] [(.int (0 : Int32)), (.ref b457), (.ref b457)])) (fun t k => XS.iconst X457.here hx rfl (hb hby d1_34) k) ?_
    obtain ⟨T468, h468, k468, X468, e468, E468, A468, Y468, st468⟩ := newPE X457 hx hZ (hw _ (List.mem_of_getElem? (i := 10) rfl)) e457 (g := (mkF m 35 #[.val (.int ia), .val (.int (ia &&& (3 : Int32))), .val (.int ((own_ch (2 : Int32) ia).toUInt32.toUInt16.toUInt32.toInt32)), .val (.int ((own_ch (10 : Int32) ia).toUInt32.toUInt16.toUInt32.toInt32)), .val (.int ((own_ch (18 : Int32) ia).toUInt32.toUInt16.toUInt32.toInt32)), .unset] [(.int (0 : Int32)), (.ref b457), (.ref b457)])) rfl (hb hby d1_35) rfl (by decide) (cap := 0) (by decide) (by decide) (by decide) (by decide) (ad := "[C") (by decide)
    obtain ⟨b468, g468⟩ : ∃ z, z = h457.size := ⟨_, rfl⟩
    rw [← g468] at A468 Y468 st468
    have g469 : n0 ≤ b468 := Nat.le_trans (own_old_le O464) (Nat.le_of_eq g468.symm)
    have g470 : h0.size ≤ b468 := Nat.le_trans K465.1 (Nat.le_of_eq g468.symm)
    have ne471 : b457 ≠ b468 := Nat.ne_of_lt (Nat.lt_of_lt_of_le A457.lt (Nat.le_of_eq g468.symm))
    have sf472 := Safe.ext E468 CR462.1 sf461
    have CR473 := CR462.trans (CHr.ext E468 CR462.1)
    have hk474 := Nat.le_trans hk463 E468.1
    have f475 := A457.ext E468
    have f476 := f466.ext E468
    have f477 := f467.ext E468
    have O478 := O464.ext E468
    have K479 := K465.ext E468
    have f480 : Arv Z h468 b468 k468 .char (0 : Int32) [] (.int (0 : Int32)) := Arv.new A468 (by decide)
    refine GoH.step (T' := T468) (f' := (mkF m 37 #[.val (.int ia), .val (.int (ia &&& (3 : Int32))), .val (.int ((own_ch (2 : Int32) ia).toUInt32.toUInt16.toUInt32.toInt32)), .val (.int ((own_ch (10 : Int32) ia).toUInt32.toUInt16.toUInt32.toInt32)), .val (.int ((own_ch (18 : Int32) ia).toUInt32.toUInt16.toUInt32.toInt32)), .unset] [(.ref b468), (.ref b457), (.ref b457)])) st468 ?_
    clear st468 X457 sf461 CR462 hk463 A457 f466 f467 O464 K465
    obtain ⟨_, _, ⟨T481, L481, k481, n481⟩, -, X481, hS481, hg481, ⟨Lc481, hQ481, l481, y481, z481, ch481⟩, st481⟩ := X468.specialBackS hx (y := (⟨"java/lang/String", "<init>", "([C)V"⟩ : MethodName)) rfl hown (mvT hZ (hw _ (List.mem_of_getElem? (i := 11) rfl))) (mvT hZ (hw _ (List.mem_of_getElem? (i := 12) rfl))) (mvT hZ (hw _ (List.mem_of_getElem? (i := 13) rfl))) (by decide) (backOfSH (s := s) (vm0 := s.vm) (W := 1) (rm_ini1_0 l Z a0 hw [] b457 b468 (.int (0 : Int32)) k468 h468 n0 O478 hEL f475 f476 f477 g459 f480 (Ne.symm ne471)) hZ (hw _ (List.mem_of_getElem? (i := 13) rfl)) (hw _ (List.mem_of_getElem? (i := 9) rfl)) (by decide) (by decide) hEL CR473.1) (g := (mkF m 37 #[.val (.int ia), .val (.int (ia &&& (3 : Int32))), .val (.int ((own_ch (2 : Int32) ia).toUInt32.toUInt16.toUInt32.toInt32)), .val (.int ((own_ch (10 : Int32) ia).toUInt32.toUInt16.toUInt32.toInt32)), .val (.int ((own_ch (18 : Int32) ia).toUInt32.toUInt16.toUInt32.toInt32)), .unset] [(.ref b468), (.ref b457), (.ref b457)])) rfl (by rw [hml]; rfl) (Steps.refl _) (a := b457) (argsL := [(.ref b468)]) (rest := [(.ref b457)]) (lenOf pd6 rfl) rfl (by show 2 * 0 + _ ≤ _; exact Nat.le_of_eq rfl) (hb hby d1_37) (fun _ _ => ⟨rfl, e468, (by decide : 2 + 4 ≤ _), (by decide : 4 + 8 ≤ _)⟩)
    dsimp only [Pt.U, Pt.locs, Pt.cells, Pt.slots] at X481 l481 y481 z481 st481 hQ481 hS481 hg481 ch481
    subst l481 y481 z481
    obtain ⟨X481, hS481, hZ, hown⟩ := rebS (s := s) (vm0 := s.vm) hS0 (show _ ≤ T468.heap.size by rw [e468]; exact hk474) X481 hS481 hg481 hZ hown
    obtain ⟨u482, u483, rfl, Nq481, hh481, p484, p485, p486, p487⟩ := hQ481
    have N488 := Fr.app N455 Nq481
    have sf489 := ch481.safe f475.lt sf472
    have CR490 := CR473.trans ch481
    have hk491 := Nat.le_refl T481.heap.size
    have f492 := f475.keep hh481
    have f493 := Y468.keep hh481
    have f494 := f480.keep hh481 (ninS (Ne.symm ne471) nin0)
    have O495 := O478.keep hh481 (allS g459 all0)
    have K496 := K479.trans hh481 (allS (Or.inr g460) all0)
    refine GoH.via (T' := T481) (f' := (mkF m 40 #[.val (.int ia), .val (.int (ia &&& (3 : Int32))), .val (.int ((own_ch (2 : Int32) ia).toUInt32.toUInt16.toUInt32.toInt32)), .val (.int ((own_ch (10 : Int32) ia).toUInt32.toUInt16.toUInt32.toInt32)), .val (.int ((own_ch (18 : Int32) ia).toUInt32.toUInt16.toUInt32.toInt32)), .unset] [(.ref b457)])) st481 ?_
    clear st481 X468 N455 Nq481 sf472 CR473 hk474 hS0 f480
    refine GoH.fin X481 hZ hEL hS481 hk491 CR490 hlk (v := some (.ref b457)) (fun h => by rw [Bd.returns] at h; cases h) (fun fs hr => retOut X481 hx Bd.returns (own_nar_ref rfl rfl) (Or.inr (Or.inr (Or.inr (Or.inr ⟨rfl, rfl, rfl⟩)))) (hb hby d1_40) hr) rfl ?_ (by decide) (by decide)
    exact ⟨b457, u482, u483, rfl, N488, K496, p484, p485, p486, own_vcast (by rw [own_str, if_pos hc456]; rfl) (by rw [own_str, if_pos hc456]; rfl) p487⟩
  ·
    refine GoH.step (T' := T454) (f' := (mkF m 41 #[.val (.int ia), .val (.int (ia &&& (3 : Int32))), .val (.int ((own_ch (2 : Int32) ia).toUInt32.toUInt16.toUInt32.toInt32)), .val (.int ((own_ch (10 : Int32) ia).toUInt32.toUInt16.toUInt32.toInt32)), .val (.int ((own_ch (18 : Int32) ia).toUInt32.toUInt16.toUInt32.toInt32)), .unset] [])) (fun t k => XS.ifYes X454.here hx rfl (pc0 := 27) (pc' := 41) rfl (hb hby d1_27) rfl ((if0 _ _).trans (feq hc456).2) (by decide) (by decide) k) ?_
    refine GoH.step (T' := T454) (f' := (mkF m 42 #[.val (.int ia), .val (.int (ia &&& (3 : Int32))), .val (.int ((own_ch (2 : Int32) ia).toUInt32.toUInt16.toUInt32.toInt32)), .val (.int ((own_ch (10 : Int32) ia).toUInt32.toUInt16.toUInt32.toInt32)), .val (.int ((own_ch (18 : Int32) ia).toUInt32.toUInt16.toUInt32.toInt32)), .unset] [(.int (ia &&& (3 : Int32)))])) (fun t k => XS.iloadN X454.here hx rfl (hb hby d1_41) rfl k) ?_
    refine GoH.step (T' := T454) (f' := (mkF m 43 #[.val (.int ia), .val (.int (ia &&& (3 : Int32))), .val (.int ((own_ch (2 : Int32) ia).toUInt32.toUInt16.toUInt32.toInt32)), .val (.int ((own_ch (10 : Int32) ia).toUInt32.toUInt16.toUInt32.toInt32)), .val (.int ((own_ch (18 : Int32) ia).toUInt32.toUInt16.toUInt32.toInt32)), .unset] [(.int (1 : Int32)), (.int (ia &&& (3 : Int32)))])) (fun t k => XS.iconst X454.here hx rfl (hb hby d1_42) k) ?_
    by_cases hc497 : (ia &&& (3 : Int32)) = (1 : Int32)
    ·
      refine GoH.step (T' := T454) (f' := (mkF m 46 #[.val (.int ia), .val (.int (ia &&& (3 : Int32))), .val (.int ((own_ch (2 : Int32) ia).toUInt32.toUInt16.toUInt32.toInt32)), .val (.int ((own_ch (10 : Int32) ia).toUInt32.toUInt16.toUInt32.toInt32)), .val (.int ((own_ch (18 : Int32) ia).toUInt32.toUInt16.toUInt32.toInt32)), .unset] [])) (fun t k => XS.icmpNo X454.here hx rfl (hb hby d1_43) rfl (teq hc497).2 k) ?_
      refine GoH.step (T' := T454) (f' := (mkF m 47 #[.val (.int ia), .val (.int (ia &&& (3 : Int32))), .val (.int ((own_ch (2 : Int32) ia).toUInt32.toUInt16.toUInt32.toInt32)), .val (.int ((own_ch (10 : Int32) ia).toUInt32.toUInt16.toUInt32.toInt32)), .val (.int ((own_ch (18 : Int32) ia).toUInt32.toUInt16.toUInt32.toInt32)), .unset] [(.int (1 : Int32))])) (fun t k => XS.iconst X454.here hx rfl (hb hby d1_46) k) ?_
      obtain ⟨T498, h498, k498, X498, e498, E498, A498, Y498, st498⟩ := newPE X454 hx hZ (hw _ (List.mem_of_getElem? (i := 10) rfl)) hh454 (g := (mkF m 47 #[.val (.int ia), .val (.int (ia &&& (3 : Int32))), .val (.int ((own_ch (2 : Int32) ia).toUInt32.toUInt16.toUInt32.toInt32)), .val (.int ((own_ch (10 : Int32) ia).toUInt32.toUInt16.toUInt32.toInt32)), .val (.int ((own_ch (18 : Int32) ia).toUInt32.toUInt16.toUInt32.toInt32)), .unset] [(.int (1 : Int32))])) rfl (hb hby d1_47) rfl (by decide) (cap := 1) (by decide) (by decide) (by decide) (by decide) (ad := "[C") (by decide)
      obtain ⟨b498, g498⟩ : ∃ z, z = h0.size := ⟨_, rfl⟩
      rw [← g498] at A498 Y498 st498
      have g499 : n0 ≤ b498 := Nat.le_trans (own_old_le O0) (Nat.le_of_eq g498.symm)
      have g500 : h0.size ≤ b498 := Nat.le_trans K0.1 (Nat.le_of_eq g498.symm)
      have CR501 := CR0.trans (CHr.ext E498 CR0.1)
      have hk502 := Nat.le_trans hk0 E498.1
      have O503 := O0.ext E498
      have K504 := K0.ext E498
      have f505 : Arv Z h498 b498 k498 .char (1 : Int32) [(.int (0 : Int32))] (.int (0 : Int32)) := (Arv.new A498 (by decide)).pad (pad_rep [] (.int (0 : Int32)) 1)
      refine GoH.step (T' := T498) (f' := (mkF m 49 #[.val (.int ia), .val (.int (ia &&& (3 : Int32))), .val (.int ((own_ch (2 : Int32) ia).toUInt32.toUInt16.toUInt32.toInt32)), .val (.int ((own_ch (10 : Int32) ia).toUInt32.toUInt16.toUInt32.toInt32)), .val (.int ((own_ch (18 : Int32) ia).toUInt32.toUInt16.toUInt32.toInt32)), .unset] [(.ref b498)])) st498 ?_
      clear st498 X454 CR0 hk0
      refine GoH.step (T' := T498) (f' := (mkF m 51 #[.val (.int ia), .val (.int (ia &&& (3 : Int32))), .val (.int ((own_ch (2 : Int32) ia).toUInt32.toUInt16.toUInt32.toInt32)), .val (.int ((own_ch (10 : Int32) ia).toUInt32.toUInt16.toUInt32.toInt32)), .val (.int ((own_ch (18 : Int32) ia).toUInt32.toUInt16.toUInt32.toInt32)), .val (.ref b498)] [])) (fun t k => XS.astore X498.here hx rfl (hb hby d1_49) rfl rfl (l' := #[.val (.int ia), .val (.int (ia &&& (3 : Int32))), .val (.int ((own_ch (2 : Int32) ia).toUInt32.toUInt16.toUInt32.toInt32)), .val (.int ((own_ch (10 : Int32) ia).toUInt32.toUInt16.toUInt32.toInt32)), .val (.int ((own_ch (18 : Int32) ia).toUInt32.toUInt16.toUInt32.toInt32)), .val (.ref b498)]) rfl k) ?_
      refine GoH.step (T' := T498) (f' := (mkF m 53 #[.val (.int ia), .val (.int (ia &&& (3 : Int32))), .val (.int ((own_ch (2 : Int32) ia).toUInt32.toUInt16.toUInt32.toInt32)), .val (.int ((own_ch (10 : Int32) ia).toUInt32.toUInt16.toUInt32.toInt32)), .val (.int ((own_ch (18 : Int32) ia).toUInt32.toUInt16.toUInt32.toInt32)), .val (.ref b498)] [(.ref b498)])) (fun t k => XS.aload X498.here hx rfl (hb hby d1_51) rfl rfl k) ?_
      refine GoH.step (T' := T498) (f' := (mkF m 54 #[.val (.int ia), .val (.int (ia &&& (3 : Int32))), .val (.int ((own_ch (2 : Int32) ia).toUInt32.toUInt16.toUInt32.toInt32)), .val (.int ((own_ch (10 : Int32) ia).toUInt32.toUInt16.toUInt32.toInt32)), .val (.int ((own_ch (18 : Int32) ia).toUInt32.toUInt16.toUInt32.toInt32)), .val (.ref b498)] [(.int (0 : Int32)), (.ref b498)])) (fun t k => XS.iconst X498.here hx rfl (hb hby d1_53) k) ?_
      refine GoH.step (T' := T498) (f' := (mkF m 55 #[.val (.int ia), .val (.int (ia &&& (3 : Int32))), .val (.int ((own_ch (2 : Int32) ia).toUInt32.toUInt16.toUInt32.toInt32)), .val (.int ((own_ch (10 : Int32) ia).toUInt32.toUInt16.toUInt32.toInt32)), .val (.int ((own_ch (18 : Int32) ia).toUInt32.toUInt16.toUInt32.toInt32)), .val (.ref b498)] [(.int ((own_ch (2 : Int32) ia).toUInt32.toUInt16.toUInt32.toInt32)), (.int (0 : Int32)), (.ref b498)])) (fun t k => XS.iloadN X498.here hx rfl (hb hby d1_54) rfl k) ?_
      obtain ⟨ca506, Aa506, qa506, Sa506, Na506, Ha506, Ga506⟩ := id f505
      have ia506 : ¬ ((0 : Int32) < 0 ∨ ca506.slots.size ≤ ((0 : Int32)).toNatClampNeg) := inb_of Sa506 ⟨by decide, by decide⟩
      obtain ⟨T507, h507, X507, e507, W507, st507⟩ := stC X498 hx hZ e498 Aa506 (j := (0 : Int32)) ia506 (g := (mkF m 55 #[.val (.int ia), .val (.int (ia &&& (3 : Int32))), .val (.int ((own_ch (2 : Int32) ia).toUInt32.toUInt16.toUInt32.toInt32)), .val (.int ((own_ch (10 : Int32) ia).toUInt32.toUInt16.toUInt32.toInt32)), .val (.int ((own_ch (18 : Int32) ia).toUInt32.toUInt16.toUInt32.toInt32)), .val (.ref b498)] [(.int ((own_ch (2 : Int32) ia).toUInt32.toUInt16.toUInt32.toInt32)), (.int (0 : Int32)), (.ref b498)])) rfl rfl (hb hby d1_55)
      have f508 := Arv.set Aa506 qa506 Sa506 Na506 Ha506 Ga506 (fits_nar_char _) W507 0 rfl (Nat.le_of_ble_eq_true rfl)
      have f509 : Arv Z h507 b498 k498 .char (1 : Int32) [(.int (nar .char ((own_ch (2 : Int32) ia).toUInt32.toUInt16.toUInt32.toInt32)))] (.int (0 : Int32)) := f508
      have sa510 : Safe Z own_EL s.vm h498 b498 := (Safe.exa (EL := own_EL) hZ.alike Y498 (by decide) (by decide))
      have CR511 := CR501.trans (CHr.wr W507 sa510 CR501.1)
      have hk512 := (by rw [W507.size]; exact hk502 : _ ≤ h507.size)
      have f513 := Y498.wr W507
      have O514 := O503.wr W507 g499
      have K515 := K504.wr W507 (Or.inr g500)
      have N516 := Fr.snoc X507 N455 g499
      refine GoH.step (T' := T507) (f' := (mkF m 56 #[.val (.int ia), .val (.int (ia &&& (3 : Int32))), .val (.int ((own_ch (2 : Int32) ia).toUInt32.toUInt16.toUInt32.toInt32)), .val (.int ((own_ch (10 : Int32) ia).toUInt32.toUInt16.toUInt32.toInt32)), .val (.int ((own_ch (18 : Int32) ia).toUInt32.toUInt16.toUInt32.toInt32)), .val (.ref b498)] [])) st507 ?_
      clear st507 X498 CR501 hk502 sa510 Y498 O503 K504 N455
      obtain ⟨T517, h517, X517, e517, E517, A517, D517, -, st517⟩ := newO X507 hx hZ hown (hw _ (List.mem_of_getElem? (i := 7) rfl)) (hw _ (List.mem_of_getElem? (i := 8) rfl)) (hw _ (List.mem_of_getElem? (i := 9) rfl)) e507 (g := (mkF m 56 #[.val (.int ia), .val (.int (ia &&& (3 : Int32))), .val (.int ((own_ch (2 : Int32) ia).toUInt32.toUInt16.toUInt32.toInt32)), .val (.int ((own_ch (10 : Int32) ia).toUInt32.toUInt16.toUInt32.toInt32)), .val (.int ((own_ch (18 : Int32) ia).toUInt32.toUInt16.toUInt32.toInt32)), .val (.ref b498)] [])) rfl (hb hby d1_56) (by decide) (by decide)
      obtain ⟨b517, g517⟩ : ∃ z, z = h507.size := ⟨_, rfl⟩
      rw [← g517] at A517 D517 st517
      have sf518 : Safe Z own_EL s.vm h507 b517 := Safe.new (Nat.le_of_eq g517.symm)
      have g519 : n0 ≤ b517 := Nat.le_trans (own_old_le O514) (Nat.le_of_eq g517.symm)
      have g520 : h0.size ≤ b517 := Nat.le_trans K515.1 (Nat.le_of_eq g517.symm)
      have ne521 : b498 ≠ b517 := Nat.ne_of_lt (Nat.lt_of_lt_of_le f513.lt (Nat.le_of_eq g517.symm))
      have sf522 := Safe.ext E517 CR511.1 sf518
      have CR523 := CR511.trans (CHr.ext E517 CR511.1)
      have hk524 := Nat.le_trans hk512 E517.1
      have f525 := f513.ext E517
      have f526 := f509.ext E517
      have O527 := O514.ext E517
      have K528 := K515.ext E517
      have f529 : Fld Z h517 b517 "java/lang/String" "value" "[B" .null := D517 (Or.inr (hw _ (List.mem_of_getElem? (i := 23) rfl))) (ty := (.array .byte)) (by decide)
      have f530 : Fld Z h517 b517 "java/lang/String" "coder" "B" (.int (0 : Int32)) := D517 (Or.inr (hw _ (List.mem_of_getElem? (i := 24) rfl))) (ty := .byte) (by decide)
      refine GoH.step (T' := T517) (f' := (mkF m 59 #[.val (.int ia), .val (.int (ia &&& (3 : Int32))), .val (.int ((own_ch (2 : Int32) ia).toUInt32.toUInt16.toUInt32.toInt32)), .val (.int ((own_ch (10 : Int32) ia).toUInt32.toUInt16.toUInt32.toInt32)), .val (.int ((own_ch (18 : Int32) ia).toUInt32.toUInt16.toUInt32.toInt32)), .val (.ref b498)] [(.ref b517)])) st517 ?_
      clear st517 X507 sf518 CR511 hk512 f513 f509 O514 K515
      refine GoH.step (T' := T517) (f' := (mkF m 60 #[.val (.int ia), .val (.int (ia &&& (3 : Int32))), .val (.int ((own_ch (2 : Int32) ia).toUInt32.toUInt16.toUInt32.toInt32)), .val (.int ((own_ch (10 : Int32) ia).toUInt32.toUInt16.toUInt32.toInt32)), .val (.int ((own_ch (18 : Int32) ia).toUInt32.toUInt16.toUInt32.toInt32)), .val (.ref b498)] [(.ref b517), (.ref b517)])) (fun t k => XS.dup X517.here hx rfl (hb hby d1_59) rfl rfl k) ?_
      refine GoH.step (T' := T517) (f' := (mkF m 62 #[.val (.int ia), .val (.int (ia &&& (3 : Int32))), .val (.int ((own_ch (2 : Int32) ia).toUInt32.toUInt16.toUInt32.toInt32)), .val (.int ((own_ch (10 : Int32) ia).toUInt32.toUInt16.toUInt32.toInt32)), .val (.int ((own_ch (18 : Int32) ia).toUInt32.toUInt16.toUInt32.toInt32)), .val (.ref b498)] [(.ref b498), (.ref b517), (.ref b517)])) (fun t k => XS.aload X517.here hx rfl (hb hby d1_60) rfl rfl k) ?_
      obtain ⟨_, _, ⟨T531, L531, k531, n531⟩, -, X531, ⟨Lc531, hQ531, l531, y531, z531⟩, st531⟩ := X517.specialBack hx (y := (⟨"java/lang/String", "<init>", "([C)V"⟩ : MethodName)) rfl hown (mvT hZ (hw _ (List.mem_of_getElem? (i := 11) rfl))) (mvT hZ (hw _ (List.mem_of_getElem? (i := 12) rfl))) (mvT hZ (hw _ (List.mem_of_getElem? (i := 13) rfl))) (by decide) (backOf (W := 1) (rm_ini1_1 l Z a0 hw [] b517 b498 k498 (nar .char ((own_ch (2 : Int32) ia).toUInt32.toUInt16.toUInt32.toInt32)) .null (.int (0 : Int32)) wz h517 n0 O527 A517 f529 f530 g519 f526 ne521 P0 hwz (own_c8ch _ _)) hZ (hw _ (List.mem_of_getElem? (i := 13) rfl)) (hw _ (List.mem_of_getElem? (i := 9) rfl)) (by decide) (by decide)) (g := (mkF m 62 #[.val (.int ia), .val (.int (ia &&& (3 : Int32))), .val (.int ((own_ch (2 : Int32) ia).toUInt32.toUInt16.toUInt32.toInt32)), .val (.int ((own_ch (10 : Int32) ia).toUInt32.toUInt16.toUInt32.toInt32)), .val (.int ((own_ch (18 : Int32) ia).toUInt32.toUInt16.toUInt32.toInt32)), .val (.ref b498)] [(.ref b498), (.ref b517), (.ref b517)])) rfl (by rw [hml]; rfl) (Steps.refl _) (a := b517) (argsL := [(.ref b498)]) (rest := [(.ref b517)]) (lenOf pd6 rfl) rfl (by show 2 * 0 + _ ≤ _; exact Nat.le_of_eq rfl) (hb hby d1_62) (fun _ _ => ⟨rfl, e517, (by decide : 2 + 1 ≤ _), (by decide : 5 + 1 ≤ _)⟩)
      dsimp only [Pt.U, Pt.locs, Pt.cells, Pt.slots] at X531 l531 y531 z531 st531 hQ531
      subst l531 y531 z531
      obtain ⟨u532, u533, rfl, Nq531, hh531, p534, p535, p536, p537, p538⟩ := hQ531
      have N539 := Fr.app N516 Nq531
      have sz540 : ∀ x ∈ [b517], Safe Z own_EL s.vm h517 x := (sfS sf522 sf0)
      have sf541 := Safe.keep hh531 sz540 CR523.1 sf522
      have CR542 := CR523.trans (CHr.keep hh531 sz540 CR523.1)
      have hk543 := Nat.le_trans hk524 hh531.1
      have f544 := f525.keep hh531
      have f545 := f526.keep hh531 (ninS ne521 nin0)
      have f546 := A517.keep hh531
      have O547 := O527.keep hh531 (allS g519 all0)
      have K548 := K528.trans hh531 (allS (Or.inr g520) all0)
      have g549 : n0 ≤ u532 := Nat.le_trans (own_old_le O527) p537
      have g550 : h0.size ≤ u532 := Nat.le_trans K528.1 p537
      have ne551 : b498 ≠ u532 := Nat.ne_of_lt (Nat.lt_of_lt_of_le f525.lt p537)
      have ne552 : b517 ≠ u532 := Nat.ne_of_lt (Nat.lt_of_lt_of_le A517.lt p537)
      refine GoH.via (T' := T531) (f' := (mkF m 65 #[.val (.int ia), .val (.int (ia &&& (3 : Int32))), .val (.int ((own_ch (2 : Int32) ia).toUInt32.toUInt16.toUInt32.toInt32)), .val (.int ((own_ch (10 : Int32) ia).toUInt32.toUInt16.toUInt32.toInt32)), .val (.int ((own_ch (18 : Int32) ia).toUInt32.toUInt16.toUInt32.toInt32)), .val (.ref b498)] [(.ref b517)])) st531 ?_
      clear st531 X517 N516 Nq531 sf522 CR523 hk524 sz540 f526
      refine GoH.fin X531 hZ hEL hS0 hk543 CR542 hlk (v := some (.ref b517)) (fun h => by rw [Bd.returns] at h; cases h) (fun fs hr => retOut X531 hx Bd.returns (own_nar_ref rfl rfl) (Or.inr (Or.inr (Or.inr (Or.inr ⟨rfl, rfl, rfl⟩)))) (hb hby d1_65) hr) rfl ?_ (by decide) (by decide)
      exact ⟨b517, u532, u533, rfl, N539, K548, p534, p535, p536, own_vcast (by rw [own_str, if_neg hc456, if_pos hc497]; rfl) (by rw [own_str, if_neg hc456, if_pos hc497]; rfl) p538⟩
    ·
      refine GoH.step (T' := T454) (f' := (mkF m 66 #[.val (.int ia), .val (.int (ia &&& (3 : Int32))), .val (.int ((own_ch (2 : Int32) ia).toUInt32.toUInt16.toUInt32.toInt32)), .val (.int ((own_ch (10 : Int32) ia).toUInt32.toUInt16.toUInt32.toInt32)), .val (.int ((own_ch (18 : Int32) ia).toUInt32.toUInt16.toUInt32.toInt32)), .unset] [])) (fun t k => XS.icmpYes X454.here hx rfl (pc0 := 43) (pc' := 66) rfl (hb hby d1_43) rfl (feq hc497).2 (by decide) (by decide) k) ?_
      refine GoH.step (T' := T454) (f' := (mkF m 67 #[.val (.int ia), .val (.int (ia &&& (3 : Int32))), .val (.int ((own_ch (2 : Int32) ia).toUInt32.toUInt16.toUInt32.toInt32)), .val (.int ((own_ch (10 : Int32) ia).toUInt32.toUInt16.toUInt32.toInt32)), .val (.int ((own_ch (18 : Int32) ia).toUInt32.toUInt16.toUInt32.toInt32)), .unset] [(.int (ia &&& (3 : Int32)))])) (fun t k => XS.iloadN X454.here hx rfl (hb hby d1_66) rfl k) ?_
      refine GoH.step (T' := T454) (f' := (mkF m 68 #[.val (.int ia), .val (.int (ia &&& (3 : Int32))), .val (.int ((own_ch (2 : Int32) ia).toUInt32.toUInt16.toUInt32.toInt32)), .val (.int ((own_ch (10 : Int32) ia).toUInt32.toUInt16.toUInt32.toInt32)), .val (.int ((own_ch (18 : Int32) ia).toUInt32.toUInt16.toUInt32.toInt32)), .unset] [(.int (2 : Int32)), (.int (ia &&& (3 : Int32)))])) (fun t k => XS.iconst X454.here hx rfl (hb hby d1_67) k) ?_
      by_cases hc553 : (ia &&& (3 : Int32)) = (2 : Int32)
      ·
        refine GoH.step (T' := T454) (f' := (mkF m 71 #[.val (.int ia), .val (.int (ia &&& (3 : Int32))), .val (.int ((own_ch (2 : Int32) ia).toUInt32.toUInt16.toUInt32.toInt32)), .val (.int ((own_ch (10 : Int32) ia).toUInt32.toUInt16.toUInt32.toInt32)), .val (.int ((own_ch (18 : Int32) ia).toUInt32.toUInt16.toUInt32.toInt32)), .unset] [])) (fun t k => XS.icmpNo X454.here hx rfl (hb hby d1_68) rfl (teq hc553).2 k) ?_
        refine GoH.step (T' := T454) (f' := (mkF m 72 #[.val (.int ia), .val (.int (ia &&& (3 : Int32))), .val (.int ((own_ch (2 : Int32) ia).toUInt32.toUInt16.toUInt32.toInt32)), .val (.int ((own_ch (10 : Int32) ia).toUInt32.toUInt16.toUInt32.toInt32)), .val (.int ((own_ch (18 : Int32) ia).toUInt32.toUInt16.toUInt32.toInt32)), .unset] [(.int (2 : Int32))])) (fun t k => XS.iconst X454.here hx rfl (hb hby d1_71) k) ?_
        obtain ⟨T554, h554, k554, X554, e554, E554, A554, Y554, st554⟩ := newPE X454 hx hZ (hw _ (List.mem_of_getElem? (i := 10) rfl)) hh454 (g := (mkF m 72 #[.val (.int ia), .val (.int (ia &&& (3 : Int32))), .val (.int ((own_ch (2 : Int32) ia).toUInt32.toUInt16.toUInt32.toInt32)), .val (.int ((own_ch (10 : Int32) ia).toUInt32.toUInt16.toUInt32.toInt32)), .val (.int ((own_ch (18 : Int32) ia).toUInt32.toUInt16.toUInt32.toInt32)), .unset] [(.int (2 : Int32))])) rfl (hb hby d1_72) rfl (by decide) (cap := 2) (by decide) (by decide) (by decide) (by decide) (ad := "[C") (by decide)
        obtain ⟨b554, g554⟩ : ∃ z, z = h0.size := ⟨_, rfl⟩
        rw [← g554] at A554 Y554 st554
        have g555 : n0 ≤ b554 := Nat.le_trans (own_old_le O0) (Nat.le_of_eq g554.symm)
        have g556 : h0.size ≤ b554 := Nat.le_trans K0.1 (Nat.le_of_eq g554.symm)
        have CR557 := CR0.trans (CHr.ext E554 CR0.1)
        have hk558 := Nat.le_trans hk0 E554.1
        have O559 := O0.ext E554
        have K560 := K0.ext E554
        have f561 : Arv Z h554 b554 k554 .char (2 : Int32) [(.int (0 : Int32)), (.int (0 : Int32))] (.int (0 : Int32)) := (Arv.new A554 (by decide)).pad (pad_rep [] (.int (0 : Int32)) 2)
        refine GoH.step (T' := T554) (f' := (mkF m 74 #[.val (.int ia), .val (.int (ia &&& (3 : Int32))), .val (.int ((own_ch (2 : Int32) ia).toUInt32.toUInt16.toUInt32.toInt32)), .val (.int ((own_ch (10 : Int32) ia).toUInt32.toUInt16.toUInt32.toInt32)), .val (.int ((own_ch (18 : Int32) ia).toUInt32.toUInt16.toUInt32.toInt32)), .unset] [(.ref b554)])) st554 ?_
        clear st554 X454 CR0 hk0
        refine GoH.step (T' := T554) (f' := (mkF m 76 #[.val (.int ia), .val (.int (ia &&& (3 : Int32))), .val (.int ((own_ch (2 : Int32) ia).toUInt32.toUInt16.toUInt32.toInt32)), .val (.int ((own_ch (10 : Int32) ia).toUInt32.toUInt16.toUInt32.toInt32)), .val (.int ((own_ch (18 : Int32) ia).toUInt32.toUInt16.toUInt32.toInt32)), .val (.ref b554)] [])) (fun t k => XS.astore X554.here hx rfl (hb hby d1_74) rfl rfl (l' := #[.val (.int ia), .val (.int (ia &&& (3 : Int32))), .val (.int ((own_ch (2 : Int32) ia).toUInt32.toUInt16.toUInt32.toInt32)), .val (.int ((own_ch (10 : Int32) ia).toUInt32.toUInt16.toUInt32.toInt32)), .val (.int ((own_ch (18 : Int32) ia).toUInt32.toUInt16.toUInt32.toInt32)), .val (.ref b554)]) rfl k) ?_
        refine GoH.step (T' := T554) (f' := (mkF m 78 #[.val (.int ia), .val (.int (ia &&& (3 : Int32))), .val (.int ((own_ch (2 : Int32) ia).toUInt32.toUInt16.toUInt32.toInt32)), .val (.int ((own_ch (10 : Int32) ia).toUInt32.toUInt16.toUInt32.toInt32)), .val (.int ((own_ch (18 : Int32) ia).toUInt32.toUInt16.toUInt32.toInt32)), .val (.ref b554)] [(.ref b554)])) (fun t k => XS.aload X554.here hx rfl (hb hby d1_76) rfl rfl k) ?_
        refine GoH.step (T' := T554) (f' := (mkF m 79 #[.val (.int ia), .val (.int (ia &&& (3 : Int32))), .val (.int ((own_ch (2 : Int32) ia).toUInt32.toUInt16.toUInt32.toInt32)), .val (.int ((own_ch (10 : Int32) ia).toUInt32.toUInt16.toUInt32.toInt32)), .val (.int ((own_ch (18 : Int32) ia).toUInt32.toUInt16.toUInt32.toInt32)), .val (.ref b554)] [(.int (0 : Int32)), (.ref b554)])) (fun t k => XS.iconst X554.here hx rfl (hb hby d1_78) k) ?_
        refine GoH.step (T' := T554) (f' := (mkF m 80 #[.val (.int ia), .val (.int (ia &&& (3 : Int32))), .val (.int ((own_ch (2 : Int32) ia).toUInt32.toUInt16.toUInt32.toInt32)), .val (.int ((own_ch (10 : Int32) ia).toUInt32.toUInt16.toUInt32.toInt32)), .val (.int ((own_ch (18 : Int32) ia).toUInt32.toUInt16.toUInt32.toInt32)), .val (.ref b554)] [(.int ((own_ch (2 : Int32) ia).toUInt32.toUInt16.toUInt32.toInt32)), (.int (0 : Int32)), (.ref b554)])) (fun t k => XS.iloadN X554.here hx rfl (hb hby d1_79) rfl k) ?_
        obtain ⟨ca562, Aa562, qa562, Sa562, Na562, Ha562, Ga562⟩ := id f561
        have ia562 : ¬ ((0 : Int32) < 0 ∨ ca562.slots.size ≤ ((0 : Int32)).toNatClampNeg) := inb_of Sa562 ⟨by decide, by decide⟩
        obtain ⟨T563, h563, X563, e563, W563, st563⟩ := stC X554 hx hZ e554 Aa562 (j := (0 : Int32)) ia562 (g := (mkF m 80 #[.val (.int ia), .val (.int (ia &&& (3 : Int32))), .val (.int ((own_ch (2 : Int32) ia).toUInt32.toUInt16.toUInt32.toInt32)), .val (.int ((own_ch (10 : Int32) ia).toUInt32.toUInt16.toUInt32.toInt32)), .val (.int ((own_ch (18 : Int32) ia).toUInt32.toUInt16.toUInt32.toInt32)), .val (.ref b554)] [(.int ((own_ch (2 : Int32) ia).toUInt32.toUInt16.toUInt32.toInt32)), (.int (0 : Int32)), (.ref b554)])) rfl rfl (hb hby d1_80)
        have f564 := Arv.set Aa562 qa562 Sa562 Na562 Ha562 Ga562 (fits_nar_char _) W563 0 rfl (Nat.le_of_ble_eq_true rfl)
        have f565 : Arv Z h563 b554 k554 .char (2 : Int32) [(.int (nar .char ((own_ch (2 : Int32) ia).toUInt32.toUInt16.toUInt32.toInt32))), (.int (0 : Int32))] (.int (0 : Int32)) := f564
        have sa566 : Safe Z own_EL s.vm h554 b554 := (Safe.exa (EL := own_EL) hZ.alike Y554 (by decide) (by decide))
        have CR567 := CR557.trans (CHr.wr W563 sa566 CR557.1)
        have hk568 := (by rw [W563.size]; exact hk558 : _ ≤ h563.size)
        have f569 := Y554.wr W563
        have O570 := O559.wr W563 g555
        have K571 := K560.wr W563 (Or.inr g556)
        have N572 := Fr.snoc X563 N455 g555
        refine GoH.step (T' := T563) (f' := (mkF m 81 #[.val (.int ia), .val (.int (ia &&& (3 : Int32))), .val (.int ((own_ch (2 : Int32) ia).toUInt32.toUInt16.toUInt32.toInt32)), .val (.int ((own_ch (10 : Int32) ia).toUInt32.toUInt16.toUInt32.toInt32)), .val (.int ((own_ch (18 : Int32) ia).toUInt32.toUInt16.toUInt32.toInt32)), .val (.ref b554)] [])) st563 ?_
        clear st563 X554 CR557 hk558 sa566 Y554 O559 K560 N455
        refine GoH.step (T' := T563) (f' := (mkF m 83 #[.val (.int ia), .val (.int (ia &&& (3 : Int32))), .val (.int ((own_ch (2 : Int32) ia).toUInt32.toUInt16.toUInt32.toInt32)), .val (.int ((own_ch (10 : Int32) ia).toUInt32.toUInt16.toUInt32.toInt32)), .val (.int ((own_ch (18 : Int32) ia).toUInt32.toUInt16.toUInt32.toInt32)), .val (.ref b554)] [(.ref b554)])) (fun t k => XS.aload X563.here hx rfl (hb hby d1_81) rfl rfl k) ?_
        refine GoH.step (T' := T563) (f' := (mkF m 84 #[.val (.int ia), .val (.int (ia &&& (3 : Int32))), .val (.int ((own_ch (2 : Int32) ia).toUInt32.toUInt16.toUInt32.toInt32)), .val (.int ((own_ch (10 : Int32) ia).toUInt32.toUInt16.toUInt32.toInt32)), .val (.int ((own_ch (18 : Int32) ia).toUInt32.toUInt16.toUInt32.toInt32)), .val (.ref b554)] [(.int (1 : Int32)), (.ref b554)])) (fun t k => XS.iconst X563.here hx rfl (hb hby d1_83) k) ?_
        refine GoH.step (T' := T563) (f' := (mkF m 85 #[.val (.int ia), .val (.int (ia &&& (3 : Int32))), .val (.int ((own_ch (2 : Int32) ia).toUInt32.toUInt16.toUInt32.toInt32)), .val (.int ((own_ch (10 : Int32) ia).toUInt32.toUInt16.toUInt32.toInt32)), .val (.int ((own_ch (18 : Int32) ia).toUInt32.toUInt16.toUInt32.toInt32)), .val (.ref b554)] [(.int ((own_ch (10 : Int32) ia).toUInt32.toUInt16.toUInt32.toInt32)), (.int (1 : Int32)), (.ref b554)])) (fun t k => XS.iloadN X563.here hx rfl (hb hby d1_84) rfl k) ?_
        obtain ⟨ca573, Aa573, qa573, Sa573, Na573, Ha573, Ga573⟩ := id f565
        have ia573 : ¬ ((1 : Int32) < 0 ∨ ca573.slots.size ≤ ((1 : Int32)).toNatClampNeg) := inb_of Sa573 ⟨by decide, by decide⟩
        obtain ⟨T574, h574, X574, e574, W574, st574⟩ := stC X563 hx hZ e563 Aa573 (j := (1 : Int32)) ia573 (g := (mkF m 85 #[.val (.int ia), .val (.int (ia &&& (3 : Int32))), .val (.int ((own_ch (2 : Int32) ia).toUInt32.toUInt16.toUInt32.toInt32)), .val (.int ((own_ch (10 : Int32) ia).toUInt32.toUInt16.toUInt32.toInt32)), .val (.int ((own_ch (18 : Int32) ia).toUInt32.toUInt16.toUInt32.toInt32)), .val (.ref b554)] [(.int ((own_ch (10 : Int32) ia).toUInt32.toUInt16.toUInt32.toInt32)), (.int (1 : Int32)), (.ref b554)])) rfl rfl (hb hby d1_85)
        have f575 := Arv.set Aa573 qa573 Sa573 Na573 Ha573 Ga573 (fits_nar_char _) W574 1 rfl (Nat.le_of_ble_eq_true rfl)
        have f576 : Arv Z h574 b554 k554 .char (2 : Int32) [(.int (nar .char ((own_ch (2 : Int32) ia).toUInt32.toUInt16.toUInt32.toInt32))), (.int (nar .char ((own_ch (10 : Int32) ia).toUInt32.toUInt16.toUInt32.toInt32)))] (.int (0 : Int32)) := f575
        have sa577 : Safe Z own_EL s.vm h563 b554 := (Safe.exa (EL := own_EL) hZ.alike f569 (by decide) (by decide))
        have CR578 := CR567.trans (CHr.wr W574 sa577 CR567.1)
        have hk579 := (by rw [W574.size]; exact hk568 : _ ≤ h574.size)
        have f580 := f569.wr W574
        have O581 := O570.wr W574 g555
        have K582 := K571.wr W574 (Or.inr g556)
        have N583 := Fr.snoc X574 N572 g555
        refine GoH.step (T' := T574) (f' := (mkF m 86 #[.val (.int ia), .val (.int (ia &&& (3 : Int32))), .val (.int ((own_ch (2 : Int32) ia).toUInt32.toUInt16.toUInt32.toInt32)), .val (.int ((own_ch (10 : Int32) ia).toUInt32.toUInt16.toUInt32.toInt32)), .val (.int ((own_ch (18 : Int32) ia).toUInt32.toUInt16.toUInt32.toInt32)), .val (.ref b554)] [])) st574 ?_
        clear st574 X563 CR567 hk568 sa577 f569 O570 K571 N572
        obtain ⟨T584, h584, X584, e584, E584, A584, D584, -, st584⟩ := newO X574 hx hZ hown (hw _ (List.mem_of_getElem? (i := 7) rfl)) (hw _ (List.mem_of_getElem? (i := 8) rfl)) (hw _ (List.mem_of_getElem? (i := 9) rfl)) e574 (g := (mkF m 86 #[.val (.int ia), .val (.int (ia &&& (3 : Int32))), .val (.int ((own_ch (2 : Int32) ia).toUInt32.toUInt16.toUInt32.toInt32)), .val (.int ((own_ch (10 : Int32) ia).toUInt32.toUInt16.toUInt32.toInt32)), .val (.int ((own_ch (18 : Int32) ia).toUInt32.toUInt16.toUInt32.toInt32)), .val (.ref b554)] [])) rfl (hb hby d1_86) (by decide) (by decide)
        obtain ⟨b584, g584⟩ : ∃ z, z = h574.size := ⟨_, rfl⟩
        rw [← g584] at A584 D584 st584
        have sf585 : Safe Z own_EL s.vm h574 b584 := Safe.new (Nat.le_of_eq g584.symm)
        have g586 : n0 ≤ b584 := Nat.le_trans (own_old_le O581) (Nat.le_of_eq g584.symm)
        have g587 : h0.size ≤ b584 := Nat.le_trans K582.1 (Nat.le_of_eq g584.symm)
        have ne588 : b554 ≠ b584 := Nat.ne_of_lt (Nat.lt_of_lt_of_le f580.lt (Nat.le_of_eq g584.symm))
        have sf589 := Safe.ext E584 CR578.1 sf585
        have CR590 := CR578.trans (CHr.ext E584 CR578.1)
        have hk591 := Nat.le_trans hk579 E584.1
        have f592 := f580.ext E584
        have f593 := f576.ext E584
        have O594 := O581.ext E584
        have K595 := K582.ext E584
        have f596 : Fld Z h584 b584 "java/lang/String" "value" "[B" .null := D584 (Or.inr (hw _ (List.mem_of_getElem? (i := 23) rfl))) (ty := (.array .byte)) (by decide)
        have f597 : Fld Z h584 b584 "java/lang/String" "coder" "B" (.int (0 : Int32)) := D584 (Or.inr (hw _ (List.mem_of_getElem? (i := 24) rfl))) (ty := .byte) (by decide)
        refine GoH.step (T' := T584) (f' := (mkF m 89 #[.val (.int ia), .val (.int (ia &&& (3 : Int32))), .val (.int ((own_ch (2 : Int32) ia).toUInt32.toUInt16.toUInt32.toInt32)), .val (.int ((own_ch (10 : Int32) ia).toUInt32.toUInt16.toUInt32.toInt32)), .val (.int ((own_ch (18 : Int32) ia).toUInt32.toUInt16.toUInt32.toInt32)), .val (.ref b554)] [(.ref b584)])) st584 ?_
        clear st584 X574 sf585 CR578 hk579 f580 f576 O581 K582
        refine GoH.step (T' := T584) (f' := (mkF m 90 #[.val (.int ia), .val (.int (ia &&& (3 : Int32))), .val (.int ((own_ch (2 : Int32) ia).toUInt32.toUInt16.toUInt32.toInt32)), .val (.int ((own_ch (10 : Int32) ia).toUInt32.toUInt16.toUInt32.toInt32)), .val (.int ((own_ch (18 : Int32) ia).toUInt32.toUInt16.toUInt32.toInt32)), .val (.ref b554)] [(.ref b584), (.ref b584)])) (fun t k => XS.dup X584.here hx rfl (hb hby d1_89) rfl rfl k) ?_
        refine GoH.step (T' := T584) (f' := (mkF m 92 #[.val (.int ia), .val (.int (ia &&& (3 : Int32))), .val (.int ((own_ch (2 : Int32) ia).toUInt32.toUInt16.toUInt32.toInt32)), .val (.int ((own_ch (10 : Int32) ia).toUInt32.toUInt16.toUInt32.toInt32)), .val (.int ((own_ch (18 : Int32) ia).toUInt32.toUInt16.toUInt32.toInt32)), .val (.ref b554)] [(.ref b554), (.ref b584), (.ref b584)])) (fun t k => XS.aload X584.here hx rfl (hb hby d1_90) rfl rfl k) ?_
        obtain ⟨_, _, ⟨T598, L598, k598, n598⟩, -, X598, ⟨Lc598, hQ598, l598, y598, z598⟩, st598⟩ := X584.specialBack hx (y := (⟨"java/lang/String", "<init>", "([C)V"⟩ : MethodName)) rfl hown (mvT hZ (hw _ (List.mem_of_getElem? (i := 11) rfl))) (mvT hZ (hw _ (List.mem_of_getElem? (i := 12) rfl))) (mvT hZ (hw _ (List.mem_of_getElem? (i := 13) rfl))) (by decide) (backOf (W := 1) (rm_ini1_2 l Z a0 hw [] b584 b554 k554 (nar .char ((own_ch (2 : Int32) ia).toUInt32.toUInt16.toUInt32.toInt32)) (nar .char ((own_ch (10 : Int32) ia).toUInt32.toUInt16.toUInt32.toInt32)) .null (.int (0 : Int32)) wz h584 n0 O594 A584 f596 f597 g586 f593 ne588 P0 hwz (own_c8ch _ _) (own_c8ch _ _)) hZ (hw _ (List.mem_of_getElem? (i := 13) rfl)) (hw _ (List.mem_of_getElem? (i := 9) rfl)) (by decide) (by decide)) (g := (mkF m 92 #[.val (.int ia), .val (.int (ia &&& (3 : Int32))), .val (.int ((own_ch (2 : Int32) ia).toUInt32.toUInt16.toUInt32.toInt32)), .val (.int ((own_ch (10 : Int32) ia).toUInt32.toUInt16.toUInt32.toInt32)), .val (.int ((own_ch (18 : Int32) ia).toUInt32.toUInt16.toUInt32.toInt32)), .val (.ref b554)] [(.ref b554), (.ref b584), (.ref b584)])) rfl (by rw [hml]; rfl) (Steps.refl _) (a := b584) (argsL := [(.ref b554)]) (rest := [(.ref b584)]) (lenOf pd6 rfl) rfl (by show 2 * 0 + _ ≤ _; exact Nat.le_of_eq rfl) (hb hby d1_92) (fun _ _ => ⟨rfl, e584, (by decide : 2 + 1 ≤ _), (by decide : 6 + 2 ≤ _)⟩)
        dsimp only [Pt.U, Pt.locs, Pt.cells, Pt.slots] at X598 l598 y598 z598 st598 hQ598
        subst l598 y598 z598
        obtain ⟨u599, u600, rfl, Nq598, hh598, p601, p602, p603, p604, p605⟩ := hQ598
        have N606 := Fr.app N583 Nq598
        have sz607 : ∀ x ∈ [b584], Safe Z own_EL s.vm h584 x := (sfS sf589 sf0)
        have sf608 := Safe.keep hh598 sz607 CR590.1 sf589
        have CR609 := CR590.trans (CHr.keep hh598 sz607 CR590.1)
        have hk610 := Nat.le_trans hk591 hh598.1
        have f611 := f592.keep hh598
        have f612 := f593.keep hh598 (ninS ne588 nin0)
        have f613 := A584.keep hh598
        have O614 := O594.keep hh598 (allS g586 all0)
        have K615 := K595.trans hh598 (allS (Or.inr g587) all0)
        have g616 : n0 ≤ u599 := Nat.le_trans (own_old_le O594) p604
        have g617 : h0.size ≤ u599 := Nat.le_trans K595.1 p604
        have ne618 : b554 ≠ u599 := Nat.ne_of_lt (Nat.lt_of_lt_of_le f592.lt p604)
        have ne619 : b584 ≠ u599 := Nat.ne_of_lt (Nat.lt_of_lt_of_le A584.lt p604)
        refine GoH.via (T' := T598) (f' := (mkF m 95 #[.val (.int ia), .val (.int (ia &&& (3 : Int32))), .val (.int ((own_ch (2 : Int32) ia).toUInt32.toUInt16.toUInt32.toInt32)), .val (.int ((own_ch (10 : Int32) ia).toUInt32.toUInt16.toUInt32.toInt32)), .val (.int ((own_ch (18 : Int32) ia).toUInt32.toUInt16.toUInt32.toInt32)), .val (.ref b554)] [(.ref b584)])) st598 ?_
        clear st598 X584 N583 Nq598 sf589 CR590 hk591 sz607 f593
        refine GoH.fin X598 hZ hEL hS0 hk610 CR609 hlk (v := some (.ref b584)) (fun h => by rw [Bd.returns] at h; cases h) (fun fs hr => retOut X598 hx Bd.returns (own_nar_ref rfl rfl) (Or.inr (Or.inr (Or.inr (Or.inr ⟨rfl, rfl, rfl⟩)))) (hb hby d1_95) hr) rfl ?_ (by decide) (by decide)
        exact ⟨b584, u599, u600, rfl, N606, K615, p601, p602, p603, own_vcast (by rw [own_str, if_neg hc456, if_neg hc497, if_pos hc553]; rfl) (by rw [own_str, if_neg hc456, if_neg hc497, if_pos hc553]; rfl) p605⟩
      ·
        refine GoH.step (T' := T454) (f' := (mkF m 96 #[.val (.int ia), .val (.int (ia &&& (3 : Int32))), .val (.int ((own_ch (2 : Int32) ia).toUInt32.toUInt16.toUInt32.toInt32)), .val (.int ((own_ch (10 : Int32) ia).toUInt32.toUInt16.toUInt32.toInt32)), .val (.int ((own_ch (18 : Int32) ia).toUInt32.toUInt16.toUInt32.toInt32)), .unset] [])) (fun t k => XS.icmpYes X454.here hx rfl (pc0 := 68) (pc' := 96) rfl (hb hby d1_68) rfl (feq hc553).2 (by decide) (by decide) k) ?_
        refine GoH.step (T' := T454) (f' := (mkF m 97 #[.val (.int ia), .val (.int (ia &&& (3 : Int32))), .val (.int ((own_ch (2 : Int32) ia).toUInt32.toUInt16.toUInt32.toInt32)), .val (.int ((own_ch (10 : Int32) ia).toUInt32.toUInt16.toUInt32.toInt32)), .val (.int ((own_ch (18 : Int32) ia).toUInt32.toUInt16.toUInt32.toInt32)), .unset] [(.int (3 : Int32))])) (fun t k => XS.iconst X454.here hx rfl (hb hby d1_96) k) ?_
        obtain ⟨T620, h620, k620, X620, e620, E620, A620, Y620, st620⟩ := newPE X454 hx hZ (hw _ (List.mem_of_getElem? (i := 10) rfl)) hh454 (g := (mkF m 97 #[.val (.int ia), .val (.int (ia &&& (3 : Int32))), .val (.int ((own_ch (2 : Int32) ia).toUInt32.toUInt16.toUInt32.toInt32)), .val (.int ((own_ch (10 : Int32) ia).toUInt32.toUInt16.toUInt32.toInt32)), .val (.int ((own_ch (18 : Int32) ia).toUInt32.toUInt16.toUInt32.toInt32)), .unset] [(.int (3 : Int32))])) rfl (hb hby d1_97) rfl (by decide) (cap := 3) (by decide) (by decide) (by decide) (by decide) (ad := "[C") (by decide)
        obtain ⟨b620, g620⟩ : ∃ z, z = h0.size := ⟨_, rfl⟩
        rw [← g620] at A620 Y620 st620
        have g621 : n0 ≤ b620 := Nat.le_trans (own_old_le O0) (Nat.le_of_eq g620.symm)
        have g622 : h0.size ≤ b620 := Nat.le_trans K0.1 (Nat.le_of_eq g620.symm)
        have CR623 := CR0.trans (CHr.ext E620 CR0.1)
        have hk624 := Nat.le_trans hk0 E620.1
        have O625 := O0.ext E620
        have K626 := K0.ext E620
        have f627 : Arv Z h620 b620 k620 .char (3 : Int32) [(.int (0 : Int32)), (.int (0 : Int32)), (.int (0 : Int32))] (.int (0 : Int32)) := (Arv.new A620 (by decide)).pad (pad_rep [] (.int (0 : Int32)) 3)
        refine GoH.step (T' := T620) (f' := (mkF m 99 #[.val (.int ia), .val (.int (ia &&& (3 : Int32))), .val (.int ((own_ch (2 : Int32) ia).toUInt32.toUInt16.toUInt32.toInt32)), .val (.int ((own_ch (10 : Int32) ia).toUInt32.toUInt16.toUInt32.toInt32)), .val (.int ((own_ch (18 : Int32) ia).toUInt32.toUInt16.toUInt32.toInt32)), .unset] [(.ref b620)])) st620 ?_
        clear st620 X454 CR0 hk0
        refine GoH.step (T' := T620) (f' := (mkF m 101 #[.val (.int ia), .val (.int (ia &&& (3 : Int32))), .val (.int ((own_ch (2 : Int32) ia).toUInt32.toUInt16.toUInt32.toInt32)), .val (.int ((own_ch (10 : Int32) ia).toUInt32.toUInt16.toUInt32.toInt32)), .val (.int ((own_ch (18 : Int32) ia).toUInt32.toUInt16.toUInt32.toInt32)), .val (.ref b620)] [])) (fun t k => XS.astore X620.here hx rfl (hb hby d1_99) rfl rfl (l' := #[.val (.int ia), .val (.int (ia &&& (3 : Int32))), .val (.int ((own_ch (2 : Int32) ia).toUInt32.toUInt16.toUInt32.toInt32)), .val (.int ((own_ch (10 : Int32) ia).toUInt32.toUInt16.toUInt32.toInt32)), .val (.int ((own_ch (18 : Int32) ia).toUInt32.toUInt16.toUInt32.toInt32)), .val (.ref b620)]) rfl k) ?_
        refine GoH.step (T' := T620) (f' := (mkF m 103 #[.val (.int ia), .val (.int (ia &&& (3 : Int32))), .val (.int ((own_ch (2 : Int32) ia).toUInt32.toUInt16.toUInt32.toInt32)), .val (.int ((own_ch (10 : Int32) ia).toUInt32.toUInt16.toUInt32.toInt32)), .val (.int ((own_ch (18 : Int32) ia).toUInt32.toUInt16.toUInt32.toInt32)), .val (.ref b620)] [(.ref b620)])) (fun t k => XS.aload X620.here hx rfl (hb hby d1_101) rfl rfl k) ?_
        refine GoH.step (T' := T620) (f' := (mkF m 104 #[.val (.int ia), .val (.int (ia &&& (3 : Int32))), .val (.int ((own_ch (2 : Int32) ia).toUInt32.toUInt16.toUInt32.toInt32)), .val (.int ((own_ch (10 : Int32) ia).toUInt32.toUInt16.toUInt32.toInt32)), .val (.int ((own_ch (18 : Int32) ia).toUInt32.toUInt16.toUInt32.toInt32)), .val (.ref b620)] [(.int (0 : Int32)), (.ref b620)])) (fun t k => XS.iconst X620.here hx rfl (hb hby d1_103) k) ?_
        refine GoH.step (T' := T620) (f' := (mkF m 105 #[.val (.int ia), .val (.int (ia &&& (3 : Int32))), .val (.int ((own_ch (2 : Int32) ia).toUInt32.toUInt16.toUInt32.toInt32)), .val (.int ((own_ch (10 : Int32) ia).toUInt32.toUInt16.toUInt32.toInt32)), .val (.int ((own_ch (18 : Int32) ia).toUInt32.toUInt16.toUInt32.toInt32)), .val (.ref b620)] [(.int ((own_ch (2 : Int32) ia).toUInt32.toUInt16.toUInt32.toInt32)), (.int (0 : Int32)), (.ref b620)])) (fun t k => XS.iloadN X620.here hx rfl (hb hby d1_104) rfl k) ?_
        obtain ⟨ca628, Aa628, qa628, Sa628, Na628, Ha628, Ga628⟩ := id f627
        have ia628 : ¬ ((0 : Int32) < 0 ∨ ca628.slots.size ≤ ((0 : Int32)).toNatClampNeg) := inb_of Sa628 ⟨by decide, by decide⟩
        obtain ⟨T629, h629, X629, e629, W629, st629⟩ := stC X620 hx hZ e620 Aa628 (j := (0 : Int32)) ia628 (g := (mkF m 105 #[.val (.int ia), .val (.int (ia &&& (3 : Int32))), .val (.int ((own_ch (2 : Int32) ia).toUInt32.toUInt16.toUInt32.toInt32)), .val (.int ((own_ch (10 : Int32) ia).toUInt32.toUInt16.toUInt32.toInt32)), .val (.int ((own_ch (18 : Int32) ia).toUInt32.toUInt16.toUInt32.toInt32)), .val (.ref b620)] [(.int ((own_ch (2 : Int32) ia).toUInt32.toUInt16.toUInt32.toInt32)), (.int (0 : Int32)), (.ref b620)])) rfl rfl (hb hby d1_105)
        have f630 := Arv.set Aa628 qa628 Sa628 Na628 Ha628 Ga628 (fits_nar_char _) W629 0 rfl (Nat.le_of_ble_eq_true rfl)
        have f631 : Arv Z h629 b620 k620 .char (3 : Int32) [(.int (nar .char ((own_ch (2 : Int32) ia).toUInt32.toUInt16.toUInt32.toInt32))), (.int (0 : Int32)), (.int (0 : Int32))] (.int (0 : Int32)) := f630
        have sa632 : Safe Z own_EL s.vm h620 b620 := (Safe.exa (EL := own_EL) hZ.alike Y620 (by decide) (by decide))
        have CR633 := CR623.trans (CHr.wr W629 sa632 CR623.1)
        have hk634 := (by rw [W629.size]; exact hk624 : _ ≤ h629.size)
        have f635 := Y620.wr W629
        have O636 := O625.wr W629 g621
        have K637 := K626.wr W629 (Or.inr g622)
        have N638 := Fr.snoc X629 N455 g621
        refine GoH.step (T' := T629) (f' := (mkF m 106 #[.val (.int ia), .val (.int (ia &&& (3 : Int32))), .val (.int ((own_ch (2 : Int32) ia).toUInt32.toUInt16.toUInt32.toInt32)), .val (.int ((own_ch (10 : Int32) ia).toUInt32.toUInt16.toUInt32.toInt32)), .val (.int ((own_ch (18 : Int32) ia).toUInt32.toUInt16.toUInt32.toInt32)), .val (.ref b620)] [])) st629 ?_
        clear st629 X620 CR623 hk624 sa632 Y620 O625 K626 N455
        refine GoH.step (T' := T629) (f' := (mkF m 108 #[.val (.int ia), .val (.int (ia &&& (3 : Int32))), .val (.int ((own_ch (2 : Int32) ia).toUInt32.toUInt16.toUInt32.toInt32)), .val (.int ((own_ch (10 : Int32) ia).toUInt32.toUInt16.toUInt32.toInt32)), .val (.int ((own_ch (18 : Int32) ia).toUInt32.toUInt16.toUInt32.toInt32)), .val (.ref b620)] [(.ref b620)])) (fun t k => XS.aload X629.here hx rfl (hb hby d1_106) rfl rfl k) ?_
        refine GoH.step (T' := T629) (f' := (mkF m 109 #[.val (.int ia), .val (.int (ia &&& (3 : Int32))), .val (.int ((own_ch (2 : Int32) ia).toUInt32.toUInt16.toUInt32.toInt32)), .val (.int ((own_ch (10 : Int32) ia).toUInt32.toUInt16.toUInt32.toInt32)), .val (.int ((own_ch (18 : Int32) ia).toUInt32.toUInt16.toUInt32.toInt32)), .val (.ref b620)] [(.int (1 : Int32)), (.ref b620)])) (fun t k => XS.iconst X629.here hx rfl (hb hby d1_108) k) ?_
        refine GoH.step (T' := T629) (f' := (mkF m 110 #[.val (.int ia), .val (.int (ia &&& (3 : Int32))), .val (.int ((own_ch (2 : Int32) ia).toUInt32.toUInt16.toUInt32.toInt32)), .val (.int ((own_ch (10 : Int32) ia).toUInt32.toUInt16.toUInt32.toInt32)), .val (.int ((own_ch (18 : Int32) ia).toUInt32.toUInt16.toUInt32.toInt32)), .val (.ref b620)] [(.int ((own_ch (10 : Int32) ia).toUInt32.toUInt16.toUInt32.toInt32)), (.int (1 : Int32)), (.ref b620)])) (fun t k => XS.iloadN X629.here hx rfl (hb hby d1_109) rfl k) ?_
        obtain ⟨ca639, Aa639, qa639, Sa639, Na639, Ha639, Ga639⟩ := id f631
        have ia639 : ¬ ((1 : Int32) < 0 ∨ ca639.slots.size ≤ ((1 : Int32)).toNatClampNeg) := inb_of Sa639 ⟨by decide, by decide⟩
        obtain ⟨T640, h640, X640, e640, W640, st640⟩ := stC X629 hx hZ e629 Aa639 (j := (1 : Int32)) ia639 (g := (mkF m 110 #[.val (.int ia), .val (.int (ia &&& (3 : Int32))), .val (.int ((own_ch (2 : Int32) ia).toUInt32.toUInt16.toUInt32.toInt32)), .val (.int ((own_ch (10 : Int32) ia).toUInt32.toUInt16.toUInt32.toInt32)), .val (.int ((own_ch (18 : Int32) ia).toUInt32.toUInt16.toUInt32.toInt32)), .val (.ref b620)] [(.int ((own_ch (10 : Int32) ia).toUInt32.toUInt16.toUInt32.toInt32)), (.int (1 : Int32)), (.ref b620)])) rfl rfl (hb hby d1_110)
        have f641 := Arv.set Aa639 qa639 Sa639 Na639 Ha639 Ga639 (fits_nar_char _) W640 1 rfl (Nat.le_of_ble_eq_true rfl)
        have f642 : Arv Z h640 b620 k620 .char (3 : Int32) [(.int (nar .char ((own_ch (2 : Int32) ia).toUInt32.toUInt16.toUInt32.toInt32))), (.int (nar .char ((own_ch (10 : Int32) ia).toUInt32.toUInt16.toUInt32.toInt32))), (.int (0 : Int32))] (.int (0 : Int32)) := f641
        have sa643 : Safe Z own_EL s.vm h629 b620 := (Safe.exa (EL := own_EL) hZ.alike f635 (by decide) (by decide))
        have CR644 := CR633.trans (CHr.wr W640 sa643 CR633.1)
        have hk645 := (by rw [W640.size]; exact hk634 : _ ≤ h640.size)
        have f646 := f635.wr W640
        have O647 := O636.wr W640 g621
        have K648 := K637.wr W640 (Or.inr g622)
        have N649 := Fr.snoc X640 N638 g621
        refine GoH.step (T' := T640) (f' := (mkF m 111 #[.val (.int ia), .val (.int (ia &&& (3 : Int32))), .val (.int ((own_ch (2 : Int32) ia).toUInt32.toUInt16.toUInt32.toInt32)), .val (.int ((own_ch (10 : Int32) ia).toUInt32.toUInt16.toUInt32.toInt32)), .val (.int ((own_ch (18 : Int32) ia).toUInt32.toUInt16.toUInt32.toInt32)), .val (.ref b620)] [])) st640 ?_
        clear st640 X629 CR633 hk634 sa643 f635 O636 K637 N638
        refine GoH.step (T' := T640) (f' := (mkF m 113 #[.val (.int ia), .val (.int (ia &&& (3 : Int32))), .val (.int ((own_ch (2 : Int32) ia).toUInt32.toUInt16.toUInt32.toInt32)), .val (.int ((own_ch (10 : Int32) ia).toUInt32.toUInt16.toUInt32.toInt32)), .val (.int ((own_ch (18 : Int32) ia).toUInt32.toUInt16.toUInt32.toInt32)), .val (.ref b620)] [(.ref b620)])) (fun t k => XS.aload X640.here hx rfl (hb hby d1_111) rfl rfl k) ?_
        refine GoH.step (T' := T640) (f' := (mkF m 114 #[.val (.int ia), .val (.int (ia &&& (3 : Int32))), .val (.int ((own_ch (2 : Int32) ia).toUInt32.toUInt16.toUInt32.toInt32)), .val (.int ((own_ch (10 : Int32) ia).toUInt32.toUInt16.toUInt32.toInt32)), .val (.int ((own_ch (18 : Int32) ia).toUInt32.toUInt16.toUInt32.toInt32)), .val (.ref b620)] [(.int (2 : Int32)), (.ref b620)])) (fun t k => XS.iconst X640.here hx rfl (hb hby d1_113) k) ?_
        refine GoH.step (T' := T640) (f' := (mkF m 116 #[.val (.int ia), .val (.int (ia &&& (3 : Int32))), .val (.int ((own_ch (2 : Int32) ia).toUInt32.toUInt16.toUInt32.toInt32)), .val (.int ((own_ch (10 : Int32) ia).toUInt32.toUInt16.toUInt32.toInt32)), .val (.int ((own_ch (18 : Int32) ia).toUInt32.toUInt16.toUInt32.toInt32)), .val (.ref b620)] [(.int ((own_ch (18 : Int32) ia).toUInt32.toUInt16.toUInt32.toInt32)), (.int (2 : Int32)), (.ref b620)])) (fun t k => XS.iload X640.here hx rfl (hb hby d1_114) rfl k) ?_
        obtain ⟨ca650, Aa650, qa650, Sa650, Na650, Ha650, Ga650⟩ := id f642
        have ia650 : ¬ ((2 : Int32) < 0 ∨ ca650.slots.size ≤ ((2 : Int32)).toNatClampNeg) := inb_of Sa650 ⟨by decide, by decide⟩
        obtain ⟨T651, h651, X651, e651, W651, st651⟩ := stC X640 hx hZ e640 Aa650 (j := (2 : Int32)) ia650 (g := (mkF m 116 #[.val (.int ia), .val (.int (ia &&& (3 : Int32))), .val (.int ((own_ch (2 : Int32) ia).toUInt32.toUInt16.toUInt32.toInt32)), .val (.int ((own_ch (10 : Int32) ia).toUInt32.toUInt16.toUInt32.toInt32)), .val (.int ((own_ch (18 : Int32) ia).toUInt32.toUInt16.toUInt32.toInt32)), .val (.ref b620)] [(.int ((own_ch (18 : Int32) ia).toUInt32.toUInt16.toUInt32.toInt32)), (.int (2 : Int32)), (.ref b620)])) rfl rfl (hb hby d1_116)
        have f652 := Arv.set Aa650 qa650 Sa650 Na650 Ha650 Ga650 (fits_nar_char _) W651 2 rfl (Nat.le_of_ble_eq_true rfl)
        have f653 : Arv Z h651 b620 k620 .char (3 : Int32) [(.int (nar .char ((own_ch (2 : Int32) ia).toUInt32.toUInt16.toUInt32.toInt32))), (.int (nar .char ((own_ch (10 : Int32) ia).toUInt32.toUInt16.toUInt32.toInt32))), (.int (nar .char ((own_ch (18 : Int32) ia).toUInt32.toUInt16.toUInt32.toInt32)))] (.int (0 : Int32)) := f652
        have sa654 : Safe Z own_EL s.vm h640 b620 := (Safe.exa (EL := own_EL) hZ.alike f646 (by decide) (by decide))
        have CR655 := CR644.trans (CHr.wr W651 sa654 CR644.1)
        have hk656 := (by rw [W651.size]; exact hk645 : _ ≤ h651.size)
        have f657 := f646.wr W651
        have O658 := O647.wr W651 g621
        have K659 := K648.wr W651 (Or.inr g622)
        have N660 := Fr.snoc X651 N649 g621
        refine GoH.step (T' := T651) (f' := (mkF m 117 #[.val (.int ia), .val (.int (ia &&& (3 : Int32))), .val (.int ((own_ch (2 : Int32) ia).toUInt32.toUInt16.toUInt32.toInt32)), .val (.int ((own_ch (10 : Int32) ia).toUInt32.toUInt16.toUInt32.toInt32)), .val (.int ((own_ch (18 : Int32) ia).toUInt32.toUInt16.toUInt32.toInt32)), .val (.ref b620)] [])) st651 ?_
        clear st651 X640 CR644 hk645 sa654 f646 O647 K648 N649
        obtain ⟨T661, h661, X661, e661, E661, A661, D661, -, st661⟩ := newO X651 hx hZ hown (hw _ (List.mem_of_getElem? (i := 7) rfl)) (hw _ (List.mem_of_getElem? (i := 8) rfl)) (hw _ (List.mem_of_getElem? (i := 9) rfl)) e651 (g := (mkF m 117 #[.val (.int ia), .val (.int (ia &&& (3 : Int32))), .val (.int ((own_ch (2 : Int32) ia).toUInt32.toUInt16.toUInt32.toInt32)), .val (.int ((own_ch (10 : Int32) ia).toUInt32.toUInt16.toUInt32.toInt32)), .val (.int ((own_ch (18 : Int32) ia).toUInt32.toUInt16.toUInt32.toInt32)), .val (.ref b620)] [])) rfl (hb hby d1_117) (by decide) (by decide)
        obtain ⟨b661, g661⟩ : ∃ z, z = h651.size := ⟨_, rfl⟩
        rw [← g661] at A661 D661 st661
        have sf662 : Safe Z own_EL s.vm h651 b661 := Safe.new (Nat.le_of_eq g661.symm)
        have g663 : n0 ≤ b661 := Nat.le_trans (own_old_le O658) (Nat.le_of_eq g661.symm)
        have g664 : h0.size ≤ b661 := Nat.le_trans K659.1 (Nat.le_of_eq g661.symm)
        have ne665 : b620 ≠ b661 := Nat.ne_of_lt (Nat.lt_of_lt_of_le f657.lt (Nat.le_of_eq g661.symm))
        have sf666 := Safe.ext E661 CR655.1 sf662
        have CR667 := CR655.trans (CHr.ext E661 CR655.1)
        have hk668 := Nat.le_trans hk656 E661.1
        have f669 := f657.ext E661
        have f670 := f653.ext E661
        have O671 := O658.ext E661
        have K672 := K659.ext E661
        have f673 : Fld Z h661 b661 "java/lang/String" "value" "[B" .null := D661 (Or.inr (hw _ (List.mem_of_getElem? (i := 23) rfl))) (ty := (.array .byte)) (by decide)
        have f674 : Fld Z h661 b661 "java/lang/String" "coder" "B" (.int (0 : Int32)) := D661 (Or.inr (hw _ (List.mem_of_getElem? (i := 24) rfl))) (ty := .byte) (by decide)
        refine GoH.step (T' := T661) (f' := (mkF m 120 #[.val (.int ia), .val (.int (ia &&& (3 : Int32))), .val (.int ((own_ch (2 : Int32) ia).toUInt32.toUInt16.toUInt32.toInt32)), .val (.int ((own_ch (10 : Int32) ia).toUInt32.toUInt16.toUInt32.toInt32)), .val (.int ((own_ch (18 : Int32) ia).toUInt32.toUInt16.toUInt32.toInt32)), .val (.ref b620)] [(.ref b661)])) st661 ?_
        clear st661 X651 sf662 CR655 hk656 f657 f653 O658 K659
        refine GoH.step (T' := T661) (f' := (mkF m 121 #[.val (.int ia), .val (.int (ia &&& (3 : Int32))), .val (.int ((own_ch (2 : Int32) ia).toUInt32.toUInt16.toUInt32.toInt32)), .val (.int ((own_ch (10 : Int32) ia).toUInt32.toUInt16.toUInt32.toInt32)), .val (.int ((own_ch (18 : Int32) ia).toUInt32.toUInt16.toUInt32.toInt32)), .val (.ref b620)] [(.ref b661), (.ref b661)])) (fun t k => XS.dup X661.here hx rfl (hb hby d1_120) rfl rfl k) ?_
        refine GoH.step (T' := T661) (f' := (mkF m 123 #[.val (.int ia), .val (.int (ia &&& (3 : Int32))), .val (.int ((own_ch (2 : Int32) ia).toUInt32.toUInt16.toUInt32.toInt32)), .val (.int ((own_ch (10 : Int32) ia).toUInt32.toUInt16.toUInt32.toInt32)), .val (.int ((own_ch (18 : Int32) ia).toUInt32.toUInt16.toUInt32.toInt32)), .val (.ref b620)] [(.ref b620), (.ref b661), (.ref b661)])) (fun t k => XS.aload X661.here hx rfl (hb hby d1_121) rfl rfl k) ?_
        obtain ⟨_, _, ⟨T675, L675, k675, n675⟩, -, X675, ⟨Lc675, hQ675, l675, y675, z675⟩, st675⟩ := X661.specialBack hx (y := (⟨"java/lang/String", "<init>", "([C)V"⟩ : MethodName)) rfl hown (mvT hZ (hw _ (List.mem_of_getElem? (i := 11) rfl))) (mvT hZ (hw _ (List.mem_of_getElem? (i := 12) rfl))) (mvT hZ (hw _ (List.mem_of_getElem? (i := 13) rfl))) (by decide) (backOf (W := 1) (rm_ini1_3 l Z a0 hw [] b661 b620 k620 (nar .char ((own_ch (2 : Int32) ia).toUInt32.toUInt16.toUInt32.toInt32)) (nar .char ((own_ch (10 : Int32) ia).toUInt32.toUInt16.toUInt32.toInt32)) (nar .char ((own_ch (18 : Int32) ia).toUInt32.toUInt16.toUInt32.toInt32)) .null (.int (0 : Int32)) wz h661 n0 O671 A661 f673 f674 g663 f670 ne665 P0 hwz (own_c8ch _ _) (own_c8ch _ _) (own_c8ch _ _)) hZ (hw _ (List.mem_of_getElem? (i := 13) rfl)) (hw _ (List.mem_of_getElem? (i := 9) rfl)) (by decide) (by decide)) (g := (mkF m 123 #[.val (.int ia), .val (.int (ia &&& (3 : Int32))), .val (.int ((own_ch (2 : Int32) ia).toUInt32.toUInt16.toUInt32.toInt32)), .val (.int ((own_ch (10 : Int32) ia).toUInt32.toUInt16.toUInt32.toInt32)), .val (.int ((own_ch (18 : Int32) ia).toUInt32.toUInt16.toUInt32.toInt32)), .val (.ref b620)] [(.ref b620), (.ref b661), (.ref b661)])) rfl (by rw [hml]; rfl) (Steps.refl _) (a := b661) (argsL := [(.ref b620)]) (rest := [(.ref b661)]) (lenOf pd6 rfl) rfl (by show 2 * 0 + _ ≤ _; exact Nat.le_of_eq rfl) (hb hby d1_123) (fun _ _ => ⟨rfl, e661, (by decide : 2 + 1 ≤ _), (by decide : 7 + 3 ≤ _)⟩)
        dsimp only [Pt.U, Pt.locs, Pt.cells, Pt.slots] at X675 l675 y675 z675 st675 hQ675
        subst l675 y675 z675
        obtain ⟨u676, u677, rfl, Nq675, hh675, p678, p679, p680, p681, p682⟩ := hQ675
        have N683 := Fr.app N660 Nq675
        have sz684 : ∀ x ∈ [b661], Safe Z own_EL s.vm h661 x := (sfS sf666 sf0)
        have sf685 := Safe.keep hh675 sz684 CR667.1 sf666
        have CR686 := CR667.trans (CHr.keep hh675 sz684 CR667.1)
        have hk687 := Nat.le_trans hk668 hh675.1
        have f688 := f669.keep hh675
        have f689 := f670.keep hh675 (ninS ne665 nin0)
        have f690 := A661.keep hh675
        have O691 := O671.keep hh675 (allS g663 all0)
        have K692 := K672.trans hh675 (allS (Or.inr g664) all0)
        have g693 : n0 ≤ u676 := Nat.le_trans (own_old_le O671) p681
        have g694 : h0.size ≤ u676 := Nat.le_trans K672.1 p681
        have ne695 : b620 ≠ u676 := Nat.ne_of_lt (Nat.lt_of_lt_of_le f669.lt p681)
        have ne696 : b661 ≠ u676 := Nat.ne_of_lt (Nat.lt_of_lt_of_le A661.lt p681)
        refine GoH.via (T' := T675) (f' := (mkF m 126 #[.val (.int ia), .val (.int (ia &&& (3 : Int32))), .val (.int ((own_ch (2 : Int32) ia).toUInt32.toUInt16.toUInt32.toInt32)), .val (.int ((own_ch (10 : Int32) ia).toUInt32.toUInt16.toUInt32.toInt32)), .val (.int ((own_ch (18 : Int32) ia).toUInt32.toUInt16.toUInt32.toInt32)), .val (.ref b620)] [(.ref b661)])) st675 ?_
        clear st675 X661 N660 Nq675 sf666 CR667 hk668 sz684 f670
        refine GoH.fin X675 hZ hEL hS0 hk687 CR686 hlk (v := some (.ref b661)) (fun h => by rw [Bd.returns] at h; cases h) (fun fs hr => retOut X675 hx Bd.returns (own_nar_ref rfl rfl) (Or.inr (Or.inr (Or.inr (Or.inr ⟨rfl, rfl, rfl⟩)))) (hb hby d1_126) hr) rfl ?_ (by decide) (by decide)
        exact ⟨b661, u676, u677, rfl, N683, K692, p678, p679, p680, own_vcast (by rw [own_str, if_neg hc456, if_neg hc497, if_neg hc553]; rfl) (by rw [own_str, if_neg hc456, if_neg hc497, if_neg hc553]; rfl) p682⟩
theorem d10_0 : decode jdk_30_method_1_code 0 = .ok (.aload_n 0, 1) := by decide +kernel
theorem d10_1 : decode jdk_30_method_1_code 1 = .ok (.invokespecial 1, 3) := by decide +kernel
theorem d10_4 : decode jdk_30_method_1_code 4 = .ok (.return_, 1) := by decide +kernel
theorem pn_java_lang_Record : plainName "java/lang/Record" = true := by first | (simp [plainName, overriddenIn]; done) | decide +kernel
theorem ef_rec (m : MethodId) (ba : Addr) : entryFrame m #[(.ref ba)] 1 = mkF m 0 #[.val (.ref ba)] [] := by first | (simp [entryFrame, mkF, argsToLocals, Value.category]; done) | rfl
def Q_rec (Z : State) (ba : Addr) (h0 : Heap) (n0 : Nat) (v : Option Value) (h : Heap) (L : List Loc) : Prop := v = none ∧ Fr n0 L ∧ h = h0
set_option maxRecDepth 65536 in
set_option maxHeartbeats 40000000 in
theorem rm_rec (l : Launch) (Z : State) (a0 : Array Value) (hw : ∀ d ∈ tables_1, d.before a0 Z = true) (ws : List Jvm.Cond) (ba : Addr) (h0 : Heap) (n0 : Nat) (O0 : Old Z n0 h0) :
    MetFree l (⟨"java/lang/Record", "<init>", "()V"⟩ : MethodName) (head1 (Jvm.Cond.code (⟨"java/lang/Record", "<init>", "()V"⟩ : MethodName) jdk_30_method_1_code 1 none :: ws) ({ frames := 1, cells := 0, slots := 0, locals := 12 } : Room)) (fun a U => a = #[(.ref ba)] ∧ Z.Warmed39 U.vm ∧ U.heap = h0) (fun _ _ _ _ _ => True) (fun _ U o U' => ∃ v L, o = .returned v ∧ Q_rec Z ba h0 n0 v U'.heap L ∧ FrameEnd U o U' L ({ frames := 1, cells := 0, slots := 0, locals := 12 } : Room).cells ({ frames := 1, cells := 0, slots := 0, locals := 12 } : Room).slots) := by
  refine MetFree.of_bodySF (plainFor_of_name pn_java_lang_Record) hisR ?_
  intro p e s m args below meth c s₁ Bd hml0 hP hK
  obtain ⟨rfl, hZ, hh⟩ := hP
  have hx := Bd.exec
  have hby := Bd.bytes
  have hml : c.maxLocals = 1 := hml0
  have hown : s.vm.findClass "java/lang/Record" = some m.cls := findClass_of_methodNamed Bd.named
  have hnm := (name_of_methodNamed Bd.named Bd.method).1
  have hlk : meth.locks = false := BodyLoose.notSynchronized Bd
  have X0 : Stand p l e ({ frames := 1, cells := 0, slots := 0, locals := 12 } : Room) s m #[(.ref ba)] below meth c s₁ [] 0 0 := Stand.of_body Bd
  have e0 : s₁.heap = h0 := by rw [← hh, Bd.state]; rfl
  have N0 := Fr.nil n0
  rw [ef_rec m ba]
  show Go p e below s (fun v h L => Q_rec Z ba h0 n0 v h L) ({ frames := 1, cells := 0, slots := 0, locals := 12 } : Room).cells ({ frames := 1, cells := 0, slots := 0, locals := 12 } : Room).slots s₁ (mkF m 0 #[.val (.ref ba)] [])
  refine Go.step (T' := s₁) (f' := (mkF m 1 #[.val (.ref ba)] [(.ref ba)])) (fun t k => XS.aloadN X0.here hx rfl (hb hby d10_0) rfl rfl k) ?_
  obtain ⟨T697, X697, e697, st697⟩ := initO X0 hx hZ hown (hw _ (List.mem_of_getElem? (i := 51) rfl)) (hw _ (List.mem_of_getElem? (i := 19) rfl)) (hw _ (List.mem_of_getElem? (i := 20) rfl)) e0 (g := (mkF m 1 #[.val (.ref ba)] [(.ref ba)])) rfl (by rw [hml]; rfl) rfl (hb hby d10_1) (by decide) (W := 0) (by show 2 * 0 + _ ≤ _; exact Nat.le_of_eq rfl) (by decide)
  refine Go.step (T' := T697) (f' := (mkF m 4 #[.val (.ref ba)] [])) st697 ?_
  clear st697 X0
  refine Go.retV X697 hx hlk Bd.returns (hb hby d10_4) e697 ?_ (by decide) (by decide)
  exact ⟨rfl, N0, rfl⟩
theorem d11_0 : decode jdk_31_method_11_code 0 = .ok (.aload_n 0, 1) := by decide +kernel
theorem d11_1 : decode jdk_31_method_11_code 1 = .ok (.ifnonnull 12, 3) := by decide +kernel
theorem d11_13 : decode jdk_31_method_11_code 13 = .ok (.aload_n 0, 1) := by decide +kernel
theorem d11_14 : decode jdk_31_method_11_code 14 = .ok (.areturn, 1) := by decide +kernel
theorem pn_java_util_Objects : plainName "java/util/Objects" = true := by first | (simp [plainName, overriddenIn]; done) | decide +kernel
theorem ef_rnn (m : MethodId) (bo : Addr) (bm : Addr) : entryFrame m #[(.ref bo), (.ref bm)] 2 = mkF m 0 #[.val (.ref bo), .val (.ref bm)] [] := by first | (simp [entryFrame, mkF, argsToLocals, Value.category]; done) | rfl
def Q_rnn (Z : State) (bo : Addr) (bm : Addr) (h0 : Heap) (n0 : Nat) (v : Option Value) (h : Heap) (L : List Loc) : Prop := v = some (.ref bo) ∧ Fr n0 L ∧ h = h0
set_option maxRecDepth 65536 in
set_option maxHeartbeats 40000000 in
theorem rm_rnn (l : Launch) (Z : State) (a0 : Array Value) (hw : ∀ d ∈ tables_1, d.before a0 Z = true) (ws : List Jvm.Cond) (bo : Addr) (bm : Addr) (h0 : Heap) (n0 : Nat) (O0 : Old Z n0 h0) :
    MetFree l (⟨"java/util/Objects", "requireNonNull", "(Ljava/lang/Object;Ljava/lang/String;)Ljava/lang/Object;"⟩ : MethodName) (head1 (Jvm.Cond.code (⟨"java/util/Objects", "requireNonNull", "(Ljava/lang/Object;Ljava/lang/String;)Ljava/lang/Object;"⟩ : MethodName) jdk_31_method_11_code 2 (some (.object "java/lang/Object")) :: ws) ({ frames := 0, cells := 0, slots := 0, locals := 0 } : Room)) (fun a U => a = #[(.ref bo), (.ref bm)] ∧ Z.Warmed39 U.vm ∧ U.heap = h0) (fun _ _ _ _ _ => True) (fun _ U o U' => ∃ v L, o = .returned v ∧ Q_rnn Z bo bm h0 n0 v U'.heap L ∧ FrameEnd U o U' L ({ frames := 0, cells := 0, slots := 0, locals := 0 } : Room).cells ({ frames := 0, cells := 0, slots := 0, locals := 0 } : Room).slots) := by
  refine MetFree.of_bodySF (plainFor_of_name pn_java_util_Objects) hisR ?_
  intro p e s m args below meth c s₁ Bd hml0 hP hK
  obtain ⟨rfl, hZ, hh⟩ := hP
  have hx := Bd.exec
  have hby := Bd.bytes
  have hml : c.maxLocals = 2 := hml0
  have hown : s.vm.findClass "java/util/Objects" = some m.cls := findClass_of_methodNamed Bd.named
  have hnm := (name_of_methodNamed Bd.named Bd.method).1
  have hlk : meth.locks = false := BodyLoose.notSynchronized Bd
  have X0 : Stand p l e ({ frames := 0, cells := 0, slots := 0, locals := 0 } : Room) s m #[(.ref bo), (.ref bm)] below meth c s₁ [] 0 0 := Stand.of_body Bd
  have e0 : s₁.heap = h0 := by rw [← hh, Bd.state]; rfl
  have N0 := Fr.nil n0
  rw [ef_rnn m bo bm]
  show Go p e below s (fun v h L => Q_rnn Z bo bm h0 n0 v h L) ({ frames := 0, cells := 0, slots := 0, locals := 0 } : Room).cells ({ frames := 0, cells := 0, slots := 0, locals := 0 } : Room).slots s₁ (mkF m 0 #[.val (.ref bo), .val (.ref bm)] [])
  refine Go.step (T' := s₁) (f' := (mkF m 1 #[.val (.ref bo), .val (.ref bm)] [(.ref bo)])) (fun t k => XS.aloadN X0.here hx rfl (hb hby d11_0) rfl rfl k) ?_
  refine Go.step (T' := s₁) (f' := (mkF m 13 #[.val (.ref bo), .val (.ref bm)] [])) (fun t k => XS.ifnonnullYes X0.here hx rfl (pc0 := 1) (pc' := 13) rfl (hb hby d11_1) rfl (by decide) (by decide) k) ?_
  refine Go.step (T' := s₁) (f' := (mkF m 14 #[.val (.ref bo), .val (.ref bm)] [(.ref bo)])) (fun t k => XS.aloadN X0.here hx rfl (hb hby d11_13) rfl rfl k) ?_
  refine Go.retA X0 hx hlk Bd.returns rfl rfl (hb hby d11_14) e0 ?_ (by decide) (by decide)
  exact ⟨rfl, N0, rfl⟩
theorem d9_0 : decode prog_18_method_1_code 0 = .ok (.aload_n 0, 1) := by decide +kernel
theorem d9_1 : decode prog_18_method_1_code 1 = .ok (.invokespecial 1, 3) := by decide +kernel
theorem d9_4 : decode prog_18_method_1_code 4 = .ok (.aload_n 1, 1) := by decide +kernel
theorem d9_5 : decode prog_18_method_1_code 5 = .ok (.ldc 7, 2) := by decide +kernel
theorem d9_7 : decode prog_18_method_1_code 7 = .ok (.invokestatic 9, 3) := by decide +kernel
theorem d9_10 : decode prog_18_method_1_code 10 = .ok (.pop, 1) := by decide +kernel
theorem d9_11 : decode prog_18_method_1_code 11 = .ok (.aload_n 2, 1) := by decide +kernel
theorem d9_12 : decode prog_18_method_1_code 12 = .ok (.ldc 15, 2) := by decide +kernel
theorem d9_14 : decode prog_18_method_1_code 14 = .ok (.invokestatic 9, 3) := by decide +kernel
theorem d9_17 : decode prog_18_method_1_code 17 = .ok (.pop, 1) := by decide +kernel
theorem d9_18 : decode prog_18_method_1_code 18 = .ok (.aload_n 0, 1) := by decide +kernel
theorem d9_19 : decode prog_18_method_1_code 19 = .ok (.aload_n 1, 1) := by decide +kernel
theorem d9_20 : decode prog_18_method_1_code 20 = .ok (.putfield 17, 3) := by decide +kernel
theorem d9_23 : decode prog_18_method_1_code 23 = .ok (.aload_n 0, 1) := by decide +kernel
theorem d9_24 : decode prog_18_method_1_code 24 = .ok (.aload_n 2, 1) := by decide +kernel
theorem d9_25 : decode prog_18_method_1_code 25 = .ok (.putfield 22, 3) := by decide +kernel
theorem d9_28 : decode prog_18_method_1_code 28 = .ok (.return_, 1) := by decide +kernel
theorem pn_com_example_tenorbook_tenorbook_definitions_FloatingRateIndex : plainName "com/example/tenorbook/tenorbook/definitions/FloatingRateIndex" = true := by first | (simp [plainName, overriddenIn]; done) | decide +kernel
theorem pd7 : parseMethodDescriptor "()V" = some ⟨[], none⟩ := by decide +kernel
theorem pd8 : parseMethodDescriptor "(Ljava/lang/Object;Ljava/lang/String;)Ljava/lang/Object;" = some ⟨[(.object "java/lang/Object"), (.object "java/lang/String")], some (.object "java/lang/Object")⟩ := by decide +kernel
theorem ef_fini (m : MethodId) (ba : Addr) (bd : Addr) (bk : Addr) : entryFrame m #[(.ref ba), (.ref bd), (.ref bk)] 3 = mkF m 0 #[.val (.ref ba), .val (.ref bd), .val (.ref bk)] [] := by first | (simp [entryFrame, mkF, argsToLocals, Value.category]; done) | rfl
def Q_fini (Z : State) (ba : Addr) (bd : Addr) (bk : Addr) (u0 : Value) (u1 : Value) (h0 : Heap) (n0 : Nat) (v : Option Value) (h : Heap) (L : List Loc) : Prop := v = none ∧ Fr n0 L ∧ Keep h0 h [ba] ∧ Exa Z h ba "com/example/tenorbook/tenorbook/definitions/FloatingRateIndex" ∧ Fld Z h ba "com/example/tenorbook/tenorbook/definitions/FloatingRateIndex" "floatingRateOption" "Ljava/lang/String;" (.ref bd) ∧ Fld Z h ba "com/example/tenorbook/tenorbook/definitions/FloatingRateIndex" "designatedMaturity" "Ljava/lang/String;" (.ref bk)
set_option maxRecDepth 65536 in
set_option maxHeartbeats 40000000 in
theorem rm_fini (l : Launch) (Z : State) (a0 : Array Value) (hw : ∀ d ∈ tables_1, d.before a0 Z = true) (ws : List Jvm.Cond) (ba : Addr) (bd : Addr) (bk : Addr) (u0 : Value) (u1 : Value) (h0 : Heap) (n0 : Nat) (O0 : Old Z n0 h0) (hEL : EW Z a0 own_EL) (P0 : Exa Z h0 ba "com/example/tenorbook/tenorbook/definitions/FloatingRateIndex") (P1 : Fld Z h0 ba "com/example/tenorbook/tenorbook/definitions/FloatingRateIndex" "floatingRateOption" "Ljava/lang/String;" u0) (P2 : Fld Z h0 ba "com/example/tenorbook/tenorbook/definitions/FloatingRateIndex" "designatedMaturity" "Ljava/lang/String;" u1) (P3 : n0 ≤ ba) :
    MetFree l (⟨"com/example/tenorbook/tenorbook/definitions/FloatingRateIndex", "<init>", "(Ljava/lang/String;Ljava/lang/String;)V"⟩ : MethodName) (head1 (Jvm.Cond.code (⟨"com/example/tenorbook/tenorbook/definitions/FloatingRateIndex", "<init>", "(Ljava/lang/String;Ljava/lang/String;)V"⟩ : MethodName) prog_18_method_1_code 3 none :: ws) ({ frames := 2, cells := 4, slots := 152, locals := 24 } : Room)) (fun a U => a = #[(.ref ba), (.ref bd), (.ref bk)] ∧ Z.Warmed39 U.vm ∧ U.heap = h0 ∧ CHv Z own_EL U.vm h0) (fun _ _ _ _ _ => True) (fun _ U o U' => ∃ v L, o = .returned v ∧ Q_fini Z ba bd bk u0 u1 h0 n0 v U'.heap L ∧ CHr Z own_EL U.vm U.heap U'.vm U'.heap ∧ ReturnedEndW U o U' L ({ frames := 2, cells := 4, slots := 152, locals := 24 } : Room).cells ({ frames := 2, cells := 4, slots := 152, locals := 24 } : Room).slots) := by
  refine MetFree.of_bodySF (plainFor_of_name pn_com_example_tenorbook_tenorbook_definitions_FloatingRateIndex) hisR ?_
  intro p e s m args below meth c s₁ Bd hml0 hP hK
  obtain ⟨rfl, hZ, hh, hC0⟩ := hP
  have hx := Bd.exec
  have hby := Bd.bytes
  have hml : c.maxLocals = 3 := hml0
  have hown : (s.setVm s.vm).vm.findClass "com/example/tenorbook/tenorbook/definitions/FloatingRateIndex" = some m.cls := findClass_of_methodNamed Bd.named
  have hnm := (name_of_methodNamed Bd.named Bd.method).1
  have hlk : meth.locks = false := BodyLoose.notSynchronized Bd
  have X0 : Stand p l e ({ frames := 2, cells := 4, slots := 152, locals := 24 } : Room) (s.setVm s.vm) m #[(.ref ba), (.ref bd), (.ref bk)] below meth c s₁ [] 0 0 := Stand.of_body Bd
  have e0 : s₁.heap = h0 := by rw [← hh, Bd.state]; rfl
  have N0 := Fr.nil n0
  have hZ : Z.Warmed39 (s.setVm s.vm).vm := hZ
  have hS0 : s.Since s.vm 0 := (State.WarmedH.refl s).since 0
  have hk0 : 0 ≤ h0.size := Nat.zero_le _
  have CR0 : CHr Z own_EL s.vm s.heap s.vm h0 := by rw [hh]; exact CHr.refl hC0
  have K0 := Keep.refl h0 [ba]
  rw [ef_fini m ba bd bk]
  show GoH p e below s Z own_EL (fun v h L => Q_fini Z ba bd bk u0 u1 h0 n0 v h L) ({ frames := 2, cells := 4, slots := 152, locals := 24 } : Room).cells ({ frames := 2, cells := 4, slots := 152, locals := 24 } : Room).slots s₁ (mkF m 0 #[.val (.ref ba), .val (.ref bd), .val (.ref bk)] [])
  refine GoH.step (T' := s₁) (f' := (mkF m 1 #[.val (.ref ba), .val (.ref bd), .val (.ref bk)] [(.ref ba)])) (fun t k => XS.aloadN X0.here hx rfl (hb hby d9_0) rfl rfl k) ?_
  obtain ⟨_, _, ⟨T698, L698, k698, n698⟩, -, X698, ⟨Lc698, hQ698, l698, y698, z698⟩, st698⟩ := X0.specialBack hx (y := (⟨"java/lang/Record", "<init>", "()V"⟩ : MethodName)) rfl hown (mvT hZ (hw _ (List.mem_of_getElem? (i := 46) rfl))) (mvT hZ (hw _ (List.mem_of_getElem? (i := 47) rfl))) (mvT hZ (hw _ (List.mem_of_getElem? (i := 50) rfl))) (by decide) (backOf (W := 0) (rm_rec l Z a0 hw [] ba h0 n0 O0 ) hZ (hw _ (List.mem_of_getElem? (i := 50) rfl)) (hw _ (List.mem_of_getElem? (i := 49) rfl)) (by decide) (by decide)) (g := (mkF m 1 #[.val (.ref ba), .val (.ref bd), .val (.ref bk)] [(.ref ba)])) rfl (by rw [hml]; rfl) (Steps.refl _) (a := ba) (argsL := []) (rest := []) (lenOf pd7 rfl) rfl (by show 2 * 0 + _ ≤ _; exact Nat.le_of_eq rfl) (hb hby d9_1) (fun _ _ => ⟨rfl, e0, (by decide : 0 + 0 ≤ _), (by decide : 0 + 0 ≤ _)⟩)
  dsimp only [Pt.U, Pt.locs, Pt.cells, Pt.slots] at X698 l698 y698 z698 st698 hQ698
  subst l698 y698 z698
  obtain ⟨rfl, Nq698, hh698⟩ := hQ698
  have N699 := Fr.app N0 Nq698
  refine GoH.via (T' := T698) (f' := (mkF m 4 #[.val (.ref ba), .val (.ref bd), .val (.ref bk)] [])) st698 ?_
  clear st698 X0 Nq698
  refine GoH.step (T' := T698) (f' := (mkF m 5 #[.val (.ref ba), .val (.ref bd), .val (.ref bk)] [(.ref bd)])) (fun t k => XS.aloadN X698.here hx rfl (hb hby d9_4) rfl rfl k) ?_
  obtain ⟨a700, T700, h700, kk700, X700, e700, E700, hS700, hk700, hZ, hown, ch700, Li700, st700⟩ := ldcOH (s := s) (vm0 := s.vm) X698 hx hZ hown (hw _ (List.mem_of_getElem? (i := 52) rfl)) (own_wS hw) hh698 hS0 hk0 hEL CR0.1 (g := (mkF m 5 #[.val (.ref ba), .val (.ref bd), .val (.ref bk)] [(.ref bd)])) rfl (hb hby d9_5) (n := 72) (by decide) (by decide) (by decide) (by decide)
  have CR701 := CR0.trans ch700
  have f702 := P0.ext E700
  have f703 := P1.ext E700
  have f704 := P2.ext E700
  have O705 := O0.ext E700
  have K706 := K0.ext E700
  refine GoH.step (T' := T700) (f' := (mkF m 7 #[.val (.ref ba), .val (.ref bd), .val (.ref bk)] [(.ref a700), (.ref bd)])) st700 ?_
  clear st700 X698 CR0 hS0 hk0
  obtain ⟨_, _, ⟨T707, L707, k707, n707⟩, -, X707, ⟨Lc707, hQ707, l707, y707, z707⟩, st707⟩ := Jvm.LawKit.callS X700 hx (y := (⟨"java/util/Objects", "requireNonNull", "(Ljava/lang/Object;Ljava/lang/String;)Ljava/lang/Object;"⟩ : MethodName)) hown (mvT hZ (hw _ (List.mem_of_getElem? (i := 53) rfl))) (mvT hZ (hw _ (List.mem_of_getElem? (i := 54) rfl))) (mvT hZ (hw _ (List.mem_of_getElem? (i := 55) rfl))) (mvT hZ (hw _ (List.mem_of_getElem? (i := 56) rfl))) (by decide) (backOf (W := 0) (rm_rnn l Z a0 hw [] bd a700 h700 n0 O705 ) hZ (hw _ (List.mem_of_getElem? (i := 56) rfl)) (hw _ (List.mem_of_getElem? (i := 55) rfl)) (by decide) (by decide)) (g := (mkF m 7 #[.val (.ref ba), .val (.ref bd), .val (.ref bk)] [(.ref a700), (.ref bd)])) rfl (by rw [hml]; rfl) (argsL := [(.ref bd), (.ref a700)]) (rest := []) (lenOf pd8 rfl) rfl (by show 2 * 0 + _ ≤ _; exact Nat.le_of_eq rfl) (hb hby d9_7) (fun _ _ => ⟨rfl, e700, (by decide : 2 + 0 ≤ _), (by decide : 76 + 0 ≤ _)⟩)
  dsimp only [Pt.U, Pt.locs, Pt.cells, Pt.slots] at X707 l707 y707 z707 st707 hQ707
  subst l707 y707 z707
  obtain ⟨rfl, Nq707, hh707⟩ := hQ707
  have N708 := Fr.app N699 Nq707
  refine GoH.step (T' := T707) (f' := (mkF m 10 #[.val (.ref ba), .val (.ref bd), .val (.ref bk)] [(.ref bd)])) st707 ?_
  clear st707 X700 N699 Nq707
  refine GoH.step (T' := T707) (f' := (mkF m 11 #[.val (.ref ba), .val (.ref bd), .val (.ref bk)] [])) (fun t k => XS.pop X707.here hx rfl (hb hby d9_10) rfl rfl k) ?_
  refine GoH.step (T' := T707) (f' := (mkF m 12 #[.val (.ref ba), .val (.ref bd), .val (.ref bk)] [(.ref bk)])) (fun t k => XS.aloadN X707.here hx rfl (hb hby d9_11) rfl rfl k) ?_
  obtain ⟨a709, T709, h709, kk709, X709, e709, E709, hS709, hk709, hZ, hown, ch709, Li709, st709⟩ := ldcOH (s := s) (vm0 := T700.vm) X707 hx hZ hown (hw _ (List.mem_of_getElem? (i := 57) rfl)) (own_wS hw) hh707 hS700 hk700 hEL CR701.1 (g := (mkF m 12 #[.val (.ref ba), .val (.ref bd), .val (.ref bk)] [(.ref bk)])) rfl (hb hby d9_12) (n := 72) (by decide) (by decide) (by decide) (by decide)
  have CR710 := CR701.trans ch709
  have f711 := f702.ext E709
  have f712 := f703.ext E709
  have f713 := f704.ext E709
  have O714 := O705.ext E709
  have K715 := K706.ext E709
  refine GoH.step (T' := T709) (f' := (mkF m 14 #[.val (.ref ba), .val (.ref bd), .val (.ref bk)] [(.ref a709), (.ref bk)])) st709 ?_
  clear st709 X707 CR701 hS700 hk700 f702 f703 f704 O705 K706
  obtain ⟨_, _, ⟨T716, L716, k716, n716⟩, -, X716, ⟨Lc716, hQ716, l716, y716, z716⟩, st716⟩ := Jvm.LawKit.callS X709 hx (y := (⟨"java/util/Objects", "requireNonNull", "(Ljava/lang/Object;Ljava/lang/String;)Ljava/lang/Object;"⟩ : MethodName)) hown (mvT hZ (hw _ (List.mem_of_getElem? (i := 53) rfl))) (mvT hZ (hw _ (List.mem_of_getElem? (i := 54) rfl))) (mvT hZ (hw _ (List.mem_of_getElem? (i := 55) rfl))) (mvT hZ (hw _ (List.mem_of_getElem? (i := 56) rfl))) (by decide) (backOf (W := 0) (rm_rnn l Z a0 hw [] bk a709 h709 n0 O714 ) hZ (hw _ (List.mem_of_getElem? (i := 56) rfl)) (hw _ (List.mem_of_getElem? (i := 55) rfl)) (by decide) (by decide)) (g := (mkF m 14 #[.val (.ref ba), .val (.ref bd), .val (.ref bk)] [(.ref a709), (.ref bk)])) rfl (by rw [hml]; rfl) (argsL := [(.ref bk), (.ref a709)]) (rest := []) (lenOf pd8 rfl) rfl (by show 2 * 0 + _ ≤ _; exact Nat.le_of_eq rfl) (hb hby d9_14) (fun _ _ => ⟨rfl, e709, (by decide : 4 + 0 ≤ _), (by decide : 152 + 0 ≤ _)⟩)
  dsimp only [Pt.U, Pt.locs, Pt.cells, Pt.slots] at X716 l716 y716 z716 st716 hQ716
  subst l716 y716 z716
  obtain ⟨rfl, Nq716, hh716⟩ := hQ716
  have N717 := Fr.app N708 Nq716
  refine GoH.step (T' := T716) (f' := (mkF m 17 #[.val (.ref ba), .val (.ref bd), .val (.ref bk)] [(.ref bk)])) st716 ?_
  clear st716 X709 N708 Nq716
  refine GoH.step (T' := T716) (f' := (mkF m 18 #[.val (.ref ba), .val (.ref bd), .val (.ref bk)] [])) (fun t k => XS.pop X716.here hx rfl (hb hby d9_17) rfl rfl k) ?_
  refine GoH.step (T' := T716) (f' := (mkF m 19 #[.val (.ref ba), .val (.ref bd), .val (.ref bk)] [(.ref ba)])) (fun t k => XS.aloadN X716.here hx rfl (hb hby d9_18) rfl rfl k) ?_
  refine GoH.step (T' := T716) (f' := (mkF m 20 #[.val (.ref ba), .val (.ref bd), .val (.ref bk)] [(.ref bd), (.ref ba)])) (fun t k => XS.aloadN X716.here hx rfl (hb hby d9_19) rfl rfl k) ?_
  obtain ⟨T718, h718, X718, e718, W718, st718⟩ := putF X716 hx hZ hown (host := "") (Or.inl (hw _ (List.mem_of_getElem? (i := 58) rfl))) Via.refl hh716 f712 f711 (Or.inr ⟨(hw _ (List.mem_of_getElem? (i := 59) rfl)), rfl, hnm⟩) (hw _ (List.mem_of_getElem? (i := 41) rfl)) (ty := (.object "java/lang/String")) (by decide) rfl rfl (g := (mkF m 20 #[.val (.ref ba), .val (.ref bd), .val (.ref bk)] [(.ref bd), (.ref ba)])) rfl rfl (hb hby d9_20)
  have f719 := f712.same W718
  have sa720 : Safe Z own_EL T709.vm h709 ba := (Safe.exa (EL := own_EL) hZ.alike f711 (by decide) (by decide))
  have CR721 := CR710.trans (CHr.wr W718 sa720 CR710.1)
  have hk722 := (by rw [W718.size]; exact hk709 : _ ≤ h718.size)
  have f723 := f711.wr W718
  have f724 := f713.other W718 (Or.inr (slot_ne (Or.inr (hw _ (List.mem_of_getElem? (i := 61) rfl))) (Or.inr (hw _ (List.mem_of_getElem? (i := 59) rfl))) (by decide) (t := (.object "java/lang/String")) (t' := (.object "java/lang/String")) (by decide) (by decide)))
  have O725 := O714.wr W718 P3
  have K726 := K715.wr W718 (Or.inl (List.mem_of_getElem? (i := 0) rfl))
  have N727 := Fr.snoc X718 N717 P3
  refine GoH.step (T' := T718) (f' := (mkF m 23 #[.val (.ref ba), .val (.ref bd), .val (.ref bk)] [])) st718 ?_
  clear st718 X716 CR710 hk709 sa720 f711 f713 O714 K715 N717
  refine GoH.step (T' := T718) (f' := (mkF m 24 #[.val (.ref ba), .val (.ref bd), .val (.ref bk)] [(.ref ba)])) (fun t k => XS.aloadN X718.here hx rfl (hb hby d9_23) rfl rfl k) ?_
  refine GoH.step (T' := T718) (f' := (mkF m 25 #[.val (.ref ba), .val (.ref bd), .val (.ref bk)] [(.ref bk), (.ref ba)])) (fun t k => XS.aloadN X718.here hx rfl (hb hby d9_24) rfl rfl k) ?_
  obtain ⟨T728, h728, X728, e728, W728, st728⟩ := putF X718 hx hZ hown (host := "") (Or.inl (hw _ (List.mem_of_getElem? (i := 60) rfl))) Via.refl e718 f724 f723 (Or.inr ⟨(hw _ (List.mem_of_getElem? (i := 61) rfl)), rfl, hnm⟩) (hw _ (List.mem_of_getElem? (i := 41) rfl)) (ty := (.object "java/lang/String")) (by decide) rfl rfl (g := (mkF m 25 #[.val (.ref ba), .val (.ref bd), .val (.ref bk)] [(.ref bk), (.ref ba)])) rfl rfl (hb hby d9_25)
  have f729 := f724.same W728
  have sa730 : Safe Z own_EL T709.vm h718 ba := (Safe.exa (EL := own_EL) hZ.alike f723 (by decide) (by decide))
  have CR731 := CR721.trans (CHr.wr W728 sa730 CR721.1)
  have hk732 := (by rw [W728.size]; exact hk722 : _ ≤ h728.size)
  have f733 := f723.wr W728
  have f734 := f719.other W728 (Or.inr (slot_ne (Or.inr (hw _ (List.mem_of_getElem? (i := 59) rfl))) (Or.inr (hw _ (List.mem_of_getElem? (i := 61) rfl))) (by decide) (t := (.object "java/lang/String")) (t' := (.object "java/lang/String")) (by decide) (by decide)))
  have O735 := O725.wr W728 P3
  have K736 := K726.wr W728 (Or.inl (List.mem_of_getElem? (i := 0) rfl))
  have N737 := Fr.snoc X728 N727 P3
  refine GoH.step (T' := T728) (f' := (mkF m 28 #[.val (.ref ba), .val (.ref bd), .val (.ref bk)] [])) st728 ?_
  clear st728 X718 CR721 hk722 sa730 f723 f719 O725 K726 N727
  refine GoH.fin X728 hZ hEL hS709 hk732 CR731 hlk (v := none) (fun _ => rfl) (fun fs hr => X728.returnOut hx Bd.returns (hb hby d9_28) hr) e728 ?_ (by decide) (by decide)
  exact ⟨rfl, N737, K736, f733, f734, f729⟩
theorem d12_0 : decode method_4_code 0 = .ok (.iload_n 0, 1) := by decide +kernel
theorem d12_1 : decode method_4_code 1 = .ok (.iconst 3, 1) := by decide +kernel
theorem d12_2 : decode method_4_code 2 = .ok (.iand, 1) := by decide +kernel
theorem d12_3 : decode method_4_code 3 = .ok (.istore_n 2, 1) := by decide +kernel
theorem d12_4 : decode method_4_code 4 = .ok (.iload_n 2, 1) := by decide +kernel
theorem d12_5 : decode method_4_code 5 = .ok (.iload_n 1, 1) := by decide +kernel
theorem d12_6 : decode method_4_code 6 = .ok (.iconst 3, 1) := by decide +kernel
theorem d12_7 : decode method_4_code 7 = .ok (.iand, 1) := by decide +kernel
theorem d12_8 : decode method_4_code 8 = .ok (.if_icmp .eq 5, 3) := by decide +kernel
theorem d12_11 : decode method_4_code 11 = .ok (.iconst 0, 1) := by decide +kernel
theorem d12_12 : decode method_4_code 12 = .ok (.ireturn, 1) := by decide +kernel
theorem d12_13 : decode method_4_code 13 = .ok (.iload_n 2, 1) := by decide +kernel
theorem d12_14 : decode method_4_code 14 = .ok (.iconst 1, 1) := by decide +kernel
theorem d12_15 : decode method_4_code 15 = .ok (.if_icmp .lt 18, 3) := by decide +kernel
theorem d12_18 : decode method_4_code 18 = .ok (.iload_n 0, 1) := by decide +kernel
theorem d12_19 : decode method_4_code 19 = .ok (.iconst 0, 1) := by decide +kernel
theorem d12_20 : decode method_4_code 20 = .ok (.invokestatic 7, 3) := by decide +kernel
theorem d12_23 : decode method_4_code 23 = .ok (.iload_n 1, 1) := by decide +kernel
theorem d12_24 : decode method_4_code 24 = .ok (.iconst 0, 1) := by decide +kernel
theorem d12_25 : decode method_4_code 25 = .ok (.invokestatic 7, 3) := by decide +kernel
theorem d12_28 : decode method_4_code 28 = .ok (.if_icmp .eq 5, 3) := by decide +kernel
theorem d12_31 : decode method_4_code 31 = .ok (.iconst 0, 1) := by decide +kernel
theorem d12_32 : decode method_4_code 32 = .ok (.ireturn, 1) := by decide +kernel
theorem d12_33 : decode method_4_code 33 = .ok (.iload_n 2, 1) := by decide +kernel
theorem d12_34 : decode method_4_code 34 = .ok (.iconst 2, 1) := by decide +kernel
theorem d12_35 : decode method_4_code 35 = .ok (.if_icmp .lt 18, 3) := by decide +kernel
theorem d12_38 : decode method_4_code 38 = .ok (.iload_n 0, 1) := by decide +kernel
theorem d12_39 : decode method_4_code 39 = .ok (.iconst 1, 1) := by decide +kernel
theorem d12_40 : decode method_4_code 40 = .ok (.invokestatic 7, 3) := by decide +kernel
theorem d12_43 : decode method_4_code 43 = .ok (.iload_n 1, 1) := by decide +kernel
theorem d12_44 : decode method_4_code 44 = .ok (.iconst 1, 1) := by decide +kernel
theorem d12_45 : decode method_4_code 45 = .ok (.invokestatic 7, 3) := by decide +kernel
theorem d12_48 : decode method_4_code 48 = .ok (.if_icmp .eq 5, 3) := by decide +kernel
theorem d12_51 : decode method_4_code 51 = .ok (.iconst 0, 1) := by decide +kernel
theorem d12_52 : decode method_4_code 52 = .ok (.ireturn, 1) := by decide +kernel
theorem d12_53 : decode method_4_code 53 = .ok (.iload_n 2, 1) := by decide +kernel
theorem d12_54 : decode method_4_code 54 = .ok (.iconst 3, 1) := by decide +kernel
theorem d12_55 : decode method_4_code 55 = .ok (.if_icmp .lt 18, 3) := by decide +kernel
theorem d12_58 : decode method_4_code 58 = .ok (.iload_n 0, 1) := by decide +kernel
theorem d12_59 : decode method_4_code 59 = .ok (.iconst 2, 1) := by decide +kernel
theorem d12_60 : decode method_4_code 60 = .ok (.invokestatic 7, 3) := by decide +kernel
theorem d12_63 : decode method_4_code 63 = .ok (.iload_n 1, 1) := by decide +kernel
theorem d12_64 : decode method_4_code 64 = .ok (.iconst 2, 1) := by decide +kernel
theorem d12_65 : decode method_4_code 65 = .ok (.invokestatic 7, 3) := by decide +kernel
theorem d12_68 : decode method_4_code 68 = .ok (.if_icmp .eq 5, 3) := by decide +kernel
theorem d12_71 : decode method_4_code 71 = .ok (.iconst 0, 1) := by decide +kernel
theorem d12_72 : decode method_4_code 72 = .ok (.ireturn, 1) := by decide +kernel
theorem d12_73 : decode method_4_code 73 = .ok (.iconst 1, 1) := by decide +kernel
theorem d12_74 : decode method_4_code 74 = .ok (.ireturn, 1) := by decide +kernel
theorem ef_same (m : MethodId) (ia : Int32) (ib : Int32) : entryFrame m #[(.int ia), (.int ib)] 3 = mkF m 0 #[.val (.int ia), .val (.int ib), .unset] [] := by first | (simp [entryFrame, mkF, argsToLocals, Value.category]; done) | rfl
def Q_same (Z : State) (ia : Int32) (ib : Int32) (h0 : Heap) (n0 : Nat) (v : Option Value) (h : Heap) (L : List Loc) : Prop := v = some (.int (if own_str ia = own_str ib then (1 : Int32) else 0)) ∧ Fr n0 L ∧ h = h0
set_option maxRecDepth 65536 in
set_option maxHeartbeats 40000000 in
theorem rm_same (l : Launch) (Z : State) (a0 : Array Value) (hw : ∀ d ∈ tables_1, d.before a0 Z = true) (ws : List Jvm.Cond) (ia : Int32) (ib : Int32) (h0 : Heap) (n0 : Nat) (O0 : Old Z n0 h0) :
    MetFree l (⟨"com/example/tenorbook/tenorbook/definitions/FloatingRateIndexEqualsPinLaw", "same", "(II)Z"⟩ : MethodName) (head1 (Jvm.Cond.code (⟨"com/example/tenorbook/tenorbook/definitions/FloatingRateIndexEqualsPinLaw", "same", "(II)Z"⟩ : MethodName) method_4_code 3 (some .boolean) :: ws) ({ frames := 1, cells := 0, slots := 0, locals := 14 } : Room)) (fun a U => a = #[(.int ia), (.int ib)] ∧ Z.Warmed39 U.vm ∧ U.heap = h0) (fun _ _ _ _ _ => True) (fun _ U o U' => ∃ v L, o = .returned v ∧ Q_same Z ia ib h0 n0 v U'.heap L ∧ FrameEnd U o U' L ({ frames := 1, cells := 0, slots := 0, locals := 14 } : Room).cells ({ frames := 1, cells := 0, slots := 0, locals := 14 } : Room).slots) := by
  refine MetFree.of_bodySF (plainFor_of_name pn_com_example_tenorbook_tenorbook_definitions_FloatingRateIndexEqualsPinLaw) hisR ?_
  intro p e s m args below meth c s₁ Bd hml0 hP hK
  obtain ⟨rfl, hZ, hh⟩ := hP
  have hx := Bd.exec
  have hby := Bd.bytes
  have hml : c.maxLocals = 3 := hml0
  have hown : s.vm.findClass "com/example/tenorbook/tenorbook/definitions/FloatingRateIndexEqualsPinLaw" = some m.cls := findClass_of_methodNamed Bd.named
  have hnm := (name_of_methodNamed Bd.named Bd.method).1
  have hlk : meth.locks = false := BodyLoose.notSynchronized Bd
  have X0 : Stand p l e ({ frames := 1, cells := 0, slots := 0, locals := 14 } : Room) s m #[(.int ia), (.int ib)] below meth c s₁ [] 0 0 := Stand.of_body Bd
  have e0 : s₁.heap = h0 := by rw [← hh, Bd.state]; rfl
  have N0 := Fr.nil n0
  rw [ef_same m ia ib]
  show Go p e below s (fun v h L => Q_same Z ia ib h0 n0 v h L) ({ frames := 1, cells := 0, slots := 0, locals := 14 } : Room).cells ({ frames := 1, cells := 0, slots := 0, locals := 14 } : Room).slots s₁ (mkF m 0 #[.val (.int ia), .val (.int ib), .unset] [])
  refine Go.step (T' := s₁) (f' := (mkF m 1 #[.val (.int ia), .val (.int ib), .unset] [(.int ia)])) (fun t k => XS.iloadN X0.here hx rfl (hb hby d12_0) rfl k) ?_
  refine Go.step (T' := s₁) (f' := (mkF m 2 #[.val (.int ia), .val (.int ib), .unset] [(.int (3 : Int32)), (.int ia)])) (fun t k => XS.iconst X0.here hx rfl (hb hby d12_1) k) ?_
  refine Go.step (T' := s₁) (f' := (mkF m 3 #[.val (.int ia), .val (.int ib), .unset] [(.int (ia &&& (3 : Int32)))])) (fun t k => XS.iand X0.here hx rfl (hb hby d12_2) rfl k) ?_
  refine Go.step (T' := s₁) (f' := (mkF m 4 #[.val (.int ia), .val (.int ib), .val (.int (ia &&& (3 : Int32)))] [])) (fun t k => XS.istoreN X0.here hx rfl (hb hby d12_3) rfl (l' := #[.val (.int ia), .val (.int ib), .val (.int (ia &&& (3 : Int32)))]) rfl k) ?_
  rcases own_a4 ia with hs738 | hs738 | hs738 | hs738
  ·
    rw [hs738]
    refine Go.step (T' := s₁) (f' := (mkF m 5 #[.val (.int ia), .val (.int ib), .val (.int (0 : Int32))] [(.int (0 : Int32))])) (fun t k => XS.iloadN X0.here hx rfl (hb hby d12_4) rfl k) ?_
    refine Go.step (T' := s₁) (f' := (mkF m 6 #[.val (.int ia), .val (.int ib), .val (.int (0 : Int32))] [(.int ib), (.int (0 : Int32))])) (fun t k => XS.iloadN X0.here hx rfl (hb hby d12_5) rfl k) ?_
    refine Go.step (T' := s₁) (f' := (mkF m 7 #[.val (.int ia), .val (.int ib), .val (.int (0 : Int32))] [(.int (3 : Int32)), (.int ib), (.int (0 : Int32))])) (fun t k => XS.iconst X0.here hx rfl (hb hby d12_6) k) ?_
    refine Go.step (T' := s₁) (f' := (mkF m 8 #[.val (.int ia), .val (.int ib), .val (.int (0 : Int32))] [(.int (ib &&& (3 : Int32))), (.int (0 : Int32))])) (fun t k => XS.iand X0.here hx rfl (hb hby d12_7) rfl k) ?_
    rcases own_a4 ib with hs739 | hs739 | hs739 | hs739
    ·
      rw [hs739]
      refine Go.step (T' := s₁) (f' := (mkF m 13 #[.val (.int ia), .val (.int ib), .val (.int (0 : Int32))] [])) (fun t k => XS.icmpYes X0.here hx rfl (pc0 := 8) (pc' := 13) rfl (hb hby d12_8) rfl (teq (by decide : (0 : Int32) = (0 : Int32))).1 (by decide) (by decide) k) ?_
      refine Go.step (T' := s₁) (f' := (mkF m 14 #[.val (.int ia), .val (.int ib), .val (.int (0 : Int32))] [(.int (0 : Int32))])) (fun t k => XS.iloadN X0.here hx rfl (hb hby d12_13) rfl k) ?_
      refine Go.step (T' := s₁) (f' := (mkF m 15 #[.val (.int ia), .val (.int ib), .val (.int (0 : Int32))] [(.int (1 : Int32)), (.int (0 : Int32))])) (fun t k => XS.iconst X0.here hx rfl (hb hby d12_14) k) ?_
      refine Go.step (T' := s₁) (f' := (mkF m 33 #[.val (.int ia), .val (.int ib), .val (.int (0 : Int32))] [])) (fun t k => XS.icmpYes X0.here hx rfl (pc0 := 15) (pc' := 33) rfl (hb hby d12_15) rfl (tlt (by decide : (0 : Int32) < (1 : Int32))).1 (by decide) (by decide) k) ?_
      refine Go.step (T' := s₁) (f' := (mkF m 34 #[.val (.int ia), .val (.int ib), .val (.int (0 : Int32))] [(.int (0 : Int32))])) (fun t k => XS.iloadN X0.here hx rfl (hb hby d12_33) rfl k) ?_
      refine Go.step (T' := s₁) (f' := (mkF m 35 #[.val (.int ia), .val (.int ib), .val (.int (0 : Int32))] [(.int (2 : Int32)), (.int (0 : Int32))])) (fun t k => XS.iconst X0.here hx rfl (hb hby d12_34) k) ?_
      refine Go.step (T' := s₁) (f' := (mkF m 53 #[.val (.int ia), .val (.int ib), .val (.int (0 : Int32))] [])) (fun t k => XS.icmpYes X0.here hx rfl (pc0 := 35) (pc' := 53) rfl (hb hby d12_35) rfl (tlt (by decide : (0 : Int32) < (2 : Int32))).1 (by decide) (by decide) k) ?_
      refine Go.step (T' := s₁) (f' := (mkF m 54 #[.val (.int ia), .val (.int ib), .val (.int (0 : Int32))] [(.int (0 : Int32))])) (fun t k => XS.iloadN X0.here hx rfl (hb hby d12_53) rfl k) ?_
      refine Go.step (T' := s₁) (f' := (mkF m 55 #[.val (.int ia), .val (.int ib), .val (.int (0 : Int32))] [(.int (3 : Int32)), (.int (0 : Int32))])) (fun t k => XS.iconst X0.here hx rfl (hb hby d12_54) k) ?_
      refine Go.step (T' := s₁) (f' := (mkF m 73 #[.val (.int ia), .val (.int ib), .val (.int (0 : Int32))] [])) (fun t k => XS.icmpYes X0.here hx rfl (pc0 := 55) (pc' := 73) rfl (hb hby d12_55) rfl (tlt (by decide : (0 : Int32) < (3 : Int32))).1 (by decide) (by decide) k) ?_
      refine Go.step (T' := s₁) (f' := (mkF m 74 #[.val (.int ia), .val (.int ib), .val (.int (0 : Int32))] [(.int (1 : Int32))])) (fun t k => XS.iconst X0.here hx rfl (hb hby d12_73) k) ?_
      refine Go.retZ X0 hx hlk (t := .boolean) Bd.returns (by simp) (hb hby d12_74) e0 ?_ (by decide) (by decide)
      exact ⟨by rw [own_s0 hs738, own_s0 hs739]; simp [nar, own_bI], N0, rfl⟩
    ·
      rw [hs739]
      refine Go.step (T' := s₁) (f' := (mkF m 11 #[.val (.int ia), .val (.int ib), .val (.int (0 : Int32))] [])) (fun t k => XS.icmpNo X0.here hx rfl (hb hby d12_8) rfl (feq (by decide : ¬ ((0 : Int32) = (1 : Int32)))).1 k) ?_
      refine Go.step (T' := s₁) (f' := (mkF m 12 #[.val (.int ia), .val (.int ib), .val (.int (0 : Int32))] [(.int (0 : Int32))])) (fun t k => XS.iconst X0.here hx rfl (hb hby d12_11) k) ?_
      refine Go.retZ X0 hx hlk (t := .boolean) Bd.returns (by simp) (hb hby d12_12) e0 ?_ (by decide) (by decide)
      exact ⟨by rw [own_s0 hs738, own_s1 hs739]; simp [nar, own_bI], N0, rfl⟩
    ·
      rw [hs739]
      refine Go.step (T' := s₁) (f' := (mkF m 11 #[.val (.int ia), .val (.int ib), .val (.int (0 : Int32))] [])) (fun t k => XS.icmpNo X0.here hx rfl (hb hby d12_8) rfl (feq (by decide : ¬ ((0 : Int32) = (2 : Int32)))).1 k) ?_
      refine Go.step (T' := s₁) (f' := (mkF m 12 #[.val (.int ia), .val (.int ib), .val (.int (0 : Int32))] [(.int (0 : Int32))])) (fun t k => XS.iconst X0.here hx rfl (hb hby d12_11) k) ?_
      refine Go.retZ X0 hx hlk (t := .boolean) Bd.returns (by simp) (hb hby d12_12) e0 ?_ (by decide) (by decide)
      exact ⟨by rw [own_s0 hs738, own_s2 hs739]; simp [nar, own_bI], N0, rfl⟩
    ·
      rw [hs739]
      refine Go.step (T' := s₁) (f' := (mkF m 11 #[.val (.int ia), .val (.int ib), .val (.int (0 : Int32))] [])) (fun t k => XS.icmpNo X0.here hx rfl (hb hby d12_8) rfl (feq (by decide : ¬ ((0 : Int32) = (3 : Int32)))).1 k) ?_
      refine Go.step (T' := s₁) (f' := (mkF m 12 #[.val (.int ia), .val (.int ib), .val (.int (0 : Int32))] [(.int (0 : Int32))])) (fun t k => XS.iconst X0.here hx rfl (hb hby d12_11) k) ?_
      refine Go.retZ X0 hx hlk (t := .boolean) Bd.returns (by simp) (hb hby d12_12) e0 ?_ (by decide) (by decide)
      exact ⟨by rw [own_s0 hs738, own_s3 hs739]; simp [nar, own_bI], N0, rfl⟩
  ·
    rw [hs738]
    refine Go.step (T' := s₁) (f' := (mkF m 5 #[.val (.int ia), .val (.int ib), .val (.int (1 : Int32))] [(.int (1 : Int32))])) (fun t k => XS.iloadN X0.here hx rfl (hb hby d12_4) rfl k) ?_
    refine Go.step (T' := s₁) (f' := (mkF m 6 #[.val (.int ia), .val (.int ib), .val (.int (1 : Int32))] [(.int ib), (.int (1 : Int32))])) (fun t k => XS.iloadN X0.here hx rfl (hb hby d12_5) rfl k) ?_
    refine Go.step (T' := s₁) (f' := (mkF m 7 #[.val (.int ia), .val (.int ib), .val (.int (1 : Int32))] [(.int (3 : Int32)), (.int ib), (.int (1 : Int32))])) (fun t k => XS.iconst X0.here hx rfl (hb hby d12_6) k) ?_
    refine Go.step (T' := s₁) (f' := (mkF m 8 #[.val (.int ia), .val (.int ib), .val (.int (1 : Int32))] [(.int (ib &&& (3 : Int32))), (.int (1 : Int32))])) (fun t k => XS.iand X0.here hx rfl (hb hby d12_7) rfl k) ?_
    rcases own_a4 ib with hs740 | hs740 | hs740 | hs740
    ·
      rw [hs740]
      refine Go.step (T' := s₁) (f' := (mkF m 11 #[.val (.int ia), .val (.int ib), .val (.int (1 : Int32))] [])) (fun t k => XS.icmpNo X0.here hx rfl (hb hby d12_8) rfl (feq (by decide : ¬ ((1 : Int32) = (0 : Int32)))).1 k) ?_
      refine Go.step (T' := s₁) (f' := (mkF m 12 #[.val (.int ia), .val (.int ib), .val (.int (1 : Int32))] [(.int (0 : Int32))])) (fun t k => XS.iconst X0.here hx rfl (hb hby d12_11) k) ?_
      refine Go.retZ X0 hx hlk (t := .boolean) Bd.returns (by simp) (hb hby d12_12) e0 ?_ (by decide) (by decide)
      exact ⟨by rw [own_s1 hs738, own_s0 hs740]; simp [nar, own_bI], N0, rfl⟩
    ·
      rw [hs740]
      refine Go.step (T' := s₁) (f' := (mkF m 13 #[.val (.int ia), .val (.int ib), .val (.int (1 : Int32))] [])) (fun t k => XS.icmpYes X0.here hx rfl (pc0 := 8) (pc' := 13) rfl (hb hby d12_8) rfl (teq (by decide : (1 : Int32) = (1 : Int32))).1 (by decide) (by decide) k) ?_
      refine Go.step (T' := s₁) (f' := (mkF m 14 #[.val (.int ia), .val (.int ib), .val (.int (1 : Int32))] [(.int (1 : Int32))])) (fun t k => XS.iloadN X0.here hx rfl (hb hby d12_13) rfl k) ?_
      refine Go.step (T' := s₁) (f' := (mkF m 15 #[.val (.int ia), .val (.int ib), .val (.int (1 : Int32))] [(.int (1 : Int32)), (.int (1 : Int32))])) (fun t k => XS.iconst X0.here hx rfl (hb hby d12_14) k) ?_
      refine Go.step (T' := s₁) (f' := (mkF m 18 #[.val (.int ia), .val (.int ib), .val (.int (1 : Int32))] [])) (fun t k => XS.icmpNo X0.here hx rfl (hb hby d12_15) rfl (flt (by decide : ¬ ((1 : Int32) < (1 : Int32)))).1 k) ?_
      refine Go.step (T' := s₁) (f' := (mkF m 19 #[.val (.int ia), .val (.int ib), .val (.int (1 : Int32))] [(.int ia)])) (fun t k => XS.iloadN X0.here hx rfl (hb hby d12_18) rfl k) ?_
      refine Go.step (T' := s₁) (f' := (mkF m 20 #[.val (.int ia), .val (.int ib), .val (.int (1 : Int32))] [(.int (0 : Int32)), (.int ia)])) (fun t k => XS.iconst X0.here hx rfl (hb hby d12_19) k) ?_
      obtain ⟨_, _, ⟨T741, L741, k741, n741⟩, -, X741, ⟨Lc741, hQ741, l741, y741, z741⟩, st741⟩ := Jvm.LawKit.callS X0 hx (y := (⟨"com/example/tenorbook/tenorbook/definitions/FloatingRateIndexEqualsPinLaw", "ch", "(II)I"⟩ : MethodName)) hown (mvT hZ (hw _ (List.mem_of_getElem? (i := 4) rfl))) (mvT hZ (hw _ (List.mem_of_getElem? (i := 5) rfl))) (mvT hZ (hw _ (List.mem_of_getElem? (i := 2) rfl))) (mvT hZ (hw _ (List.mem_of_getElem? (i := 6) rfl))) (by decide) (backOf (W := 0) (rm_ch0 l Z a0 hw [] ia h0 n0 O0 ) hZ (hw _ (List.mem_of_getElem? (i := 6) rfl)) (hw _ (List.mem_of_getElem? (i := 2) rfl)) (by decide) (by decide)) (g := (mkF m 20 #[.val (.int ia), .val (.int ib), .val (.int (1 : Int32))] [(.int (0 : Int32)), (.int ia)])) rfl (by rw [hml]; rfl) (argsL := [(.int ia), (.int (0 : Int32))]) (rest := []) (lenOf pd5 rfl) rfl (by show 2 * 0 + _ ≤ _; exact Nat.le_of_eq rfl) (hb hby d12_20) (fun _ _ => ⟨rfl, e0, (by decide : 0 + 0 ≤ _), (by decide : 0 + 0 ≤ _)⟩)
      dsimp only [Pt.U, Pt.locs, Pt.cells, Pt.slots] at X741 l741 y741 z741 st741 hQ741
      subst l741 y741 z741
      obtain ⟨rfl, Nq741, hh741⟩ := hQ741
      have N742 := Fr.app N0 Nq741
      refine Go.step (T' := T741) (f' := (mkF m 23 #[.val (.int ia), .val (.int ib), .val (.int (1 : Int32))] [(.int (own_ch (2 : Int32) ia))])) st741 ?_
      clear st741 X0 Nq741
      refine Go.step (T' := T741) (f' := (mkF m 24 #[.val (.int ia), .val (.int ib), .val (.int (1 : Int32))] [(.int ib), (.int (own_ch (2 : Int32) ia))])) (fun t k => XS.iloadN X741.here hx rfl (hb hby d12_23) rfl k) ?_
      refine Go.step (T' := T741) (f' := (mkF m 25 #[.val (.int ia), .val (.int ib), .val (.int (1 : Int32))] [(.int (0 : Int32)), (.int ib), (.int (own_ch (2 : Int32) ia))])) (fun t k => XS.iconst X741.here hx rfl (hb hby d12_24) k) ?_
      obtain ⟨_, _, ⟨T743, L743, k743, n743⟩, -, X743, ⟨Lc743, hQ743, l743, y743, z743⟩, st743⟩ := Jvm.LawKit.callS X741 hx (y := (⟨"com/example/tenorbook/tenorbook/definitions/FloatingRateIndexEqualsPinLaw", "ch", "(II)I"⟩ : MethodName)) hown (mvT hZ (hw _ (List.mem_of_getElem? (i := 4) rfl))) (mvT hZ (hw _ (List.mem_of_getElem? (i := 5) rfl))) (mvT hZ (hw _ (List.mem_of_getElem? (i := 2) rfl))) (mvT hZ (hw _ (List.mem_of_getElem? (i := 6) rfl))) (by decide) (backOf (W := 1) (rm_ch0 l Z a0 hw [] ib h0 n0 O0 ) hZ (hw _ (List.mem_of_getElem? (i := 6) rfl)) (hw _ (List.mem_of_getElem? (i := 2) rfl)) (by decide) (by decide)) (g := (mkF m 25 #[.val (.int ia), .val (.int ib), .val (.int (1 : Int32))] [(.int (0 : Int32)), (.int ib), (.int (own_ch (2 : Int32) ia))])) rfl (by rw [hml]; rfl) (argsL := [(.int ib), (.int (0 : Int32))]) (rest := [(.int (own_ch (2 : Int32) ia))]) (lenOf pd5 rfl) rfl (by show 2 * 0 + _ ≤ _; exact Nat.le_of_eq rfl) (hb hby d12_25) (fun _ _ => ⟨rfl, hh741, (by decide : 0 + 0 ≤ _), (by decide : 0 + 0 ≤ _)⟩)
      dsimp only [Pt.U, Pt.locs, Pt.cells, Pt.slots] at X743 l743 y743 z743 st743 hQ743
      subst l743 y743 z743
      obtain ⟨rfl, Nq743, hh743⟩ := hQ743
      have N744 := Fr.app N742 Nq743
      refine Go.step (T' := T743) (f' := (mkF m 28 #[.val (.int ia), .val (.int ib), .val (.int (1 : Int32))] [(.int (own_ch (2 : Int32) ib)), (.int (own_ch (2 : Int32) ia))])) st743 ?_
      clear st743 X741 N742 Nq743
      by_cases hc745 : (own_ch (2 : Int32) ia) = (own_ch (2 : Int32) ib)
      ·
        refine Go.step (T' := T743) (f' := (mkF m 33 #[.val (.int ia), .val (.int ib), .val (.int (1 : Int32))] [])) (fun t k => XS.icmpYes X743.here hx rfl (pc0 := 28) (pc' := 33) rfl (hb hby d12_28) rfl (teq hc745).1 (by decide) (by decide) k) ?_
        refine Go.step (T' := T743) (f' := (mkF m 34 #[.val (.int ia), .val (.int ib), .val (.int (1 : Int32))] [(.int (1 : Int32))])) (fun t k => XS.iloadN X743.here hx rfl (hb hby d12_33) rfl k) ?_
        refine Go.step (T' := T743) (f' := (mkF m 35 #[.val (.int ia), .val (.int ib), .val (.int (1 : Int32))] [(.int (2 : Int32)), (.int (1 : Int32))])) (fun t k => XS.iconst X743.here hx rfl (hb hby d12_34) k) ?_
        refine Go.step (T' := T743) (f' := (mkF m 53 #[.val (.int ia), .val (.int ib), .val (.int (1 : Int32))] [])) (fun t k => XS.icmpYes X743.here hx rfl (pc0 := 35) (pc' := 53) rfl (hb hby d12_35) rfl (tlt (by decide : (1 : Int32) < (2 : Int32))).1 (by decide) (by decide) k) ?_
        refine Go.step (T' := T743) (f' := (mkF m 54 #[.val (.int ia), .val (.int ib), .val (.int (1 : Int32))] [(.int (1 : Int32))])) (fun t k => XS.iloadN X743.here hx rfl (hb hby d12_53) rfl k) ?_
        refine Go.step (T' := T743) (f' := (mkF m 55 #[.val (.int ia), .val (.int ib), .val (.int (1 : Int32))] [(.int (3 : Int32)), (.int (1 : Int32))])) (fun t k => XS.iconst X743.here hx rfl (hb hby d12_54) k) ?_
        refine Go.step (T' := T743) (f' := (mkF m 73 #[.val (.int ia), .val (.int ib), .val (.int (1 : Int32))] [])) (fun t k => XS.icmpYes X743.here hx rfl (pc0 := 55) (pc' := 73) rfl (hb hby d12_55) rfl (tlt (by decide : (1 : Int32) < (3 : Int32))).1 (by decide) (by decide) k) ?_
        refine Go.step (T' := T743) (f' := (mkF m 74 #[.val (.int ia), .val (.int ib), .val (.int (1 : Int32))] [(.int (1 : Int32))])) (fun t k => XS.iconst X743.here hx rfl (hb hby d12_73) k) ?_
        refine Go.retZ X743 hx hlk (t := .boolean) Bd.returns (by simp) (hb hby d12_74) hh743 ?_ (by decide) (by decide)
        exact ⟨by rw [own_s1 hs738, own_s1 hs740]; simp [nar, own_bI, hc745], N744, rfl⟩
      ·
        refine Go.step (T' := T743) (f' := (mkF m 31 #[.val (.int ia), .val (.int ib), .val (.int (1 : Int32))] [])) (fun t k => XS.icmpNo X743.here hx rfl (hb hby d12_28) rfl (feq hc745).1 k) ?_
        refine Go.step (T' := T743) (f' := (mkF m 32 #[.val (.int ia), .val (.int ib), .val (.int (1 : Int32))] [(.int (0 : Int32))])) (fun t k => XS.iconst X743.here hx rfl (hb hby d12_31) k) ?_
        refine Go.retZ X743 hx hlk (t := .boolean) Bd.returns (by simp) (hb hby d12_32) hh743 ?_ (by decide) (by decide)
        exact ⟨by rw [own_s1 hs738, own_s1 hs740]; simp [nar, own_bI, hc745], N744, rfl⟩
    ·
      rw [hs740]
      refine Go.step (T' := s₁) (f' := (mkF m 11 #[.val (.int ia), .val (.int ib), .val (.int (1 : Int32))] [])) (fun t k => XS.icmpNo X0.here hx rfl (hb hby d12_8) rfl (feq (by decide : ¬ ((1 : Int32) = (2 : Int32)))).1 k) ?_
      refine Go.step (T' := s₁) (f' := (mkF m 12 #[.val (.int ia), .val (.int ib), .val (.int (1 : Int32))] [(.int (0 : Int32))])) (fun t k => XS.iconst X0.here hx rfl (hb hby d12_11) k) ?_
      refine Go.retZ X0 hx hlk (t := .boolean) Bd.returns (by simp) (hb hby d12_12) e0 ?_ (by decide) (by decide)
      exact ⟨by rw [own_s1 hs738, own_s2 hs740]; simp [nar, own_bI], N0, rfl⟩
    ·
      rw [hs740]
      refine Go.step (T' := s₁) (f' := (mkF m 11 #[.val (.int ia), .val (.int ib), .val (.int (1 : Int32))] [])) (fun t k => XS.icmpNo X0.here hx rfl (hb hby d12_8) rfl (feq (by decide : ¬ ((1 : Int32) = (3 : Int32)))).1 k) ?_
      refine Go.step (T' := s₁) (f' := (mkF m 12 #[.val (.int ia), .val (.int ib), .val (.int (1 : Int32))] [(.int (0 : Int32))])) (fun t k => XS.iconst X0.here hx rfl (hb hby d12_11) k) ?_
      refine Go.retZ X0 hx hlk (t := .boolean) Bd.returns (by simp) (hb hby d12_12) e0 ?_ (by decide) (by decide)
      exact ⟨by rw [own_s1 hs738, own_s3 hs740]; simp [nar, own_bI], N0, rfl⟩
  ·
    rw [hs738]
    refine Go.step (T' := s₁) (f' := (mkF m 5 #[.val (.int ia), .val (.int ib), .val (.int (2 : Int32))] [(.int (2 : Int32))])) (fun t k => XS.iloadN X0.here hx rfl (hb hby d12_4) rfl k) ?_
    refine Go.step (T' := s₁) (f' := (mkF m 6 #[.val (.int ia), .val (.int ib), .val (.int (2 : Int32))] [(.int ib), (.int (2 : Int32))])) (fun t k => XS.iloadN X0.here hx rfl (hb hby d12_5) rfl k) ?_
    refine Go.step (T' := s₁) (f' := (mkF m 7 #[.val (.int ia), .val (.int ib), .val (.int (2 : Int32))] [(.int (3 : Int32)), (.int ib), (.int (2 : Int32))])) (fun t k => XS.iconst X0.here hx rfl (hb hby d12_6) k) ?_
    refine Go.step (T' := s₁) (f' := (mkF m 8 #[.val (.int ia), .val (.int ib), .val (.int (2 : Int32))] [(.int (ib &&& (3 : Int32))), (.int (2 : Int32))])) (fun t k => XS.iand X0.here hx rfl (hb hby d12_7) rfl k) ?_
    rcases own_a4 ib with hs746 | hs746 | hs746 | hs746
    ·
      rw [hs746]
      refine Go.step (T' := s₁) (f' := (mkF m 11 #[.val (.int ia), .val (.int ib), .val (.int (2 : Int32))] [])) (fun t k => XS.icmpNo X0.here hx rfl (hb hby d12_8) rfl (feq (by decide : ¬ ((2 : Int32) = (0 : Int32)))).1 k) ?_
      refine Go.step (T' := s₁) (f' := (mkF m 12 #[.val (.int ia), .val (.int ib), .val (.int (2 : Int32))] [(.int (0 : Int32))])) (fun t k => XS.iconst X0.here hx rfl (hb hby d12_11) k) ?_
      refine Go.retZ X0 hx hlk (t := .boolean) Bd.returns (by simp) (hb hby d12_12) e0 ?_ (by decide) (by decide)
      exact ⟨by rw [own_s2 hs738, own_s0 hs746]; simp [nar, own_bI], N0, rfl⟩
    ·
      rw [hs746]
      refine Go.step (T' := s₁) (f' := (mkF m 11 #[.val (.int ia), .val (.int ib), .val (.int (2 : Int32))] [])) (fun t k => XS.icmpNo X0.here hx rfl (hb hby d12_8) rfl (feq (by decide : ¬ ((2 : Int32) = (1 : Int32)))).1 k) ?_
      refine Go.step (T' := s₁) (f' := (mkF m 12 #[.val (.int ia), .val (.int ib), .val (.int (2 : Int32))] [(.int (0 : Int32))])) (fun t k => XS.iconst X0.here hx rfl (hb hby d12_11) k) ?_
      refine Go.retZ X0 hx hlk (t := .boolean) Bd.returns (by simp) (hb hby d12_12) e0 ?_ (by decide) (by decide)
      exact ⟨by rw [own_s2 hs738, own_s1 hs746]; simp [nar, own_bI], N0, rfl⟩
    ·
      rw [hs746]
      refine Go.step (T' := s₁) (f' := (mkF m 13 #[.val (.int ia), .val (.int ib), .val (.int (2 : Int32))] [])) (fun t k => XS.icmpYes X0.here hx rfl (pc0 := 8) (pc' := 13) rfl (hb hby d12_8) rfl (teq (by decide : (2 : Int32) = (2 : Int32))).1 (by decide) (by decide) k) ?_
      refine Go.step (T' := s₁) (f' := (mkF m 14 #[.val (.int ia), .val (.int ib), .val (.int (2 : Int32))] [(.int (2 : Int32))])) (fun t k => XS.iloadN X0.here hx rfl (hb hby d12_13) rfl k) ?_
      refine Go.step (T' := s₁) (f' := (mkF m 15 #[.val (.int ia), .val (.int ib), .val (.int (2 : Int32))] [(.int (1 : Int32)), (.int (2 : Int32))])) (fun t k => XS.iconst X0.here hx rfl (hb hby d12_14) k) ?_
      refine Go.step (T' := s₁) (f' := (mkF m 18 #[.val (.int ia), .val (.int ib), .val (.int (2 : Int32))] [])) (fun t k => XS.icmpNo X0.here hx rfl (hb hby d12_15) rfl (flt (by decide : ¬ ((2 : Int32) < (1 : Int32)))).1 k) ?_
      refine Go.step (T' := s₁) (f' := (mkF m 19 #[.val (.int ia), .val (.int ib), .val (.int (2 : Int32))] [(.int ia)])) (fun t k => XS.iloadN X0.here hx rfl (hb hby d12_18) rfl k) ?_
      refine Go.step (T' := s₁) (f' := (mkF m 20 #[.val (.int ia), .val (.int ib), .val (.int (2 : Int32))] [(.int (0 : Int32)), (.int ia)])) (fun t k => XS.iconst X0.here hx rfl (hb hby d12_19) k) ?_
      obtain ⟨_, _, ⟨T747, L747, k747, n747⟩, -, X747, ⟨Lc747, hQ747, l747, y747, z747⟩, st747⟩ := Jvm.LawKit.callS X0 hx (y := (⟨"com/example/tenorbook/tenorbook/definitions/FloatingRateIndexEqualsPinLaw", "ch", "(II)I"⟩ : MethodName)) hown (mvT hZ (hw _ (List.mem_of_getElem? (i := 4) rfl))) (mvT hZ (hw _ (List.mem_of_getElem? (i := 5) rfl))) (mvT hZ (hw _ (List.mem_of_getElem? (i := 2) rfl))) (mvT hZ (hw _ (List.mem_of_getElem? (i := 6) rfl))) (by decide) (backOf (W := 0) (rm_ch0 l Z a0 hw [] ia h0 n0 O0 ) hZ (hw _ (List.mem_of_getElem? (i := 6) rfl)) (hw _ (List.mem_of_getElem? (i := 2) rfl)) (by decide) (by decide)) (g := (mkF m 20 #[.val (.int ia), .val (.int ib), .val (.int (2 : Int32))] [(.int (0 : Int32)), (.int ia)])) rfl (by rw [hml]; rfl) (argsL := [(.int ia), (.int (0 : Int32))]) (rest := []) (lenOf pd5 rfl) rfl (by show 2 * 0 + _ ≤ _; exact Nat.le_of_eq rfl) (hb hby d12_20) (fun _ _ => ⟨rfl, e0, (by decide : 0 + 0 ≤ _), (by decide : 0 + 0 ≤ _)⟩)
      dsimp only [Pt.U, Pt.locs, Pt.cells, Pt.slots] at X747 l747 y747 z747 st747 hQ747
      subst l747 y747 z747
      obtain ⟨rfl, Nq747, hh747⟩ := hQ747
      have N748 := Fr.app N0 Nq747
      refine Go.step (T' := T747) (f' := (mkF m 23 #[.val (.int ia), .val (.int ib), .val (.int (2 : Int32))] [(.int (own_ch (2 : Int32) ia))])) st747 ?_
      clear st747 X0 Nq747
      refine Go.step (T' := T747) (f' := (mkF m 24 #[.val (.int ia), .val (.int ib), .val (.int (2 : Int32))] [(.int ib), (.int (own_ch (2 : Int32) ia))])) (fun t k => XS.iloadN X747.here hx rfl (hb hby d12_23) rfl k) ?_
      refine Go.step (T' := T747) (f' := (mkF m 25 #[.val (.int ia), .val (.int ib), .val (.int (2 : Int32))] [(.int (0 : Int32)), (.int ib), (.int (own_ch (2 : Int32) ia))])) (fun t k => XS.iconst X747.here hx rfl (hb hby d12_24) k) ?_
      obtain ⟨_, _, ⟨T749, L749, k749, n749⟩, -, X749, ⟨Lc749, hQ749, l749, y749, z749⟩, st749⟩ := Jvm.LawKit.callS X747 hx (y := (⟨"com/example/tenorbook/tenorbook/definitions/FloatingRateIndexEqualsPinLaw", "ch", "(II)I"⟩ : MethodName)) hown (mvT hZ (hw _ (List.mem_of_getElem? (i := 4) rfl))) (mvT hZ (hw _ (List.mem_of_getElem? (i := 5) rfl))) (mvT hZ (hw _ (List.mem_of_getElem? (i := 2) rfl))) (mvT hZ (hw _ (List.mem_of_getElem? (i := 6) rfl))) (by decide) (backOf (W := 1) (rm_ch0 l Z a0 hw [] ib h0 n0 O0 ) hZ (hw _ (List.mem_of_getElem? (i := 6) rfl)) (hw _ (List.mem_of_getElem? (i := 2) rfl)) (by decide) (by decide)) (g := (mkF m 25 #[.val (.int ia), .val (.int ib), .val (.int (2 : Int32))] [(.int (0 : Int32)), (.int ib), (.int (own_ch (2 : Int32) ia))])) rfl (by rw [hml]; rfl) (argsL := [(.int ib), (.int (0 : Int32))]) (rest := [(.int (own_ch (2 : Int32) ia))]) (lenOf pd5 rfl) rfl (by show 2 * 0 + _ ≤ _; exact Nat.le_of_eq rfl) (hb hby d12_25) (fun _ _ => ⟨rfl, hh747, (by decide : 0 + 0 ≤ _), (by decide : 0 + 0 ≤ _)⟩)
      dsimp only [Pt.U, Pt.locs, Pt.cells, Pt.slots] at X749 l749 y749 z749 st749 hQ749
      subst l749 y749 z749
      obtain ⟨rfl, Nq749, hh749⟩ := hQ749
      have N750 := Fr.app N748 Nq749
      refine Go.step (T' := T749) (f' := (mkF m 28 #[.val (.int ia), .val (.int ib), .val (.int (2 : Int32))] [(.int (own_ch (2 : Int32) ib)), (.int (own_ch (2 : Int32) ia))])) st749 ?_
      clear st749 X747 N748 Nq749
      by_cases hc751 : (own_ch (2 : Int32) ia) = (own_ch (2 : Int32) ib)
      ·
        refine Go.step (T' := T749) (f' := (mkF m 33 #[.val (.int ia), .val (.int ib), .val (.int (2 : Int32))] [])) (fun t k => XS.icmpYes X749.here hx rfl (pc0 := 28) (pc' := 33) rfl (hb hby d12_28) rfl (teq hc751).1 (by decide) (by decide) k) ?_
        refine Go.step (T' := T749) (f' := (mkF m 34 #[.val (.int ia), .val (.int ib), .val (.int (2 : Int32))] [(.int (2 : Int32))])) (fun t k => XS.iloadN X749.here hx rfl (hb hby d12_33) rfl k) ?_
        refine Go.step (T' := T749) (f' := (mkF m 35 #[.val (.int ia), .val (.int ib), .val (.int (2 : Int32))] [(.int (2 : Int32)), (.int (2 : Int32))])) (fun t k => XS.iconst X749.here hx rfl (hb hby d12_34) k) ?_
        refine Go.step (T' := T749) (f' := (mkF m 38 #[.val (.int ia), .val (.int ib), .val (.int (2 : Int32))] [])) (fun t k => XS.icmpNo X749.here hx rfl (hb hby d12_35) rfl (flt (by decide : ¬ ((2 : Int32) < (2 : Int32)))).1 k) ?_
        refine Go.step (T' := T749) (f' := (mkF m 39 #[.val (.int ia), .val (.int ib), .val (.int (2 : Int32))] [(.int ia)])) (fun t k => XS.iloadN X749.here hx rfl (hb hby d12_38) rfl k) ?_
        refine Go.step (T' := T749) (f' := (mkF m 40 #[.val (.int ia), .val (.int ib), .val (.int (2 : Int32))] [(.int (1 : Int32)), (.int ia)])) (fun t k => XS.iconst X749.here hx rfl (hb hby d12_39) k) ?_
        obtain ⟨_, _, ⟨T752, L752, k752, n752⟩, -, X752, ⟨Lc752, hQ752, l752, y752, z752⟩, st752⟩ := Jvm.LawKit.callS X749 hx (y := (⟨"com/example/tenorbook/tenorbook/definitions/FloatingRateIndexEqualsPinLaw", "ch", "(II)I"⟩ : MethodName)) hown (mvT hZ (hw _ (List.mem_of_getElem? (i := 4) rfl))) (mvT hZ (hw _ (List.mem_of_getElem? (i := 5) rfl))) (mvT hZ (hw _ (List.mem_of_getElem? (i := 2) rfl))) (mvT hZ (hw _ (List.mem_of_getElem? (i := 6) rfl))) (by decide) (backOf (W := 0) (rm_ch1 l Z a0 hw [] ia h0 n0 O0 ) hZ (hw _ (List.mem_of_getElem? (i := 6) rfl)) (hw _ (List.mem_of_getElem? (i := 2) rfl)) (by decide) (by decide)) (g := (mkF m 40 #[.val (.int ia), .val (.int ib), .val (.int (2 : Int32))] [(.int (1 : Int32)), (.int ia)])) rfl (by rw [hml]; rfl) (argsL := [(.int ia), (.int (1 : Int32))]) (rest := []) (lenOf pd5 rfl) rfl (by show 2 * 0 + _ ≤ _; exact Nat.le_of_eq rfl) (hb hby d12_40) (fun _ _ => ⟨rfl, hh749, (by decide : 0 + 0 ≤ _), (by decide : 0 + 0 ≤ _)⟩)
        dsimp only [Pt.U, Pt.locs, Pt.cells, Pt.slots] at X752 l752 y752 z752 st752 hQ752
        subst l752 y752 z752
        obtain ⟨rfl, Nq752, hh752⟩ := hQ752
        have N753 := Fr.app N750 Nq752
        refine Go.step (T' := T752) (f' := (mkF m 43 #[.val (.int ia), .val (.int ib), .val (.int (2 : Int32))] [(.int (own_ch (10 : Int32) ia))])) st752 ?_
        clear st752 X749 N750 Nq752
        refine Go.step (T' := T752) (f' := (mkF m 44 #[.val (.int ia), .val (.int ib), .val (.int (2 : Int32))] [(.int ib), (.int (own_ch (10 : Int32) ia))])) (fun t k => XS.iloadN X752.here hx rfl (hb hby d12_43) rfl k) ?_
        refine Go.step (T' := T752) (f' := (mkF m 45 #[.val (.int ia), .val (.int ib), .val (.int (2 : Int32))] [(.int (1 : Int32)), (.int ib), (.int (own_ch (10 : Int32) ia))])) (fun t k => XS.iconst X752.here hx rfl (hb hby d12_44) k) ?_
        obtain ⟨_, _, ⟨T754, L754, k754, n754⟩, -, X754, ⟨Lc754, hQ754, l754, y754, z754⟩, st754⟩ := Jvm.LawKit.callS X752 hx (y := (⟨"com/example/tenorbook/tenorbook/definitions/FloatingRateIndexEqualsPinLaw", "ch", "(II)I"⟩ : MethodName)) hown (mvT hZ (hw _ (List.mem_of_getElem? (i := 4) rfl))) (mvT hZ (hw _ (List.mem_of_getElem? (i := 5) rfl))) (mvT hZ (hw _ (List.mem_of_getElem? (i := 2) rfl))) (mvT hZ (hw _ (List.mem_of_getElem? (i := 6) rfl))) (by decide) (backOf (W := 1) (rm_ch1 l Z a0 hw [] ib h0 n0 O0 ) hZ (hw _ (List.mem_of_getElem? (i := 6) rfl)) (hw _ (List.mem_of_getElem? (i := 2) rfl)) (by decide) (by decide)) (g := (mkF m 45 #[.val (.int ia), .val (.int ib), .val (.int (2 : Int32))] [(.int (1 : Int32)), (.int ib), (.int (own_ch (10 : Int32) ia))])) rfl (by rw [hml]; rfl) (argsL := [(.int ib), (.int (1 : Int32))]) (rest := [(.int (own_ch (10 : Int32) ia))]) (lenOf pd5 rfl) rfl (by show 2 * 0 + _ ≤ _; exact Nat.le_of_eq rfl) (hb hby d12_45) (fun _ _ => ⟨rfl, hh752, (by decide : 0 + 0 ≤ _), (by decide : 0 + 0 ≤ _)⟩)
        dsimp only [Pt.U, Pt.locs, Pt.cells, Pt.slots] at X754 l754 y754 z754 st754 hQ754
        subst l754 y754 z754
        obtain ⟨rfl, Nq754, hh754⟩ := hQ754
        have N755 := Fr.app N753 Nq754
        refine Go.step (T' := T754) (f' := (mkF m 48 #[.val (.int ia), .val (.int ib), .val (.int (2 : Int32))] [(.int (own_ch (10 : Int32) ib)), (.int (own_ch (10 : Int32) ia))])) st754 ?_
        clear st754 X752 N753 Nq754
        by_cases hc756 : (own_ch (10 : Int32) ia) = (own_ch (10 : Int32) ib)
        ·
          refine Go.step (T' := T754) (f' := (mkF m 53 #[.val (.int ia), .val (.int ib), .val (.int (2 : Int32))] [])) (fun t k => XS.icmpYes X754.here hx rfl (pc0 := 48) (pc' := 53) rfl (hb hby d12_48) rfl (teq hc756).1 (by decide) (by decide) k) ?_
          refine Go.step (T' := T754) (f' := (mkF m 54 #[.val (.int ia), .val (.int ib), .val (.int (2 : Int32))] [(.int (2 : Int32))])) (fun t k => XS.iloadN X754.here hx rfl (hb hby d12_53) rfl k) ?_
          refine Go.step (T' := T754) (f' := (mkF m 55 #[.val (.int ia), .val (.int ib), .val (.int (2 : Int32))] [(.int (3 : Int32)), (.int (2 : Int32))])) (fun t k => XS.iconst X754.here hx rfl (hb hby d12_54) k) ?_
          refine Go.step (T' := T754) (f' := (mkF m 73 #[.val (.int ia), .val (.int ib), .val (.int (2 : Int32))] [])) (fun t k => XS.icmpYes X754.here hx rfl (pc0 := 55) (pc' := 73) rfl (hb hby d12_55) rfl (tlt (by decide : (2 : Int32) < (3 : Int32))).1 (by decide) (by decide) k) ?_
          refine Go.step (T' := T754) (f' := (mkF m 74 #[.val (.int ia), .val (.int ib), .val (.int (2 : Int32))] [(.int (1 : Int32))])) (fun t k => XS.iconst X754.here hx rfl (hb hby d12_73) k) ?_
          refine Go.retZ X754 hx hlk (t := .boolean) Bd.returns (by simp) (hb hby d12_74) hh754 ?_ (by decide) (by decide)
          exact ⟨by rw [own_s2 hs738, own_s2 hs746]; simp [nar, own_bI, hc751, hc756], N755, rfl⟩
        ·
          refine Go.step (T' := T754) (f' := (mkF m 51 #[.val (.int ia), .val (.int ib), .val (.int (2 : Int32))] [])) (fun t k => XS.icmpNo X754.here hx rfl (hb hby d12_48) rfl (feq hc756).1 k) ?_
          refine Go.step (T' := T754) (f' := (mkF m 52 #[.val (.int ia), .val (.int ib), .val (.int (2 : Int32))] [(.int (0 : Int32))])) (fun t k => XS.iconst X754.here hx rfl (hb hby d12_51) k) ?_
          refine Go.retZ X754 hx hlk (t := .boolean) Bd.returns (by simp) (hb hby d12_52) hh754 ?_ (by decide) (by decide)
          exact ⟨by rw [own_s2 hs738, own_s2 hs746]; simp [nar, own_bI, hc751, hc756], N755, rfl⟩
      ·
        refine Go.step (T' := T749) (f' := (mkF m 31 #[.val (.int ia), .val (.int ib), .val (.int (2 : Int32))] [])) (fun t k => XS.icmpNo X749.here hx rfl (hb hby d12_28) rfl (feq hc751).1 k) ?_
        refine Go.step (T' := T749) (f' := (mkF m 32 #[.val (.int ia), .val (.int ib), .val (.int (2 : Int32))] [(.int (0 : Int32))])) (fun t k => XS.iconst X749.here hx rfl (hb hby d12_31) k) ?_
        refine Go.retZ X749 hx hlk (t := .boolean) Bd.returns (by simp) (hb hby d12_32) hh749 ?_ (by decide) (by decide)
        exact ⟨by rw [own_s2 hs738, own_s2 hs746]; simp [nar, own_bI, hc751], N750, rfl⟩
    ·
      rw [hs746]
      refine Go.step (T' := s₁) (f' := (mkF m 11 #[.val (.int ia), .val (.int ib), .val (.int (2 : Int32))] [])) (fun t k => XS.icmpNo X0.here hx rfl (hb hby d12_8) rfl (feq (by decide : ¬ ((2 : Int32) = (3 : Int32)))).1 k) ?_
      refine Go.step (T' := s₁) (f' := (mkF m 12 #[.val (.int ia), .val (.int ib), .val (.int (2 : Int32))] [(.int (0 : Int32))])) (fun t k => XS.iconst X0.here hx rfl (hb hby d12_11) k) ?_
      refine Go.retZ X0 hx hlk (t := .boolean) Bd.returns (by simp) (hb hby d12_12) e0 ?_ (by decide) (by decide)
      exact ⟨by rw [own_s2 hs738, own_s3 hs746]; simp [nar, own_bI], N0, rfl⟩
  ·
    rw [hs738]
    refine Go.step (T' := s₁) (f' := (mkF m 5 #[.val (.int ia), .val (.int ib), .val (.int (3 : Int32))] [(.int (3 : Int32))])) (fun t k => XS.iloadN X0.here hx rfl (hb hby d12_4) rfl k) ?_
    refine Go.step (T' := s₁) (f' := (mkF m 6 #[.val (.int ia), .val (.int ib), .val (.int (3 : Int32))] [(.int ib), (.int (3 : Int32))])) (fun t k => XS.iloadN X0.here hx rfl (hb hby d12_5) rfl k) ?_
    refine Go.step (T' := s₁) (f' := (mkF m 7 #[.val (.int ia), .val (.int ib), .val (.int (3 : Int32))] [(.int (3 : Int32)), (.int ib), (.int (3 : Int32))])) (fun t k => XS.iconst X0.here hx rfl (hb hby d12_6) k) ?_
    refine Go.step (T' := s₁) (f' := (mkF m 8 #[.val (.int ia), .val (.int ib), .val (.int (3 : Int32))] [(.int (ib &&& (3 : Int32))), (.int (3 : Int32))])) (fun t k => XS.iand X0.here hx rfl (hb hby d12_7) rfl k) ?_
    rcases own_a4 ib with hs757 | hs757 | hs757 | hs757
    ·
      rw [hs757]
      refine Go.step (T' := s₁) (f' := (mkF m 11 #[.val (.int ia), .val (.int ib), .val (.int (3 : Int32))] [])) (fun t k => XS.icmpNo X0.here hx rfl (hb hby d12_8) rfl (feq (by decide : ¬ ((3 : Int32) = (0 : Int32)))).1 k) ?_
      refine Go.step (T' := s₁) (f' := (mkF m 12 #[.val (.int ia), .val (.int ib), .val (.int (3 : Int32))] [(.int (0 : Int32))])) (fun t k => XS.iconst X0.here hx rfl (hb hby d12_11) k) ?_
      refine Go.retZ X0 hx hlk (t := .boolean) Bd.returns (by simp) (hb hby d12_12) e0 ?_ (by decide) (by decide)
      exact ⟨by rw [own_s3 hs738, own_s0 hs757]; simp [nar, own_bI], N0, rfl⟩
    ·
      rw [hs757]
      refine Go.step (T' := s₁) (f' := (mkF m 11 #[.val (.int ia), .val (.int ib), .val (.int (3 : Int32))] [])) (fun t k => XS.icmpNo X0.here hx rfl (hb hby d12_8) rfl (feq (by decide : ¬ ((3 : Int32) = (1 : Int32)))).1 k) ?_
      refine Go.step (T' := s₁) (f' := (mkF m 12 #[.val (.int ia), .val (.int ib), .val (.int (3 : Int32))] [(.int (0 : Int32))])) (fun t k => XS.iconst X0.here hx rfl (hb hby d12_11) k) ?_
      refine Go.retZ X0 hx hlk (t := .boolean) Bd.returns (by simp) (hb hby d12_12) e0 ?_ (by decide) (by decide)
      exact ⟨by rw [own_s3 hs738, own_s1 hs757]; simp [nar, own_bI], N0, rfl⟩
    ·
      rw [hs757]
      refine Go.step (T' := s₁) (f' := (mkF m 11 #[.val (.int ia), .val (.int ib), .val (.int (3 : Int32))] [])) (fun t k => XS.icmpNo X0.here hx rfl (hb hby d12_8) rfl (feq (by decide : ¬ ((3 : Int32) = (2 : Int32)))).1 k) ?_
      refine Go.step (T' := s₁) (f' := (mkF m 12 #[.val (.int ia), .val (.int ib), .val (.int (3 : Int32))] [(.int (0 : Int32))])) (fun t k => XS.iconst X0.here hx rfl (hb hby d12_11) k) ?_
      refine Go.retZ X0 hx hlk (t := .boolean) Bd.returns (by simp) (hb hby d12_12) e0 ?_ (by decide) (by decide)
      exact ⟨by rw [own_s3 hs738, own_s2 hs757]; simp [nar, own_bI], N0, rfl⟩
    ·
      rw [hs757]
      refine Go.step (T' := s₁) (f' := (mkF m 13 #[.val (.int ia), .val (.int ib), .val (.int (3 : Int32))] [])) (fun t k => XS.icmpYes X0.here hx rfl (pc0 := 8) (pc' := 13) rfl (hb hby d12_8) rfl (teq (by decide : (3 : Int32) = (3 : Int32))).1 (by decide) (by decide) k) ?_
      refine Go.step (T' := s₁) (f' := (mkF m 14 #[.val (.int ia), .val (.int ib), .val (.int (3 : Int32))] [(.int (3 : Int32))])) (fun t k => XS.iloadN X0.here hx rfl (hb hby d12_13) rfl k) ?_
      refine Go.step (T' := s₁) (f' := (mkF m 15 #[.val (.int ia), .val (.int ib), .val (.int (3 : Int32))] [(.int (1 : Int32)), (.int (3 : Int32))])) (fun t k => XS.iconst X0.here hx rfl (hb hby d12_14) k) ?_
      refine Go.step (T' := s₁) (f' := (mkF m 18 #[.val (.int ia), .val (.int ib), .val (.int (3 : Int32))] [])) (fun t k => XS.icmpNo X0.here hx rfl (hb hby d12_15) rfl (flt (by decide : ¬ ((3 : Int32) < (1 : Int32)))).1 k) ?_
      refine Go.step (T' := s₁) (f' := (mkF m 19 #[.val (.int ia), .val (.int ib), .val (.int (3 : Int32))] [(.int ia)])) (fun t k => XS.iloadN X0.here hx rfl (hb hby d12_18) rfl k) ?_
      refine Go.step (T' := s₁) (f' := (mkF m 20 #[.val (.int ia), .val (.int ib), .val (.int (3 : Int32))] [(.int (0 : Int32)), (.int ia)])) (fun t k => XS.iconst X0.here hx rfl (hb hby d12_19) k) ?_
      obtain ⟨_, _, ⟨T758, L758, k758, n758⟩, -, X758, ⟨Lc758, hQ758, l758, y758, z758⟩, st758⟩ := Jvm.LawKit.callS X0 hx (y := (⟨"com/example/tenorbook/tenorbook/definitions/FloatingRateIndexEqualsPinLaw", "ch", "(II)I"⟩ : MethodName)) hown (mvT hZ (hw _ (List.mem_of_getElem? (i := 4) rfl))) (mvT hZ (hw _ (List.mem_of_getElem? (i := 5) rfl))) (mvT hZ (hw _ (List.mem_of_getElem? (i := 2) rfl))) (mvT hZ (hw _ (List.mem_of_getElem? (i := 6) rfl))) (by decide) (backOf (W := 0) (rm_ch0 l Z a0 hw [] ia h0 n0 O0 ) hZ (hw _ (List.mem_of_getElem? (i := 6) rfl)) (hw _ (List.mem_of_getElem? (i := 2) rfl)) (by decide) (by decide)) (g := (mkF m 20 #[.val (.int ia), .val (.int ib), .val (.int (3 : Int32))] [(.int (0 : Int32)), (.int ia)])) rfl (by rw [hml]; rfl) (argsL := [(.int ia), (.int (0 : Int32))]) (rest := []) (lenOf pd5 rfl) rfl (by show 2 * 0 + _ ≤ _; exact Nat.le_of_eq rfl) (hb hby d12_20) (fun _ _ => ⟨rfl, e0, (by decide : 0 + 0 ≤ _), (by decide : 0 + 0 ≤ _)⟩)
      dsimp only [Pt.U, Pt.locs, Pt.cells, Pt.slots] at X758 l758 y758 z758 st758 hQ758
      subst l758 y758 z758
      obtain ⟨rfl, Nq758, hh758⟩ := hQ758
      have N759 := Fr.app N0 Nq758
      refine Go.step (T' := T758) (f' := (mkF m 23 #[.val (.int ia), .val (.int ib), .val (.int (3 : Int32))] [(.int (own_ch (2 : Int32) ia))])) st758 ?_
      clear st758 X0 Nq758
      refine Go.step (T' := T758) (f' := (mkF m 24 #[.val (.int ia), .val (.int ib), .val (.int (3 : Int32))] [(.int ib), (.int (own_ch (2 : Int32) ia))])) (fun t k => XS.iloadN X758.here hx rfl (hb hby d12_23) rfl k) ?_
      refine Go.step (T' := T758) (f' := (mkF m 25 #[.val (.int ia), .val (.int ib), .val (.int (3 : Int32))] [(.int (0 : Int32)), (.int ib), (.int (own_ch (2 : Int32) ia))])) (fun t k => XS.iconst X758.here hx rfl (hb hby d12_24) k) ?_
      obtain ⟨_, _, ⟨T760, L760, k760, n760⟩, -, X760, ⟨Lc760, hQ760, l760, y760, z760⟩, st760⟩ := Jvm.LawKit.callS X758 hx (y := (⟨"com/example/tenorbook/tenorbook/definitions/FloatingRateIndexEqualsPinLaw", "ch", "(II)I"⟩ : MethodName)) hown (mvT hZ (hw _ (List.mem_of_getElem? (i := 4) rfl))) (mvT hZ (hw _ (List.mem_of_getElem? (i := 5) rfl))) (mvT hZ (hw _ (List.mem_of_getElem? (i := 2) rfl))) (mvT hZ (hw _ (List.mem_of_getElem? (i := 6) rfl))) (by decide) (backOf (W := 1) (rm_ch0 l Z a0 hw [] ib h0 n0 O0 ) hZ (hw _ (List.mem_of_getElem? (i := 6) rfl)) (hw _ (List.mem_of_getElem? (i := 2) rfl)) (by decide) (by decide)) (g := (mkF m 25 #[.val (.int ia), .val (.int ib), .val (.int (3 : Int32))] [(.int (0 : Int32)), (.int ib), (.int (own_ch (2 : Int32) ia))])) rfl (by rw [hml]; rfl) (argsL := [(.int ib), (.int (0 : Int32))]) (rest := [(.int (own_ch (2 : Int32) ia))]) (lenOf pd5 rfl) rfl (by show 2 * 0 + _ ≤ _; exact Nat.le_of_eq rfl) (hb hby d12_25) (fun _ _ => ⟨rfl, hh758, (by decide : 0 + 0 ≤ _), (by decide : 0 + 0 ≤ _)⟩)
      dsimp only [Pt.U, Pt.locs, Pt.cells, Pt.slots] at X760 l760 y760 z760 st760 hQ760
      subst l760 y760 z760
      obtain ⟨rfl, Nq760, hh760⟩ := hQ760
      have N761 := Fr.app N759 Nq760
      refine Go.step (T' := T760) (f' := (mkF m 28 #[.val (.int ia), .val (.int ib), .val (.int (3 : Int32))] [(.int (own_ch (2 : Int32) ib)), (.int (own_ch (2 : Int32) ia))])) st760 ?_
      clear st760 X758 N759 Nq760
      by_cases hc762 : (own_ch (2 : Int32) ia) = (own_ch (2 : Int32) ib)
      ·
        refine Go.step (T' := T760) (f' := (mkF m 33 #[.val (.int ia), .val (.int ib), .val (.int (3 : Int32))] [])) (fun t k => XS.icmpYes X760.here hx rfl (pc0 := 28) (pc' := 33) rfl (hb hby d12_28) rfl (teq hc762).1 (by decide) (by decide) k) ?_
        refine Go.step (T' := T760) (f' := (mkF m 34 #[.val (.int ia), .val (.int ib), .val (.int (3 : Int32))] [(.int (3 : Int32))])) (fun t k => XS.iloadN X760.here hx rfl (hb hby d12_33) rfl k) ?_
        refine Go.step (T' := T760) (f' := (mkF m 35 #[.val (.int ia), .val (.int ib), .val (.int (3 : Int32))] [(.int (2 : Int32)), (.int (3 : Int32))])) (fun t k => XS.iconst X760.here hx rfl (hb hby d12_34) k) ?_
        refine Go.step (T' := T760) (f' := (mkF m 38 #[.val (.int ia), .val (.int ib), .val (.int (3 : Int32))] [])) (fun t k => XS.icmpNo X760.here hx rfl (hb hby d12_35) rfl (flt (by decide : ¬ ((3 : Int32) < (2 : Int32)))).1 k) ?_
        refine Go.step (T' := T760) (f' := (mkF m 39 #[.val (.int ia), .val (.int ib), .val (.int (3 : Int32))] [(.int ia)])) (fun t k => XS.iloadN X760.here hx rfl (hb hby d12_38) rfl k) ?_
        refine Go.step (T' := T760) (f' := (mkF m 40 #[.val (.int ia), .val (.int ib), .val (.int (3 : Int32))] [(.int (1 : Int32)), (.int ia)])) (fun t k => XS.iconst X760.here hx rfl (hb hby d12_39) k) ?_
        obtain ⟨_, _, ⟨T763, L763, k763, n763⟩, -, X763, ⟨Lc763, hQ763, l763, y763, z763⟩, st763⟩ := Jvm.LawKit.callS X760 hx (y := (⟨"com/example/tenorbook/tenorbook/definitions/FloatingRateIndexEqualsPinLaw", "ch", "(II)I"⟩ : MethodName)) hown (mvT hZ (hw _ (List.mem_of_getElem? (i := 4) rfl))) (mvT hZ (hw _ (List.mem_of_getElem? (i := 5) rfl))) (mvT hZ (hw _ (List.mem_of_getElem? (i := 2) rfl))) (mvT hZ (hw _ (List.mem_of_getElem? (i := 6) rfl))) (by decide) (backOf (W := 0) (rm_ch1 l Z a0 hw [] ia h0 n0 O0 ) hZ (hw _ (List.mem_of_getElem? (i := 6) rfl)) (hw _ (List.mem_of_getElem? (i := 2) rfl)) (by decide) (by decide)) (g := (mkF m 40 #[.val (.int ia), .val (.int ib), .val (.int (3 : Int32))] [(.int (1 : Int32)), (.int ia)])) rfl (by rw [hml]; rfl) (argsL := [(.int ia), (.int (1 : Int32))]) (rest := []) (lenOf pd5 rfl) rfl (by show 2 * 0 + _ ≤ _; exact Nat.le_of_eq rfl) (hb hby d12_40) (fun _ _ => ⟨rfl, hh760, (by decide : 0 + 0 ≤ _), (by decide : 0 + 0 ≤ _)⟩)
        dsimp only [Pt.U, Pt.locs, Pt.cells, Pt.slots] at X763 l763 y763 z763 st763 hQ763
        subst l763 y763 z763
        obtain ⟨rfl, Nq763, hh763⟩ := hQ763
        have N764 := Fr.app N761 Nq763
        refine Go.step (T' := T763) (f' := (mkF m 43 #[.val (.int ia), .val (.int ib), .val (.int (3 : Int32))] [(.int (own_ch (10 : Int32) ia))])) st763 ?_
        clear st763 X760 N761 Nq763
        refine Go.step (T' := T763) (f' := (mkF m 44 #[.val (.int ia), .val (.int ib), .val (.int (3 : Int32))] [(.int ib), (.int (own_ch (10 : Int32) ia))])) (fun t k => XS.iloadN X763.here hx rfl (hb hby d12_43) rfl k) ?_
        refine Go.step (T' := T763) (f' := (mkF m 45 #[.val (.int ia), .val (.int ib), .val (.int (3 : Int32))] [(.int (1 : Int32)), (.int ib), (.int (own_ch (10 : Int32) ia))])) (fun t k => XS.iconst X763.here hx rfl (hb hby d12_44) k) ?_
        obtain ⟨_, _, ⟨T765, L765, k765, n765⟩, -, X765, ⟨Lc765, hQ765, l765, y765, z765⟩, st765⟩ := Jvm.LawKit.callS X763 hx (y := (⟨"com/example/tenorbook/tenorbook/definitions/FloatingRateIndexEqualsPinLaw", "ch", "(II)I"⟩ : MethodName)) hown (mvT hZ (hw _ (List.mem_of_getElem? (i := 4) rfl))) (mvT hZ (hw _ (List.mem_of_getElem? (i := 5) rfl))) (mvT hZ (hw _ (List.mem_of_getElem? (i := 2) rfl))) (mvT hZ (hw _ (List.mem_of_getElem? (i := 6) rfl))) (by decide) (backOf (W := 1) (rm_ch1 l Z a0 hw [] ib h0 n0 O0 ) hZ (hw _ (List.mem_of_getElem? (i := 6) rfl)) (hw _ (List.mem_of_getElem? (i := 2) rfl)) (by decide) (by decide)) (g := (mkF m 45 #[.val (.int ia), .val (.int ib), .val (.int (3 : Int32))] [(.int (1 : Int32)), (.int ib), (.int (own_ch (10 : Int32) ia))])) rfl (by rw [hml]; rfl) (argsL := [(.int ib), (.int (1 : Int32))]) (rest := [(.int (own_ch (10 : Int32) ia))]) (lenOf pd5 rfl) rfl (by show 2 * 0 + _ ≤ _; exact Nat.le_of_eq rfl) (hb hby d12_45) (fun _ _ => ⟨rfl, hh763, (by decide : 0 + 0 ≤ _), (by decide : 0 + 0 ≤ _)⟩)
        dsimp only [Pt.U, Pt.locs, Pt.cells, Pt.slots] at X765 l765 y765 z765 st765 hQ765
        subst l765 y765 z765
        obtain ⟨rfl, Nq765, hh765⟩ := hQ765
        have N766 := Fr.app N764 Nq765
        refine Go.step (T' := T765) (f' := (mkF m 48 #[.val (.int ia), .val (.int ib), .val (.int (3 : Int32))] [(.int (own_ch (10 : Int32) ib)), (.int (own_ch (10 : Int32) ia))])) st765 ?_
        clear st765 X763 N764 Nq765
        by_cases hc767 : (own_ch (10 : Int32) ia) = (own_ch (10 : Int32) ib)
        ·
          refine Go.step (T' := T765) (f' := (mkF m 53 #[.val (.int ia), .val (.int ib), .val (.int (3 : Int32))] [])) (fun t k => XS.icmpYes X765.here hx rfl (pc0 := 48) (pc' := 53) rfl (hb hby d12_48) rfl (teq hc767).1 (by decide) (by decide) k) ?_
          refine Go.step (T' := T765) (f' := (mkF m 54 #[.val (.int ia), .val (.int ib), .val (.int (3 : Int32))] [(.int (3 : Int32))])) (fun t k => XS.iloadN X765.here hx rfl (hb hby d12_53) rfl k) ?_
          refine Go.step (T' := T765) (f' := (mkF m 55 #[.val (.int ia), .val (.int ib), .val (.int (3 : Int32))] [(.int (3 : Int32)), (.int (3 : Int32))])) (fun t k => XS.iconst X765.here hx rfl (hb hby d12_54) k) ?_
          refine Go.step (T' := T765) (f' := (mkF m 58 #[.val (.int ia), .val (.int ib), .val (.int (3 : Int32))] [])) (fun t k => XS.icmpNo X765.here hx rfl (hb hby d12_55) rfl (flt (by decide : ¬ ((3 : Int32) < (3 : Int32)))).1 k) ?_
          refine Go.step (T' := T765) (f' := (mkF m 59 #[.val (.int ia), .val (.int ib), .val (.int (3 : Int32))] [(.int ia)])) (fun t k => XS.iloadN X765.here hx rfl (hb hby d12_58) rfl k) ?_
          refine Go.step (T' := T765) (f' := (mkF m 60 #[.val (.int ia), .val (.int ib), .val (.int (3 : Int32))] [(.int (2 : Int32)), (.int ia)])) (fun t k => XS.iconst X765.here hx rfl (hb hby d12_59) k) ?_
          obtain ⟨_, _, ⟨T768, L768, k768, n768⟩, -, X768, ⟨Lc768, hQ768, l768, y768, z768⟩, st768⟩ := Jvm.LawKit.callS X765 hx (y := (⟨"com/example/tenorbook/tenorbook/definitions/FloatingRateIndexEqualsPinLaw", "ch", "(II)I"⟩ : MethodName)) hown (mvT hZ (hw _ (List.mem_of_getElem? (i := 4) rfl))) (mvT hZ (hw _ (List.mem_of_getElem? (i := 5) rfl))) (mvT hZ (hw _ (List.mem_of_getElem? (i := 2) rfl))) (mvT hZ (hw _ (List.mem_of_getElem? (i := 6) rfl))) (by decide) (backOf (W := 0) (rm_ch2 l Z a0 hw [] ia h0 n0 O0 ) hZ (hw _ (List.mem_of_getElem? (i := 6) rfl)) (hw _ (List.mem_of_getElem? (i := 2) rfl)) (by decide) (by decide)) (g := (mkF m 60 #[.val (.int ia), .val (.int ib), .val (.int (3 : Int32))] [(.int (2 : Int32)), (.int ia)])) rfl (by rw [hml]; rfl) (argsL := [(.int ia), (.int (2 : Int32))]) (rest := []) (lenOf pd5 rfl) rfl (by show 2 * 0 + _ ≤ _; exact Nat.le_of_eq rfl) (hb hby d12_60) (fun _ _ => ⟨rfl, hh765, (by decide : 0 + 0 ≤ _), (by decide : 0 + 0 ≤ _)⟩)
          dsimp only [Pt.U, Pt.locs, Pt.cells, Pt.slots] at X768 l768 y768 z768 st768 hQ768
          subst l768 y768 z768
          obtain ⟨rfl, Nq768, hh768⟩ := hQ768
          have N769 := Fr.app N766 Nq768
          refine Go.step (T' := T768) (f' := (mkF m 63 #[.val (.int ia), .val (.int ib), .val (.int (3 : Int32))] [(.int (own_ch (18 : Int32) ia))])) st768 ?_
          clear st768 X765 N766 Nq768
          refine Go.step (T' := T768) (f' := (mkF m 64 #[.val (.int ia), .val (.int ib), .val (.int (3 : Int32))] [(.int ib), (.int (own_ch (18 : Int32) ia))])) (fun t k => XS.iloadN X768.here hx rfl (hb hby d12_63) rfl k) ?_
          refine Go.step (T' := T768) (f' := (mkF m 65 #[.val (.int ia), .val (.int ib), .val (.int (3 : Int32))] [(.int (2 : Int32)), (.int ib), (.int (own_ch (18 : Int32) ia))])) (fun t k => XS.iconst X768.here hx rfl (hb hby d12_64) k) ?_
          obtain ⟨_, _, ⟨T770, L770, k770, n770⟩, -, X770, ⟨Lc770, hQ770, l770, y770, z770⟩, st770⟩ := Jvm.LawKit.callS X768 hx (y := (⟨"com/example/tenorbook/tenorbook/definitions/FloatingRateIndexEqualsPinLaw", "ch", "(II)I"⟩ : MethodName)) hown (mvT hZ (hw _ (List.mem_of_getElem? (i := 4) rfl))) (mvT hZ (hw _ (List.mem_of_getElem? (i := 5) rfl))) (mvT hZ (hw _ (List.mem_of_getElem? (i := 2) rfl))) (mvT hZ (hw _ (List.mem_of_getElem? (i := 6) rfl))) (by decide) (backOf (W := 1) (rm_ch2 l Z a0 hw [] ib h0 n0 O0 ) hZ (hw _ (List.mem_of_getElem? (i := 6) rfl)) (hw _ (List.mem_of_getElem? (i := 2) rfl)) (by decide) (by decide)) (g := (mkF m 65 #[.val (.int ia), .val (.int ib), .val (.int (3 : Int32))] [(.int (2 : Int32)), (.int ib), (.int (own_ch (18 : Int32) ia))])) rfl (by rw [hml]; rfl) (argsL := [(.int ib), (.int (2 : Int32))]) (rest := [(.int (own_ch (18 : Int32) ia))]) (lenOf pd5 rfl) rfl (by show 2 * 0 + _ ≤ _; exact Nat.le_of_eq rfl) (hb hby d12_65) (fun _ _ => ⟨rfl, hh768, (by decide : 0 + 0 ≤ _), (by decide : 0 + 0 ≤ _)⟩)
          dsimp only [Pt.U, Pt.locs, Pt.cells, Pt.slots] at X770 l770 y770 z770 st770 hQ770
          subst l770 y770 z770
          obtain ⟨rfl, Nq770, hh770⟩ := hQ770
          have N771 := Fr.app N769 Nq770
          refine Go.step (T' := T770) (f' := (mkF m 68 #[.val (.int ia), .val (.int ib), .val (.int (3 : Int32))] [(.int (own_ch (18 : Int32) ib)), (.int (own_ch (18 : Int32) ia))])) st770 ?_
          clear st770 X768 N769 Nq770
          by_cases hc772 : (own_ch (18 : Int32) ia) = (own_ch (18 : Int32) ib)
          ·
            refine Go.step (T' := T770) (f' := (mkF m 73 #[.val (.int ia), .val (.int ib), .val (.int (3 : Int32))] [])) (fun t k => XS.icmpYes X770.here hx rfl (pc0 := 68) (pc' := 73) rfl (hb hby d12_68) rfl (teq hc772).1 (by decide) (by decide) k) ?_
            refine Go.step (T' := T770) (f' := (mkF m 74 #[.val (.int ia), .val (.int ib), .val (.int (3 : Int32))] [(.int (1 : Int32))])) (fun t k => XS.iconst X770.here hx rfl (hb hby d12_73) k) ?_
            refine Go.retZ X770 hx hlk (t := .boolean) Bd.returns (by simp) (hb hby d12_74) hh770 ?_ (by decide) (by decide)
            exact ⟨by rw [own_s3 hs738, own_s3 hs757]; simp [nar, own_bI, hc762, hc767, hc772], N771, rfl⟩
          ·
            refine Go.step (T' := T770) (f' := (mkF m 71 #[.val (.int ia), .val (.int ib), .val (.int (3 : Int32))] [])) (fun t k => XS.icmpNo X770.here hx rfl (hb hby d12_68) rfl (feq hc772).1 k) ?_
            refine Go.step (T' := T770) (f' := (mkF m 72 #[.val (.int ia), .val (.int ib), .val (.int (3 : Int32))] [(.int (0 : Int32))])) (fun t k => XS.iconst X770.here hx rfl (hb hby d12_71) k) ?_
            refine Go.retZ X770 hx hlk (t := .boolean) Bd.returns (by simp) (hb hby d12_72) hh770 ?_ (by decide) (by decide)
            exact ⟨by rw [own_s3 hs738, own_s3 hs757]; simp [nar, own_bI, hc762, hc767, hc772], N771, rfl⟩
        ·
          refine Go.step (T' := T765) (f' := (mkF m 51 #[.val (.int ia), .val (.int ib), .val (.int (3 : Int32))] [])) (fun t k => XS.icmpNo X765.here hx rfl (hb hby d12_48) rfl (feq hc767).1 k) ?_
          refine Go.step (T' := T765) (f' := (mkF m 52 #[.val (.int ia), .val (.int ib), .val (.int (3 : Int32))] [(.int (0 : Int32))])) (fun t k => XS.iconst X765.here hx rfl (hb hby d12_51) k) ?_
          refine Go.retZ X765 hx hlk (t := .boolean) Bd.returns (by simp) (hb hby d12_52) hh765 ?_ (by decide) (by decide)
          exact ⟨by rw [own_s3 hs738, own_s3 hs757]; simp [nar, own_bI, hc762, hc767], N766, rfl⟩
      ·
        refine Go.step (T' := T760) (f' := (mkF m 31 #[.val (.int ia), .val (.int ib), .val (.int (3 : Int32))] [])) (fun t k => XS.icmpNo X760.here hx rfl (hb hby d12_28) rfl (feq hc762).1 k) ?_
        refine Go.step (T' := T760) (f' := (mkF m 32 #[.val (.int ia), .val (.int ib), .val (.int (3 : Int32))] [(.int (0 : Int32))])) (fun t k => XS.iconst X760.here hx rfl (hb hby d12_31) k) ?_
        refine Go.retZ X760 hx hlk (t := .boolean) Bd.returns (by simp) (hb hby d12_32) hh760 ?_ (by decide) (by decide)
        exact ⟨by rw [own_s3 hs738, own_s3 hs757]; simp [nar, own_bI, hc762], N761, rfl⟩
theorem d13_0 : decode prog_18_method_2_code 0 = .ok (.aload_n 1, 1) := by decide +kernel
theorem d13_1 : decode prog_18_method_2_code 1 = .ok (.instanceof 18, 3) := by decide +kernel
theorem d13_4 : decode prog_18_method_2_code 4 = .ok (.ifCond .eq 40, 3) := by decide +kernel
theorem d13_7 : decode prog_18_method_2_code 7 = .ok (.aload_n 1, 1) := by decide +kernel
theorem d13_8 : decode prog_18_method_2_code 8 = .ok (.checkcast 18, 3) := by decide +kernel
theorem d13_11 : decode prog_18_method_2_code 11 = .ok (.astore_n 2, 1) := by decide +kernel
theorem d13_12 : decode prog_18_method_2_code 12 = .ok (.aload_n 0, 1) := by decide +kernel
theorem d13_13 : decode prog_18_method_2_code 13 = .ok (.getfield 17, 3) := by decide +kernel
theorem d13_16 : decode prog_18_method_2_code 16 = .ok (.aload_n 2, 1) := by decide +kernel
theorem d13_17 : decode prog_18_method_2_code 17 = .ok (.getfield 17, 3) := by decide +kernel
theorem d13_20 : decode prog_18_method_2_code 20 = .ok (.invokevirtual 24, 3) := by decide +kernel
theorem d13_23 : decode prog_18_method_2_code 23 = .ok (.ifCond .eq 21, 3) := by decide +kernel
theorem d13_26 : decode prog_18_method_2_code 26 = .ok (.aload_n 0, 1) := by decide +kernel
theorem d13_27 : decode prog_18_method_2_code 27 = .ok (.getfield 22, 3) := by decide +kernel
theorem d13_30 : decode prog_18_method_2_code 30 = .ok (.aload_n 2, 1) := by decide +kernel
theorem d13_31 : decode prog_18_method_2_code 31 = .ok (.getfield 22, 3) := by decide +kernel
theorem d13_34 : decode prog_18_method_2_code 34 = .ok (.invokevirtual 24, 3) := by decide +kernel
theorem d13_37 : decode prog_18_method_2_code 37 = .ok (.ifCond .eq 7, 3) := by decide +kernel
theorem d13_40 : decode prog_18_method_2_code 40 = .ok (.iconst 1, 1) := by decide +kernel
theorem d13_41 : decode prog_18_method_2_code 41 = .ok (.goto 4, 3) := by decide +kernel
theorem d13_44 : decode prog_18_method_2_code 44 = .ok (.iconst 0, 1) := by decide +kernel
theorem d13_45 : decode prog_18_method_2_code 45 = .ok (.ireturn, 1) := by decide +kernel
theorem pd9 : parseMethodDescriptor "(Ljava/lang/Object;)Z" = some ⟨[(.object "java/lang/Object")], some .boolean⟩ := by decide +kernel
theorem ef_feq (m : MethodId) (ba : Addr) (bb : Addr) : entryFrame m #[(.ref ba), (.ref bb)] 3 = mkF m 0 #[.val (.ref ba), .val (.ref bb), .unset] [] := by first | (simp [entryFrame, mkF, argsToLocals, Value.category]; done) | rfl
def Q_feq (Z : State) (ba : Addr) (bb : Addr) (bda : Addr) (bka : Addr) (bdb : Addr) (bkb : Addr) (vda : Addr) (vka : Addr) (vdb : Addr) (vkb : Addr) (kda : ClassId) (kka : ClassId) (kdb : ClassId) (kkb : ClassId) (xda : List Int32) (xka : List Int32) (xdb : List Int32) (xkb : List Int32) (wz : Int32) (h0 : Heap) (n0 : Nat) (v : Option Value) (h : Heap) (L : List Loc) : Prop := v = some (.int (if xda = xdb ∧ xka = xkb then (1 : Int32) else 0)) ∧ Fr n0 L ∧ h = h0
set_option maxRecDepth 65536 in
set_option maxHeartbeats 40000000 in
theorem rm_feq (l : Launch) (Z : State) (a0 : Array Value) (hw : ∀ d ∈ tables_1, d.before a0 Z = true) (ws : List Jvm.Cond) (ba : Addr) (bb : Addr) (bda : Addr) (bka : Addr) (bdb : Addr) (bkb : Addr) (vda : Addr) (vka : Addr) (vdb : Addr) (vkb : Addr) (kda : ClassId) (kka : ClassId) (kdb : ClassId) (kkb : ClassId) (xda : List Int32) (xka : List Int32) (xdb : List Int32) (xkb : List Int32) (wz : Int32) (h0 : Heap) (n0 : Nat) (O0 : Old Z n0 h0) (P0 : Exa Z h0 bb "com/example/tenorbook/tenorbook/definitions/FloatingRateIndex") (P1 : Fld Z h0 ba "com/example/tenorbook/tenorbook/definitions/FloatingRateIndex" "floatingRateOption" "Ljava/lang/String;" (.ref bda)) (P2 : Fld Z h0 ba "com/example/tenorbook/tenorbook/definitions/FloatingRateIndex" "designatedMaturity" "Ljava/lang/String;" (.ref bka)) (P3 : Fld Z h0 bb "com/example/tenorbook/tenorbook/definitions/FloatingRateIndex" "floatingRateOption" "Ljava/lang/String;" (.ref bdb)) (P4 : Fld Z h0 bb "com/example/tenorbook/tenorbook/definitions/FloatingRateIndex" "designatedMaturity" "Ljava/lang/String;" (.ref bkb)) (P5 : Exa Z h0 bda "java/lang/String") (P6 : Fld Z h0 bda "java/lang/String" "value" "[B" (.ref vda)) (P7 : Fld Z h0 bda "java/lang/String" "coder" "B" (.int (0 : Int32))) (P8 : Arv Z h0 vda kda .byte (Int32.ofNat xda.length) (xda.map Value.int) (.int (0 : Int32))) (P9 : Exa Z h0 bka "java/lang/String") (P10 : Fld Z h0 bka "java/lang/String" "value" "[B" (.ref vka)) (P11 : Fld Z h0 bka "java/lang/String" "coder" "B" (.int (0 : Int32))) (P12 : Arv Z h0 vka kka .byte (Int32.ofNat xka.length) (xka.map Value.int) (.int (0 : Int32))) (P13 : Exa Z h0 bdb "java/lang/String") (P14 : Fld Z h0 bdb "java/lang/String" "value" "[B" (.ref vdb)) (P15 : Fld Z h0 bdb "java/lang/String" "coder" "B" (.int (0 : Int32))) (P16 : Arv Z h0 vdb kdb .byte (Int32.ofNat xdb.length) (xdb.map Value.int) (.int (0 : Int32))) (P17 : Exa Z h0 bkb "java/lang/String") (P18 : Fld Z h0 bkb "java/lang/String" "value" "[B" (.ref vkb)) (P19 : Fld Z h0 bkb "java/lang/String" "coder" "B" (.int (0 : Int32))) (P20 : Arv Z h0 vkb kkb .byte (Int32.ofNat xkb.length) (xkb.map Value.int) (.int (0 : Int32))) (P21 : Sta Z Z.heap "java/lang/String" "COMPACT_STRINGS" "Z" (.int wz)) (hwz : ¬ (wz = (0 : Int32))) (hl_xda : xda.length ≤ 3) (hl_xka : xka.length ≤ 3) (hl_xdb : xdb.length ≤ 3) (hl_xkb : xkb.length ≤ 3) :
    MetFree l (⟨"com/example/tenorbook/tenorbook/definitions/FloatingRateIndex", "equals", "(Ljava/lang/Object;)Z"⟩ : MethodName) (head1 (Jvm.Cond.code (⟨"com/example/tenorbook/tenorbook/definitions/FloatingRateIndex", "equals", "(Ljava/lang/Object;)Z"⟩ : MethodName) prog_18_method_2_code 3 (some .boolean) :: ws) ({ frames := 2, cells := 0, slots := 0, locals := 28 } : Room)) (fun a U => a = #[(.ref ba), (.ref bb)] ∧ Z.Warmed39 U.vm ∧ U.heap = h0) (fun _ _ _ _ _ => True) (fun _ U o U' => ∃ v L, o = .returned v ∧ Q_feq Z ba bb bda bka bdb bkb vda vka vdb vkb kda kka kdb kkb xda xka xdb xkb wz h0 n0 v U'.heap L ∧ FrameEnd U o U' L ({ frames := 2, cells := 0, slots := 0, locals := 28 } : Room).cells ({ frames := 2, cells := 0, slots := 0, locals := 28 } : Room).slots) := by
  refine MetFree.of_bodySF (plainFor_of_name pn_com_example_tenorbook_tenorbook_definitions_FloatingRateIndex) hisR ?_
  intro p e s m args below meth c s₁ Bd hml0 hP hK
  obtain ⟨rfl, hZ, hh⟩ := hP
  have hx := Bd.exec
  have hby := Bd.bytes
  have hml : c.maxLocals = 3 := hml0
  have hown : s.vm.findClass "com/example/tenorbook/tenorbook/definitions/FloatingRateIndex" = some m.cls := findClass_of_methodNamed Bd.named
  have hnm := (name_of_methodNamed Bd.named Bd.method).1
  have hlk : meth.locks = false := BodyLoose.notSynchronized Bd
  have X0 : Stand p l e ({ frames := 2, cells := 0, slots := 0, locals := 28 } : Room) s m #[(.ref ba), (.ref bb)] below meth c s₁ [] 0 0 := Stand.of_body Bd
  have e0 : s₁.heap = h0 := by rw [← hh, Bd.state]; rfl
  have N0 := Fr.nil n0
  rw [ef_feq m ba bb]
  show Go p e below s (fun v h L => Q_feq Z ba bb bda bka bdb bkb vda vka vdb vkb kda kka kdb kkb xda xka xdb xkb wz h0 n0 v h L) ({ frames := 2, cells := 0, slots := 0, locals := 28 } : Room).cells ({ frames := 2, cells := 0, slots := 0, locals := 28 } : Room).slots s₁ (mkF m 0 #[.val (.ref ba), .val (.ref bb), .unset] [])
  refine Go.step (T' := s₁) (f' := (mkF m 1 #[.val (.ref ba), .val (.ref bb), .unset] [(.ref bb)])) (fun t k => XS.aloadN X0.here hx rfl (hb hby d13_0) rfl rfl k) ?_
  obtain ⟨T773, X773, e773, st773⟩ := instY X0 hx hZ hown (hw _ (List.mem_of_getElem? (i := 70) rfl)) e0 (Ins.self P0) (g := (mkF m 1 #[.val (.ref ba), .val (.ref bb), .unset] [(.ref bb)])) rfl rfl (hb hby d13_1)
  refine Go.step (T' := T773) (f' := (mkF m 4 #[.val (.ref ba), .val (.ref bb), .unset] [(.int (1 : Int32))])) st773 ?_
  clear st773 X0
  refine Go.step (T' := T773) (f' := (mkF m 7 #[.val (.ref ba), .val (.ref bb), .unset] [])) (fun t k => XS.ifNo X773.here hx rfl (hb hby d13_4) rfl ((if0 _ _).trans (feq (by decide : ¬ ((1 : Int32) = (0 : Int32)))).1) k) ?_
  refine Go.step (T' := T773) (f' := (mkF m 8 #[.val (.ref ba), .val (.ref bb), .unset] [(.ref bb)])) (fun t k => XS.aloadN X773.here hx rfl (hb hby d13_7) rfl rfl k) ?_
  obtain ⟨T774, X774, e774, st774⟩ := castY X773 hx hZ hown (hw _ (List.mem_of_getElem? (i := 70) rfl)) e773 (Ins.self P0) (g := (mkF m 8 #[.val (.ref ba), .val (.ref bb), .unset] [(.ref bb)])) rfl rfl (hb hby d13_8)
  refine Go.step (T' := T774) (f' := (mkF m 11 #[.val (.ref ba), .val (.ref bb), .unset] [(.ref bb)])) st774 ?_
  clear st774 X773
  refine Go.step (T' := T774) (f' := (mkF m 12 #[.val (.ref ba), .val (.ref bb), .val (.ref bb)] [])) (fun t k => XS.astoreN X774.here hx rfl (hb hby d13_11) rfl rfl (l' := #[.val (.ref ba), .val (.ref bb), .val (.ref bb)]) rfl k) ?_
  refine Go.step (T' := T774) (f' := (mkF m 13 #[.val (.ref ba), .val (.ref bb), .val (.ref bb)] [(.ref ba)])) (fun t k => XS.aloadN X774.here hx rfl (hb hby d13_12) rfl rfl k) ?_
  obtain ⟨T775, X775, e775, st775⟩ := getF X774 hx hZ hown (host := "") (Or.inl (hw _ (List.mem_of_getElem? (i := 58) rfl))) Via.refl e774 P1 (g := (mkF m 13 #[.val (.ref ba), .val (.ref bb), .val (.ref bb)] [(.ref ba)])) rfl rfl (hb hby d13_13)
  refine Go.step (T' := T775) (f' := (mkF m 16 #[.val (.ref ba), .val (.ref bb), .val (.ref bb)] [(.ref bda)])) st775 ?_
  clear st775 X774
  refine Go.step (T' := T775) (f' := (mkF m 17 #[.val (.ref ba), .val (.ref bb), .val (.ref bb)] [(.ref bb), (.ref bda)])) (fun t k => XS.aloadN X775.here hx rfl (hb hby d13_16) rfl rfl k) ?_
  obtain ⟨T776, X776, e776, st776⟩ := getF X775 hx hZ hown (host := "") (Or.inl (hw _ (List.mem_of_getElem? (i := 58) rfl))) Via.refl e775 P3 (g := (mkF m 17 #[.val (.ref ba), .val (.ref bb), .val (.ref bb)] [(.ref bb), (.ref bda)])) rfl rfl (hb hby d13_17)
  refine Go.step (T' := T776) (f' := (mkF m 20 #[.val (.ref ba), .val (.ref bb), .val (.ref bb)] [(.ref bdb), (.ref bda)])) st776 ?_
  clear st776 X775
  obtain ⟨cq777, kq777, q777a, q777b, q777c⟩ := isOf hZ e776 P5
  obtain ⟨_, _, ⟨T777, L777, k777, n777⟩, -, X777, ⟨Lc777, hQ777, l777, y777, z777⟩, st777⟩ := X776.virtualBack hx (y := (⟨"java/lang/String", "equals", "(Ljava/lang/Object;)Z"⟩ : MethodName)) (z := (⟨"java/lang/String", "equals", "(Ljava/lang/Object;)Z"⟩ : MethodName)) hown (mvT hZ (hw _ (List.mem_of_getElem? (i := 72) rfl))) (mvT hZ (hw _ (List.mem_of_getElem? (i := 73) rfl))) (notFace_of_selects (args := #[]) (mvT hZ (hw _ (List.mem_of_getElem? (i := 75) rfl)))) (mvT hZ (hw _ (List.mem_of_getElem? (i := 75) rfl))) (mvT hZ (hw _ (List.mem_of_getElem? (i := 74) rfl))) (by decide) (backOf (W := 0) (rm_seq l Z a0 hw [] bda bdb vda vdb kda kdb xda xdb wz h0 n0 O0 P6 P7 P8 P13 P14 P15 P16 P21 hwz (hl_xda) (hl_xdb)) hZ (hw _ (List.mem_of_getElem? (i := 76) rfl)) (hw _ (List.mem_of_getElem? (i := 9) rfl)) (by decide) (by decide)) q777a q777c (g := (mkF m 20 #[.val (.ref ba), .val (.ref bb), .val (.ref bb)] [(.ref bdb), (.ref bda)])) rfl (by rw [hml]; rfl) (Steps.refl _) (argsL := [(.ref bdb)]) (rest := []) (lenOf pd9 rfl) rfl (by show 2 * 0 + _ ≤ _; exact Nat.le_of_eq rfl) (hb hby d13_20) (fun _ _ => ⟨rfl, e776, (by decide : 0 + 0 ≤ _), (by decide : 0 + 0 ≤ _)⟩)
  dsimp only [Pt.U, Pt.locs, Pt.cells, Pt.slots] at X777 l777 y777 z777 st777 hQ777
  subst l777 y777 z777
  obtain ⟨rfl, Nq777, hh777⟩ := hQ777
  have N778 := Fr.app N0 Nq777
  refine Go.via (T' := T777) (f' := (mkF m 23 #[.val (.ref ba), .val (.ref bb), .val (.ref bb)] [(.int (if xda = xdb then (1 : Int32) else 0))])) st777 ?_
  clear st777 X776 Nq777
  by_cases hc779 : (if xda = xdb then (1 : Int32) else 0) = (0 : Int32)
  ·
    refine Go.step (T' := T777) (f' := (mkF m 44 #[.val (.ref ba), .val (.ref bb), .val (.ref bb)] [])) (fun t k => XS.ifYes X777.here hx rfl (pc0 := 23) (pc' := 44) rfl (hb hby d13_23) rfl ((if0 _ _).trans (teq hc779).1) (by decide) (by decide) k) ?_
    refine Go.step (T' := T777) (f' := (mkF m 45 #[.val (.ref ba), .val (.ref bb), .val (.ref bb)] [(.int (0 : Int32))])) (fun t k => XS.iconst X777.here hx rfl (hb hby d13_44) k) ?_
    refine Go.retZ X777 hx hlk (t := .boolean) Bd.returns (by simp) (hb hby d13_45) hh777 ?_ (by decide) (by decide)
    exact ⟨by simp_all [nar], N778, rfl⟩
  ·
    refine Go.step (T' := T777) (f' := (mkF m 26 #[.val (.ref ba), .val (.ref bb), .val (.ref bb)] [])) (fun t k => XS.ifNo X777.here hx rfl (hb hby d13_23) rfl ((if0 _ _).trans (feq hc779).1) k) ?_
    refine Go.step (T' := T777) (f' := (mkF m 27 #[.val (.ref ba), .val (.ref bb), .val (.ref bb)] [(.ref ba)])) (fun t k => XS.aloadN X777.here hx rfl (hb hby d13_26) rfl rfl k) ?_
    obtain ⟨T780, X780, e780, st780⟩ := getF X777 hx hZ hown (host := "") (Or.inl (hw _ (List.mem_of_getElem? (i := 60) rfl))) Via.refl hh777 P2 (g := (mkF m 27 #[.val (.ref ba), .val (.ref bb), .val (.ref bb)] [(.ref ba)])) rfl rfl (hb hby d13_27)
    refine Go.step (T' := T780) (f' := (mkF m 30 #[.val (.ref ba), .val (.ref bb), .val (.ref bb)] [(.ref bka)])) st780 ?_
    clear st780 X777
    refine Go.step (T' := T780) (f' := (mkF m 31 #[.val (.ref ba), .val (.ref bb), .val (.ref bb)] [(.ref bb), (.ref bka)])) (fun t k => XS.aloadN X780.here hx rfl (hb hby d13_30) rfl rfl k) ?_
    obtain ⟨T781, X781, e781, st781⟩ := getF X780 hx hZ hown (host := "") (Or.inl (hw _ (List.mem_of_getElem? (i := 60) rfl))) Via.refl e780 P4 (g := (mkF m 31 #[.val (.ref ba), .val (.ref bb), .val (.ref bb)] [(.ref bb), (.ref bka)])) rfl rfl (hb hby d13_31)
    refine Go.step (T' := T781) (f' := (mkF m 34 #[.val (.ref ba), .val (.ref bb), .val (.ref bb)] [(.ref bkb), (.ref bka)])) st781 ?_
    clear st781 X780
    obtain ⟨cq782, kq782, q782a, q782b, q782c⟩ := isOf hZ e781 P9
    obtain ⟨_, _, ⟨T782, L782, k782, n782⟩, -, X782, ⟨Lc782, hQ782, l782, y782, z782⟩, st782⟩ := X781.virtualBack hx (y := (⟨"java/lang/String", "equals", "(Ljava/lang/Object;)Z"⟩ : MethodName)) (z := (⟨"java/lang/String", "equals", "(Ljava/lang/Object;)Z"⟩ : MethodName)) hown (mvT hZ (hw _ (List.mem_of_getElem? (i := 72) rfl))) (mvT hZ (hw _ (List.mem_of_getElem? (i := 73) rfl))) (notFace_of_selects (args := #[]) (mvT hZ (hw _ (List.mem_of_getElem? (i := 75) rfl)))) (mvT hZ (hw _ (List.mem_of_getElem? (i := 75) rfl))) (mvT hZ (hw _ (List.mem_of_getElem? (i := 74) rfl))) (by decide) (backOf (W := 0) (rm_seq l Z a0 hw [] bka bkb vka vkb kka kkb xka xkb wz h0 n0 O0 P10 P11 P12 P17 P18 P19 P20 P21 hwz (hl_xka) (hl_xkb)) hZ (hw _ (List.mem_of_getElem? (i := 76) rfl)) (hw _ (List.mem_of_getElem? (i := 9) rfl)) (by decide) (by decide)) q782a q782c (g := (mkF m 34 #[.val (.ref ba), .val (.ref bb), .val (.ref bb)] [(.ref bkb), (.ref bka)])) rfl (by rw [hml]; rfl) (Steps.refl _) (argsL := [(.ref bkb)]) (rest := []) (lenOf pd9 rfl) rfl (by show 2 * 0 + _ ≤ _; exact Nat.le_of_eq rfl) (hb hby d13_34) (fun _ _ => ⟨rfl, e781, (by decide : 0 + 0 ≤ _), (by decide : 0 + 0 ≤ _)⟩)
    dsimp only [Pt.U, Pt.locs, Pt.cells, Pt.slots] at X782 l782 y782 z782 st782 hQ782
    subst l782 y782 z782
    obtain ⟨rfl, Nq782, hh782⟩ := hQ782
    have N783 := Fr.app N778 Nq782
    refine Go.via (T' := T782) (f' := (mkF m 37 #[.val (.ref ba), .val (.ref bb), .val (.ref bb)] [(.int (if xka = xkb then (1 : Int32) else 0))])) st782 ?_
    clear st782 X781 N778 Nq782
    by_cases hc784 : (if xka = xkb then (1 : Int32) else 0) = (0 : Int32)
    ·
      refine Go.step (T' := T782) (f' := (mkF m 44 #[.val (.ref ba), .val (.ref bb), .val (.ref bb)] [])) (fun t k => XS.ifYes X782.here hx rfl (pc0 := 37) (pc' := 44) rfl (hb hby d13_37) rfl ((if0 _ _).trans (teq hc784).1) (by decide) (by decide) k) ?_
      refine Go.step (T' := T782) (f' := (mkF m 45 #[.val (.ref ba), .val (.ref bb), .val (.ref bb)] [(.int (0 : Int32))])) (fun t k => XS.iconst X782.here hx rfl (hb hby d13_44) k) ?_
      refine Go.retZ X782 hx hlk (t := .boolean) Bd.returns (by simp) (hb hby d13_45) hh782 ?_ (by decide) (by decide)
      exact ⟨by simp_all [nar], N783, rfl⟩
    ·
      refine Go.step (T' := T782) (f' := (mkF m 40 #[.val (.ref ba), .val (.ref bb), .val (.ref bb)] [])) (fun t k => XS.ifNo X782.here hx rfl (hb hby d13_37) rfl ((if0 _ _).trans (feq hc784).1) k) ?_
      refine Go.step (T' := T782) (f' := (mkF m 41 #[.val (.ref ba), .val (.ref bb), .val (.ref bb)] [(.int (1 : Int32))])) (fun t k => XS.iconst X782.here hx rfl (hb hby d13_40) k) ?_
      refine Go.step (T' := T782) (f' := (mkF m 45 #[.val (.ref ba), .val (.ref bb), .val (.ref bb)] [(.int (1 : Int32))])) (fun t k => XS.goto X782.here hx rfl (pc0 := 41) (pc' := 45) rfl (hb hby d13_41) (by decide) (by decide) k) ?_
      refine Go.retZ X782 hx hlk (t := .boolean) Bd.returns (by simp) (hb hby d13_45) hh782 ?_ (by decide) (by decide)
      exact ⟨by simp_all [nar], N783, rfl⟩
theorem ef_feq1 (m : MethodId) (ba : Addr) : entryFrame m #[(.ref ba), (.ref ba)] 3 = mkF m 0 #[.val (.ref ba), .val (.ref ba), .unset] [] := by first | (simp [entryFrame, mkF, argsToLocals, Value.category]; done) | rfl
def Q_feq1 (Z : State) (ba : Addr) (bda : Addr) (bka : Addr) (h0 : Heap) (n0 : Nat) (v : Option Value) (h : Heap) (L : List Loc) : Prop := v = some (.int (1 : Int32)) ∧ Fr n0 L ∧ h = h0
set_option maxRecDepth 65536 in
set_option maxHeartbeats 40000000 in
theorem rm_feq1 (l : Launch) (Z : State) (a0 : Array Value) (hw : ∀ d ∈ tables_1, d.before a0 Z = true) (ws : List Jvm.Cond) (ba : Addr) (bda : Addr) (bka : Addr) (h0 : Heap) (n0 : Nat) (O0 : Old Z n0 h0) (P0 : Exa Z h0 ba "com/example/tenorbook/tenorbook/definitions/FloatingRateIndex") (P1 : Fld Z h0 ba "com/example/tenorbook/tenorbook/definitions/FloatingRateIndex" "floatingRateOption" "Ljava/lang/String;" (.ref bda)) (P2 : Fld Z h0 ba "com/example/tenorbook/tenorbook/definitions/FloatingRateIndex" "designatedMaturity" "Ljava/lang/String;" (.ref bka)) (P3 : Exa Z h0 bda "java/lang/String") (P4 : Exa Z h0 bka "java/lang/String") :
    MetFree l (⟨"com/example/tenorbook/tenorbook/definitions/FloatingRateIndex", "equals", "(Ljava/lang/Object;)Z"⟩ : MethodName) (head1 (Jvm.Cond.code (⟨"com/example/tenorbook/tenorbook/definitions/FloatingRateIndex", "equals", "(Ljava/lang/Object;)Z"⟩ : MethodName) prog_18_method_2_code 3 (some .boolean) :: ws) ({ frames := 1, cells := 0, slots := 0, locals := 14 } : Room)) (fun a U => a = #[(.ref ba), (.ref ba)] ∧ Z.Warmed39 U.vm ∧ U.heap = h0) (fun _ _ _ _ _ => True) (fun _ U o U' => ∃ v L, o = .returned v ∧ Q_feq1 Z ba bda bka h0 n0 v U'.heap L ∧ FrameEnd U o U' L ({ frames := 1, cells := 0, slots := 0, locals := 14 } : Room).cells ({ frames := 1, cells := 0, slots := 0, locals := 14 } : Room).slots) := by
  refine MetFree.of_bodySF (plainFor_of_name pn_com_example_tenorbook_tenorbook_definitions_FloatingRateIndex) hisR ?_
  intro p e s m args below meth c s₁ Bd hml0 hP hK
  obtain ⟨rfl, hZ, hh⟩ := hP
  have hx := Bd.exec
  have hby := Bd.bytes
  have hml : c.maxLocals = 3 := hml0
  have hown : s.vm.findClass "com/example/tenorbook/tenorbook/definitions/FloatingRateIndex" = some m.cls := findClass_of_methodNamed Bd.named
  have hnm := (name_of_methodNamed Bd.named Bd.method).1
  have hlk : meth.locks = false := BodyLoose.notSynchronized Bd
  have X0 : Stand p l e ({ frames := 1, cells := 0, slots := 0, locals := 14 } : Room) s m #[(.ref ba), (.ref ba)] below meth c s₁ [] 0 0 := Stand.of_body Bd
  have e0 : s₁.heap = h0 := by rw [← hh, Bd.state]; rfl
  have N0 := Fr.nil n0
  rw [ef_feq1 m ba]
  show Go p e below s (fun v h L => Q_feq1 Z ba bda bka h0 n0 v h L) ({ frames := 1, cells := 0, slots := 0, locals := 14 } : Room).cells ({ frames := 1, cells := 0, slots := 0, locals := 14 } : Room).slots s₁ (mkF m 0 #[.val (.ref ba), .val (.ref ba), .unset] [])
  refine Go.step (T' := s₁) (f' := (mkF m 1 #[.val (.ref ba), .val (.ref ba), .unset] [(.ref ba)])) (fun t k => XS.aloadN X0.here hx rfl (hb hby d13_0) rfl rfl k) ?_
  obtain ⟨T785, X785, e785, st785⟩ := instY X0 hx hZ hown (hw _ (List.mem_of_getElem? (i := 70) rfl)) e0 (Ins.self P0) (g := (mkF m 1 #[.val (.ref ba), .val (.ref ba), .unset] [(.ref ba)])) rfl rfl (hb hby d13_1)
  refine Go.step (T' := T785) (f' := (mkF m 4 #[.val (.ref ba), .val (.ref ba), .unset] [(.int (1 : Int32))])) st785 ?_
  clear st785 X0
  refine Go.step (T' := T785) (f' := (mkF m 7 #[.val (.ref ba), .val (.ref ba), .unset] [])) (fun t k => XS.ifNo X785.here hx rfl (hb hby d13_4) rfl ((if0 _ _).trans (feq (by decide : ¬ ((1 : Int32) = (0 : Int32)))).1) k) ?_
  refine Go.step (T' := T785) (f' := (mkF m 8 #[.val (.ref ba), .val (.ref ba), .unset] [(.ref ba)])) (fun t k => XS.aloadN X785.here hx rfl (hb hby d13_7) rfl rfl k) ?_
  obtain ⟨T786, X786, e786, st786⟩ := castY X785 hx hZ hown (hw _ (List.mem_of_getElem? (i := 70) rfl)) e785 (Ins.self P0) (g := (mkF m 8 #[.val (.ref ba), .val (.ref ba), .unset] [(.ref ba)])) rfl rfl (hb hby d13_8)
  refine Go.step (T' := T786) (f' := (mkF m 11 #[.val (.ref ba), .val (.ref ba), .unset] [(.ref ba)])) st786 ?_
  clear st786 X785
  refine Go.step (T' := T786) (f' := (mkF m 12 #[.val (.ref ba), .val (.ref ba), .val (.ref ba)] [])) (fun t k => XS.astoreN X786.here hx rfl (hb hby d13_11) rfl rfl (l' := #[.val (.ref ba), .val (.ref ba), .val (.ref ba)]) rfl k) ?_
  refine Go.step (T' := T786) (f' := (mkF m 13 #[.val (.ref ba), .val (.ref ba), .val (.ref ba)] [(.ref ba)])) (fun t k => XS.aloadN X786.here hx rfl (hb hby d13_12) rfl rfl k) ?_
  obtain ⟨T787, X787, e787, st787⟩ := getF X786 hx hZ hown (host := "") (Or.inl (hw _ (List.mem_of_getElem? (i := 58) rfl))) Via.refl e786 P1 (g := (mkF m 13 #[.val (.ref ba), .val (.ref ba), .val (.ref ba)] [(.ref ba)])) rfl rfl (hb hby d13_13)
  refine Go.step (T' := T787) (f' := (mkF m 16 #[.val (.ref ba), .val (.ref ba), .val (.ref ba)] [(.ref bda)])) st787 ?_
  clear st787 X786
  refine Go.step (T' := T787) (f' := (mkF m 17 #[.val (.ref ba), .val (.ref ba), .val (.ref ba)] [(.ref ba), (.ref bda)])) (fun t k => XS.aloadN X787.here hx rfl (hb hby d13_16) rfl rfl k) ?_
  obtain ⟨T788, X788, e788, st788⟩ := getF X787 hx hZ hown (host := "") (Or.inl (hw _ (List.mem_of_getElem? (i := 58) rfl))) Via.refl e787 P1 (g := (mkF m 17 #[.val (.ref ba), .val (.ref ba), .val (.ref ba)] [(.ref ba), (.ref bda)])) rfl rfl (hb hby d13_17)
  refine Go.step (T' := T788) (f' := (mkF m 20 #[.val (.ref ba), .val (.ref ba), .val (.ref ba)] [(.ref bda), (.ref bda)])) st788 ?_
  clear st788 X787
  obtain ⟨cq789, kq789, q789a, q789b, q789c⟩ := isOf hZ e788 P3
  obtain ⟨_, _, ⟨T789, L789, k789, n789⟩, -, X789, ⟨Lc789, hQ789, l789, y789, z789⟩, st789⟩ := X788.virtualBack hx (y := (⟨"java/lang/String", "equals", "(Ljava/lang/Object;)Z"⟩ : MethodName)) (z := (⟨"java/lang/String", "equals", "(Ljava/lang/Object;)Z"⟩ : MethodName)) hown (mvT hZ (hw _ (List.mem_of_getElem? (i := 72) rfl))) (mvT hZ (hw _ (List.mem_of_getElem? (i := 73) rfl))) (notFace_of_selects (args := #[]) (mvT hZ (hw _ (List.mem_of_getElem? (i := 75) rfl)))) (mvT hZ (hw _ (List.mem_of_getElem? (i := 75) rfl))) (mvT hZ (hw _ (List.mem_of_getElem? (i := 74) rfl))) (by decide) (backOf (W := 0) (rm_seq1 l Z a0 hw [] bda h0 n0 O0 ) hZ (hw _ (List.mem_of_getElem? (i := 76) rfl)) (hw _ (List.mem_of_getElem? (i := 9) rfl)) (by decide) (by decide)) q789a q789c (g := (mkF m 20 #[.val (.ref ba), .val (.ref ba), .val (.ref ba)] [(.ref bda), (.ref bda)])) rfl (by rw [hml]; rfl) (Steps.refl _) (argsL := [(.ref bda)]) (rest := []) (lenOf pd9 rfl) rfl (by show 2 * 0 + _ ≤ _; exact Nat.le_of_eq rfl) (hb hby d13_20) (fun _ _ => ⟨rfl, e788, (by decide : 0 + 0 ≤ _), (by decide : 0 + 0 ≤ _)⟩)
  dsimp only [Pt.U, Pt.locs, Pt.cells, Pt.slots] at X789 l789 y789 z789 st789 hQ789
  subst l789 y789 z789
  obtain ⟨rfl, Nq789, hh789⟩ := hQ789
  have N790 := Fr.app N0 Nq789
  refine Go.via (T' := T789) (f' := (mkF m 23 #[.val (.ref ba), .val (.ref ba), .val (.ref ba)] [(.int (1 : Int32))])) st789 ?_
  clear st789 X788 Nq789
  refine Go.step (T' := T789) (f' := (mkF m 26 #[.val (.ref ba), .val (.ref ba), .val (.ref ba)] [])) (fun t k => XS.ifNo X789.here hx rfl (hb hby d13_23) rfl ((if0 _ _).trans (feq (by decide : ¬ ((1 : Int32) = (0 : Int32)))).1) k) ?_
  refine Go.step (T' := T789) (f' := (mkF m 27 #[.val (.ref ba), .val (.ref ba), .val (.ref ba)] [(.ref ba)])) (fun t k => XS.aloadN X789.here hx rfl (hb hby d13_26) rfl rfl k) ?_
  obtain ⟨T791, X791, e791, st791⟩ := getF X789 hx hZ hown (host := "") (Or.inl (hw _ (List.mem_of_getElem? (i := 60) rfl))) Via.refl hh789 P2 (g := (mkF m 27 #[.val (.ref ba), .val (.ref ba), .val (.ref ba)] [(.ref ba)])) rfl rfl (hb hby d13_27)
  refine Go.step (T' := T791) (f' := (mkF m 30 #[.val (.ref ba), .val (.ref ba), .val (.ref ba)] [(.ref bka)])) st791 ?_
  clear st791 X789
  refine Go.step (T' := T791) (f' := (mkF m 31 #[.val (.ref ba), .val (.ref ba), .val (.ref ba)] [(.ref ba), (.ref bka)])) (fun t k => XS.aloadN X791.here hx rfl (hb hby d13_30) rfl rfl k) ?_
  obtain ⟨T792, X792, e792, st792⟩ := getF X791 hx hZ hown (host := "") (Or.inl (hw _ (List.mem_of_getElem? (i := 60) rfl))) Via.refl e791 P2 (g := (mkF m 31 #[.val (.ref ba), .val (.ref ba), .val (.ref ba)] [(.ref ba), (.ref bka)])) rfl rfl (hb hby d13_31)
  refine Go.step (T' := T792) (f' := (mkF m 34 #[.val (.ref ba), .val (.ref ba), .val (.ref ba)] [(.ref bka), (.ref bka)])) st792 ?_
  clear st792 X791
  obtain ⟨cq793, kq793, q793a, q793b, q793c⟩ := isOf hZ e792 P4
  obtain ⟨_, _, ⟨T793, L793, k793, n793⟩, -, X793, ⟨Lc793, hQ793, l793, y793, z793⟩, st793⟩ := X792.virtualBack hx (y := (⟨"java/lang/String", "equals", "(Ljava/lang/Object;)Z"⟩ : MethodName)) (z := (⟨"java/lang/String", "equals", "(Ljava/lang/Object;)Z"⟩ : MethodName)) hown (mvT hZ (hw _ (List.mem_of_getElem? (i := 72) rfl))) (mvT hZ (hw _ (List.mem_of_getElem? (i := 73) rfl))) (notFace_of_selects (args := #[]) (mvT hZ (hw _ (List.mem_of_getElem? (i := 75) rfl)))) (mvT hZ (hw _ (List.mem_of_getElem? (i := 75) rfl))) (mvT hZ (hw _ (List.mem_of_getElem? (i := 74) rfl))) (by decide) (backOf (W := 0) (rm_seq1 l Z a0 hw [] bka h0 n0 O0 ) hZ (hw _ (List.mem_of_getElem? (i := 76) rfl)) (hw _ (List.mem_of_getElem? (i := 9) rfl)) (by decide) (by decide)) q793a q793c (g := (mkF m 34 #[.val (.ref ba), .val (.ref ba), .val (.ref ba)] [(.ref bka), (.ref bka)])) rfl (by rw [hml]; rfl) (Steps.refl _) (argsL := [(.ref bka)]) (rest := []) (lenOf pd9 rfl) rfl (by show 2 * 0 + _ ≤ _; exact Nat.le_of_eq rfl) (hb hby d13_34) (fun _ _ => ⟨rfl, e792, (by decide : 0 + 0 ≤ _), (by decide : 0 + 0 ≤ _)⟩)
  dsimp only [Pt.U, Pt.locs, Pt.cells, Pt.slots] at X793 l793 y793 z793 st793 hQ793
  subst l793 y793 z793
  obtain ⟨rfl, Nq793, hh793⟩ := hQ793
  have N794 := Fr.app N790 Nq793
  refine Go.via (T' := T793) (f' := (mkF m 37 #[.val (.ref ba), .val (.ref ba), .val (.ref ba)] [(.int (1 : Int32))])) st793 ?_
  clear st793 X792 N790 Nq793
  refine Go.step (T' := T793) (f' := (mkF m 40 #[.val (.ref ba), .val (.ref ba), .val (.ref ba)] [])) (fun t k => XS.ifNo X793.here hx rfl (hb hby d13_37) rfl ((if0 _ _).trans (feq (by decide : ¬ ((1 : Int32) = (0 : Int32)))).1) k) ?_
  refine Go.step (T' := T793) (f' := (mkF m 41 #[.val (.ref ba), .val (.ref ba), .val (.ref ba)] [(.int (1 : Int32))])) (fun t k => XS.iconst X793.here hx rfl (hb hby d13_40) k) ?_
  refine Go.step (T' := T793) (f' := (mkF m 45 #[.val (.ref ba), .val (.ref ba), .val (.ref ba)] [(.int (1 : Int32))])) (fun t k => XS.goto X793.here hx rfl (pc0 := 41) (pc' := 45) rfl (hb hby d13_41) (by decide) (by decide) k) ?_
  refine Go.retZ X793 hx hlk (t := .boolean) Bd.returns (by simp) (hb hby d13_45) hh793 ?_ (by decide) (by decide)
  exact ⟨rfl, N794, rfl⟩
theorem ef_feqN (m : MethodId) (ba : Addr) : entryFrame m #[(.ref ba), .null] 3 = mkF m 0 #[.val (.ref ba), .val .null, .unset] [] := by first | (simp [entryFrame, mkF, argsToLocals, Value.category]; done) | rfl
def Q_feqN (Z : State) (ba : Addr) (h0 : Heap) (n0 : Nat) (v : Option Value) (h : Heap) (L : List Loc) : Prop := v = some (.int (0 : Int32)) ∧ Fr n0 L ∧ h = h0
set_option maxRecDepth 65536 in
set_option maxHeartbeats 40000000 in
theorem rm_feqN (l : Launch) (Z : State) (a0 : Array Value) (hw : ∀ d ∈ tables_1, d.before a0 Z = true) (ws : List Jvm.Cond) (ba : Addr) (h0 : Heap) (n0 : Nat) (O0 : Old Z n0 h0) :
    MetFree l (⟨"com/example/tenorbook/tenorbook/definitions/FloatingRateIndex", "equals", "(Ljava/lang/Object;)Z"⟩ : MethodName) (head1 (Jvm.Cond.code (⟨"com/example/tenorbook/tenorbook/definitions/FloatingRateIndex", "equals", "(Ljava/lang/Object;)Z"⟩ : MethodName) prog_18_method_2_code 3 (some .boolean) :: ws) ({ frames := 0, cells := 0, slots := 0, locals := 0 } : Room)) (fun a U => a = #[(.ref ba), .null] ∧ Z.Warmed39 U.vm ∧ U.heap = h0) (fun _ _ _ _ _ => True) (fun _ U o U' => ∃ v L, o = .returned v ∧ Q_feqN Z ba h0 n0 v U'.heap L ∧ FrameEnd U o U' L ({ frames := 0, cells := 0, slots := 0, locals := 0 } : Room).cells ({ frames := 0, cells := 0, slots := 0, locals := 0 } : Room).slots) := by
  refine MetFree.of_bodySF (plainFor_of_name pn_com_example_tenorbook_tenorbook_definitions_FloatingRateIndex) hisR ?_
  intro p e s m args below meth c s₁ Bd hml0 hP hK
  obtain ⟨rfl, hZ, hh⟩ := hP
  have hx := Bd.exec
  have hby := Bd.bytes
  have hml : c.maxLocals = 3 := hml0
  have hown : s.vm.findClass "com/example/tenorbook/tenorbook/definitions/FloatingRateIndex" = some m.cls := findClass_of_methodNamed Bd.named
  have hnm := (name_of_methodNamed Bd.named Bd.method).1
  have hlk : meth.locks = false := BodyLoose.notSynchronized Bd
  have X0 : Stand p l e ({ frames := 0, cells := 0, slots := 0, locals := 0 } : Room) s m #[(.ref ba), .null] below meth c s₁ [] 0 0 := Stand.of_body Bd
  have e0 : s₁.heap = h0 := by rw [← hh, Bd.state]; rfl
  have N0 := Fr.nil n0
  rw [ef_feqN m ba]
  show Go p e below s (fun v h L => Q_feqN Z ba h0 n0 v h L) ({ frames := 0, cells := 0, slots := 0, locals := 0 } : Room).cells ({ frames := 0, cells := 0, slots := 0, locals := 0 } : Room).slots s₁ (mkF m 0 #[.val (.ref ba), .val .null, .unset] [])
  refine Go.step (T' := s₁) (f' := (mkF m 1 #[.val (.ref ba), .val .null, .unset] [.null])) (fun t k => XS.aloadN X0.here hx rfl (hb hby d13_0) rfl rfl k) ?_
  refine Go.step (T' := s₁) (f' := (mkF m 4 #[.val (.ref ba), .val .null, .unset] [(.int (0 : Int32))])) (fun t k => X0.instanceofNull hx (g := (mkF m 1 #[.val (.ref ba), .val .null, .unset] [.null])) rfl rfl (hb hby d13_1) t k) ?_
  refine Go.step (T' := s₁) (f' := (mkF m 44 #[.val (.ref ba), .val .null, .unset] [])) (fun t k => XS.ifYes X0.here hx rfl (pc0 := 4) (pc' := 44) rfl (hb hby d13_4) rfl ((if0 _ _).trans (teq (by decide : (0 : Int32) = (0 : Int32))).1) (by decide) (by decide) k) ?_
  refine Go.step (T' := s₁) (f' := (mkF m 45 #[.val (.ref ba), .val .null, .unset] [(.int (0 : Int32))])) (fun t k => XS.iconst X0.here hx rfl (hb hby d13_44) k) ?_
  refine Go.retZ X0 hx hlk (t := .boolean) Bd.returns (by simp) (hb hby d13_45) e0 ?_ (by decide) (by decide)
  exact ⟨rfl, N0, rfl⟩
theorem ef_feqS (m : MethodId) (ba : Addr) (bb : Addr) : entryFrame m #[(.ref ba), (.ref bb)] 3 = mkF m 0 #[.val (.ref ba), .val (.ref bb), .unset] [] := by first | (simp [entryFrame, mkF, argsToLocals, Value.category]; done) | rfl
def Q_feqS (Z : State) (ba : Addr) (bb : Addr) (h0 : Heap) (n0 : Nat) (v : Option Value) (h : Heap) (L : List Loc) : Prop := v = some (.int (0 : Int32)) ∧ Fr n0 L ∧ h = h0
set_option maxRecDepth 65536 in
set_option maxHeartbeats 40000000 in
theorem rm_feqS (l : Launch) (Z : State) (a0 : Array Value) (hw : ∀ d ∈ tables_1, d.before a0 Z = true) (ws : List Jvm.Cond) (ba : Addr) (bb : Addr) (h0 : Heap) (n0 : Nat) (O0 : Old Z n0 h0) (P0 : Exa Z h0 bb "java/lang/String") :
    MetFree l (⟨"com/example/tenorbook/tenorbook/definitions/FloatingRateIndex", "equals", "(Ljava/lang/Object;)Z"⟩ : MethodName) (head1 (Jvm.Cond.code (⟨"com/example/tenorbook/tenorbook/definitions/FloatingRateIndex", "equals", "(Ljava/lang/Object;)Z"⟩ : MethodName) prog_18_method_2_code 3 (some .boolean) :: ws) ({ frames := 0, cells := 0, slots := 0, locals := 0 } : Room)) (fun a U => a = #[(.ref ba), (.ref bb)] ∧ Z.Warmed39 U.vm ∧ U.heap = h0) (fun _ _ _ _ _ => True) (fun _ U o U' => ∃ v L, o = .returned v ∧ Q_feqS Z ba bb h0 n0 v U'.heap L ∧ FrameEnd U o U' L ({ frames := 0, cells := 0, slots := 0, locals := 0 } : Room).cells ({ frames := 0, cells := 0, slots := 0, locals := 0 } : Room).slots) := by
  refine MetFree.of_bodySF (plainFor_of_name pn_com_example_tenorbook_tenorbook_definitions_FloatingRateIndex) hisR ?_
  intro p e s m args below meth c s₁ Bd hml0 hP hK
  obtain ⟨rfl, hZ, hh⟩ := hP
  have hx := Bd.exec
  have hby := Bd.bytes
  have hml : c.maxLocals = 3 := hml0
  have hown : s.vm.findClass "com/example/tenorbook/tenorbook/definitions/FloatingRateIndex" = some m.cls := findClass_of_methodNamed Bd.named
  have hnm := (name_of_methodNamed Bd.named Bd.method).1
  have hlk : meth.locks = false := BodyLoose.notSynchronized Bd
  have X0 : Stand p l e ({ frames := 0, cells := 0, slots := 0, locals := 0 } : Room) s m #[(.ref ba), (.ref bb)] below meth c s₁ [] 0 0 := Stand.of_body Bd
  have e0 : s₁.heap = h0 := by rw [← hh, Bd.state]; rfl
  have N0 := Fr.nil n0
  rw [ef_feqS m ba bb]
  show Go p e below s (fun v h L => Q_feqS Z ba bb h0 n0 v h L) ({ frames := 0, cells := 0, slots := 0, locals := 0 } : Room).cells ({ frames := 0, cells := 0, slots := 0, locals := 0 } : Room).slots s₁ (mkF m 0 #[.val (.ref ba), .val (.ref bb), .unset] [])
  refine Go.step (T' := s₁) (f' := (mkF m 1 #[.val (.ref ba), .val (.ref bb), .unset] [(.ref bb)])) (fun t k => XS.aloadN X0.here hx rfl (hb hby d13_0) rfl rfl k) ?_
  obtain ⟨T795, X795, e795, st795⟩ := instNo X0 hx hZ hown (hw _ (List.mem_of_getElem? (i := 70) rfl)) e0 P0 (own_ns_no (hw _ (List.mem_of_getElem? (i := 82) rfl)) (hw _ (List.mem_of_getElem? (i := 41) rfl)) (NS.step (hw _ (List.mem_of_getElem? (i := 82) rfl)) (own_ns_root (hw _ (List.mem_of_getElem? (i := 83) rfl)) (hw _ (List.mem_of_getElem? (i := 41) rfl)) (by decide)) (by decide)) (by decide)) (g := (mkF m 1 #[.val (.ref ba), .val (.ref bb), .unset] [(.ref bb)])) rfl rfl (hb hby d13_1)
  refine Go.step (T' := T795) (f' := (mkF m 4 #[.val (.ref ba), .val (.ref bb), .unset] [(.int (0 : Int32))])) st795 ?_
  clear st795 X0
  refine Go.step (T' := T795) (f' := (mkF m 44 #[.val (.ref ba), .val (.ref bb), .unset] [])) (fun t k => XS.ifYes X795.here hx rfl (pc0 := 4) (pc' := 44) rfl (hb hby d13_4) rfl ((if0 _ _).trans (teq (by decide : (0 : Int32) = (0 : Int32))).1) (by decide) (by decide) k) ?_
  refine Go.step (T' := T795) (f' := (mkF m 45 #[.val (.ref ba), .val (.ref bb), .unset] [(.int (0 : Int32))])) (fun t k => XS.iconst X795.here hx rfl (hb hby d13_44) k) ?_
  refine Go.retZ X795 hx hlk (t := .boolean) Bd.returns (by simp) (hb hby d13_45) e795 ?_ (by decide) (by decide)
  exact ⟨rfl, N0, rfl⟩
theorem pd10 : parseMethodDescriptor "(I)Ljava/lang/String;" = some ⟨[.int], some (.object "java/lang/String")⟩ := by decide +kernel
theorem pd11 : parseMethodDescriptor "(Ljava/lang/String;Ljava/lang/String;)V" = some ⟨[(.object "java/lang/String"), (.object "java/lang/String")], none⟩ := by decide +kernel
theorem pd12 : parseMethodDescriptor "(II)Z" = some ⟨[.int, .int], some .boolean⟩ := by decide +kernel
theorem ef_law (m : MethodId) (ia : Int32) (ib : Int32) (ic : Int32) (ie : Int32) (ig : Int32) : entryFrame m #[(.int ia), (.int ib), (.int ic), (.int ie), (.int ig)] maxLocals = mkF m 0 #[.val (.int ia), .val (.int ib), .val (.int ic), .val (.int ie), .val (.int ig), .unset, .unset, .unset, .unset, .unset, .unset, .unset, .unset, .unset, .unset, .unset, .unset] [] := by first | (simp [entryFrame, mkF, argsToLocals, Value.category, maxLocals]; done) | rfl
def Q_law (Z : State) (ia : Int32) (ib : Int32) (ic : Int32) (ie : Int32) (ig : Int32) (wz : Int32) (h0 : Heap) (n0 : Nat) (v : Option Value) (h : Heap) (L : List Loc) : Prop := v = some (.int (1 : Int32)) ∧ Fr n0 L ∧ Keep h0 h []
set_option maxRecDepth 65536 in
set_option maxHeartbeats 40000000 in
theorem rm_law (l : Launch) (Z : State) (a0 : Array Value) (hw : ∀ d ∈ tables_1, d.before a0 Z = true) (ws : List Jvm.Cond) (ia : Int32) (ib : Int32) (ic : Int32) (ie : Int32) (ig : Int32) (wz : Int32) (h0 : Heap) (n0 : Nat) (O0 : Old Z n0 h0) (hEL : EW Z a0 own_EL) (P0 : Sta Z Z.heap "java/lang/String" "COMPACT_STRINGS" "Z" (.int wz)) (hwz : ¬ (wz = (0 : Int32))) :
    MetFree l x (head1 (Jvm.Cond.code x code maxLocals ret :: ws) room_1) (fun a U => a = #[(.int ia), (.int ib), (.int ic), (.int ie), (.int ig)] ∧ Z.Warmed39 U.vm ∧ U.heap = h0 ∧ CHv Z own_EL U.vm h0) (fun _ _ _ _ _ => True) (fun _ U o U' => ∃ v L, o = .returned v ∧ Q_law Z ia ib ic ie ig wz h0 n0 v U'.heap L ∧ CHr Z own_EL U.vm U.heap U'.vm U'.heap ∧ ReturnedEndW U o U' L room_1.cells room_1.slots) := by
  refine MetFree.of_bodySF (plainFor_of_name pn_com_example_tenorbook_tenorbook_definitions_FloatingRateIndexEqualsPinLaw) hisR ?_
  intro p e s m args below meth c s₁ Bd hml0 hP hK
  obtain ⟨rfl, hZ, hh, hC0⟩ := hP
  have hx := Bd.exec
  have hby := Bd.bytes
  have hml : c.maxLocals = 17 := hml0
  have hown : (s.setVm s.vm).vm.findClass "com/example/tenorbook/tenorbook/definitions/FloatingRateIndexEqualsPinLaw" = some m.cls := findClass_of_methodNamed Bd.named
  have hnm := (name_of_methodNamed Bd.named Bd.method).1
  have hlk : meth.locks = false := BodyLoose.notSynchronized Bd
  have X0 : Stand p l e room_1 (s.setVm s.vm) m #[(.int ia), (.int ib), (.int ic), (.int ie), (.int ig)] below meth c s₁ [] 0 0 := Stand.of_body Bd
  have e0 : s₁.heap = h0 := by rw [← hh, Bd.state]; rfl
  have N0 := Fr.nil n0
  have hZ : Z.Warmed39 (s.setVm s.vm).vm := hZ
  have hS0 : s.Since s.vm 0 := (State.WarmedH.refl s).since 0
  have hk0 : 0 ≤ h0.size := Nat.zero_le _
  have CR0 : CHr Z own_EL s.vm s.heap s.vm h0 := by rw [hh]; exact CHr.refl hC0
  have K0 := Keep.refl h0 []
  rw [ef_law m ia ib ic ie ig]
  show GoH p e below s Z own_EL (fun v h L => Q_law Z ia ib ic ie ig wz h0 n0 v h L) room_1.cells room_1.slots s₁ (mkF m 0 #[.val (.int ia), .val (.int ib), .val (.int ic), .val (.int ie), .val (.int ig), .unset, .unset, .unset, .unset, .unset, .unset, .unset, .unset, .unset, .unset, .unset, .unset] [])
  refine GoH.step (T' := s₁) (f' := (mkF m 2 #[.val (.int ia), .val (.int ib), .val (.int ic), .val (.int ie), .val (.int ig), .unset, .unset, .unset, .unset, .unset, .unset, .unset, .unset, .unset, .unset, .unset, .unset] [(.int ig)])) (fun t k => XS.iload X0.here hx rfl (hb hby at_0) rfl k) ?_
  refine GoH.step (T' := s₁) (f' := (mkF m 3 #[.val (.int ia), .val (.int ib), .val (.int ic), .val (.int ie), .val (.int ig), .unset, .unset, .unset, .unset, .unset, .unset, .unset, .unset, .unset, .unset, .unset, .unset] [(.int (1 : Int32)), (.int ig)])) (fun t k => XS.iconst X0.here hx rfl (hb hby at_2) k) ?_
  refine GoH.step (T' := s₁) (f' := (mkF m 4 #[.val (.int ia), .val (.int ib), .val (.int ic), .val (.int ie), .val (.int ig), .unset, .unset, .unset, .unset, .unset, .unset, .unset, .unset, .unset, .unset, .unset, .unset] [(.int (ig &&& (1 : Int32)))])) (fun t k => XS.iand X0.here hx rfl (hb hby at_3) rfl k) ?_
  have Kc796 : ∀ (zd : Int32), True → GoH p e below s Z own_EL (fun v h L => Q_law Z ia ib ic ie ig wz h0 n0 v h L) room_1.cells room_1.slots s₁ (mkF m 12 #[.val (.int ia), .val (.int ib), .val (.int ic), .val (.int ie), .val (.int ig), .unset, .unset, .unset, .unset, .unset, .unset, .unset, .unset, .unset, .unset, .unset, .unset] [(.int zd)]) := by
    intro zd hm797
    refine GoH.step (T' := s₁) (f' := (mkF m 14 #[.val (.int ia), .val (.int ib), .val (.int ic), .val (.int ie), .val (.int ig), .val (.int zd), .unset, .unset, .unset, .unset, .unset, .unset, .unset, .unset, .unset, .unset, .unset] [])) (fun t k => XS.istore X0.here hx rfl (hb hby at_12) rfl (l' := #[.val (.int ia), .val (.int ib), .val (.int ic), .val (.int ie), .val (.int ig), .val (.int zd), .unset, .unset, .unset, .unset, .unset, .unset, .unset, .unset, .unset, .unset, .unset]) rfl k) ?_
    refine GoH.step (T' := s₁) (f' := (mkF m 16 #[.val (.int ia), .val (.int ib), .val (.int ic), .val (.int ie), .val (.int ig), .val (.int zd), .unset, .unset, .unset, .unset, .unset, .unset, .unset, .unset, .unset, .unset, .unset] [(.int ig)])) (fun t k => XS.iload X0.here hx rfl (hb hby at_14) rfl k) ?_
    refine GoH.step (T' := s₁) (f' := (mkF m 17 #[.val (.int ia), .val (.int ib), .val (.int ic), .val (.int ie), .val (.int ig), .val (.int zd), .unset, .unset, .unset, .unset, .unset, .unset, .unset, .unset, .unset, .unset, .unset] [(.int (2 : Int32)), (.int ig)])) (fun t k => XS.iconst X0.here hx rfl (hb hby at_16) k) ?_
    refine GoH.step (T' := s₁) (f' := (mkF m 18 #[.val (.int ia), .val (.int ib), .val (.int ic), .val (.int ie), .val (.int ig), .val (.int zd), .unset, .unset, .unset, .unset, .unset, .unset, .unset, .unset, .unset, .unset, .unset] [(.int (ig &&& (2 : Int32)))])) (fun t k => XS.iand X0.here hx rfl (hb hby at_17) rfl k) ?_
    have Kc798 : ∀ (zk : Int32), True → GoH p e below s Z own_EL (fun v h L => Q_law Z ia ib ic ie ig wz h0 n0 v h L) room_1.cells room_1.slots s₁ (mkF m 26 #[.val (.int ia), .val (.int ib), .val (.int ic), .val (.int ie), .val (.int ig), .val (.int zd), .unset, .unset, .unset, .unset, .unset, .unset, .unset, .unset, .unset, .unset, .unset] [(.int zk)]) := by
      intro zk hm799
      refine GoH.step (T' := s₁) (f' := (mkF m 28 #[.val (.int ia), .val (.int ib), .val (.int ic), .val (.int ie), .val (.int ig), .val (.int zd), .val (.int zk), .unset, .unset, .unset, .unset, .unset, .unset, .unset, .unset, .unset, .unset] [])) (fun t k => XS.istore X0.here hx rfl (hb hby at_26) rfl (l' := #[.val (.int ia), .val (.int ib), .val (.int ic), .val (.int ie), .val (.int ig), .val (.int zd), .val (.int zk), .unset, .unset, .unset, .unset, .unset, .unset, .unset, .unset, .unset, .unset]) rfl k) ?_
      refine GoH.step (T' := s₁) (f' := (mkF m 29 #[.val (.int ia), .val (.int ib), .val (.int ic), .val (.int ie), .val (.int ig), .val (.int zd), .val (.int zk), .unset, .unset, .unset, .unset, .unset, .unset, .unset, .unset, .unset, .unset] [(.int ia)])) (fun t k => XS.iloadN X0.here hx rfl (hb hby at_28) rfl k) ?_
      obtain ⟨_, _, ⟨T800, L800, k800, n800⟩, -, X800, hS800, hg800, ⟨Lc800, hQ800, l800, y800, z800, ch800⟩, st800⟩ := callSS X0 hx (y := (⟨"com/example/tenorbook/tenorbook/definitions/FloatingRateIndexEqualsPinLaw", "mk", "(I)Ljava/lang/String;"⟩ : MethodName)) hown (mvT hZ (hw _ (List.mem_of_getElem? (i := 0) rfl))) (mvT hZ (hw _ (List.mem_of_getElem? (i := 1) rfl))) (mvT hZ (hw _ (List.mem_of_getElem? (i := 2) rfl))) (mvT hZ (hw _ (List.mem_of_getElem? (i := 3) rfl))) (by decide) (backOfSH (s := s) (vm0 := s.vm) (W := 0) (rm_mk l Z a0 hw [] ia wz h0 n0 O0 hEL P0 hwz) hZ (hw _ (List.mem_of_getElem? (i := 3) rfl)) (hw _ (List.mem_of_getElem? (i := 2) rfl)) (by decide) (by decide) hEL CR0.1) (g := (mkF m 29 #[.val (.int ia), .val (.int ib), .val (.int ic), .val (.int ie), .val (.int ig), .val (.int zd), .val (.int zk), .unset, .unset, .unset, .unset, .unset, .unset, .unset, .unset, .unset, .unset] [(.int ia)])) rfl (by rw [hml]; rfl) (argsL := [(.int ia)]) (rest := []) (lenOf pd10 rfl) rfl (by show 2 * 0 + _ ≤ _; exact Nat.le_of_eq rfl) (hb hby at_29) (fun _ _ => ⟨rfl, e0, (by decide : 0 + 6 ≤ _), (by decide : 0 + 12 ≤ _)⟩)
      dsimp only [Pt.U, Pt.locs, Pt.cells, Pt.slots] at X800 l800 y800 z800 st800 hQ800 hS800 hg800 ch800
      subst l800 y800 z800
      obtain ⟨X800, hS800, hZ, hown⟩ := rebS (s := s) (vm0 := s.vm) hS0 (show _ ≤ s₁.heap.size by rw [e0]; exact hk0) X800 hS800 hg800 hZ hown
      obtain ⟨u801, u802, u803, rfl, Nq800, hh800, p804, p805, p806, p807⟩ := hQ800
      have N808 := Fr.app N0 Nq800
      have CR809 := CR0.trans ch800
      have hk810 := Nat.le_refl T800.heap.size
      have O811 := O0.keep hh800 all0
      have K812 := K0.trans hh800 all0
      refine GoH.via (T' := T800) (f' := (mkF m 32 #[.val (.int ia), .val (.int ib), .val (.int ic), .val (.int ie), .val (.int ig), .val (.int zd), .val (.int zk), .unset, .unset, .unset, .unset, .unset, .unset, .unset, .unset, .unset, .unset] [(.ref u801)])) st800 ?_
      clear st800 X0 Nq800 CR0 hk0 hS0
      refine GoH.step (T' := T800) (f' := (mkF m 34 #[.val (.int ia), .val (.int ib), .val (.int ic), .val (.int ie), .val (.int ig), .val (.int zd), .val (.int zk), .val (.ref u801), .unset, .unset, .unset, .unset, .unset, .unset, .unset, .unset, .unset] [])) (fun t k => XS.astore X800.here hx rfl (hb hby at_32) rfl rfl (l' := #[.val (.int ia), .val (.int ib), .val (.int ic), .val (.int ie), .val (.int ig), .val (.int zd), .val (.int zk), .val (.ref u801), .unset, .unset, .unset, .unset, .unset, .unset, .unset, .unset, .unset]) rfl k) ?_
      refine GoH.step (T' := T800) (f' := (mkF m 35 #[.val (.int ia), .val (.int ib), .val (.int ic), .val (.int ie), .val (.int ig), .val (.int zd), .val (.int zk), .val (.ref u801), .unset, .unset, .unset, .unset, .unset, .unset, .unset, .unset, .unset] [(.int ib)])) (fun t k => XS.iloadN X800.here hx rfl (hb hby at_34) rfl k) ?_
      obtain ⟨_, _, ⟨T813, L813, k813, n813⟩, -, X813, hS813, hg813, ⟨Lc813, hQ813, l813, y813, z813, ch813⟩, st813⟩ := callSS X800 hx (y := (⟨"com/example/tenorbook/tenorbook/definitions/FloatingRateIndexEqualsPinLaw", "mk", "(I)Ljava/lang/String;"⟩ : MethodName)) hown (mvT hZ (hw _ (List.mem_of_getElem? (i := 0) rfl))) (mvT hZ (hw _ (List.mem_of_getElem? (i := 1) rfl))) (mvT hZ (hw _ (List.mem_of_getElem? (i := 2) rfl))) (mvT hZ (hw _ (List.mem_of_getElem? (i := 3) rfl))) (by decide) (backOfSH (s := s) (vm0 := T800.vm) (W := 0) (rm_mk l Z a0 hw [] ib wz T800.heap n0 O811 hEL P0 hwz) hZ (hw _ (List.mem_of_getElem? (i := 3) rfl)) (hw _ (List.mem_of_getElem? (i := 2) rfl)) (by decide) (by decide) hEL CR809.1) (g := (mkF m 35 #[.val (.int ia), .val (.int ib), .val (.int ic), .val (.int ie), .val (.int ig), .val (.int zd), .val (.int zk), .val (.ref u801), .unset, .unset, .unset, .unset, .unset, .unset, .unset, .unset, .unset] [(.int ib)])) rfl (by rw [hml]; rfl) (argsL := [(.int ib)]) (rest := []) (lenOf pd10 rfl) rfl (by show 2 * 0 + _ ≤ _; exact Nat.le_of_eq rfl) (hb hby at_35) (fun _ _ => ⟨rfl, rfl, (by decide : 6 + 6 ≤ _), (by decide : 12 + 12 ≤ _)⟩)
      dsimp only [Pt.U, Pt.locs, Pt.cells, Pt.slots] at X813 l813 y813 z813 st813 hQ813 hS813 hg813 ch813
      subst l813 y813 z813
      obtain ⟨X813, hS813, hZ, hown⟩ := rebS (s := s) (vm0 := T800.vm) hS800 (show _ ≤ T800.heap.size by exact hk810) X813 hS813 hg813 hZ hown
      obtain ⟨u814, u815, u816, rfl, Nq813, hh813, p817, p818, p819, p820⟩ := hQ813
      have N821 := Fr.app N808 Nq813
      have CR822 := CR809.trans ch813
      have hk823 := Nat.le_refl T813.heap.size
      have f824 := p804.keep hh813
      have f825 := p805.keep hh813 nin0
      have f826 := p806.keep hh813 nin0
      have f827 := p807.keep hh813 nin0
      have O828 := O811.keep hh813 all0
      have K829 := K812.trans hh813 all0
      refine GoH.via (T' := T813) (f' := (mkF m 38 #[.val (.int ia), .val (.int ib), .val (.int ic), .val (.int ie), .val (.int ig), .val (.int zd), .val (.int zk), .val (.ref u801), .unset, .unset, .unset, .unset, .unset, .unset, .unset, .unset, .unset] [(.ref u814)])) st813 ?_
      clear st813 X800 N808 Nq813 CR809 hk810 hS800 p805 p806
      refine GoH.step (T' := T813) (f' := (mkF m 40 #[.val (.int ia), .val (.int ib), .val (.int ic), .val (.int ie), .val (.int ig), .val (.int zd), .val (.int zk), .val (.ref u801), .val (.ref u814), .unset, .unset, .unset, .unset, .unset, .unset, .unset, .unset] [])) (fun t k => XS.astore X813.here hx rfl (hb hby at_38) rfl rfl (l' := #[.val (.int ia), .val (.int ib), .val (.int ic), .val (.int ie), .val (.int ig), .val (.int zd), .val (.int zk), .val (.ref u801), .val (.ref u814), .unset, .unset, .unset, .unset, .unset, .unset, .unset, .unset]) rfl k) ?_
      obtain ⟨T830, h830, X830, e830, E830, A830, D830, -, st830⟩ := newO X813 hx hZ hown (hw _ (List.mem_of_getElem? (i := 40) rfl)) (hw _ (List.mem_of_getElem? (i := 41) rfl)) (hw _ (List.mem_of_getElem? (i := 42) rfl)) rfl (g := (mkF m 40 #[.val (.int ia), .val (.int ib), .val (.int ic), .val (.int ie), .val (.int ig), .val (.int zd), .val (.int zk), .val (.ref u801), .val (.ref u814), .unset, .unset, .unset, .unset, .unset, .unset, .unset, .unset] [])) rfl (hb hby at_40) (by decide) (by decide)
      obtain ⟨b830, g830⟩ : ∃ z, z = T813.heap.size := ⟨_, rfl⟩
      rw [← g830] at A830 D830 st830
      have g831 : n0 ≤ b830 := Nat.le_trans (own_old_le O828) (Nat.le_of_eq g830.symm)
      have g832 : h0.size ≤ b830 := Nat.le_trans K829.1 (Nat.le_of_eq g830.symm)
      have ne833 : u801 ≠ b830 := Nat.ne_of_lt (Nat.lt_of_lt_of_le f824.lt (Nat.le_of_eq g830.symm))
      have ne834 : u802 ≠ b830 := Nat.ne_of_lt (Nat.lt_of_lt_of_le f827.lt (Nat.le_of_eq g830.symm))
      have ne835 : u814 ≠ b830 := Nat.ne_of_lt (Nat.lt_of_lt_of_le p817.lt (Nat.le_of_eq g830.symm))
      have ne836 : u815 ≠ b830 := Nat.ne_of_lt (Nat.lt_of_lt_of_le p820.lt (Nat.le_of_eq g830.symm))
      have CR837 := CR822.trans (CHr.ext E830 CR822.1)
      have hk838 := Nat.le_trans hk823 E830.1
      have f839 := f824.ext E830
      have f840 := f825.ext E830
      have f841 := f826.ext E830
      have f842 := f827.ext E830
      have f843 := p817.ext E830
      have f844 := p818.ext E830
      have f845 := p819.ext E830
      have f846 := p820.ext E830
      have O847 := O828.ext E830
      have K848 := K829.ext E830
      have f849 : Fld Z h830 b830 "com/example/tenorbook/tenorbook/definitions/FloatingRateIndex" "floatingRateOption" "Ljava/lang/String;" .null := D830 (Or.inr (hw _ (List.mem_of_getElem? (i := 59) rfl))) (ty := (.object "java/lang/String")) (by decide)
      have f850 : Fld Z h830 b830 "com/example/tenorbook/tenorbook/definitions/FloatingRateIndex" "designatedMaturity" "Ljava/lang/String;" .null := D830 (Or.inr (hw _ (List.mem_of_getElem? (i := 61) rfl))) (ty := (.object "java/lang/String")) (by decide)
      refine GoH.step (T' := T830) (f' := (mkF m 43 #[.val (.int ia), .val (.int ib), .val (.int ic), .val (.int ie), .val (.int ig), .val (.int zd), .val (.int zk), .val (.ref u801), .val (.ref u814), .unset, .unset, .unset, .unset, .unset, .unset, .unset, .unset] [(.ref b830)])) st830 ?_
      clear st830 X813 CR822 hk823 f824 f825 f826 f827 p817 p818 p819 p820 O828 K829
      refine GoH.step (T' := T830) (f' := (mkF m 44 #[.val (.int ia), .val (.int ib), .val (.int ic), .val (.int ie), .val (.int ig), .val (.int zd), .val (.int zk), .val (.ref u801), .val (.ref u814), .unset, .unset, .unset, .unset, .unset, .unset, .unset, .unset] [(.ref b830), (.ref b830)])) (fun t k => XS.dup X830.here hx rfl (hb hby at_43) rfl rfl k) ?_
      refine GoH.step (T' := T830) (f' := (mkF m 46 #[.val (.int ia), .val (.int ib), .val (.int ic), .val (.int ie), .val (.int ig), .val (.int zd), .val (.int zk), .val (.ref u801), .val (.ref u814), .unset, .unset, .unset, .unset, .unset, .unset, .unset, .unset] [(.ref u801), (.ref b830), (.ref b830)])) (fun t k => XS.aload X830.here hx rfl (hb hby at_44) rfl rfl k) ?_
      refine GoH.step (T' := T830) (f' := (mkF m 48 #[.val (.int ia), .val (.int ib), .val (.int ic), .val (.int ie), .val (.int ig), .val (.int zd), .val (.int zk), .val (.ref u801), .val (.ref u814), .unset, .unset, .unset, .unset, .unset, .unset, .unset, .unset] [(.ref u814), (.ref u801), (.ref b830), (.ref b830)])) (fun t k => XS.aload X830.here hx rfl (hb hby at_46) rfl rfl k) ?_
      obtain ⟨_, _, ⟨T851, L851, k851, n851⟩, -, X851, hS851, hg851, ⟨Lc851, hQ851, l851, y851, z851, ch851⟩, st851⟩ := X830.specialBackS hx (y := (⟨"com/example/tenorbook/tenorbook/definitions/FloatingRateIndex", "<init>", "(Ljava/lang/String;Ljava/lang/String;)V"⟩ : MethodName)) rfl hown (mvT hZ (hw _ (List.mem_of_getElem? (i := 43) rfl))) (mvT hZ (hw _ (List.mem_of_getElem? (i := 44) rfl))) (mvT hZ (hw _ (List.mem_of_getElem? (i := 45) rfl))) (by decide) (backOfSH (s := s) (vm0 := T813.vm) (W := 1) (rm_fini l Z a0 hw [] b830 u801 u814 .null .null h830 n0 O847 hEL A830 f849 f850 g831) hZ (hw _ (List.mem_of_getElem? (i := 45) rfl)) (hw _ (List.mem_of_getElem? (i := 42) rfl)) (by decide) (by decide) hEL CR837.1) (g := (mkF m 48 #[.val (.int ia), .val (.int ib), .val (.int ic), .val (.int ie), .val (.int ig), .val (.int zd), .val (.int zk), .val (.ref u801), .val (.ref u814), .unset, .unset, .unset, .unset, .unset, .unset, .unset, .unset] [(.ref u814), (.ref u801), (.ref b830), (.ref b830)])) rfl (by rw [hml]; rfl) (Steps.refl _) (a := b830) (argsL := [(.ref u801), (.ref u814)]) (rest := [(.ref b830)]) (lenOf pd11 rfl) rfl (by show 2 * 0 + _ ≤ _; exact Nat.le_of_eq rfl) (hb hby at_48) (fun _ _ => ⟨rfl, e830, (by decide : 13 + 4 ≤ _), (by decide : 26 + 152 ≤ _)⟩)
      dsimp only [Pt.U, Pt.locs, Pt.cells, Pt.slots] at X851 l851 y851 z851 st851 hQ851 hS851 hg851 ch851
      subst l851 y851 z851
      obtain ⟨X851, hS851, hZ, hown⟩ := rebS (s := s) (vm0 := T813.vm) hS813 (show _ ≤ T830.heap.size by rw [e830]; exact hk838) X851 hS851 hg851 hZ hown
      obtain ⟨rfl, Nq851, hh851, p852, p853, p854⟩ := hQ851
      have N855 := Fr.app N821 Nq851
      have CR856 := CR837.trans ch851
      have hk857 := Nat.le_refl T851.heap.size
      have f858 := f839.keep hh851
      have f859 := f840.keep hh851 (ninS ne833 nin0)
      have f860 := f841.keep hh851 (ninS ne833 nin0)
      have f861 := f842.keep hh851 (ninS ne834 nin0)
      have f862 := f843.keep hh851
      have f863 := f844.keep hh851 (ninS ne835 nin0)
      have f864 := f845.keep hh851 (ninS ne835 nin0)
      have f865 := f846.keep hh851 (ninS ne836 nin0)
      have f866 := A830.keep hh851
      have O867 := O847.keep hh851 (allS g831 all0)
      have K868 := K848.trans hh851 (allS (Or.inr g832) all0)
      refine GoH.via (T' := T851) (f' := (mkF m 51 #[.val (.int ia), .val (.int ib), .val (.int ic), .val (.int ie), .val (.int ig), .val (.int zd), .val (.int zk), .val (.ref u801), .val (.ref u814), .unset, .unset, .unset, .unset, .unset, .unset, .unset, .unset] [(.ref b830)])) st851 ?_
      clear st851 X830 N821 Nq851 CR837 hk838 hS813 f840 f841 f844 f845
      refine GoH.step (T' := T851) (f' := (mkF m 53 #[.val (.int ia), .val (.int ib), .val (.int ic), .val (.int ie), .val (.int ig), .val (.int zd), .val (.int zk), .val (.ref u801), .val (.ref u814), .val (.ref b830), .unset, .unset, .unset, .unset, .unset, .unset, .unset] [])) (fun t k => XS.astore X851.here hx rfl (hb hby at_51) rfl rfl (l' := #[.val (.int ia), .val (.int ib), .val (.int ic), .val (.int ie), .val (.int ig), .val (.int zd), .val (.int zk), .val (.ref u801), .val (.ref u814), .val (.ref b830), .unset, .unset, .unset, .unset, .unset, .unset, .unset]) rfl k) ?_
      refine GoH.step (T' := T851) (f' := (mkF m 55 #[.val (.int ia), .val (.int ib), .val (.int ic), .val (.int ie), .val (.int ig), .val (.int zd), .val (.int zk), .val (.ref u801), .val (.ref u814), .val (.ref b830), .unset, .unset, .unset, .unset, .unset, .unset, .unset] [(.int ig)])) (fun t k => XS.iload X851.here hx rfl (hb hby at_53) rfl k) ?_
      refine GoH.step (T' := T851) (f' := (mkF m 56 #[.val (.int ia), .val (.int ib), .val (.int ic), .val (.int ie), .val (.int ig), .val (.int zd), .val (.int zk), .val (.ref u801), .val (.ref u814), .val (.ref b830), .unset, .unset, .unset, .unset, .unset, .unset, .unset] [(.int (2 : Int32)), (.int ig)])) (fun t k => XS.iconst X851.here hx rfl (hb hby at_55) k) ?_
      refine GoH.step (T' := T851) (f' := (mkF m 57 #[.val (.int ia), .val (.int ib), .val (.int ic), .val (.int ie), .val (.int ig), .val (.int zd), .val (.int zk), .val (.ref u801), .val (.ref u814), .val (.ref b830), .unset, .unset, .unset, .unset, .unset, .unset, .unset] [(.int ((ig.toUInt32 >>> ((2 : Int32) &&& 31).toUInt32).toInt32))])) (fun t k => XS.iushr X851.here hx rfl (hb hby at_56) rfl k) ?_
      refine GoH.step (T' := T851) (f' := (mkF m 59 #[.val (.int ia), .val (.int ib), .val (.int ic), .val (.int ie), .val (.int ig), .val (.int zd), .val (.int zk), .val (.ref u801), .val (.ref u814), .val (.ref b830), .unset, .unset, .unset, .unset, .unset, .unset, .unset] [(.int (7 : Int32)), (.int ((ig.toUInt32 >>> ((2 : Int32) &&& 31).toUInt32).toInt32))])) (fun t k => XS.bipush X851.here hx rfl (hb hby at_57) k) ?_
      refine GoH.step (T' := T851) (f' := (mkF m 60 #[.val (.int ia), .val (.int ib), .val (.int ic), .val (.int ie), .val (.int ig), .val (.int zd), .val (.int zk), .val (.ref u801), .val (.ref u814), .val (.ref b830), .unset, .unset, .unset, .unset, .unset, .unset, .unset] [(.int (((ig.toUInt32 >>> ((2 : Int32) &&& 31).toUInt32).toInt32) &&& (7 : Int32)))])) (fun t k => XS.iand X851.here hx rfl (hb hby at_59) rfl k) ?_
      refine GoH.step (T' := T851) (f' := (mkF m 62 #[.val (.int ia), .val (.int ib), .val (.int ic), .val (.int ie), .val (.int ig), .val (.int zd), .val (.int zk), .val (.ref u801), .val (.ref u814), .val (.ref b830), .val (.int (((ig.toUInt32 >>> ((2 : Int32) &&& 31).toUInt32).toInt32) &&& (7 : Int32))), .unset, .unset, .unset, .unset, .unset, .unset] [])) (fun t k => XS.istore X851.here hx rfl (hb hby at_60) rfl (l' := #[.val (.int ia), .val (.int ib), .val (.int ic), .val (.int ie), .val (.int ig), .val (.int zd), .val (.int zk), .val (.ref u801), .val (.ref u814), .val (.ref b830), .val (.int (((ig.toUInt32 >>> ((2 : Int32) &&& 31).toUInt32).toInt32) &&& (7 : Int32))), .unset, .unset, .unset, .unset, .unset, .unset]) rfl k) ?_
      refine GoH.step (T' := T851) (f' := (mkF m 64 #[.val (.int ia), .val (.int ib), .val (.int ic), .val (.int ie), .val (.int ig), .val (.int zd), .val (.int zk), .val (.ref u801), .val (.ref u814), .val (.ref b830), .val (.int (((ig.toUInt32 >>> ((2 : Int32) &&& 31).toUInt32).toInt32) &&& (7 : Int32))), .unset, .unset, .unset, .unset, .unset, .unset] [(.int (((ig.toUInt32 >>> ((2 : Int32) &&& 31).toUInt32).toInt32) &&& (7 : Int32)))])) (fun t k => XS.iload X851.here hx rfl (hb hby at_62) rfl k) ?_
      refine GoH.step (T' := T851) (f' := (mkF m 65 #[.val (.int ia), .val (.int ib), .val (.int ic), .val (.int ie), .val (.int ig), .val (.int zd), .val (.int zk), .val (.ref u801), .val (.ref u814), .val (.ref b830), .val (.int (((ig.toUInt32 >>> ((2 : Int32) &&& 31).toUInt32).toInt32) &&& (7 : Int32))), .unset, .unset, .unset, .unset, .unset, .unset] [(.int (1 : Int32)), (.int (((ig.toUInt32 >>> ((2 : Int32) &&& 31).toUInt32).toInt32) &&& (7 : Int32)))])) (fun t k => XS.iconst X851.here hx rfl (hb hby at_64) k) ?_
      by_cases hc869 : (((ig.toUInt32 >>> ((2 : Int32) &&& 31).toUInt32).toInt32) &&& (7 : Int32)) = (1 : Int32)
      ·
        refine GoH.step (T' := T851) (f' := (mkF m 68 #[.val (.int ia), .val (.int ib), .val (.int ic), .val (.int ie), .val (.int ig), .val (.int zd), .val (.int zk), .val (.ref u801), .val (.ref u814), .val (.ref b830), .val (.int (((ig.toUInt32 >>> ((2 : Int32) &&& 31).toUInt32).toInt32) &&& (7 : Int32))), .unset, .unset, .unset, .unset, .unset, .unset] [])) (fun t k => XS.icmpNo X851.here hx rfl (hb hby at_65) rfl (teq hc869).2 k) ?_
        refine GoH.step (T' := T851) (f' := (mkF m 69 #[.val (.int ia), .val (.int ib), .val (.int ic), .val (.int ie), .val (.int ig), .val (.int zd), .val (.int zk), .val (.ref u801), .val (.ref u814), .val (.ref b830), .val (.int (((ig.toUInt32 >>> ((2 : Int32) &&& 31).toUInt32).toInt32) &&& (7 : Int32))), .unset, .unset, .unset, .unset, .unset, .unset] [.null])) (fun t k => XS.aconstNull X851.here hx rfl (hb hby at_68) k) ?_
        refine GoH.step (T' := T851) (f' := (mkF m 71 #[.val (.int ia), .val (.int ib), .val (.int ic), .val (.int ie), .val (.int ig), .val (.int zd), .val (.int zk), .val (.ref u801), .val (.ref u814), .val (.ref b830), .val (.int (((ig.toUInt32 >>> ((2 : Int32) &&& 31).toUInt32).toInt32) &&& (7 : Int32))), .val .null, .unset, .unset, .unset, .unset, .unset] [])) (fun t k => XS.astore X851.here hx rfl (hb hby at_69) rfl rfl (l' := #[.val (.int ia), .val (.int ib), .val (.int ic), .val (.int ie), .val (.int ig), .val (.int zd), .val (.int zk), .val (.ref u801), .val (.ref u814), .val (.ref b830), .val (.int (((ig.toUInt32 >>> ((2 : Int32) &&& 31).toUInt32).toInt32) &&& (7 : Int32))), .val .null, .unset, .unset, .unset, .unset, .unset]) rfl k) ?_
        refine GoH.step (T' := T851) (f' := (mkF m 73 #[.val (.int ia), .val (.int ib), .val (.int ic), .val (.int ie), .val (.int ig), .val (.int zd), .val (.int zk), .val (.ref u801), .val (.ref u814), .val (.ref b830), .val (.int (((ig.toUInt32 >>> ((2 : Int32) &&& 31).toUInt32).toInt32) &&& (7 : Int32))), .val .null, .unset, .unset, .unset, .unset, .unset] [(.ref b830)])) (fun t k => XS.aload X851.here hx rfl (hb hby at_71) rfl rfl k) ?_
        refine GoH.step (T' := T851) (f' := (mkF m 75 #[.val (.int ia), .val (.int ib), .val (.int ic), .val (.int ie), .val (.int ig), .val (.int zd), .val (.int zk), .val (.ref u801), .val (.ref u814), .val (.ref b830), .val (.int (((ig.toUInt32 >>> ((2 : Int32) &&& 31).toUInt32).toInt32) &&& (7 : Int32))), .val .null, .unset, .unset, .unset, .unset, .unset] [.null, (.ref b830)])) (fun t k => XS.aload X851.here hx rfl (hb hby at_73) rfl rfl k) ?_
        obtain ⟨cq870, kq870, q870a, q870b, q870c⟩ := isOf hZ rfl p852
        obtain ⟨_, _, ⟨T870, L870, k870, n870⟩, -, X870, ⟨Lc870, hQ870, l870, y870, z870⟩, st870⟩ := X851.virtualBack hx (y := (⟨"com/example/tenorbook/tenorbook/definitions/FloatingRateIndex", "equals", "(Ljava/lang/Object;)Z"⟩ : MethodName)) (z := (⟨"com/example/tenorbook/tenorbook/definitions/FloatingRateIndex", "equals", "(Ljava/lang/Object;)Z"⟩ : MethodName)) hown (mvT hZ (hw _ (List.mem_of_getElem? (i := 65) rfl))) (mvT hZ (hw _ (List.mem_of_getElem? (i := 66) rfl))) (notFace_of_selects (args := #[]) (mvT hZ (hw _ (List.mem_of_getElem? (i := 68) rfl)))) (mvT hZ (hw _ (List.mem_of_getElem? (i := 68) rfl))) (mvT hZ (hw _ (List.mem_of_getElem? (i := 67) rfl))) (by decide) (backOf (W := 0) (rm_feqN l Z a0 hw [] b830 T851.heap n0 O867 ) hZ (hw _ (List.mem_of_getElem? (i := 69) rfl)) (hw _ (List.mem_of_getElem? (i := 42) rfl)) (by decide) (by decide)) q870a q870c (g := (mkF m 75 #[.val (.int ia), .val (.int ib), .val (.int ic), .val (.int ie), .val (.int ig), .val (.int zd), .val (.int zk), .val (.ref u801), .val (.ref u814), .val (.ref b830), .val (.int (((ig.toUInt32 >>> ((2 : Int32) &&& 31).toUInt32).toInt32) &&& (7 : Int32))), .val .null, .unset, .unset, .unset, .unset, .unset] [.null, (.ref b830)])) rfl (by rw [hml]; rfl) (Steps.refl _) (argsL := [.null]) (rest := []) (lenOf pd9 rfl) rfl (by show 2 * 0 + _ ≤ _; exact Nat.le_of_eq rfl) (hb hby at_75) (fun _ _ => ⟨rfl, rfl, (by decide : 17 + 0 ≤ _), (by decide : 178 + 0 ≤ _)⟩)
        dsimp only [Pt.U, Pt.locs, Pt.cells, Pt.slots] at X870 l870 y870 z870 st870 hQ870
        subst l870 y870 z870
        obtain ⟨rfl, Nq870, hh870⟩ := hQ870
        have N871 := Fr.app N855 Nq870
        refine GoH.via (T' := T870) (f' := (mkF m 78 #[.val (.int ia), .val (.int ib), .val (.int ic), .val (.int ie), .val (.int ig), .val (.int zd), .val (.int zk), .val (.ref u801), .val (.ref u814), .val (.ref b830), .val (.int (((ig.toUInt32 >>> ((2 : Int32) &&& 31).toUInt32).toInt32) &&& (7 : Int32))), .val .null, .unset, .unset, .unset, .unset, .unset] [(.int (0 : Int32))])) st870 ?_
        clear st870 X851 N855 Nq870
        refine GoH.step (T' := T870) (f' := (mkF m 81 #[.val (.int ia), .val (.int ib), .val (.int ic), .val (.int ie), .val (.int ig), .val (.int zd), .val (.int zk), .val (.ref u801), .val (.ref u814), .val (.ref b830), .val (.int (((ig.toUInt32 >>> ((2 : Int32) &&& 31).toUInt32).toInt32) &&& (7 : Int32))), .val .null, .unset, .unset, .unset, .unset, .unset] [])) (fun t k => XS.ifNo X870.here hx rfl (hb hby at_78) rfl ((if0 _ _).trans (teq (by decide : (0 : Int32) = (0 : Int32))).2) k) ?_
        refine GoH.step (T' := T870) (f' := (mkF m 82 #[.val (.int ia), .val (.int ib), .val (.int ic), .val (.int ie), .val (.int ig), .val (.int zd), .val (.int zk), .val (.ref u801), .val (.ref u814), .val (.ref b830), .val (.int (((ig.toUInt32 >>> ((2 : Int32) &&& 31).toUInt32).toInt32) &&& (7 : Int32))), .val .null, .unset, .unset, .unset, .unset, .unset] [(.int (1 : Int32))])) (fun t k => XS.iconst X870.here hx rfl (hb hby at_81) k) ?_
        refine GoH.step (T' := T870) (f' := (mkF m 86 #[.val (.int ia), .val (.int ib), .val (.int ic), .val (.int ie), .val (.int ig), .val (.int zd), .val (.int zk), .val (.ref u801), .val (.ref u814), .val (.ref b830), .val (.int (((ig.toUInt32 >>> ((2 : Int32) &&& 31).toUInt32).toInt32) &&& (7 : Int32))), .val .null, .unset, .unset, .unset, .unset, .unset] [(.int (1 : Int32))])) (fun t k => XS.goto X870.here hx rfl (pc0 := 82) (pc' := 86) rfl (hb hby at_82) (by decide) (by decide) k) ?_
        refine GoH.fin X870 hZ hEL hS851 hk857 CR856 hlk (v := some (.int (nar .boolean (1 : Int32)))) (fun h => by rw [Bd.returns] at h; cases h) (fun fs hr => retN X870 hx (t := .boolean) Bd.returns (by simp) (hb hby at_86) hr) hh870 ?_ (by decide) (by decide)
        exact ⟨rfl, N871, K868⟩
      ·
        refine GoH.step (T' := T851) (f' := (mkF m 87 #[.val (.int ia), .val (.int ib), .val (.int ic), .val (.int ie), .val (.int ig), .val (.int zd), .val (.int zk), .val (.ref u801), .val (.ref u814), .val (.ref b830), .val (.int (((ig.toUInt32 >>> ((2 : Int32) &&& 31).toUInt32).toInt32) &&& (7 : Int32))), .unset, .unset, .unset, .unset, .unset, .unset] [])) (fun t k => XS.icmpYes X851.here hx rfl (pc0 := 65) (pc' := 87) rfl (hb hby at_65) rfl (feq hc869).2 (by decide) (by decide) k) ?_
        refine GoH.step (T' := T851) (f' := (mkF m 89 #[.val (.int ia), .val (.int ib), .val (.int ic), .val (.int ie), .val (.int ig), .val (.int zd), .val (.int zk), .val (.ref u801), .val (.ref u814), .val (.ref b830), .val (.int (((ig.toUInt32 >>> ((2 : Int32) &&& 31).toUInt32).toInt32) &&& (7 : Int32))), .unset, .unset, .unset, .unset, .unset, .unset] [(.int (((ig.toUInt32 >>> ((2 : Int32) &&& 31).toUInt32).toInt32) &&& (7 : Int32)))])) (fun t k => XS.iload X851.here hx rfl (hb hby at_87) rfl k) ?_
        refine GoH.step (T' := T851) (f' := (mkF m 90 #[.val (.int ia), .val (.int ib), .val (.int ic), .val (.int ie), .val (.int ig), .val (.int zd), .val (.int zk), .val (.ref u801), .val (.ref u814), .val (.ref b830), .val (.int (((ig.toUInt32 >>> ((2 : Int32) &&& 31).toUInt32).toInt32) &&& (7 : Int32))), .unset, .unset, .unset, .unset, .unset, .unset] [(.int (2 : Int32)), (.int (((ig.toUInt32 >>> ((2 : Int32) &&& 31).toUInt32).toInt32) &&& (7 : Int32)))])) (fun t k => XS.iconst X851.here hx rfl (hb hby at_89) k) ?_
        by_cases hc872 : (((ig.toUInt32 >>> ((2 : Int32) &&& 31).toUInt32).toInt32) &&& (7 : Int32)) = (2 : Int32)
        ·
          refine GoH.step (T' := T851) (f' := (mkF m 93 #[.val (.int ia), .val (.int ib), .val (.int ic), .val (.int ie), .val (.int ig), .val (.int zd), .val (.int zk), .val (.ref u801), .val (.ref u814), .val (.ref b830), .val (.int (((ig.toUInt32 >>> ((2 : Int32) &&& 31).toUInt32).toInt32) &&& (7 : Int32))), .unset, .unset, .unset, .unset, .unset, .unset] [])) (fun t k => XS.icmpNo X851.here hx rfl (hb hby at_90) rfl (teq hc872).2 k) ?_
          refine GoH.step (T' := T851) (f' := (mkF m 95 #[.val (.int ia), .val (.int ib), .val (.int ic), .val (.int ie), .val (.int ig), .val (.int zd), .val (.int zk), .val (.ref u801), .val (.ref u814), .val (.ref b830), .val (.int (((ig.toUInt32 >>> ((2 : Int32) &&& 31).toUInt32).toInt32) &&& (7 : Int32))), .unset, .unset, .unset, .unset, .unset, .unset] [(.ref u801)])) (fun t k => XS.aload X851.here hx rfl (hb hby at_93) rfl rfl k) ?_
          refine GoH.step (T' := T851) (f' := (mkF m 97 #[.val (.int ia), .val (.int ib), .val (.int ic), .val (.int ie), .val (.int ig), .val (.int zd), .val (.int zk), .val (.ref u801), .val (.ref u814), .val (.ref b830), .val (.int (((ig.toUInt32 >>> ((2 : Int32) &&& 31).toUInt32).toInt32) &&& (7 : Int32))), .val (.ref u801), .unset, .unset, .unset, .unset, .unset] [])) (fun t k => XS.astore X851.here hx rfl (hb hby at_95) rfl rfl (l' := #[.val (.int ia), .val (.int ib), .val (.int ic), .val (.int ie), .val (.int ig), .val (.int zd), .val (.int zk), .val (.ref u801), .val (.ref u814), .val (.ref b830), .val (.int (((ig.toUInt32 >>> ((2 : Int32) &&& 31).toUInt32).toInt32) &&& (7 : Int32))), .val (.ref u801), .unset, .unset, .unset, .unset, .unset]) rfl k) ?_
          refine GoH.step (T' := T851) (f' := (mkF m 99 #[.val (.int ia), .val (.int ib), .val (.int ic), .val (.int ie), .val (.int ig), .val (.int zd), .val (.int zk), .val (.ref u801), .val (.ref u814), .val (.ref b830), .val (.int (((ig.toUInt32 >>> ((2 : Int32) &&& 31).toUInt32).toInt32) &&& (7 : Int32))), .val (.ref u801), .unset, .unset, .unset, .unset, .unset] [(.ref b830)])) (fun t k => XS.aload X851.here hx rfl (hb hby at_97) rfl rfl k) ?_
          refine GoH.step (T' := T851) (f' := (mkF m 101 #[.val (.int ia), .val (.int ib), .val (.int ic), .val (.int ie), .val (.int ig), .val (.int zd), .val (.int zk), .val (.ref u801), .val (.ref u814), .val (.ref b830), .val (.int (((ig.toUInt32 >>> ((2 : Int32) &&& 31).toUInt32).toInt32) &&& (7 : Int32))), .val (.ref u801), .unset, .unset, .unset, .unset, .unset] [(.ref u801), (.ref b830)])) (fun t k => XS.aload X851.here hx rfl (hb hby at_99) rfl rfl k) ?_
          obtain ⟨cq873, kq873, q873a, q873b, q873c⟩ := isOf hZ rfl p852
          obtain ⟨_, _, ⟨T873, L873, k873, n873⟩, -, X873, ⟨Lc873, hQ873, l873, y873, z873⟩, st873⟩ := X851.virtualBack hx (y := (⟨"com/example/tenorbook/tenorbook/definitions/FloatingRateIndex", "equals", "(Ljava/lang/Object;)Z"⟩ : MethodName)) (z := (⟨"com/example/tenorbook/tenorbook/definitions/FloatingRateIndex", "equals", "(Ljava/lang/Object;)Z"⟩ : MethodName)) hown (mvT hZ (hw _ (List.mem_of_getElem? (i := 65) rfl))) (mvT hZ (hw _ (List.mem_of_getElem? (i := 66) rfl))) (notFace_of_selects (args := #[]) (mvT hZ (hw _ (List.mem_of_getElem? (i := 68) rfl)))) (mvT hZ (hw _ (List.mem_of_getElem? (i := 68) rfl))) (mvT hZ (hw _ (List.mem_of_getElem? (i := 67) rfl))) (by decide) (backOf (W := 0) (rm_feqS l Z a0 hw [] b830 u801 T851.heap n0 O867 f858) hZ (hw _ (List.mem_of_getElem? (i := 69) rfl)) (hw _ (List.mem_of_getElem? (i := 42) rfl)) (by decide) (by decide)) q873a q873c (g := (mkF m 101 #[.val (.int ia), .val (.int ib), .val (.int ic), .val (.int ie), .val (.int ig), .val (.int zd), .val (.int zk), .val (.ref u801), .val (.ref u814), .val (.ref b830), .val (.int (((ig.toUInt32 >>> ((2 : Int32) &&& 31).toUInt32).toInt32) &&& (7 : Int32))), .val (.ref u801), .unset, .unset, .unset, .unset, .unset] [(.ref u801), (.ref b830)])) rfl (by rw [hml]; rfl) (Steps.refl _) (argsL := [(.ref u801)]) (rest := []) (lenOf pd9 rfl) rfl (by show 2 * 0 + _ ≤ _; exact Nat.le_of_eq rfl) (hb hby at_101) (fun _ _ => ⟨rfl, rfl, (by decide : 17 + 0 ≤ _), (by decide : 178 + 0 ≤ _)⟩)
          dsimp only [Pt.U, Pt.locs, Pt.cells, Pt.slots] at X873 l873 y873 z873 st873 hQ873
          subst l873 y873 z873
          obtain ⟨rfl, Nq873, hh873⟩ := hQ873
          have N874 := Fr.app N855 Nq873
          refine GoH.via (T' := T873) (f' := (mkF m 104 #[.val (.int ia), .val (.int ib), .val (.int ic), .val (.int ie), .val (.int ig), .val (.int zd), .val (.int zk), .val (.ref u801), .val (.ref u814), .val (.ref b830), .val (.int (((ig.toUInt32 >>> ((2 : Int32) &&& 31).toUInt32).toInt32) &&& (7 : Int32))), .val (.ref u801), .unset, .unset, .unset, .unset, .unset] [(.int (0 : Int32))])) st873 ?_
          clear st873 X851 N855 Nq873
          refine GoH.step (T' := T873) (f' := (mkF m 107 #[.val (.int ia), .val (.int ib), .val (.int ic), .val (.int ie), .val (.int ig), .val (.int zd), .val (.int zk), .val (.ref u801), .val (.ref u814), .val (.ref b830), .val (.int (((ig.toUInt32 >>> ((2 : Int32) &&& 31).toUInt32).toInt32) &&& (7 : Int32))), .val (.ref u801), .unset, .unset, .unset, .unset, .unset] [])) (fun t k => XS.ifNo X873.here hx rfl (hb hby at_104) rfl ((if0 _ _).trans (teq (by decide : (0 : Int32) = (0 : Int32))).2) k) ?_
          refine GoH.step (T' := T873) (f' := (mkF m 108 #[.val (.int ia), .val (.int ib), .val (.int ic), .val (.int ie), .val (.int ig), .val (.int zd), .val (.int zk), .val (.ref u801), .val (.ref u814), .val (.ref b830), .val (.int (((ig.toUInt32 >>> ((2 : Int32) &&& 31).toUInt32).toInt32) &&& (7 : Int32))), .val (.ref u801), .unset, .unset, .unset, .unset, .unset] [(.int (1 : Int32))])) (fun t k => XS.iconst X873.here hx rfl (hb hby at_107) k) ?_
          refine GoH.step (T' := T873) (f' := (mkF m 112 #[.val (.int ia), .val (.int ib), .val (.int ic), .val (.int ie), .val (.int ig), .val (.int zd), .val (.int zk), .val (.ref u801), .val (.ref u814), .val (.ref b830), .val (.int (((ig.toUInt32 >>> ((2 : Int32) &&& 31).toUInt32).toInt32) &&& (7 : Int32))), .val (.ref u801), .unset, .unset, .unset, .unset, .unset] [(.int (1 : Int32))])) (fun t k => XS.goto X873.here hx rfl (pc0 := 108) (pc' := 112) rfl (hb hby at_108) (by decide) (by decide) k) ?_
          refine GoH.fin X873 hZ hEL hS851 hk857 CR856 hlk (v := some (.int (nar .boolean (1 : Int32)))) (fun h => by rw [Bd.returns] at h; cases h) (fun fs hr => retN X873 hx (t := .boolean) Bd.returns (by simp) (hb hby at_112) hr) hh873 ?_ (by decide) (by decide)
          exact ⟨rfl, N874, K868⟩
        ·
          refine GoH.step (T' := T851) (f' := (mkF m 113 #[.val (.int ia), .val (.int ib), .val (.int ic), .val (.int ie), .val (.int ig), .val (.int zd), .val (.int zk), .val (.ref u801), .val (.ref u814), .val (.ref b830), .val (.int (((ig.toUInt32 >>> ((2 : Int32) &&& 31).toUInt32).toInt32) &&& (7 : Int32))), .unset, .unset, .unset, .unset, .unset, .unset] [])) (fun t k => XS.icmpYes X851.here hx rfl (pc0 := 90) (pc' := 113) rfl (hb hby at_90) rfl (feq hc872).2 (by decide) (by decide) k) ?_
          refine GoH.step (T' := T851) (f' := (mkF m 115 #[.val (.int ia), .val (.int ib), .val (.int ic), .val (.int ie), .val (.int ig), .val (.int zd), .val (.int zk), .val (.ref u801), .val (.ref u814), .val (.ref b830), .val (.int (((ig.toUInt32 >>> ((2 : Int32) &&& 31).toUInt32).toInt32) &&& (7 : Int32))), .unset, .unset, .unset, .unset, .unset, .unset] [(.int (((ig.toUInt32 >>> ((2 : Int32) &&& 31).toUInt32).toInt32) &&& (7 : Int32)))])) (fun t k => XS.iload X851.here hx rfl (hb hby at_113) rfl k) ?_
          refine GoH.step (T' := T851) (f' := (mkF m 116 #[.val (.int ia), .val (.int ib), .val (.int ic), .val (.int ie), .val (.int ig), .val (.int zd), .val (.int zk), .val (.ref u801), .val (.ref u814), .val (.ref b830), .val (.int (((ig.toUInt32 >>> ((2 : Int32) &&& 31).toUInt32).toInt32) &&& (7 : Int32))), .unset, .unset, .unset, .unset, .unset, .unset] [(.int (3 : Int32)), (.int (((ig.toUInt32 >>> ((2 : Int32) &&& 31).toUInt32).toInt32) &&& (7 : Int32)))])) (fun t k => XS.iconst X851.here hx rfl (hb hby at_115) k) ?_
          by_cases hc875 : (((ig.toUInt32 >>> ((2 : Int32) &&& 31).toUInt32).toInt32) &&& (7 : Int32)) = (3 : Int32)
          ·
            refine GoH.step (T' := T851) (f' := (mkF m 119 #[.val (.int ia), .val (.int ib), .val (.int ic), .val (.int ie), .val (.int ig), .val (.int zd), .val (.int zk), .val (.ref u801), .val (.ref u814), .val (.ref b830), .val (.int (((ig.toUInt32 >>> ((2 : Int32) &&& 31).toUInt32).toInt32) &&& (7 : Int32))), .unset, .unset, .unset, .unset, .unset, .unset] [])) (fun t k => XS.icmpNo X851.here hx rfl (hb hby at_116) rfl (teq hc875).2 k) ?_
            refine GoH.step (T' := T851) (f' := (mkF m 121 #[.val (.int ia), .val (.int ib), .val (.int ic), .val (.int ie), .val (.int ig), .val (.int zd), .val (.int zk), .val (.ref u801), .val (.ref u814), .val (.ref b830), .val (.int (((ig.toUInt32 >>> ((2 : Int32) &&& 31).toUInt32).toInt32) &&& (7 : Int32))), .unset, .unset, .unset, .unset, .unset, .unset] [(.ref b830)])) (fun t k => XS.aload X851.here hx rfl (hb hby at_119) rfl rfl k) ?_
            refine GoH.step (T' := T851) (f' := (mkF m 123 #[.val (.int ia), .val (.int ib), .val (.int ic), .val (.int ie), .val (.int ig), .val (.int zd), .val (.int zk), .val (.ref u801), .val (.ref u814), .val (.ref b830), .val (.int (((ig.toUInt32 >>> ((2 : Int32) &&& 31).toUInt32).toInt32) &&& (7 : Int32))), .val (.ref b830), .unset, .unset, .unset, .unset, .unset] [])) (fun t k => XS.astore X851.here hx rfl (hb hby at_121) rfl rfl (l' := #[.val (.int ia), .val (.int ib), .val (.int ic), .val (.int ie), .val (.int ig), .val (.int zd), .val (.int zk), .val (.ref u801), .val (.ref u814), .val (.ref b830), .val (.int (((ig.toUInt32 >>> ((2 : Int32) &&& 31).toUInt32).toInt32) &&& (7 : Int32))), .val (.ref b830), .unset, .unset, .unset, .unset, .unset]) rfl k) ?_
            refine GoH.step (T' := T851) (f' := (mkF m 125 #[.val (.int ia), .val (.int ib), .val (.int ic), .val (.int ie), .val (.int ig), .val (.int zd), .val (.int zk), .val (.ref u801), .val (.ref u814), .val (.ref b830), .val (.int (((ig.toUInt32 >>> ((2 : Int32) &&& 31).toUInt32).toInt32) &&& (7 : Int32))), .val (.ref b830), .unset, .unset, .unset, .unset, .unset] [(.ref b830)])) (fun t k => XS.aload X851.here hx rfl (hb hby at_123) rfl rfl k) ?_
            refine GoH.step (T' := T851) (f' := (mkF m 127 #[.val (.int ia), .val (.int ib), .val (.int ic), .val (.int ie), .val (.int ig), .val (.int zd), .val (.int zk), .val (.ref u801), .val (.ref u814), .val (.ref b830), .val (.int (((ig.toUInt32 >>> ((2 : Int32) &&& 31).toUInt32).toInt32) &&& (7 : Int32))), .val (.ref b830), .unset, .unset, .unset, .unset, .unset] [(.ref b830), (.ref b830)])) (fun t k => XS.aload X851.here hx rfl (hb hby at_125) rfl rfl k) ?_
            obtain ⟨cq876, kq876, q876a, q876b, q876c⟩ := isOf hZ rfl p852
            obtain ⟨_, _, ⟨T876, L876, k876, n876⟩, -, X876, ⟨Lc876, hQ876, l876, y876, z876⟩, st876⟩ := X851.virtualBack hx (y := (⟨"com/example/tenorbook/tenorbook/definitions/FloatingRateIndex", "equals", "(Ljava/lang/Object;)Z"⟩ : MethodName)) (z := (⟨"com/example/tenorbook/tenorbook/definitions/FloatingRateIndex", "equals", "(Ljava/lang/Object;)Z"⟩ : MethodName)) hown (mvT hZ (hw _ (List.mem_of_getElem? (i := 65) rfl))) (mvT hZ (hw _ (List.mem_of_getElem? (i := 66) rfl))) (notFace_of_selects (args := #[]) (mvT hZ (hw _ (List.mem_of_getElem? (i := 68) rfl)))) (mvT hZ (hw _ (List.mem_of_getElem? (i := 68) rfl))) (mvT hZ (hw _ (List.mem_of_getElem? (i := 67) rfl))) (by decide) (backOf (W := 0) (rm_feq1 l Z a0 hw [] b830 u801 u814 T851.heap n0 O867 p852 p853 p854 f858 f862) hZ (hw _ (List.mem_of_getElem? (i := 69) rfl)) (hw _ (List.mem_of_getElem? (i := 42) rfl)) (by decide) (by decide)) q876a q876c (g := (mkF m 127 #[.val (.int ia), .val (.int ib), .val (.int ic), .val (.int ie), .val (.int ig), .val (.int zd), .val (.int zk), .val (.ref u801), .val (.ref u814), .val (.ref b830), .val (.int (((ig.toUInt32 >>> ((2 : Int32) &&& 31).toUInt32).toInt32) &&& (7 : Int32))), .val (.ref b830), .unset, .unset, .unset, .unset, .unset] [(.ref b830), (.ref b830)])) rfl (by rw [hml]; rfl) (Steps.refl _) (argsL := [(.ref b830)]) (rest := []) (lenOf pd9 rfl) rfl (by show 2 * 0 + _ ≤ _; exact Nat.le_of_eq rfl) (hb hby at_127) (fun _ _ => ⟨rfl, rfl, (by decide : 17 + 0 ≤ _), (by decide : 178 + 0 ≤ _)⟩)
            dsimp only [Pt.U, Pt.locs, Pt.cells, Pt.slots] at X876 l876 y876 z876 st876 hQ876
            subst l876 y876 z876
            obtain ⟨rfl, Nq876, hh876⟩ := hQ876
            have N877 := Fr.app N855 Nq876
            refine GoH.via (T' := T876) (f' := (mkF m 130 #[.val (.int ia), .val (.int ib), .val (.int ic), .val (.int ie), .val (.int ig), .val (.int zd), .val (.int zk), .val (.ref u801), .val (.ref u814), .val (.ref b830), .val (.int (((ig.toUInt32 >>> ((2 : Int32) &&& 31).toUInt32).toInt32) &&& (7 : Int32))), .val (.ref b830), .unset, .unset, .unset, .unset, .unset] [(.int (1 : Int32))])) st876 ?_
            clear st876 X851 N855 Nq876
            refine GoH.fin X876 hZ hEL hS851 hk857 CR856 hlk (v := some (.int (nar .boolean (1 : Int32)))) (fun h => by rw [Bd.returns] at h; cases h) (fun fs hr => retN X876 hx (t := .boolean) Bd.returns (by simp) (hb hby at_130) hr) hh876 ?_ (by decide) (by decide)
            exact ⟨rfl, N877, K868⟩
          ·
            refine GoH.step (T' := T851) (f' := (mkF m 131 #[.val (.int ia), .val (.int ib), .val (.int ic), .val (.int ie), .val (.int ig), .val (.int zd), .val (.int zk), .val (.ref u801), .val (.ref u814), .val (.ref b830), .val (.int (((ig.toUInt32 >>> ((2 : Int32) &&& 31).toUInt32).toInt32) &&& (7 : Int32))), .unset, .unset, .unset, .unset, .unset, .unset] [])) (fun t k => XS.icmpYes X851.here hx rfl (pc0 := 116) (pc' := 131) rfl (hb hby at_116) rfl (feq hc875).2 (by decide) (by decide) k) ?_
            refine GoH.step (T' := T851) (f' := (mkF m 133 #[.val (.int ia), .val (.int ib), .val (.int ic), .val (.int ie), .val (.int ig), .val (.int zd), .val (.int zk), .val (.ref u801), .val (.ref u814), .val (.ref b830), .val (.int (((ig.toUInt32 >>> ((2 : Int32) &&& 31).toUInt32).toInt32) &&& (7 : Int32))), .unset, .unset, .unset, .unset, .unset, .unset] [(.int zd)])) (fun t k => XS.iload X851.here hx rfl (hb hby at_131) rfl k) ?_
            obtain ⟨_, _, ⟨T878, L878, k878, n878⟩, -, X878, hS878, hg878, ⟨Lc878, hQ878, l878, y878, z878, ch878⟩, st878⟩ := callSS X851 hx (y := (⟨"com/example/tenorbook/tenorbook/definitions/FloatingRateIndexEqualsPinLaw", "mk", "(I)Ljava/lang/String;"⟩ : MethodName)) hown (mvT hZ (hw _ (List.mem_of_getElem? (i := 0) rfl))) (mvT hZ (hw _ (List.mem_of_getElem? (i := 1) rfl))) (mvT hZ (hw _ (List.mem_of_getElem? (i := 2) rfl))) (mvT hZ (hw _ (List.mem_of_getElem? (i := 3) rfl))) (by decide) (backOfSH (s := s) (vm0 := T851.vm) (W := 0) (rm_mk l Z a0 hw [] zd wz T851.heap n0 O867 hEL P0 hwz) hZ (hw _ (List.mem_of_getElem? (i := 3) rfl)) (hw _ (List.mem_of_getElem? (i := 2) rfl)) (by decide) (by decide) hEL CR856.1) (g := (mkF m 133 #[.val (.int ia), .val (.int ib), .val (.int ic), .val (.int ie), .val (.int ig), .val (.int zd), .val (.int zk), .val (.ref u801), .val (.ref u814), .val (.ref b830), .val (.int (((ig.toUInt32 >>> ((2 : Int32) &&& 31).toUInt32).toInt32) &&& (7 : Int32))), .unset, .unset, .unset, .unset, .unset, .unset] [(.int zd)])) rfl (by rw [hml]; rfl) (argsL := [(.int zd)]) (rest := []) (lenOf pd10 rfl) rfl (by show 2 * 0 + _ ≤ _; exact Nat.le_of_eq rfl) (hb hby at_133) (fun _ _ => ⟨rfl, rfl, (by decide : 17 + 6 ≤ _), (by decide : 178 + 12 ≤ _)⟩)
            dsimp only [Pt.U, Pt.locs, Pt.cells, Pt.slots] at X878 l878 y878 z878 st878 hQ878 hS878 hg878 ch878
            subst l878 y878 z878
            obtain ⟨X878, hS878, hZ, hown⟩ := rebS (s := s) (vm0 := T851.vm) hS851 (show _ ≤ T851.heap.size by exact hk857) X878 hS878 hg878 hZ hown
            obtain ⟨u879, u880, u881, rfl, Nq878, hh878, p882, p883, p884, p885⟩ := hQ878
            have N886 := Fr.app N855 Nq878
            have CR887 := CR856.trans ch878
            have hk888 := Nat.le_refl T878.heap.size
            have f889 := f858.keep hh878
            have f890 := f859.keep hh878 nin0
            have f891 := f860.keep hh878 nin0
            have f892 := f861.keep hh878 nin0
            have f893 := f862.keep hh878
            have f894 := f863.keep hh878 nin0
            have f895 := f864.keep hh878 nin0
            have f896 := f865.keep hh878 nin0
            have f897 := p852.keep hh878
            have f898 := p853.keep hh878 nin0
            have f899 := p854.keep hh878 nin0
            have O900 := O867.keep hh878 all0
            have K901 := K868.trans hh878 all0
            refine GoH.via (T' := T878) (f' := (mkF m 136 #[.val (.int ia), .val (.int ib), .val (.int ic), .val (.int ie), .val (.int ig), .val (.int zd), .val (.int zk), .val (.ref u801), .val (.ref u814), .val (.ref b830), .val (.int (((ig.toUInt32 >>> ((2 : Int32) &&& 31).toUInt32).toInt32) &&& (7 : Int32))), .unset, .unset, .unset, .unset, .unset, .unset] [(.ref u879)])) st878 ?_
            clear st878 X851 N855 Nq878 CR856 hk857 hS851 f859 f860 f863 f864 p853 p854
            refine GoH.step (T' := T878) (f' := (mkF m 138 #[.val (.int ia), .val (.int ib), .val (.int ic), .val (.int ie), .val (.int ig), .val (.int zd), .val (.int zk), .val (.ref u801), .val (.ref u814), .val (.ref b830), .val (.int (((ig.toUInt32 >>> ((2 : Int32) &&& 31).toUInt32).toInt32) &&& (7 : Int32))), .val (.ref u879), .unset, .unset, .unset, .unset, .unset] [])) (fun t k => XS.astore X878.here hx rfl (hb hby at_136) rfl rfl (l' := #[.val (.int ia), .val (.int ib), .val (.int ic), .val (.int ie), .val (.int ig), .val (.int zd), .val (.int zk), .val (.ref u801), .val (.ref u814), .val (.ref b830), .val (.int (((ig.toUInt32 >>> ((2 : Int32) &&& 31).toUInt32).toInt32) &&& (7 : Int32))), .val (.ref u879), .unset, .unset, .unset, .unset, .unset]) rfl k) ?_
            refine GoH.step (T' := T878) (f' := (mkF m 140 #[.val (.int ia), .val (.int ib), .val (.int ic), .val (.int ie), .val (.int ig), .val (.int zd), .val (.int zk), .val (.ref u801), .val (.ref u814), .val (.ref b830), .val (.int (((ig.toUInt32 >>> ((2 : Int32) &&& 31).toUInt32).toInt32) &&& (7 : Int32))), .val (.ref u879), .unset, .unset, .unset, .unset, .unset] [(.int zk)])) (fun t k => XS.iload X878.here hx rfl (hb hby at_138) rfl k) ?_
            obtain ⟨_, _, ⟨T902, L902, k902, n902⟩, -, X902, hS902, hg902, ⟨Lc902, hQ902, l902, y902, z902, ch902⟩, st902⟩ := callSS X878 hx (y := (⟨"com/example/tenorbook/tenorbook/definitions/FloatingRateIndexEqualsPinLaw", "mk", "(I)Ljava/lang/String;"⟩ : MethodName)) hown (mvT hZ (hw _ (List.mem_of_getElem? (i := 0) rfl))) (mvT hZ (hw _ (List.mem_of_getElem? (i := 1) rfl))) (mvT hZ (hw _ (List.mem_of_getElem? (i := 2) rfl))) (mvT hZ (hw _ (List.mem_of_getElem? (i := 3) rfl))) (by decide) (backOfSH (s := s) (vm0 := T878.vm) (W := 0) (rm_mk l Z a0 hw [] zk wz T878.heap n0 O900 hEL P0 hwz) hZ (hw _ (List.mem_of_getElem? (i := 3) rfl)) (hw _ (List.mem_of_getElem? (i := 2) rfl)) (by decide) (by decide) hEL CR887.1) (g := (mkF m 140 #[.val (.int ia), .val (.int ib), .val (.int ic), .val (.int ie), .val (.int ig), .val (.int zd), .val (.int zk), .val (.ref u801), .val (.ref u814), .val (.ref b830), .val (.int (((ig.toUInt32 >>> ((2 : Int32) &&& 31).toUInt32).toInt32) &&& (7 : Int32))), .val (.ref u879), .unset, .unset, .unset, .unset, .unset] [(.int zk)])) rfl (by rw [hml]; rfl) (argsL := [(.int zk)]) (rest := []) (lenOf pd10 rfl) rfl (by show 2 * 0 + _ ≤ _; exact Nat.le_of_eq rfl) (hb hby at_140) (fun _ _ => ⟨rfl, rfl, (by decide : 23 + 6 ≤ _), (by decide : 190 + 12 ≤ _)⟩)
            dsimp only [Pt.U, Pt.locs, Pt.cells, Pt.slots] at X902 l902 y902 z902 st902 hQ902 hS902 hg902 ch902
            subst l902 y902 z902
            obtain ⟨X902, hS902, hZ, hown⟩ := rebS (s := s) (vm0 := T878.vm) hS878 (show _ ≤ T878.heap.size by exact hk888) X902 hS902 hg902 hZ hown
            obtain ⟨u903, u904, u905, rfl, Nq902, hh902, p906, p907, p908, p909⟩ := hQ902
            have N910 := Fr.app N886 Nq902
            have CR911 := CR887.trans ch902
            have hk912 := Nat.le_refl T902.heap.size
            have f913 := f889.keep hh902
            have f914 := f890.keep hh902 nin0
            have f915 := f891.keep hh902 nin0
            have f916 := f892.keep hh902 nin0
            have f917 := f893.keep hh902
            have f918 := f894.keep hh902 nin0
            have f919 := f895.keep hh902 nin0
            have f920 := f896.keep hh902 nin0
            have f921 := f897.keep hh902
            have f922 := f898.keep hh902 nin0
            have f923 := f899.keep hh902 nin0
            have f924 := p882.keep hh902
            have f925 := p883.keep hh902 nin0
            have f926 := p884.keep hh902 nin0
            have f927 := p885.keep hh902 nin0
            have O928 := O900.keep hh902 all0
            have K929 := K901.trans hh902 all0
            refine GoH.via (T' := T902) (f' := (mkF m 143 #[.val (.int ia), .val (.int ib), .val (.int ic), .val (.int ie), .val (.int ig), .val (.int zd), .val (.int zk), .val (.ref u801), .val (.ref u814), .val (.ref b830), .val (.int (((ig.toUInt32 >>> ((2 : Int32) &&& 31).toUInt32).toInt32) &&& (7 : Int32))), .val (.ref u879), .unset, .unset, .unset, .unset, .unset] [(.ref u903)])) st902 ?_
            clear st902 X878 N886 Nq902 CR887 hk888 hS878 f890 f891 f894 f895 f898 f899 p883 p884
            refine GoH.step (T' := T902) (f' := (mkF m 145 #[.val (.int ia), .val (.int ib), .val (.int ic), .val (.int ie), .val (.int ig), .val (.int zd), .val (.int zk), .val (.ref u801), .val (.ref u814), .val (.ref b830), .val (.int (((ig.toUInt32 >>> ((2 : Int32) &&& 31).toUInt32).toInt32) &&& (7 : Int32))), .val (.ref u879), .val (.ref u903), .unset, .unset, .unset, .unset] [])) (fun t k => XS.astore X902.here hx rfl (hb hby at_143) rfl rfl (l' := #[.val (.int ia), .val (.int ib), .val (.int ic), .val (.int ie), .val (.int ig), .val (.int zd), .val (.int zk), .val (.ref u801), .val (.ref u814), .val (.ref b830), .val (.int (((ig.toUInt32 >>> ((2 : Int32) &&& 31).toUInt32).toInt32) &&& (7 : Int32))), .val (.ref u879), .val (.ref u903), .unset, .unset, .unset, .unset]) rfl k) ?_
            obtain ⟨T930, h930, X930, e930, E930, A930, D930, -, st930⟩ := newO X902 hx hZ hown (hw _ (List.mem_of_getElem? (i := 40) rfl)) (hw _ (List.mem_of_getElem? (i := 41) rfl)) (hw _ (List.mem_of_getElem? (i := 42) rfl)) rfl (g := (mkF m 145 #[.val (.int ia), .val (.int ib), .val (.int ic), .val (.int ie), .val (.int ig), .val (.int zd), .val (.int zk), .val (.ref u801), .val (.ref u814), .val (.ref b830), .val (.int (((ig.toUInt32 >>> ((2 : Int32) &&& 31).toUInt32).toInt32) &&& (7 : Int32))), .val (.ref u879), .val (.ref u903), .unset, .unset, .unset, .unset] [])) rfl (hb hby at_145) (by decide) (by decide)
            obtain ⟨b930, g930⟩ : ∃ z, z = T902.heap.size := ⟨_, rfl⟩
            rw [← g930] at A930 D930 st930
            have g931 : n0 ≤ b930 := Nat.le_trans (own_old_le O928) (Nat.le_of_eq g930.symm)
            have g932 : h0.size ≤ b930 := Nat.le_trans K929.1 (Nat.le_of_eq g930.symm)
            have ne933 : u801 ≠ b930 := Nat.ne_of_lt (Nat.lt_of_lt_of_le f913.lt (Nat.le_of_eq g930.symm))
            have ne934 : u802 ≠ b930 := Nat.ne_of_lt (Nat.lt_of_lt_of_le f916.lt (Nat.le_of_eq g930.symm))
            have ne935 : u814 ≠ b930 := Nat.ne_of_lt (Nat.lt_of_lt_of_le f917.lt (Nat.le_of_eq g930.symm))
            have ne936 : u815 ≠ b930 := Nat.ne_of_lt (Nat.lt_of_lt_of_le f920.lt (Nat.le_of_eq g930.symm))
            have ne937 : b830 ≠ b930 := Nat.ne_of_lt (Nat.lt_of_lt_of_le f921.lt (Nat.le_of_eq g930.symm))
            have ne938 : u879 ≠ b930 := Nat.ne_of_lt (Nat.lt_of_lt_of_le f924.lt (Nat.le_of_eq g930.symm))
            have ne939 : u880 ≠ b930 := Nat.ne_of_lt (Nat.lt_of_lt_of_le f927.lt (Nat.le_of_eq g930.symm))
            have ne940 : u903 ≠ b930 := Nat.ne_of_lt (Nat.lt_of_lt_of_le p906.lt (Nat.le_of_eq g930.symm))
            have ne941 : u904 ≠ b930 := Nat.ne_of_lt (Nat.lt_of_lt_of_le p909.lt (Nat.le_of_eq g930.symm))
            have CR942 := CR911.trans (CHr.ext E930 CR911.1)
            have hk943 := Nat.le_trans hk912 E930.1
            have f944 := f913.ext E930
            have f945 := f914.ext E930
            have f946 := f915.ext E930
            have f947 := f916.ext E930
            have f948 := f917.ext E930
            have f949 := f918.ext E930
            have f950 := f919.ext E930
            have f951 := f920.ext E930
            have f952 := f921.ext E930
            have f953 := f922.ext E930
            have f954 := f923.ext E930
            have f955 := f924.ext E930
            have f956 := f925.ext E930
            have f957 := f926.ext E930
            have f958 := f927.ext E930
            have f959 := p906.ext E930
            have f960 := p907.ext E930
            have f961 := p908.ext E930
            have f962 := p909.ext E930
            have O963 := O928.ext E930
            have K964 := K929.ext E930
            have f965 : Fld Z h930 b930 "com/example/tenorbook/tenorbook/definitions/FloatingRateIndex" "floatingRateOption" "Ljava/lang/String;" .null := D930 (Or.inr (hw _ (List.mem_of_getElem? (i := 59) rfl))) (ty := (.object "java/lang/String")) (by decide)
            have f966 : Fld Z h930 b930 "com/example/tenorbook/tenorbook/definitions/FloatingRateIndex" "designatedMaturity" "Ljava/lang/String;" .null := D930 (Or.inr (hw _ (List.mem_of_getElem? (i := 61) rfl))) (ty := (.object "java/lang/String")) (by decide)
            refine GoH.step (T' := T930) (f' := (mkF m 148 #[.val (.int ia), .val (.int ib), .val (.int ic), .val (.int ie), .val (.int ig), .val (.int zd), .val (.int zk), .val (.ref u801), .val (.ref u814), .val (.ref b830), .val (.int (((ig.toUInt32 >>> ((2 : Int32) &&& 31).toUInt32).toInt32) &&& (7 : Int32))), .val (.ref u879), .val (.ref u903), .unset, .unset, .unset, .unset] [(.ref b930)])) st930 ?_
            clear st930 X902 CR911 hk912 f913 f914 f915 f916 f917 f918 f919 f920 f921 f922 f923 f924 f925 f926 f927 p906 p907 p908 p909 O928 K929
            refine GoH.step (T' := T930) (f' := (mkF m 149 #[.val (.int ia), .val (.int ib), .val (.int ic), .val (.int ie), .val (.int ig), .val (.int zd), .val (.int zk), .val (.ref u801), .val (.ref u814), .val (.ref b830), .val (.int (((ig.toUInt32 >>> ((2 : Int32) &&& 31).toUInt32).toInt32) &&& (7 : Int32))), .val (.ref u879), .val (.ref u903), .unset, .unset, .unset, .unset] [(.ref b930), (.ref b930)])) (fun t k => XS.dup X930.here hx rfl (hb hby at_148) rfl rfl k) ?_
            refine GoH.step (T' := T930) (f' := (mkF m 151 #[.val (.int ia), .val (.int ib), .val (.int ic), .val (.int ie), .val (.int ig), .val (.int zd), .val (.int zk), .val (.ref u801), .val (.ref u814), .val (.ref b830), .val (.int (((ig.toUInt32 >>> ((2 : Int32) &&& 31).toUInt32).toInt32) &&& (7 : Int32))), .val (.ref u879), .val (.ref u903), .unset, .unset, .unset, .unset] [(.ref u879), (.ref b930), (.ref b930)])) (fun t k => XS.aload X930.here hx rfl (hb hby at_149) rfl rfl k) ?_
            refine GoH.step (T' := T930) (f' := (mkF m 153 #[.val (.int ia), .val (.int ib), .val (.int ic), .val (.int ie), .val (.int ig), .val (.int zd), .val (.int zk), .val (.ref u801), .val (.ref u814), .val (.ref b830), .val (.int (((ig.toUInt32 >>> ((2 : Int32) &&& 31).toUInt32).toInt32) &&& (7 : Int32))), .val (.ref u879), .val (.ref u903), .unset, .unset, .unset, .unset] [(.ref u903), (.ref u879), (.ref b930), (.ref b930)])) (fun t k => XS.aload X930.here hx rfl (hb hby at_151) rfl rfl k) ?_
            obtain ⟨_, _, ⟨T967, L967, k967, n967⟩, -, X967, hS967, hg967, ⟨Lc967, hQ967, l967, y967, z967, ch967⟩, st967⟩ := X930.specialBackS hx (y := (⟨"com/example/tenorbook/tenorbook/definitions/FloatingRateIndex", "<init>", "(Ljava/lang/String;Ljava/lang/String;)V"⟩ : MethodName)) rfl hown (mvT hZ (hw _ (List.mem_of_getElem? (i := 43) rfl))) (mvT hZ (hw _ (List.mem_of_getElem? (i := 44) rfl))) (mvT hZ (hw _ (List.mem_of_getElem? (i := 45) rfl))) (by decide) (backOfSH (s := s) (vm0 := T902.vm) (W := 1) (rm_fini l Z a0 hw [] b930 u879 u903 .null .null h930 n0 O963 hEL A930 f965 f966 g931) hZ (hw _ (List.mem_of_getElem? (i := 45) rfl)) (hw _ (List.mem_of_getElem? (i := 42) rfl)) (by decide) (by decide) hEL CR942.1) (g := (mkF m 153 #[.val (.int ia), .val (.int ib), .val (.int ic), .val (.int ie), .val (.int ig), .val (.int zd), .val (.int zk), .val (.ref u801), .val (.ref u814), .val (.ref b830), .val (.int (((ig.toUInt32 >>> ((2 : Int32) &&& 31).toUInt32).toInt32) &&& (7 : Int32))), .val (.ref u879), .val (.ref u903), .unset, .unset, .unset, .unset] [(.ref u903), (.ref u879), (.ref b930), (.ref b930)])) rfl (by rw [hml]; rfl) (Steps.refl _) (a := b930) (argsL := [(.ref u879), (.ref u903)]) (rest := [(.ref b930)]) (lenOf pd11 rfl) rfl (by show 2 * 0 + _ ≤ _; exact Nat.le_of_eq rfl) (hb hby at_153) (fun _ _ => ⟨rfl, e930, (by decide : 30 + 4 ≤ _), (by decide : 204 + 152 ≤ _)⟩)
            dsimp only [Pt.U, Pt.locs, Pt.cells, Pt.slots] at X967 l967 y967 z967 st967 hQ967 hS967 hg967 ch967
            subst l967 y967 z967
            obtain ⟨X967, hS967, hZ, hown⟩ := rebS (s := s) (vm0 := T902.vm) hS902 (show _ ≤ T930.heap.size by rw [e930]; exact hk943) X967 hS967 hg967 hZ hown
            obtain ⟨rfl, Nq967, hh967, p968, p969, p970⟩ := hQ967
            have N971 := Fr.app N910 Nq967
            have CR972 := CR942.trans ch967
            have hk973 := Nat.le_refl T967.heap.size
            have f974 := f944.keep hh967
            have f975 := f945.keep hh967 (ninS ne933 nin0)
            have f976 := f946.keep hh967 (ninS ne933 nin0)
            have f977 := f947.keep hh967 (ninS ne934 nin0)
            have f978 := f948.keep hh967
            have f979 := f949.keep hh967 (ninS ne935 nin0)
            have f980 := f950.keep hh967 (ninS ne935 nin0)
            have f981 := f951.keep hh967 (ninS ne936 nin0)
            have f982 := f952.keep hh967
            have f983 := f953.keep hh967 (ninS ne937 nin0)
            have f984 := f954.keep hh967 (ninS ne937 nin0)
            have f985 := f955.keep hh967
            have f986 := f956.keep hh967 (ninS ne938 nin0)
            have f987 := f957.keep hh967 (ninS ne938 nin0)
            have f988 := f958.keep hh967 (ninS ne939 nin0)
            have f989 := f959.keep hh967
            have f990 := f960.keep hh967 (ninS ne940 nin0)
            have f991 := f961.keep hh967 (ninS ne940 nin0)
            have f992 := f962.keep hh967 (ninS ne941 nin0)
            have f993 := A930.keep hh967
            have O994 := O963.keep hh967 (allS g931 all0)
            have K995 := K964.trans hh967 (allS (Or.inr g932) all0)
            refine GoH.via (T' := T967) (f' := (mkF m 156 #[.val (.int ia), .val (.int ib), .val (.int ic), .val (.int ie), .val (.int ig), .val (.int zd), .val (.int zk), .val (.ref u801), .val (.ref u814), .val (.ref b830), .val (.int (((ig.toUInt32 >>> ((2 : Int32) &&& 31).toUInt32).toInt32) &&& (7 : Int32))), .val (.ref u879), .val (.ref u903), .unset, .unset, .unset, .unset] [(.ref b930)])) st967 ?_
            clear st967 X930 N910 Nq967 CR942 hk943 hS902 f945 f946 f949 f950 f953 f954 f956 f957 f960 f961
            refine GoH.step (T' := T967) (f' := (mkF m 158 #[.val (.int ia), .val (.int ib), .val (.int ic), .val (.int ie), .val (.int ig), .val (.int zd), .val (.int zk), .val (.ref u801), .val (.ref u814), .val (.ref b830), .val (.int (((ig.toUInt32 >>> ((2 : Int32) &&& 31).toUInt32).toInt32) &&& (7 : Int32))), .val (.ref u879), .val (.ref u903), .val (.ref b930), .unset, .unset, .unset] [])) (fun t k => XS.astore X967.here hx rfl (hb hby at_156) rfl rfl (l' := #[.val (.int ia), .val (.int ib), .val (.int ic), .val (.int ie), .val (.int ig), .val (.int zd), .val (.int zk), .val (.ref u801), .val (.ref u814), .val (.ref b830), .val (.int (((ig.toUInt32 >>> ((2 : Int32) &&& 31).toUInt32).toInt32) &&& (7 : Int32))), .val (.ref u879), .val (.ref u903), .val (.ref b930), .unset, .unset, .unset]) rfl k) ?_
            refine GoH.step (T' := T967) (f' := (mkF m 159 #[.val (.int ia), .val (.int ib), .val (.int ic), .val (.int ie), .val (.int ig), .val (.int zd), .val (.int zk), .val (.ref u801), .val (.ref u814), .val (.ref b830), .val (.int (((ig.toUInt32 >>> ((2 : Int32) &&& 31).toUInt32).toInt32) &&& (7 : Int32))), .val (.ref u879), .val (.ref u903), .val (.ref b930), .unset, .unset, .unset] [(.int ia)])) (fun t k => XS.iloadN X967.here hx rfl (hb hby at_158) rfl k) ?_
            refine GoH.step (T' := T967) (f' := (mkF m 161 #[.val (.int ia), .val (.int ib), .val (.int ic), .val (.int ie), .val (.int ig), .val (.int zd), .val (.int zk), .val (.ref u801), .val (.ref u814), .val (.ref b830), .val (.int (((ig.toUInt32 >>> ((2 : Int32) &&& 31).toUInt32).toInt32) &&& (7 : Int32))), .val (.ref u879), .val (.ref u903), .val (.ref b930), .unset, .unset, .unset] [(.int zd), (.int ia)])) (fun t k => XS.iload X967.here hx rfl (hb hby at_159) rfl k) ?_
            obtain ⟨_, _, ⟨T996, L996, k996, n996⟩, -, X996, ⟨Lc996, hQ996, l996, y996, z996⟩, st996⟩ := Jvm.LawKit.callS X967 hx (y := (⟨"com/example/tenorbook/tenorbook/definitions/FloatingRateIndexEqualsPinLaw", "same", "(II)Z"⟩ : MethodName)) hown (mvT hZ (hw _ (List.mem_of_getElem? (i := 62) rfl))) (mvT hZ (hw _ (List.mem_of_getElem? (i := 63) rfl))) (mvT hZ (hw _ (List.mem_of_getElem? (i := 2) rfl))) (mvT hZ (hw _ (List.mem_of_getElem? (i := 64) rfl))) (by decide) (backOf (W := 0) (rm_same l Z a0 hw [] ia zd T967.heap n0 O994 ) hZ (hw _ (List.mem_of_getElem? (i := 64) rfl)) (hw _ (List.mem_of_getElem? (i := 2) rfl)) (by decide) (by decide)) (g := (mkF m 161 #[.val (.int ia), .val (.int ib), .val (.int ic), .val (.int ie), .val (.int ig), .val (.int zd), .val (.int zk), .val (.ref u801), .val (.ref u814), .val (.ref b830), .val (.int (((ig.toUInt32 >>> ((2 : Int32) &&& 31).toUInt32).toInt32) &&& (7 : Int32))), .val (.ref u879), .val (.ref u903), .val (.ref b930), .unset, .unset, .unset] [(.int zd), (.int ia)])) rfl (by rw [hml]; rfl) (argsL := [(.int ia), (.int zd)]) (rest := []) (lenOf pd12 rfl) rfl (by show 2 * 0 + _ ≤ _; exact Nat.le_of_eq rfl) (hb hby at_161) (fun _ _ => ⟨rfl, rfl, (by decide : 34 + 0 ≤ _), (by decide : 356 + 0 ≤ _)⟩)
            dsimp only [Pt.U, Pt.locs, Pt.cells, Pt.slots] at X996 l996 y996 z996 st996 hQ996
            subst l996 y996 z996
            obtain ⟨rfl, Nq996, hh996⟩ := hQ996
            have N997 := Fr.app N971 Nq996
            refine GoH.step (T' := T996) (f' := (mkF m 164 #[.val (.int ia), .val (.int ib), .val (.int ic), .val (.int ie), .val (.int ig), .val (.int zd), .val (.int zk), .val (.ref u801), .val (.ref u814), .val (.ref b830), .val (.int (((ig.toUInt32 >>> ((2 : Int32) &&& 31).toUInt32).toInt32) &&& (7 : Int32))), .val (.ref u879), .val (.ref u903), .val (.ref b930), .unset, .unset, .unset] [(.int (if own_str ia = own_str zd then (1 : Int32) else 0))])) st996 ?_
            clear st996 X967 N971 Nq996
            by_cases hc998 : (if own_str ia = own_str zd then (1 : Int32) else 0) = (0 : Int32)
            ·
              refine GoH.step (T' := T996) (f' := (mkF m 180 #[.val (.int ia), .val (.int ib), .val (.int ic), .val (.int ie), .val (.int ig), .val (.int zd), .val (.int zk), .val (.ref u801), .val (.ref u814), .val (.ref b830), .val (.int (((ig.toUInt32 >>> ((2 : Int32) &&& 31).toUInt32).toInt32) &&& (7 : Int32))), .val (.ref u879), .val (.ref u903), .val (.ref b930), .unset, .unset, .unset] [])) (fun t k => XS.ifYes X996.here hx rfl (pc0 := 164) (pc' := 180) rfl (hb hby at_164) rfl ((if0 _ _).trans (teq hc998).1) (by decide) (by decide) k) ?_
              refine GoH.step (T' := T996) (f' := (mkF m 181 #[.val (.int ia), .val (.int ib), .val (.int ic), .val (.int ie), .val (.int ig), .val (.int zd), .val (.int zk), .val (.ref u801), .val (.ref u814), .val (.ref b830), .val (.int (((ig.toUInt32 >>> ((2 : Int32) &&& 31).toUInt32).toInt32) &&& (7 : Int32))), .val (.ref u879), .val (.ref u903), .val (.ref b930), .unset, .unset, .unset] [(.int (0 : Int32))])) (fun t k => XS.iconst X996.here hx rfl (hb hby at_180) k) ?_
              refine GoH.step (T' := T996) (f' := (mkF m 183 #[.val (.int ia), .val (.int ib), .val (.int ic), .val (.int ie), .val (.int ig), .val (.int zd), .val (.int zk), .val (.ref u801), .val (.ref u814), .val (.ref b830), .val (.int (((ig.toUInt32 >>> ((2 : Int32) &&& 31).toUInt32).toInt32) &&& (7 : Int32))), .val (.ref u879), .val (.ref u903), .val (.ref b930), .val (.int (0 : Int32)), .unset, .unset] [])) (fun t k => XS.istore X996.here hx rfl (hb hby at_181) rfl (l' := #[.val (.int ia), .val (.int ib), .val (.int ic), .val (.int ie), .val (.int ig), .val (.int zd), .val (.int zk), .val (.ref u801), .val (.ref u814), .val (.ref b830), .val (.int (((ig.toUInt32 >>> ((2 : Int32) &&& 31).toUInt32).toInt32) &&& (7 : Int32))), .val (.ref u879), .val (.ref u903), .val (.ref b930), .val (.int (0 : Int32)), .unset, .unset]) rfl k) ?_
              refine GoH.step (T' := T996) (f' := (mkF m 185 #[.val (.int ia), .val (.int ib), .val (.int ic), .val (.int ie), .val (.int ig), .val (.int zd), .val (.int zk), .val (.ref u801), .val (.ref u814), .val (.ref b830), .val (.int (((ig.toUInt32 >>> ((2 : Int32) &&& 31).toUInt32).toInt32) &&& (7 : Int32))), .val (.ref u879), .val (.ref u903), .val (.ref b930), .val (.int (0 : Int32)), .unset, .unset] [(.ref b930)])) (fun t k => XS.aload X996.here hx rfl (hb hby at_183) rfl rfl k) ?_
              refine GoH.step (T' := T996) (f' := (mkF m 187 #[.val (.int ia), .val (.int ib), .val (.int ic), .val (.int ie), .val (.int ig), .val (.int zd), .val (.int zk), .val (.ref u801), .val (.ref u814), .val (.ref b830), .val (.int (((ig.toUInt32 >>> ((2 : Int32) &&& 31).toUInt32).toInt32) &&& (7 : Int32))), .val (.ref u879), .val (.ref u903), .val (.ref b930), .val (.int (0 : Int32)), .val (.ref b930), .unset] [])) (fun t k => XS.astore X996.here hx rfl (hb hby at_185) rfl rfl (l' := #[.val (.int ia), .val (.int ib), .val (.int ic), .val (.int ie), .val (.int ig), .val (.int zd), .val (.int zk), .val (.ref u801), .val (.ref u814), .val (.ref b830), .val (.int (((ig.toUInt32 >>> ((2 : Int32) &&& 31).toUInt32).toInt32) &&& (7 : Int32))), .val (.ref u879), .val (.ref u903), .val (.ref b930), .val (.int (0 : Int32)), .val (.ref b930), .unset]) rfl k) ?_
              refine GoH.step (T' := T996) (f' := (mkF m 189 #[.val (.int ia), .val (.int ib), .val (.int ic), .val (.int ie), .val (.int ig), .val (.int zd), .val (.int zk), .val (.ref u801), .val (.ref u814), .val (.ref b830), .val (.int (((ig.toUInt32 >>> ((2 : Int32) &&& 31).toUInt32).toInt32) &&& (7 : Int32))), .val (.ref u879), .val (.ref u903), .val (.ref b930), .val (.int (0 : Int32)), .val (.ref b930), .unset] [(.ref b830)])) (fun t k => XS.aload X996.here hx rfl (hb hby at_187) rfl rfl k) ?_
              refine GoH.step (T' := T996) (f' := (mkF m 191 #[.val (.int ia), .val (.int ib), .val (.int ic), .val (.int ie), .val (.int ig), .val (.int zd), .val (.int zk), .val (.ref u801), .val (.ref u814), .val (.ref b830), .val (.int (((ig.toUInt32 >>> ((2 : Int32) &&& 31).toUInt32).toInt32) &&& (7 : Int32))), .val (.ref u879), .val (.ref u903), .val (.ref b930), .val (.int (0 : Int32)), .val (.ref b930), .val (.ref b830)] [])) (fun t k => XS.astore X996.here hx rfl (hb hby at_189) rfl rfl (l' := #[.val (.int ia), .val (.int ib), .val (.int ic), .val (.int ie), .val (.int ig), .val (.int zd), .val (.int zk), .val (.ref u801), .val (.ref u814), .val (.ref b830), .val (.int (((ig.toUInt32 >>> ((2 : Int32) &&& 31).toUInt32).toInt32) &&& (7 : Int32))), .val (.ref u879), .val (.ref u903), .val (.ref b930), .val (.int (0 : Int32)), .val (.ref b930), .val (.ref b830)]) rfl k) ?_
              refine GoH.step (T' := T996) (f' := (mkF m 193 #[.val (.int ia), .val (.int ib), .val (.int ic), .val (.int ie), .val (.int ig), .val (.int zd), .val (.int zk), .val (.ref u801), .val (.ref u814), .val (.ref b830), .val (.int (((ig.toUInt32 >>> ((2 : Int32) &&& 31).toUInt32).toInt32) &&& (7 : Int32))), .val (.ref u879), .val (.ref u903), .val (.ref b930), .val (.int (0 : Int32)), .val (.ref b930), .val (.ref b830)] [(.ref b830)])) (fun t k => XS.aload X996.here hx rfl (hb hby at_191) rfl rfl k) ?_
              refine GoH.step (T' := T996) (f' := (mkF m 195 #[.val (.int ia), .val (.int ib), .val (.int ic), .val (.int ie), .val (.int ig), .val (.int zd), .val (.int zk), .val (.ref u801), .val (.ref u814), .val (.ref b830), .val (.int (((ig.toUInt32 >>> ((2 : Int32) &&& 31).toUInt32).toInt32) &&& (7 : Int32))), .val (.ref u879), .val (.ref u903), .val (.ref b930), .val (.int (0 : Int32)), .val (.ref b930), .val (.ref b830)] [(.ref b930), (.ref b830)])) (fun t k => XS.aload X996.here hx rfl (hb hby at_193) rfl rfl k) ?_
              obtain ⟨cq999, kq999, q999a, q999b, q999c⟩ := isOf hZ hh996 f982
              obtain ⟨_, _, ⟨T999, L999, k999, n999⟩, -, X999, ⟨Lc999, hQ999, l999, y999, z999⟩, st999⟩ := X996.virtualBack hx (y := (⟨"com/example/tenorbook/tenorbook/definitions/FloatingRateIndex", "equals", "(Ljava/lang/Object;)Z"⟩ : MethodName)) (z := (⟨"com/example/tenorbook/tenorbook/definitions/FloatingRateIndex", "equals", "(Ljava/lang/Object;)Z"⟩ : MethodName)) hown (mvT hZ (hw _ (List.mem_of_getElem? (i := 65) rfl))) (mvT hZ (hw _ (List.mem_of_getElem? (i := 66) rfl))) (notFace_of_selects (args := #[]) (mvT hZ (hw _ (List.mem_of_getElem? (i := 68) rfl)))) (mvT hZ (hw _ (List.mem_of_getElem? (i := 68) rfl))) (mvT hZ (hw _ (List.mem_of_getElem? (i := 67) rfl))) (by decide) (backOf (W := 0) (rm_feq l Z a0 hw [] b830 b930 u801 u814 u879 u903 u802 u815 u880 u904 u803 u816 u881 u905 (own_str ia) (own_str ib) (own_str zd) (own_str zk) wz T967.heap n0 O994 p968 f983 f984 p969 p970 f974 f975 f976 f977 f978 f979 f980 f981 f985 f986 f987 f988 f989 f990 f991 f992 P0 hwz (own_strlen _) (own_strlen _) (own_strlen _) (own_strlen _)) hZ (hw _ (List.mem_of_getElem? (i := 69) rfl)) (hw _ (List.mem_of_getElem? (i := 42) rfl)) (by decide) (by decide)) q999a q999c (g := (mkF m 195 #[.val (.int ia), .val (.int ib), .val (.int ic), .val (.int ie), .val (.int ig), .val (.int zd), .val (.int zk), .val (.ref u801), .val (.ref u814), .val (.ref b830), .val (.int (((ig.toUInt32 >>> ((2 : Int32) &&& 31).toUInt32).toInt32) &&& (7 : Int32))), .val (.ref u879), .val (.ref u903), .val (.ref b930), .val (.int (0 : Int32)), .val (.ref b930), .val (.ref b830)] [(.ref b930), (.ref b830)])) rfl (by rw [hml]; rfl) (Steps.refl _) (argsL := [(.ref b930)]) (rest := []) (lenOf pd9 rfl) rfl (by show 2 * 0 + _ ≤ _; exact Nat.le_of_eq rfl) (hb hby at_195) (fun _ _ => ⟨rfl, hh996, (by decide : 34 + 0 ≤ _), (by decide : 356 + 0 ≤ _)⟩)
              dsimp only [Pt.U, Pt.locs, Pt.cells, Pt.slots] at X999 l999 y999 z999 st999 hQ999
              subst l999 y999 z999
              obtain ⟨rfl, Nq999, hh999⟩ := hQ999
              have N1000 := Fr.app N997 Nq999
              refine GoH.via (T' := T999) (f' := (mkF m 198 #[.val (.int ia), .val (.int ib), .val (.int ic), .val (.int ie), .val (.int ig), .val (.int zd), .val (.int zk), .val (.ref u801), .val (.ref u814), .val (.ref b830), .val (.int (((ig.toUInt32 >>> ((2 : Int32) &&& 31).toUInt32).toInt32) &&& (7 : Int32))), .val (.ref u879), .val (.ref u903), .val (.ref b930), .val (.int (0 : Int32)), .val (.ref b930), .val (.ref b830)] [(.int (if (own_str ia) = (own_str zd) ∧ (own_str ib) = (own_str zk) then (1 : Int32) else 0))])) st999 ?_
              clear st999 X996 N997 Nq999
              refine GoH.step (T' := T999) (f' := (mkF m 200 #[.val (.int ia), .val (.int ib), .val (.int ic), .val (.int ie), .val (.int ig), .val (.int zd), .val (.int zk), .val (.ref u801), .val (.ref u814), .val (.ref b830), .val (.int (((ig.toUInt32 >>> ((2 : Int32) &&& 31).toUInt32).toInt32) &&& (7 : Int32))), .val (.ref u879), .val (.ref u903), .val (.ref b930), .val (.int (0 : Int32)), .val (.ref b930), .val (.ref b830)] [(.int (0 : Int32)), (.int (if (own_str ia) = (own_str zd) ∧ (own_str ib) = (own_str zk) then (1 : Int32) else 0))])) (fun t k => XS.iload X999.here hx rfl (hb hby at_198) rfl k) ?_
              have hc1001 : (if (own_str ia) = (own_str zd) ∧ (own_str ib) = (own_str zk) then (1 : Int32) else 0) = (0 : Int32) := by
                exact own_f1 hc998
              refine GoH.step (T' := T999) (f' := (mkF m 203 #[.val (.int ia), .val (.int ib), .val (.int ic), .val (.int ie), .val (.int ig), .val (.int zd), .val (.int zk), .val (.ref u801), .val (.ref u814), .val (.ref b830), .val (.int (((ig.toUInt32 >>> ((2 : Int32) &&& 31).toUInt32).toInt32) &&& (7 : Int32))), .val (.ref u879), .val (.ref u903), .val (.ref b930), .val (.int (0 : Int32)), .val (.ref b930), .val (.ref b830)] [])) (fun t k => XS.icmpNo X999.here hx rfl (hb hby at_200) rfl (teq hc1001).2 k) ?_
              refine GoH.step (T' := T999) (f' := (mkF m 205 #[.val (.int ia), .val (.int ib), .val (.int ic), .val (.int ie), .val (.int ig), .val (.int zd), .val (.int zk), .val (.ref u801), .val (.ref u814), .val (.ref b830), .val (.int (((ig.toUInt32 >>> ((2 : Int32) &&& 31).toUInt32).toInt32) &&& (7 : Int32))), .val (.ref u879), .val (.ref u903), .val (.ref b930), .val (.int (0 : Int32)), .val (.ref b930), .val (.ref b830)] [(.ref b930)])) (fun t k => XS.aload X999.here hx rfl (hb hby at_203) rfl rfl k) ?_
              refine GoH.step (T' := T999) (f' := (mkF m 207 #[.val (.int ia), .val (.int ib), .val (.int ic), .val (.int ie), .val (.int ig), .val (.int zd), .val (.int zk), .val (.ref u801), .val (.ref u814), .val (.ref b830), .val (.int (((ig.toUInt32 >>> ((2 : Int32) &&& 31).toUInt32).toInt32) &&& (7 : Int32))), .val (.ref u879), .val (.ref u903), .val (.ref b930), .val (.int (0 : Int32)), .val (.ref b930), .val (.ref b830)] [(.ref b830), (.ref b930)])) (fun t k => XS.aload X999.here hx rfl (hb hby at_205) rfl rfl k) ?_
              obtain ⟨cq1002, kq1002, q1002a, q1002b, q1002c⟩ := isOf hZ hh999 p968
              obtain ⟨_, _, ⟨T1002, L1002, k1002, n1002⟩, -, X1002, ⟨Lc1002, hQ1002, l1002, y1002, z1002⟩, st1002⟩ := X999.virtualBack hx (y := (⟨"com/example/tenorbook/tenorbook/definitions/FloatingRateIndex", "equals", "(Ljava/lang/Object;)Z"⟩ : MethodName)) (z := (⟨"com/example/tenorbook/tenorbook/definitions/FloatingRateIndex", "equals", "(Ljava/lang/Object;)Z"⟩ : MethodName)) hown (mvT hZ (hw _ (List.mem_of_getElem? (i := 65) rfl))) (mvT hZ (hw _ (List.mem_of_getElem? (i := 66) rfl))) (notFace_of_selects (args := #[]) (mvT hZ (hw _ (List.mem_of_getElem? (i := 68) rfl)))) (mvT hZ (hw _ (List.mem_of_getElem? (i := 68) rfl))) (mvT hZ (hw _ (List.mem_of_getElem? (i := 67) rfl))) (by decide) (backOf (W := 0) (rm_feq l Z a0 hw [] b930 b830 u879 u903 u801 u814 u880 u904 u802 u815 u881 u905 u803 u816 (own_str zd) (own_str zk) (own_str ia) (own_str ib) wz T967.heap n0 O994 f982 p969 p970 f983 f984 f985 f986 f987 f988 f989 f990 f991 f992 f974 f975 f976 f977 f978 f979 f980 f981 P0 hwz (own_strlen _) (own_strlen _) (own_strlen _) (own_strlen _)) hZ (hw _ (List.mem_of_getElem? (i := 69) rfl)) (hw _ (List.mem_of_getElem? (i := 42) rfl)) (by decide) (by decide)) q1002a q1002c (g := (mkF m 207 #[.val (.int ia), .val (.int ib), .val (.int ic), .val (.int ie), .val (.int ig), .val (.int zd), .val (.int zk), .val (.ref u801), .val (.ref u814), .val (.ref b830), .val (.int (((ig.toUInt32 >>> ((2 : Int32) &&& 31).toUInt32).toInt32) &&& (7 : Int32))), .val (.ref u879), .val (.ref u903), .val (.ref b930), .val (.int (0 : Int32)), .val (.ref b930), .val (.ref b830)] [(.ref b830), (.ref b930)])) rfl (by rw [hml]; rfl) (Steps.refl _) (argsL := [(.ref b830)]) (rest := []) (lenOf pd9 rfl) rfl (by show 2 * 0 + _ ≤ _; exact Nat.le_of_eq rfl) (hb hby at_207) (fun _ _ => ⟨rfl, hh999, (by decide : 34 + 0 ≤ _), (by decide : 356 + 0 ≤ _)⟩)
              dsimp only [Pt.U, Pt.locs, Pt.cells, Pt.slots] at X1002 l1002 y1002 z1002 st1002 hQ1002
              subst l1002 y1002 z1002
              obtain ⟨rfl, Nq1002, hh1002⟩ := hQ1002
              have N1003 := Fr.app N1000 Nq1002
              refine GoH.via (T' := T1002) (f' := (mkF m 210 #[.val (.int ia), .val (.int ib), .val (.int ic), .val (.int ie), .val (.int ig), .val (.int zd), .val (.int zk), .val (.ref u801), .val (.ref u814), .val (.ref b830), .val (.int (((ig.toUInt32 >>> ((2 : Int32) &&& 31).toUInt32).toInt32) &&& (7 : Int32))), .val (.ref u879), .val (.ref u903), .val (.ref b930), .val (.int (0 : Int32)), .val (.ref b930), .val (.ref b830)] [(.int (if (own_str zd) = (own_str ia) ∧ (own_str zk) = (own_str ib) then (1 : Int32) else 0))])) st1002 ?_
              clear st1002 X999 N1000 Nq1002
              refine GoH.step (T' := T1002) (f' := (mkF m 212 #[.val (.int ia), .val (.int ib), .val (.int ic), .val (.int ie), .val (.int ig), .val (.int zd), .val (.int zk), .val (.ref u801), .val (.ref u814), .val (.ref b830), .val (.int (((ig.toUInt32 >>> ((2 : Int32) &&& 31).toUInt32).toInt32) &&& (7 : Int32))), .val (.ref u879), .val (.ref u903), .val (.ref b930), .val (.int (0 : Int32)), .val (.ref b930), .val (.ref b830)] [(.int (0 : Int32)), (.int (if (own_str zd) = (own_str ia) ∧ (own_str zk) = (own_str ib) then (1 : Int32) else 0))])) (fun t k => XS.iload X1002.here hx rfl (hb hby at_210) rfl k) ?_
              have hc1004 : (if (own_str zd) = (own_str ia) ∧ (own_str zk) = (own_str ib) then (1 : Int32) else 0) = (0 : Int32) := by
                exact own_f1s hc998
              refine GoH.step (T' := T1002) (f' := (mkF m 215 #[.val (.int ia), .val (.int ib), .val (.int ic), .val (.int ie), .val (.int ig), .val (.int zd), .val (.int zk), .val (.ref u801), .val (.ref u814), .val (.ref b830), .val (.int (((ig.toUInt32 >>> ((2 : Int32) &&& 31).toUInt32).toInt32) &&& (7 : Int32))), .val (.ref u879), .val (.ref u903), .val (.ref b930), .val (.int (0 : Int32)), .val (.ref b930), .val (.ref b830)] [])) (fun t k => XS.icmpNo X1002.here hx rfl (hb hby at_212) rfl (teq hc1004).2 k) ?_
              refine GoH.step (T' := T1002) (f' := (mkF m 216 #[.val (.int ia), .val (.int ib), .val (.int ic), .val (.int ie), .val (.int ig), .val (.int zd), .val (.int zk), .val (.ref u801), .val (.ref u814), .val (.ref b830), .val (.int (((ig.toUInt32 >>> ((2 : Int32) &&& 31).toUInt32).toInt32) &&& (7 : Int32))), .val (.ref u879), .val (.ref u903), .val (.ref b930), .val (.int (0 : Int32)), .val (.ref b930), .val (.ref b830)] [(.int (1 : Int32))])) (fun t k => XS.iconst X1002.here hx rfl (hb hby at_215) k) ?_
              refine GoH.step (T' := T1002) (f' := (mkF m 220 #[.val (.int ia), .val (.int ib), .val (.int ic), .val (.int ie), .val (.int ig), .val (.int zd), .val (.int zk), .val (.ref u801), .val (.ref u814), .val (.ref b830), .val (.int (((ig.toUInt32 >>> ((2 : Int32) &&& 31).toUInt32).toInt32) &&& (7 : Int32))), .val (.ref u879), .val (.ref u903), .val (.ref b930), .val (.int (0 : Int32)), .val (.ref b930), .val (.ref b830)] [(.int (1 : Int32))])) (fun t k => XS.goto X1002.here hx rfl (pc0 := 216) (pc' := 220) rfl (hb hby at_216) (by decide) (by decide) k) ?_
              refine GoH.fin X1002 hZ hEL hS967 hk973 CR972 hlk (v := some (.int (nar .boolean (1 : Int32)))) (fun h => by rw [Bd.returns] at h; cases h) (fun fs hr => retN X1002 hx (t := .boolean) Bd.returns (by simp) (hb hby at_220) hr) hh1002 ?_ (by decide) (by decide)
              exact ⟨rfl, N1003, K995⟩
            ·
              refine GoH.step (T' := T996) (f' := (mkF m 167 #[.val (.int ia), .val (.int ib), .val (.int ic), .val (.int ie), .val (.int ig), .val (.int zd), .val (.int zk), .val (.ref u801), .val (.ref u814), .val (.ref b830), .val (.int (((ig.toUInt32 >>> ((2 : Int32) &&& 31).toUInt32).toInt32) &&& (7 : Int32))), .val (.ref u879), .val (.ref u903), .val (.ref b930), .unset, .unset, .unset] [])) (fun t k => XS.ifNo X996.here hx rfl (hb hby at_164) rfl ((if0 _ _).trans (feq hc998).1) k) ?_
              refine GoH.step (T' := T996) (f' := (mkF m 168 #[.val (.int ia), .val (.int ib), .val (.int ic), .val (.int ie), .val (.int ig), .val (.int zd), .val (.int zk), .val (.ref u801), .val (.ref u814), .val (.ref b830), .val (.int (((ig.toUInt32 >>> ((2 : Int32) &&& 31).toUInt32).toInt32) &&& (7 : Int32))), .val (.ref u879), .val (.ref u903), .val (.ref b930), .unset, .unset, .unset] [(.int ib)])) (fun t k => XS.iloadN X996.here hx rfl (hb hby at_167) rfl k) ?_
              refine GoH.step (T' := T996) (f' := (mkF m 170 #[.val (.int ia), .val (.int ib), .val (.int ic), .val (.int ie), .val (.int ig), .val (.int zd), .val (.int zk), .val (.ref u801), .val (.ref u814), .val (.ref b830), .val (.int (((ig.toUInt32 >>> ((2 : Int32) &&& 31).toUInt32).toInt32) &&& (7 : Int32))), .val (.ref u879), .val (.ref u903), .val (.ref b930), .unset, .unset, .unset] [(.int zk), (.int ib)])) (fun t k => XS.iload X996.here hx rfl (hb hby at_168) rfl k) ?_
              obtain ⟨_, _, ⟨T1005, L1005, k1005, n1005⟩, -, X1005, ⟨Lc1005, hQ1005, l1005, y1005, z1005⟩, st1005⟩ := Jvm.LawKit.callS X996 hx (y := (⟨"com/example/tenorbook/tenorbook/definitions/FloatingRateIndexEqualsPinLaw", "same", "(II)Z"⟩ : MethodName)) hown (mvT hZ (hw _ (List.mem_of_getElem? (i := 62) rfl))) (mvT hZ (hw _ (List.mem_of_getElem? (i := 63) rfl))) (mvT hZ (hw _ (List.mem_of_getElem? (i := 2) rfl))) (mvT hZ (hw _ (List.mem_of_getElem? (i := 64) rfl))) (by decide) (backOf (W := 0) (rm_same l Z a0 hw [] ib zk T967.heap n0 O994 ) hZ (hw _ (List.mem_of_getElem? (i := 64) rfl)) (hw _ (List.mem_of_getElem? (i := 2) rfl)) (by decide) (by decide)) (g := (mkF m 170 #[.val (.int ia), .val (.int ib), .val (.int ic), .val (.int ie), .val (.int ig), .val (.int zd), .val (.int zk), .val (.ref u801), .val (.ref u814), .val (.ref b830), .val (.int (((ig.toUInt32 >>> ((2 : Int32) &&& 31).toUInt32).toInt32) &&& (7 : Int32))), .val (.ref u879), .val (.ref u903), .val (.ref b930), .unset, .unset, .unset] [(.int zk), (.int ib)])) rfl (by rw [hml]; rfl) (argsL := [(.int ib), (.int zk)]) (rest := []) (lenOf pd12 rfl) rfl (by show 2 * 0 + _ ≤ _; exact Nat.le_of_eq rfl) (hb hby at_170) (fun _ _ => ⟨rfl, hh996, (by decide : 34 + 0 ≤ _), (by decide : 356 + 0 ≤ _)⟩)
              dsimp only [Pt.U, Pt.locs, Pt.cells, Pt.slots] at X1005 l1005 y1005 z1005 st1005 hQ1005
              subst l1005 y1005 z1005
              obtain ⟨rfl, Nq1005, hh1005⟩ := hQ1005
              have N1006 := Fr.app N997 Nq1005
              refine GoH.step (T' := T1005) (f' := (mkF m 173 #[.val (.int ia), .val (.int ib), .val (.int ic), .val (.int ie), .val (.int ig), .val (.int zd), .val (.int zk), .val (.ref u801), .val (.ref u814), .val (.ref b830), .val (.int (((ig.toUInt32 >>> ((2 : Int32) &&& 31).toUInt32).toInt32) &&& (7 : Int32))), .val (.ref u879), .val (.ref u903), .val (.ref b930), .unset, .unset, .unset] [(.int (if own_str ib = own_str zk then (1 : Int32) else 0))])) st1005 ?_
              clear st1005 X996 N997 Nq1005
              by_cases hc1007 : (if own_str ib = own_str zk then (1 : Int32) else 0) = (0 : Int32)
              ·
                refine GoH.step (T' := T1005) (f' := (mkF m 180 #[.val (.int ia), .val (.int ib), .val (.int ic), .val (.int ie), .val (.int ig), .val (.int zd), .val (.int zk), .val (.ref u801), .val (.ref u814), .val (.ref b830), .val (.int (((ig.toUInt32 >>> ((2 : Int32) &&& 31).toUInt32).toInt32) &&& (7 : Int32))), .val (.ref u879), .val (.ref u903), .val (.ref b930), .unset, .unset, .unset] [])) (fun t k => XS.ifYes X1005.here hx rfl (pc0 := 173) (pc' := 180) rfl (hb hby at_173) rfl ((if0 _ _).trans (teq hc1007).1) (by decide) (by decide) k) ?_
                refine GoH.step (T' := T1005) (f' := (mkF m 181 #[.val (.int ia), .val (.int ib), .val (.int ic), .val (.int ie), .val (.int ig), .val (.int zd), .val (.int zk), .val (.ref u801), .val (.ref u814), .val (.ref b830), .val (.int (((ig.toUInt32 >>> ((2 : Int32) &&& 31).toUInt32).toInt32) &&& (7 : Int32))), .val (.ref u879), .val (.ref u903), .val (.ref b930), .unset, .unset, .unset] [(.int (0 : Int32))])) (fun t k => XS.iconst X1005.here hx rfl (hb hby at_180) k) ?_
                refine GoH.step (T' := T1005) (f' := (mkF m 183 #[.val (.int ia), .val (.int ib), .val (.int ic), .val (.int ie), .val (.int ig), .val (.int zd), .val (.int zk), .val (.ref u801), .val (.ref u814), .val (.ref b830), .val (.int (((ig.toUInt32 >>> ((2 : Int32) &&& 31).toUInt32).toInt32) &&& (7 : Int32))), .val (.ref u879), .val (.ref u903), .val (.ref b930), .val (.int (0 : Int32)), .unset, .unset] [])) (fun t k => XS.istore X1005.here hx rfl (hb hby at_181) rfl (l' := #[.val (.int ia), .val (.int ib), .val (.int ic), .val (.int ie), .val (.int ig), .val (.int zd), .val (.int zk), .val (.ref u801), .val (.ref u814), .val (.ref b830), .val (.int (((ig.toUInt32 >>> ((2 : Int32) &&& 31).toUInt32).toInt32) &&& (7 : Int32))), .val (.ref u879), .val (.ref u903), .val (.ref b930), .val (.int (0 : Int32)), .unset, .unset]) rfl k) ?_
                refine GoH.step (T' := T1005) (f' := (mkF m 185 #[.val (.int ia), .val (.int ib), .val (.int ic), .val (.int ie), .val (.int ig), .val (.int zd), .val (.int zk), .val (.ref u801), .val (.ref u814), .val (.ref b830), .val (.int (((ig.toUInt32 >>> ((2 : Int32) &&& 31).toUInt32).toInt32) &&& (7 : Int32))), .val (.ref u879), .val (.ref u903), .val (.ref b930), .val (.int (0 : Int32)), .unset, .unset] [(.ref b930)])) (fun t k => XS.aload X1005.here hx rfl (hb hby at_183) rfl rfl k) ?_
                refine GoH.step (T' := T1005) (f' := (mkF m 187 #[.val (.int ia), .val (.int ib), .val (.int ic), .val (.int ie), .val (.int ig), .val (.int zd), .val (.int zk), .val (.ref u801), .val (.ref u814), .val (.ref b830), .val (.int (((ig.toUInt32 >>> ((2 : Int32) &&& 31).toUInt32).toInt32) &&& (7 : Int32))), .val (.ref u879), .val (.ref u903), .val (.ref b930), .val (.int (0 : Int32)), .val (.ref b930), .unset] [])) (fun t k => XS.astore X1005.here hx rfl (hb hby at_185) rfl rfl (l' := #[.val (.int ia), .val (.int ib), .val (.int ic), .val (.int ie), .val (.int ig), .val (.int zd), .val (.int zk), .val (.ref u801), .val (.ref u814), .val (.ref b830), .val (.int (((ig.toUInt32 >>> ((2 : Int32) &&& 31).toUInt32).toInt32) &&& (7 : Int32))), .val (.ref u879), .val (.ref u903), .val (.ref b930), .val (.int (0 : Int32)), .val (.ref b930), .unset]) rfl k) ?_
                refine GoH.step (T' := T1005) (f' := (mkF m 189 #[.val (.int ia), .val (.int ib), .val (.int ic), .val (.int ie), .val (.int ig), .val (.int zd), .val (.int zk), .val (.ref u801), .val (.ref u814), .val (.ref b830), .val (.int (((ig.toUInt32 >>> ((2 : Int32) &&& 31).toUInt32).toInt32) &&& (7 : Int32))), .val (.ref u879), .val (.ref u903), .val (.ref b930), .val (.int (0 : Int32)), .val (.ref b930), .unset] [(.ref b830)])) (fun t k => XS.aload X1005.here hx rfl (hb hby at_187) rfl rfl k) ?_
                refine GoH.step (T' := T1005) (f' := (mkF m 191 #[.val (.int ia), .val (.int ib), .val (.int ic), .val (.int ie), .val (.int ig), .val (.int zd), .val (.int zk), .val (.ref u801), .val (.ref u814), .val (.ref b830), .val (.int (((ig.toUInt32 >>> ((2 : Int32) &&& 31).toUInt32).toInt32) &&& (7 : Int32))), .val (.ref u879), .val (.ref u903), .val (.ref b930), .val (.int (0 : Int32)), .val (.ref b930), .val (.ref b830)] [])) (fun t k => XS.astore X1005.here hx rfl (hb hby at_189) rfl rfl (l' := #[.val (.int ia), .val (.int ib), .val (.int ic), .val (.int ie), .val (.int ig), .val (.int zd), .val (.int zk), .val (.ref u801), .val (.ref u814), .val (.ref b830), .val (.int (((ig.toUInt32 >>> ((2 : Int32) &&& 31).toUInt32).toInt32) &&& (7 : Int32))), .val (.ref u879), .val (.ref u903), .val (.ref b930), .val (.int (0 : Int32)), .val (.ref b930), .val (.ref b830)]) rfl k) ?_
                refine GoH.step (T' := T1005) (f' := (mkF m 193 #[.val (.int ia), .val (.int ib), .val (.int ic), .val (.int ie), .val (.int ig), .val (.int zd), .val (.int zk), .val (.ref u801), .val (.ref u814), .val (.ref b830), .val (.int (((ig.toUInt32 >>> ((2 : Int32) &&& 31).toUInt32).toInt32) &&& (7 : Int32))), .val (.ref u879), .val (.ref u903), .val (.ref b930), .val (.int (0 : Int32)), .val (.ref b930), .val (.ref b830)] [(.ref b830)])) (fun t k => XS.aload X1005.here hx rfl (hb hby at_191) rfl rfl k) ?_
                refine GoH.step (T' := T1005) (f' := (mkF m 195 #[.val (.int ia), .val (.int ib), .val (.int ic), .val (.int ie), .val (.int ig), .val (.int zd), .val (.int zk), .val (.ref u801), .val (.ref u814), .val (.ref b830), .val (.int (((ig.toUInt32 >>> ((2 : Int32) &&& 31).toUInt32).toInt32) &&& (7 : Int32))), .val (.ref u879), .val (.ref u903), .val (.ref b930), .val (.int (0 : Int32)), .val (.ref b930), .val (.ref b830)] [(.ref b930), (.ref b830)])) (fun t k => XS.aload X1005.here hx rfl (hb hby at_193) rfl rfl k) ?_
                obtain ⟨cq1008, kq1008, q1008a, q1008b, q1008c⟩ := isOf hZ hh1005 f982
                obtain ⟨_, _, ⟨T1008, L1008, k1008, n1008⟩, -, X1008, ⟨Lc1008, hQ1008, l1008, y1008, z1008⟩, st1008⟩ := X1005.virtualBack hx (y := (⟨"com/example/tenorbook/tenorbook/definitions/FloatingRateIndex", "equals", "(Ljava/lang/Object;)Z"⟩ : MethodName)) (z := (⟨"com/example/tenorbook/tenorbook/definitions/FloatingRateIndex", "equals", "(Ljava/lang/Object;)Z"⟩ : MethodName)) hown (mvT hZ (hw _ (List.mem_of_getElem? (i := 65) rfl))) (mvT hZ (hw _ (List.mem_of_getElem? (i := 66) rfl))) (notFace_of_selects (args := #[]) (mvT hZ (hw _ (List.mem_of_getElem? (i := 68) rfl)))) (mvT hZ (hw _ (List.mem_of_getElem? (i := 68) rfl))) (mvT hZ (hw _ (List.mem_of_getElem? (i := 67) rfl))) (by decide) (backOf (W := 0) (rm_feq l Z a0 hw [] b830 b930 u801 u814 u879 u903 u802 u815 u880 u904 u803 u816 u881 u905 (own_str ia) (own_str ib) (own_str zd) (own_str zk) wz T967.heap n0 O994 p968 f983 f984 p969 p970 f974 f975 f976 f977 f978 f979 f980 f981 f985 f986 f987 f988 f989 f990 f991 f992 P0 hwz (own_strlen _) (own_strlen _) (own_strlen _) (own_strlen _)) hZ (hw _ (List.mem_of_getElem? (i := 69) rfl)) (hw _ (List.mem_of_getElem? (i := 42) rfl)) (by decide) (by decide)) q1008a q1008c (g := (mkF m 195 #[.val (.int ia), .val (.int ib), .val (.int ic), .val (.int ie), .val (.int ig), .val (.int zd), .val (.int zk), .val (.ref u801), .val (.ref u814), .val (.ref b830), .val (.int (((ig.toUInt32 >>> ((2 : Int32) &&& 31).toUInt32).toInt32) &&& (7 : Int32))), .val (.ref u879), .val (.ref u903), .val (.ref b930), .val (.int (0 : Int32)), .val (.ref b930), .val (.ref b830)] [(.ref b930), (.ref b830)])) rfl (by rw [hml]; rfl) (Steps.refl _) (argsL := [(.ref b930)]) (rest := []) (lenOf pd9 rfl) rfl (by show 2 * 0 + _ ≤ _; exact Nat.le_of_eq rfl) (hb hby at_195) (fun _ _ => ⟨rfl, hh1005, (by decide : 34 + 0 ≤ _), (by decide : 356 + 0 ≤ _)⟩)
                dsimp only [Pt.U, Pt.locs, Pt.cells, Pt.slots] at X1008 l1008 y1008 z1008 st1008 hQ1008
                subst l1008 y1008 z1008
                obtain ⟨rfl, Nq1008, hh1008⟩ := hQ1008
                have N1009 := Fr.app N1006 Nq1008
                refine GoH.via (T' := T1008) (f' := (mkF m 198 #[.val (.int ia), .val (.int ib), .val (.int ic), .val (.int ie), .val (.int ig), .val (.int zd), .val (.int zk), .val (.ref u801), .val (.ref u814), .val (.ref b830), .val (.int (((ig.toUInt32 >>> ((2 : Int32) &&& 31).toUInt32).toInt32) &&& (7 : Int32))), .val (.ref u879), .val (.ref u903), .val (.ref b930), .val (.int (0 : Int32)), .val (.ref b930), .val (.ref b830)] [(.int (if (own_str ia) = (own_str zd) ∧ (own_str ib) = (own_str zk) then (1 : Int32) else 0))])) st1008 ?_
                clear st1008 X1005 N1006 Nq1008
                refine GoH.step (T' := T1008) (f' := (mkF m 200 #[.val (.int ia), .val (.int ib), .val (.int ic), .val (.int ie), .val (.int ig), .val (.int zd), .val (.int zk), .val (.ref u801), .val (.ref u814), .val (.ref b830), .val (.int (((ig.toUInt32 >>> ((2 : Int32) &&& 31).toUInt32).toInt32) &&& (7 : Int32))), .val (.ref u879), .val (.ref u903), .val (.ref b930), .val (.int (0 : Int32)), .val (.ref b930), .val (.ref b830)] [(.int (0 : Int32)), (.int (if (own_str ia) = (own_str zd) ∧ (own_str ib) = (own_str zk) then (1 : Int32) else 0))])) (fun t k => XS.iload X1008.here hx rfl (hb hby at_198) rfl k) ?_
                have hc1010 : (if (own_str ia) = (own_str zd) ∧ (own_str ib) = (own_str zk) then (1 : Int32) else 0) = (0 : Int32) := by
                  exact own_f2 hc998 hc1007
                refine GoH.step (T' := T1008) (f' := (mkF m 203 #[.val (.int ia), .val (.int ib), .val (.int ic), .val (.int ie), .val (.int ig), .val (.int zd), .val (.int zk), .val (.ref u801), .val (.ref u814), .val (.ref b830), .val (.int (((ig.toUInt32 >>> ((2 : Int32) &&& 31).toUInt32).toInt32) &&& (7 : Int32))), .val (.ref u879), .val (.ref u903), .val (.ref b930), .val (.int (0 : Int32)), .val (.ref b930), .val (.ref b830)] [])) (fun t k => XS.icmpNo X1008.here hx rfl (hb hby at_200) rfl (teq hc1010).2 k) ?_
                refine GoH.step (T' := T1008) (f' := (mkF m 205 #[.val (.int ia), .val (.int ib), .val (.int ic), .val (.int ie), .val (.int ig), .val (.int zd), .val (.int zk), .val (.ref u801), .val (.ref u814), .val (.ref b830), .val (.int (((ig.toUInt32 >>> ((2 : Int32) &&& 31).toUInt32).toInt32) &&& (7 : Int32))), .val (.ref u879), .val (.ref u903), .val (.ref b930), .val (.int (0 : Int32)), .val (.ref b930), .val (.ref b830)] [(.ref b930)])) (fun t k => XS.aload X1008.here hx rfl (hb hby at_203) rfl rfl k) ?_
                refine GoH.step (T' := T1008) (f' := (mkF m 207 #[.val (.int ia), .val (.int ib), .val (.int ic), .val (.int ie), .val (.int ig), .val (.int zd), .val (.int zk), .val (.ref u801), .val (.ref u814), .val (.ref b830), .val (.int (((ig.toUInt32 >>> ((2 : Int32) &&& 31).toUInt32).toInt32) &&& (7 : Int32))), .val (.ref u879), .val (.ref u903), .val (.ref b930), .val (.int (0 : Int32)), .val (.ref b930), .val (.ref b830)] [(.ref b830), (.ref b930)])) (fun t k => XS.aload X1008.here hx rfl (hb hby at_205) rfl rfl k) ?_
                obtain ⟨cq1011, kq1011, q1011a, q1011b, q1011c⟩ := isOf hZ hh1008 p968
                obtain ⟨_, _, ⟨T1011, L1011, k1011, n1011⟩, -, X1011, ⟨Lc1011, hQ1011, l1011, y1011, z1011⟩, st1011⟩ := X1008.virtualBack hx (y := (⟨"com/example/tenorbook/tenorbook/definitions/FloatingRateIndex", "equals", "(Ljava/lang/Object;)Z"⟩ : MethodName)) (z := (⟨"com/example/tenorbook/tenorbook/definitions/FloatingRateIndex", "equals", "(Ljava/lang/Object;)Z"⟩ : MethodName)) hown (mvT hZ (hw _ (List.mem_of_getElem? (i := 65) rfl))) (mvT hZ (hw _ (List.mem_of_getElem? (i := 66) rfl))) (notFace_of_selects (args := #[]) (mvT hZ (hw _ (List.mem_of_getElem? (i := 68) rfl)))) (mvT hZ (hw _ (List.mem_of_getElem? (i := 68) rfl))) (mvT hZ (hw _ (List.mem_of_getElem? (i := 67) rfl))) (by decide) (backOf (W := 0) (rm_feq l Z a0 hw [] b930 b830 u879 u903 u801 u814 u880 u904 u802 u815 u881 u905 u803 u816 (own_str zd) (own_str zk) (own_str ia) (own_str ib) wz T967.heap n0 O994 f982 p969 p970 f983 f984 f985 f986 f987 f988 f989 f990 f991 f992 f974 f975 f976 f977 f978 f979 f980 f981 P0 hwz (own_strlen _) (own_strlen _) (own_strlen _) (own_strlen _)) hZ (hw _ (List.mem_of_getElem? (i := 69) rfl)) (hw _ (List.mem_of_getElem? (i := 42) rfl)) (by decide) (by decide)) q1011a q1011c (g := (mkF m 207 #[.val (.int ia), .val (.int ib), .val (.int ic), .val (.int ie), .val (.int ig), .val (.int zd), .val (.int zk), .val (.ref u801), .val (.ref u814), .val (.ref b830), .val (.int (((ig.toUInt32 >>> ((2 : Int32) &&& 31).toUInt32).toInt32) &&& (7 : Int32))), .val (.ref u879), .val (.ref u903), .val (.ref b930), .val (.int (0 : Int32)), .val (.ref b930), .val (.ref b830)] [(.ref b830), (.ref b930)])) rfl (by rw [hml]; rfl) (Steps.refl _) (argsL := [(.ref b830)]) (rest := []) (lenOf pd9 rfl) rfl (by show 2 * 0 + _ ≤ _; exact Nat.le_of_eq rfl) (hb hby at_207) (fun _ _ => ⟨rfl, hh1008, (by decide : 34 + 0 ≤ _), (by decide : 356 + 0 ≤ _)⟩)
                dsimp only [Pt.U, Pt.locs, Pt.cells, Pt.slots] at X1011 l1011 y1011 z1011 st1011 hQ1011
                subst l1011 y1011 z1011
                obtain ⟨rfl, Nq1011, hh1011⟩ := hQ1011
                have N1012 := Fr.app N1009 Nq1011
                refine GoH.via (T' := T1011) (f' := (mkF m 210 #[.val (.int ia), .val (.int ib), .val (.int ic), .val (.int ie), .val (.int ig), .val (.int zd), .val (.int zk), .val (.ref u801), .val (.ref u814), .val (.ref b830), .val (.int (((ig.toUInt32 >>> ((2 : Int32) &&& 31).toUInt32).toInt32) &&& (7 : Int32))), .val (.ref u879), .val (.ref u903), .val (.ref b930), .val (.int (0 : Int32)), .val (.ref b930), .val (.ref b830)] [(.int (if (own_str zd) = (own_str ia) ∧ (own_str zk) = (own_str ib) then (1 : Int32) else 0))])) st1011 ?_
                clear st1011 X1008 N1009 Nq1011
                refine GoH.step (T' := T1011) (f' := (mkF m 212 #[.val (.int ia), .val (.int ib), .val (.int ic), .val (.int ie), .val (.int ig), .val (.int zd), .val (.int zk), .val (.ref u801), .val (.ref u814), .val (.ref b830), .val (.int (((ig.toUInt32 >>> ((2 : Int32) &&& 31).toUInt32).toInt32) &&& (7 : Int32))), .val (.ref u879), .val (.ref u903), .val (.ref b930), .val (.int (0 : Int32)), .val (.ref b930), .val (.ref b830)] [(.int (0 : Int32)), (.int (if (own_str zd) = (own_str ia) ∧ (own_str zk) = (own_str ib) then (1 : Int32) else 0))])) (fun t k => XS.iload X1011.here hx rfl (hb hby at_210) rfl k) ?_
                have hc1013 : (if (own_str zd) = (own_str ia) ∧ (own_str zk) = (own_str ib) then (1 : Int32) else 0) = (0 : Int32) := by
                  exact own_f2s hc998 hc1007
                refine GoH.step (T' := T1011) (f' := (mkF m 215 #[.val (.int ia), .val (.int ib), .val (.int ic), .val (.int ie), .val (.int ig), .val (.int zd), .val (.int zk), .val (.ref u801), .val (.ref u814), .val (.ref b830), .val (.int (((ig.toUInt32 >>> ((2 : Int32) &&& 31).toUInt32).toInt32) &&& (7 : Int32))), .val (.ref u879), .val (.ref u903), .val (.ref b930), .val (.int (0 : Int32)), .val (.ref b930), .val (.ref b830)] [])) (fun t k => XS.icmpNo X1011.here hx rfl (hb hby at_212) rfl (teq hc1013).2 k) ?_
                refine GoH.step (T' := T1011) (f' := (mkF m 216 #[.val (.int ia), .val (.int ib), .val (.int ic), .val (.int ie), .val (.int ig), .val (.int zd), .val (.int zk), .val (.ref u801), .val (.ref u814), .val (.ref b830), .val (.int (((ig.toUInt32 >>> ((2 : Int32) &&& 31).toUInt32).toInt32) &&& (7 : Int32))), .val (.ref u879), .val (.ref u903), .val (.ref b930), .val (.int (0 : Int32)), .val (.ref b930), .val (.ref b830)] [(.int (1 : Int32))])) (fun t k => XS.iconst X1011.here hx rfl (hb hby at_215) k) ?_
                refine GoH.step (T' := T1011) (f' := (mkF m 220 #[.val (.int ia), .val (.int ib), .val (.int ic), .val (.int ie), .val (.int ig), .val (.int zd), .val (.int zk), .val (.ref u801), .val (.ref u814), .val (.ref b830), .val (.int (((ig.toUInt32 >>> ((2 : Int32) &&& 31).toUInt32).toInt32) &&& (7 : Int32))), .val (.ref u879), .val (.ref u903), .val (.ref b930), .val (.int (0 : Int32)), .val (.ref b930), .val (.ref b830)] [(.int (1 : Int32))])) (fun t k => XS.goto X1011.here hx rfl (pc0 := 216) (pc' := 220) rfl (hb hby at_216) (by decide) (by decide) k) ?_
                refine GoH.fin X1011 hZ hEL hS967 hk973 CR972 hlk (v := some (.int (nar .boolean (1 : Int32)))) (fun h => by rw [Bd.returns] at h; cases h) (fun fs hr => retN X1011 hx (t := .boolean) Bd.returns (by simp) (hb hby at_220) hr) hh1011 ?_ (by decide) (by decide)
                exact ⟨rfl, N1012, K995⟩
              ·
                refine GoH.step (T' := T1005) (f' := (mkF m 176 #[.val (.int ia), .val (.int ib), .val (.int ic), .val (.int ie), .val (.int ig), .val (.int zd), .val (.int zk), .val (.ref u801), .val (.ref u814), .val (.ref b830), .val (.int (((ig.toUInt32 >>> ((2 : Int32) &&& 31).toUInt32).toInt32) &&& (7 : Int32))), .val (.ref u879), .val (.ref u903), .val (.ref b930), .unset, .unset, .unset] [])) (fun t k => XS.ifNo X1005.here hx rfl (hb hby at_173) rfl ((if0 _ _).trans (feq hc1007).1) k) ?_
                refine GoH.step (T' := T1005) (f' := (mkF m 177 #[.val (.int ia), .val (.int ib), .val (.int ic), .val (.int ie), .val (.int ig), .val (.int zd), .val (.int zk), .val (.ref u801), .val (.ref u814), .val (.ref b830), .val (.int (((ig.toUInt32 >>> ((2 : Int32) &&& 31).toUInt32).toInt32) &&& (7 : Int32))), .val (.ref u879), .val (.ref u903), .val (.ref b930), .unset, .unset, .unset] [(.int (1 : Int32))])) (fun t k => XS.iconst X1005.here hx rfl (hb hby at_176) k) ?_
                refine GoH.step (T' := T1005) (f' := (mkF m 181 #[.val (.int ia), .val (.int ib), .val (.int ic), .val (.int ie), .val (.int ig), .val (.int zd), .val (.int zk), .val (.ref u801), .val (.ref u814), .val (.ref b830), .val (.int (((ig.toUInt32 >>> ((2 : Int32) &&& 31).toUInt32).toInt32) &&& (7 : Int32))), .val (.ref u879), .val (.ref u903), .val (.ref b930), .unset, .unset, .unset] [(.int (1 : Int32))])) (fun t k => XS.goto X1005.here hx rfl (pc0 := 177) (pc' := 181) rfl (hb hby at_177) (by decide) (by decide) k) ?_
                refine GoH.step (T' := T1005) (f' := (mkF m 183 #[.val (.int ia), .val (.int ib), .val (.int ic), .val (.int ie), .val (.int ig), .val (.int zd), .val (.int zk), .val (.ref u801), .val (.ref u814), .val (.ref b830), .val (.int (((ig.toUInt32 >>> ((2 : Int32) &&& 31).toUInt32).toInt32) &&& (7 : Int32))), .val (.ref u879), .val (.ref u903), .val (.ref b930), .val (.int (1 : Int32)), .unset, .unset] [])) (fun t k => XS.istore X1005.here hx rfl (hb hby at_181) rfl (l' := #[.val (.int ia), .val (.int ib), .val (.int ic), .val (.int ie), .val (.int ig), .val (.int zd), .val (.int zk), .val (.ref u801), .val (.ref u814), .val (.ref b830), .val (.int (((ig.toUInt32 >>> ((2 : Int32) &&& 31).toUInt32).toInt32) &&& (7 : Int32))), .val (.ref u879), .val (.ref u903), .val (.ref b930), .val (.int (1 : Int32)), .unset, .unset]) rfl k) ?_
                refine GoH.step (T' := T1005) (f' := (mkF m 185 #[.val (.int ia), .val (.int ib), .val (.int ic), .val (.int ie), .val (.int ig), .val (.int zd), .val (.int zk), .val (.ref u801), .val (.ref u814), .val (.ref b830), .val (.int (((ig.toUInt32 >>> ((2 : Int32) &&& 31).toUInt32).toInt32) &&& (7 : Int32))), .val (.ref u879), .val (.ref u903), .val (.ref b930), .val (.int (1 : Int32)), .unset, .unset] [(.ref b930)])) (fun t k => XS.aload X1005.here hx rfl (hb hby at_183) rfl rfl k) ?_
                refine GoH.step (T' := T1005) (f' := (mkF m 187 #[.val (.int ia), .val (.int ib), .val (.int ic), .val (.int ie), .val (.int ig), .val (.int zd), .val (.int zk), .val (.ref u801), .val (.ref u814), .val (.ref b830), .val (.int (((ig.toUInt32 >>> ((2 : Int32) &&& 31).toUInt32).toInt32) &&& (7 : Int32))), .val (.ref u879), .val (.ref u903), .val (.ref b930), .val (.int (1 : Int32)), .val (.ref b930), .unset] [])) (fun t k => XS.astore X1005.here hx rfl (hb hby at_185) rfl rfl (l' := #[.val (.int ia), .val (.int ib), .val (.int ic), .val (.int ie), .val (.int ig), .val (.int zd), .val (.int zk), .val (.ref u801), .val (.ref u814), .val (.ref b830), .val (.int (((ig.toUInt32 >>> ((2 : Int32) &&& 31).toUInt32).toInt32) &&& (7 : Int32))), .val (.ref u879), .val (.ref u903), .val (.ref b930), .val (.int (1 : Int32)), .val (.ref b930), .unset]) rfl k) ?_
                refine GoH.step (T' := T1005) (f' := (mkF m 189 #[.val (.int ia), .val (.int ib), .val (.int ic), .val (.int ie), .val (.int ig), .val (.int zd), .val (.int zk), .val (.ref u801), .val (.ref u814), .val (.ref b830), .val (.int (((ig.toUInt32 >>> ((2 : Int32) &&& 31).toUInt32).toInt32) &&& (7 : Int32))), .val (.ref u879), .val (.ref u903), .val (.ref b930), .val (.int (1 : Int32)), .val (.ref b930), .unset] [(.ref b830)])) (fun t k => XS.aload X1005.here hx rfl (hb hby at_187) rfl rfl k) ?_
                refine GoH.step (T' := T1005) (f' := (mkF m 191 #[.val (.int ia), .val (.int ib), .val (.int ic), .val (.int ie), .val (.int ig), .val (.int zd), .val (.int zk), .val (.ref u801), .val (.ref u814), .val (.ref b830), .val (.int (((ig.toUInt32 >>> ((2 : Int32) &&& 31).toUInt32).toInt32) &&& (7 : Int32))), .val (.ref u879), .val (.ref u903), .val (.ref b930), .val (.int (1 : Int32)), .val (.ref b930), .val (.ref b830)] [])) (fun t k => XS.astore X1005.here hx rfl (hb hby at_189) rfl rfl (l' := #[.val (.int ia), .val (.int ib), .val (.int ic), .val (.int ie), .val (.int ig), .val (.int zd), .val (.int zk), .val (.ref u801), .val (.ref u814), .val (.ref b830), .val (.int (((ig.toUInt32 >>> ((2 : Int32) &&& 31).toUInt32).toInt32) &&& (7 : Int32))), .val (.ref u879), .val (.ref u903), .val (.ref b930), .val (.int (1 : Int32)), .val (.ref b930), .val (.ref b830)]) rfl k) ?_
                refine GoH.step (T' := T1005) (f' := (mkF m 193 #[.val (.int ia), .val (.int ib), .val (.int ic), .val (.int ie), .val (.int ig), .val (.int zd), .val (.int zk), .val (.ref u801), .val (.ref u814), .val (.ref b830), .val (.int (((ig.toUInt32 >>> ((2 : Int32) &&& 31).toUInt32).toInt32) &&& (7 : Int32))), .val (.ref u879), .val (.ref u903), .val (.ref b930), .val (.int (1 : Int32)), .val (.ref b930), .val (.ref b830)] [(.ref b830)])) (fun t k => XS.aload X1005.here hx rfl (hb hby at_191) rfl rfl k) ?_
                refine GoH.step (T' := T1005) (f' := (mkF m 195 #[.val (.int ia), .val (.int ib), .val (.int ic), .val (.int ie), .val (.int ig), .val (.int zd), .val (.int zk), .val (.ref u801), .val (.ref u814), .val (.ref b830), .val (.int (((ig.toUInt32 >>> ((2 : Int32) &&& 31).toUInt32).toInt32) &&& (7 : Int32))), .val (.ref u879), .val (.ref u903), .val (.ref b930), .val (.int (1 : Int32)), .val (.ref b930), .val (.ref b830)] [(.ref b930), (.ref b830)])) (fun t k => XS.aload X1005.here hx rfl (hb hby at_193) rfl rfl k) ?_
                obtain ⟨cq1014, kq1014, q1014a, q1014b, q1014c⟩ := isOf hZ hh1005 f982
                obtain ⟨_, _, ⟨T1014, L1014, k1014, n1014⟩, -, X1014, ⟨Lc1014, hQ1014, l1014, y1014, z1014⟩, st1014⟩ := X1005.virtualBack hx (y := (⟨"com/example/tenorbook/tenorbook/definitions/FloatingRateIndex", "equals", "(Ljava/lang/Object;)Z"⟩ : MethodName)) (z := (⟨"com/example/tenorbook/tenorbook/definitions/FloatingRateIndex", "equals", "(Ljava/lang/Object;)Z"⟩ : MethodName)) hown (mvT hZ (hw _ (List.mem_of_getElem? (i := 65) rfl))) (mvT hZ (hw _ (List.mem_of_getElem? (i := 66) rfl))) (notFace_of_selects (args := #[]) (mvT hZ (hw _ (List.mem_of_getElem? (i := 68) rfl)))) (mvT hZ (hw _ (List.mem_of_getElem? (i := 68) rfl))) (mvT hZ (hw _ (List.mem_of_getElem? (i := 67) rfl))) (by decide) (backOf (W := 0) (rm_feq l Z a0 hw [] b830 b930 u801 u814 u879 u903 u802 u815 u880 u904 u803 u816 u881 u905 (own_str ia) (own_str ib) (own_str zd) (own_str zk) wz T967.heap n0 O994 p968 f983 f984 p969 p970 f974 f975 f976 f977 f978 f979 f980 f981 f985 f986 f987 f988 f989 f990 f991 f992 P0 hwz (own_strlen _) (own_strlen _) (own_strlen _) (own_strlen _)) hZ (hw _ (List.mem_of_getElem? (i := 69) rfl)) (hw _ (List.mem_of_getElem? (i := 42) rfl)) (by decide) (by decide)) q1014a q1014c (g := (mkF m 195 #[.val (.int ia), .val (.int ib), .val (.int ic), .val (.int ie), .val (.int ig), .val (.int zd), .val (.int zk), .val (.ref u801), .val (.ref u814), .val (.ref b830), .val (.int (((ig.toUInt32 >>> ((2 : Int32) &&& 31).toUInt32).toInt32) &&& (7 : Int32))), .val (.ref u879), .val (.ref u903), .val (.ref b930), .val (.int (1 : Int32)), .val (.ref b930), .val (.ref b830)] [(.ref b930), (.ref b830)])) rfl (by rw [hml]; rfl) (Steps.refl _) (argsL := [(.ref b930)]) (rest := []) (lenOf pd9 rfl) rfl (by show 2 * 0 + _ ≤ _; exact Nat.le_of_eq rfl) (hb hby at_195) (fun _ _ => ⟨rfl, hh1005, (by decide : 34 + 0 ≤ _), (by decide : 356 + 0 ≤ _)⟩)
                dsimp only [Pt.U, Pt.locs, Pt.cells, Pt.slots] at X1014 l1014 y1014 z1014 st1014 hQ1014
                subst l1014 y1014 z1014
                obtain ⟨rfl, Nq1014, hh1014⟩ := hQ1014
                have N1015 := Fr.app N1006 Nq1014
                refine GoH.via (T' := T1014) (f' := (mkF m 198 #[.val (.int ia), .val (.int ib), .val (.int ic), .val (.int ie), .val (.int ig), .val (.int zd), .val (.int zk), .val (.ref u801), .val (.ref u814), .val (.ref b830), .val (.int (((ig.toUInt32 >>> ((2 : Int32) &&& 31).toUInt32).toInt32) &&& (7 : Int32))), .val (.ref u879), .val (.ref u903), .val (.ref b930), .val (.int (1 : Int32)), .val (.ref b930), .val (.ref b830)] [(.int (if (own_str ia) = (own_str zd) ∧ (own_str ib) = (own_str zk) then (1 : Int32) else 0))])) st1014 ?_
                clear st1014 X1005 N1006 Nq1014
                refine GoH.step (T' := T1014) (f' := (mkF m 200 #[.val (.int ia), .val (.int ib), .val (.int ic), .val (.int ie), .val (.int ig), .val (.int zd), .val (.int zk), .val (.ref u801), .val (.ref u814), .val (.ref b830), .val (.int (((ig.toUInt32 >>> ((2 : Int32) &&& 31).toUInt32).toInt32) &&& (7 : Int32))), .val (.ref u879), .val (.ref u903), .val (.ref b930), .val (.int (1 : Int32)), .val (.ref b930), .val (.ref b830)] [(.int (1 : Int32)), (.int (if (own_str ia) = (own_str zd) ∧ (own_str ib) = (own_str zk) then (1 : Int32) else 0))])) (fun t k => XS.iload X1014.here hx rfl (hb hby at_198) rfl k) ?_
                have hc1016 : (if (own_str ia) = (own_str zd) ∧ (own_str ib) = (own_str zk) then (1 : Int32) else 0) = (1 : Int32) := by
                  exact own_f3 hc998 hc1007
                refine GoH.step (T' := T1014) (f' := (mkF m 203 #[.val (.int ia), .val (.int ib), .val (.int ic), .val (.int ie), .val (.int ig), .val (.int zd), .val (.int zk), .val (.ref u801), .val (.ref u814), .val (.ref b830), .val (.int (((ig.toUInt32 >>> ((2 : Int32) &&& 31).toUInt32).toInt32) &&& (7 : Int32))), .val (.ref u879), .val (.ref u903), .val (.ref b930), .val (.int (1 : Int32)), .val (.ref b930), .val (.ref b830)] [])) (fun t k => XS.icmpNo X1014.here hx rfl (hb hby at_200) rfl (teq hc1016).2 k) ?_
                refine GoH.step (T' := T1014) (f' := (mkF m 205 #[.val (.int ia), .val (.int ib), .val (.int ic), .val (.int ie), .val (.int ig), .val (.int zd), .val (.int zk), .val (.ref u801), .val (.ref u814), .val (.ref b830), .val (.int (((ig.toUInt32 >>> ((2 : Int32) &&& 31).toUInt32).toInt32) &&& (7 : Int32))), .val (.ref u879), .val (.ref u903), .val (.ref b930), .val (.int (1 : Int32)), .val (.ref b930), .val (.ref b830)] [(.ref b930)])) (fun t k => XS.aload X1014.here hx rfl (hb hby at_203) rfl rfl k) ?_
                refine GoH.step (T' := T1014) (f' := (mkF m 207 #[.val (.int ia), .val (.int ib), .val (.int ic), .val (.int ie), .val (.int ig), .val (.int zd), .val (.int zk), .val (.ref u801), .val (.ref u814), .val (.ref b830), .val (.int (((ig.toUInt32 >>> ((2 : Int32) &&& 31).toUInt32).toInt32) &&& (7 : Int32))), .val (.ref u879), .val (.ref u903), .val (.ref b930), .val (.int (1 : Int32)), .val (.ref b930), .val (.ref b830)] [(.ref b830), (.ref b930)])) (fun t k => XS.aload X1014.here hx rfl (hb hby at_205) rfl rfl k) ?_
                obtain ⟨cq1017, kq1017, q1017a, q1017b, q1017c⟩ := isOf hZ hh1014 p968
                obtain ⟨_, _, ⟨T1017, L1017, k1017, n1017⟩, -, X1017, ⟨Lc1017, hQ1017, l1017, y1017, z1017⟩, st1017⟩ := X1014.virtualBack hx (y := (⟨"com/example/tenorbook/tenorbook/definitions/FloatingRateIndex", "equals", "(Ljava/lang/Object;)Z"⟩ : MethodName)) (z := (⟨"com/example/tenorbook/tenorbook/definitions/FloatingRateIndex", "equals", "(Ljava/lang/Object;)Z"⟩ : MethodName)) hown (mvT hZ (hw _ (List.mem_of_getElem? (i := 65) rfl))) (mvT hZ (hw _ (List.mem_of_getElem? (i := 66) rfl))) (notFace_of_selects (args := #[]) (mvT hZ (hw _ (List.mem_of_getElem? (i := 68) rfl)))) (mvT hZ (hw _ (List.mem_of_getElem? (i := 68) rfl))) (mvT hZ (hw _ (List.mem_of_getElem? (i := 67) rfl))) (by decide) (backOf (W := 0) (rm_feq l Z a0 hw [] b930 b830 u879 u903 u801 u814 u880 u904 u802 u815 u881 u905 u803 u816 (own_str zd) (own_str zk) (own_str ia) (own_str ib) wz T967.heap n0 O994 f982 p969 p970 f983 f984 f985 f986 f987 f988 f989 f990 f991 f992 f974 f975 f976 f977 f978 f979 f980 f981 P0 hwz (own_strlen _) (own_strlen _) (own_strlen _) (own_strlen _)) hZ (hw _ (List.mem_of_getElem? (i := 69) rfl)) (hw _ (List.mem_of_getElem? (i := 42) rfl)) (by decide) (by decide)) q1017a q1017c (g := (mkF m 207 #[.val (.int ia), .val (.int ib), .val (.int ic), .val (.int ie), .val (.int ig), .val (.int zd), .val (.int zk), .val (.ref u801), .val (.ref u814), .val (.ref b830), .val (.int (((ig.toUInt32 >>> ((2 : Int32) &&& 31).toUInt32).toInt32) &&& (7 : Int32))), .val (.ref u879), .val (.ref u903), .val (.ref b930), .val (.int (1 : Int32)), .val (.ref b930), .val (.ref b830)] [(.ref b830), (.ref b930)])) rfl (by rw [hml]; rfl) (Steps.refl _) (argsL := [(.ref b830)]) (rest := []) (lenOf pd9 rfl) rfl (by show 2 * 0 + _ ≤ _; exact Nat.le_of_eq rfl) (hb hby at_207) (fun _ _ => ⟨rfl, hh1014, (by decide : 34 + 0 ≤ _), (by decide : 356 + 0 ≤ _)⟩)
                dsimp only [Pt.U, Pt.locs, Pt.cells, Pt.slots] at X1017 l1017 y1017 z1017 st1017 hQ1017
                subst l1017 y1017 z1017
                obtain ⟨rfl, Nq1017, hh1017⟩ := hQ1017
                have N1018 := Fr.app N1015 Nq1017
                refine GoH.via (T' := T1017) (f' := (mkF m 210 #[.val (.int ia), .val (.int ib), .val (.int ic), .val (.int ie), .val (.int ig), .val (.int zd), .val (.int zk), .val (.ref u801), .val (.ref u814), .val (.ref b830), .val (.int (((ig.toUInt32 >>> ((2 : Int32) &&& 31).toUInt32).toInt32) &&& (7 : Int32))), .val (.ref u879), .val (.ref u903), .val (.ref b930), .val (.int (1 : Int32)), .val (.ref b930), .val (.ref b830)] [(.int (if (own_str zd) = (own_str ia) ∧ (own_str zk) = (own_str ib) then (1 : Int32) else 0))])) st1017 ?_
                clear st1017 X1014 N1015 Nq1017
                refine GoH.step (T' := T1017) (f' := (mkF m 212 #[.val (.int ia), .val (.int ib), .val (.int ic), .val (.int ie), .val (.int ig), .val (.int zd), .val (.int zk), .val (.ref u801), .val (.ref u814), .val (.ref b830), .val (.int (((ig.toUInt32 >>> ((2 : Int32) &&& 31).toUInt32).toInt32) &&& (7 : Int32))), .val (.ref u879), .val (.ref u903), .val (.ref b930), .val (.int (1 : Int32)), .val (.ref b930), .val (.ref b830)] [(.int (1 : Int32)), (.int (if (own_str zd) = (own_str ia) ∧ (own_str zk) = (own_str ib) then (1 : Int32) else 0))])) (fun t k => XS.iload X1017.here hx rfl (hb hby at_210) rfl k) ?_
                have hc1019 : (if (own_str zd) = (own_str ia) ∧ (own_str zk) = (own_str ib) then (1 : Int32) else 0) = (1 : Int32) := by
                  exact own_f3s hc998 hc1007
                refine GoH.step (T' := T1017) (f' := (mkF m 215 #[.val (.int ia), .val (.int ib), .val (.int ic), .val (.int ie), .val (.int ig), .val (.int zd), .val (.int zk), .val (.ref u801), .val (.ref u814), .val (.ref b830), .val (.int (((ig.toUInt32 >>> ((2 : Int32) &&& 31).toUInt32).toInt32) &&& (7 : Int32))), .val (.ref u879), .val (.ref u903), .val (.ref b930), .val (.int (1 : Int32)), .val (.ref b930), .val (.ref b830)] [])) (fun t k => XS.icmpNo X1017.here hx rfl (hb hby at_212) rfl (teq hc1019).2 k) ?_
                refine GoH.step (T' := T1017) (f' := (mkF m 216 #[.val (.int ia), .val (.int ib), .val (.int ic), .val (.int ie), .val (.int ig), .val (.int zd), .val (.int zk), .val (.ref u801), .val (.ref u814), .val (.ref b830), .val (.int (((ig.toUInt32 >>> ((2 : Int32) &&& 31).toUInt32).toInt32) &&& (7 : Int32))), .val (.ref u879), .val (.ref u903), .val (.ref b930), .val (.int (1 : Int32)), .val (.ref b930), .val (.ref b830)] [(.int (1 : Int32))])) (fun t k => XS.iconst X1017.here hx rfl (hb hby at_215) k) ?_
                refine GoH.step (T' := T1017) (f' := (mkF m 220 #[.val (.int ia), .val (.int ib), .val (.int ic), .val (.int ie), .val (.int ig), .val (.int zd), .val (.int zk), .val (.ref u801), .val (.ref u814), .val (.ref b830), .val (.int (((ig.toUInt32 >>> ((2 : Int32) &&& 31).toUInt32).toInt32) &&& (7 : Int32))), .val (.ref u879), .val (.ref u903), .val (.ref b930), .val (.int (1 : Int32)), .val (.ref b930), .val (.ref b830)] [(.int (1 : Int32))])) (fun t k => XS.goto X1017.here hx rfl (pc0 := 216) (pc' := 220) rfl (hb hby at_216) (by decide) (by decide) k) ?_
                refine GoH.fin X1017 hZ hEL hS967 hk973 CR972 hlk (v := some (.int (nar .boolean (1 : Int32)))) (fun h => by rw [Bd.returns] at h; cases h) (fun fs hr => retN X1017 hx (t := .boolean) Bd.returns (by simp) (hb hby at_220) hr) hh1017 ?_ (by decide) (by decide)
                exact ⟨rfl, N1018, K995⟩
    by_cases hc1020 : (ig &&& (2 : Int32)) = (0 : Int32)
    ·
      refine GoH.step (T' := s₁) (f' := (mkF m 25 #[.val (.int ia), .val (.int ib), .val (.int ic), .val (.int ie), .val (.int ig), .val (.int zd), .unset, .unset, .unset, .unset, .unset, .unset, .unset, .unset, .unset, .unset, .unset] [])) (fun t k => XS.ifYes X0.here hx rfl (pc0 := 18) (pc' := 25) rfl (hb hby at_18) rfl ((if0 _ _).trans (teq hc1020).1) (by decide) (by decide) k) ?_
      refine GoH.step (T' := s₁) (f' := (mkF m 26 #[.val (.int ia), .val (.int ib), .val (.int ic), .val (.int ie), .val (.int ig), .val (.int zd), .unset, .unset, .unset, .unset, .unset, .unset, .unset, .unset, .unset, .unset, .unset] [(.int ie)])) (fun t k => XS.iloadN X0.here hx rfl (hb hby at_25) rfl k) ?_
      exact Kc798 (ie) trivial
    ·
      refine GoH.step (T' := s₁) (f' := (mkF m 21 #[.val (.int ia), .val (.int ib), .val (.int ic), .val (.int ie), .val (.int ig), .val (.int zd), .unset, .unset, .unset, .unset, .unset, .unset, .unset, .unset, .unset, .unset, .unset] [])) (fun t k => XS.ifNo X0.here hx rfl (hb hby at_18) rfl ((if0 _ _).trans (feq hc1020).1) k) ?_
      refine GoH.step (T' := s₁) (f' := (mkF m 22 #[.val (.int ia), .val (.int ib), .val (.int ic), .val (.int ie), .val (.int ig), .val (.int zd), .unset, .unset, .unset, .unset, .unset, .unset, .unset, .unset, .unset, .unset, .unset] [(.int ib)])) (fun t k => XS.iloadN X0.here hx rfl (hb hby at_21) rfl k) ?_
      refine GoH.step (T' := s₁) (f' := (mkF m 26 #[.val (.int ia), .val (.int ib), .val (.int ic), .val (.int ie), .val (.int ig), .val (.int zd), .unset, .unset, .unset, .unset, .unset, .unset, .unset, .unset, .unset, .unset, .unset] [(.int ib)])) (fun t k => XS.goto X0.here hx rfl (pc0 := 22) (pc' := 26) rfl (hb hby at_22) (by decide) (by decide) k) ?_
      exact Kc798 (ib) trivial
  by_cases hc1021 : (ig &&& (1 : Int32)) = (0 : Int32)
  ·
    refine GoH.step (T' := s₁) (f' := (mkF m 11 #[.val (.int ia), .val (.int ib), .val (.int ic), .val (.int ie), .val (.int ig), .unset, .unset, .unset, .unset, .unset, .unset, .unset, .unset, .unset, .unset, .unset, .unset] [])) (fun t k => XS.ifYes X0.here hx rfl (pc0 := 4) (pc' := 11) rfl (hb hby at_4) rfl ((if0 _ _).trans (teq hc1021).1) (by decide) (by decide) k) ?_
    refine GoH.step (T' := s₁) (f' := (mkF m 12 #[.val (.int ia), .val (.int ib), .val (.int ic), .val (.int ie), .val (.int ig), .unset, .unset, .unset, .unset, .unset, .unset, .unset, .unset, .unset, .unset, .unset, .unset] [(.int ic)])) (fun t k => XS.iloadN X0.here hx rfl (hb hby at_11) rfl k) ?_
    exact Kc796 (ic) trivial
  ·
    refine GoH.step (T' := s₁) (f' := (mkF m 7 #[.val (.int ia), .val (.int ib), .val (.int ic), .val (.int ie), .val (.int ig), .unset, .unset, .unset, .unset, .unset, .unset, .unset, .unset, .unset, .unset, .unset, .unset] [])) (fun t k => XS.ifNo X0.here hx rfl (hb hby at_4) rfl ((if0 _ _).trans (feq hc1021).1) k) ?_
    refine GoH.step (T' := s₁) (f' := (mkF m 8 #[.val (.int ia), .val (.int ib), .val (.int ic), .val (.int ie), .val (.int ig), .unset, .unset, .unset, .unset, .unset, .unset, .unset, .unset, .unset, .unset, .unset, .unset] [(.int ia)])) (fun t k => XS.iloadN X0.here hx rfl (hb hby at_7) rfl k) ?_
    refine GoH.step (T' := s₁) (f' := (mkF m 12 #[.val (.int ia), .val (.int ib), .val (.int ic), .val (.int ie), .val (.int ig), .unset, .unset, .unset, .unset, .unset, .unset, .unset, .unset, .unset, .unset, .unset, .unset] [(.int ia)])) (fun t k => XS.goto X0.here hx rfl (pc0 := 8) (pc' := 12) rfl (hb hby at_8) (by decide) (by decide) k) ?_
    exact Kc796 (ia) trivial
set_option maxRecDepth 65536 in
set_option maxHeartbeats 40000000 in
theorem comes_1 {Post : Tables → Env → Array Value → State → Outcome → State → Prop} (hpost : ∀ tb e args s v u, (limb_1_1.after args s (.returned v) u = true ∧ limb_1_2.after args s (.returned v) u = true ∧ True) → ReturnedEndW s (.returned v) u (Jvm.fieldLocs frame_1_writes args s ++ Jvm.arrayLocs frame_1_arrays args s ++ Jvm.staticLocs frame_1_statics s) 48 3264 → Post tb e args s (.returned v) u) :
    ArmFor flags0 classFile x code maxLocals ret World_1 tables_1 room_1 Calls_1 rest_1 Pre_1 Post := by
  intro l hfl _ _ p e ha hc hk s m args below hf hA hF happ hP
  obtain ⟨hcalls, hrest, hpre⟩ := hP
  obtain ⟨-, -, -, hnamed, -, -, -, hat⟩ := (Spec.applies_iff hf).mp happ
  obtain ⟨hg, hn⟩ := and_e (Cond.before_iff.mp (show (Jvm.Cond.and given_1 narrow_1).before args s = true from hpre))
  obtain ⟨c1, c2⟩ := and_e hg
  obtain ⟨c3, c4⟩ := and_e c2
  obtain ⟨c5, c6⟩ := and_e c4
  obtain ⟨c7, c8⟩ := and_e c6
  obtain ⟨c9, c10⟩ := and_e c8
  obtain ⟨w0, w1, w2, w3, w4, rfl⟩ : ∃ w0 w1 w2 w3 w4 : Value, args = #[w0, w1, w2, w3, w4] := by
    have hs : args.size = 5 := by simpa [Cond.value, given_1] using c1
    obtain ⟨L⟩ := args
    match L, hs with
    | [w0, w1, w2, w3, w4], _ => exact ⟨w0, w1, w2, w3, w4, rfl⟩
  have hw := fun d (hd : d ∈ tables_1) => atoms_spec (ws := Jvm.Cond.code x code maxLocals ret :: tables_1) hat d (List.mem_cons_of_mem _ hd)
  have hfit : Fit s := fun {y c} hc i hi => by
    obtain ⟨ha, rfl⟩ := Array.getElem?_eq_some_iff.mp hc
    have q := List.all_eq_true.mp ((Array.all_eq_true_iff_forall_mem.mp hF) _ (Array.getElem_mem ha)) i (List.mem_range.mpr hi)
    simpa [Array.getElem?_eq_getElem hi] using q
  obtain ⟨i0, ei0⟩ := is_v c3
  obtain rfl : w0 = (.int i0) := Option.some.inj ei0
  obtain ⟨i1, ei1⟩ := is_v c5
  obtain rfl : w1 = (.int i1) := Option.some.inj ei1
  obtain ⟨i2, ei2⟩ := is_v c7
  obtain rfl : w2 = (.int i2) := Option.some.inj ei2
  obtain ⟨i3, ei3⟩ := is_v c9
  obtain rfl : w3 = (.int i3) := Option.some.inj ei3
  obtain ⟨i4, ei4⟩ := is_v c10
  obtain rfl : w4 = (.int i4) := Option.some.inj ei4
  obtain ⟨hsets, hown0⟩ := atoms_of _ (rest_1_c_eq ▸ (show rest_1_c.before _ s = true from hrest))
  obtain ⟨zcs, evcs⟩ := is_v (Cond.before_iff.mp (hsets _ (List.mem_of_getElem? (i := 1) rfl)))
  have Scs := Sta.start evcs (Or.inl (hsets _ (List.mem_of_getElem? (i := 0) rfl)))
  have hcs : ¬ zcs = (0 : Int32) := gotF (Jvm.Cond.eq_ints evcs (Term.int_eval (0))) (not_v (Cond.before_iff.mp (hsets _ (List.mem_of_getElem? (i := 2) rfl))))
  have hEL : EW s _ own_EL := EW.cons (hw _ (List.mem_of_getElem? (i := 21) rfl)) (by decide) EW.nil
  have hCH : CHv s own_EL s.vm s.heap := CHv.start hEL (fun p hp => hcalls.1 p ((by decide : ∀ q ∈ own_EL, q ∈ consts_1) p hp)) (hsets _ (List.mem_of_getElem? (i := 2) rfl)) (hw _ (List.mem_of_getElem? (i := 22) rfl)) (hw _ (List.mem_of_getElem? (i := 8) rfl))
  obtain ⟨n, o, h1, h2, h3, _, L, rfl, ⟨rfl, N, -⟩, -, hq⟩ := rm_law l s _ hw tables_1 i0 i1 i2 i3 i4 zcs s.heap s.heap.size (Old.start s) hEL Scs hcs p e ha hc hk s m _ below hf ((Spec.applies_iff_loose hf).mp happ).1 ⟨rfl, State.Warmed39.refl s, rfl, hCH⟩ trivial
  refine ⟨n, _, h1, h2, h3, hpost _ _ _ _ _ _ ⟨Cond.after_iff.mpr rfl, Cond.after_iff.mpr (eq_i res_at (Term.int_eval (1)) rfl), trivial⟩ ⟨hq.1, hq.2.1, hq.2.2.1, (hq.2.2.2.sift fun y hy => Or.inr (N y hy)).mono (by decide) (by decide)⟩⟩
theorem main_1_1 : Claimed_1_1 := comes_1 fun _ _ _ _ _ _ h hF => ⟨h.1, hF⟩
theorem main_1_2 : Claimed_1_2 := comes_1 fun _ _ _ _ _ _ h hF => ⟨h.2.1, hF⟩
end Jvm.Pilot.@@N@@
namespace Jvm.Pilot.@@N@@
open Jvm Jvm.ClassFile Sem Op Lib Jvm.Free Jvm.Stand Jvm.Pilot.@@N@@.Jvm.D
/-! MADE BY PROGRAM (witnessworld.py) out of the Statement's table words and the real class files: 22 classes; the members and pool entries that the words name. The judged class is class 1, her method 4. -/
namespace start1
open Jvm.ClassFile
def u (s : String) : CpInfo := .utf8 (stringToUtf16 s)
/-- a pool by its gaps: so many unusable entries, then the entry; so many at the end -/
def gap : Nat → List CpInfo → List CpInfo
  | 0, r => r
  | n + 1, r => .unusable :: gap n r
def poolList (es : List (Nat × CpInfo)) (last : Nat) : List CpInfo := es.foldr (fun e r => gap e.1 (e.2 :: r)) (gap last [])
def pool (es : List (Nat × CpInfo)) (last : Nat) : Array CpInfo := ⟨poolList es last⟩
def fileOf (pool : Array CpInfo) (this : Nat) (attrs : Array Attribute := #[]) (ms : Array MethodInfo := #[]) (fl : Nat := 33) (sup : Nat := 0) (ifs : Array Nat := #[]) (fds : Array FieldInfo := #[]) : ClassFile where
  minorVersion := 0
  majorVersion := 65
  constantPool := pool
  accessFlags := fl
  thisClass := this
  superClass := sup
  interfaces := ifs
  fields := fds
  methods := ms
  attributes := attrs
def plain (name : String) (sup : Option ClassId) : Class where
  name := name
  kind := .ordinary
  loader := none
  accessFlags := 33
  super := sup
  interfaces := #[]
  cf := none
  fields := #[]
  methods := #[]
  instanceTypes := #[]
  staticTypes := #[]
  resolved := #[]
  callSites := []
  init := .initialized
  statics := none
  mirror := none

def pool0 : Array CpInfo := pool [(5, u "<init>"), (0, u "()V"), (1, .class_ 10), (1, u "java/lang/Object")] 113

def k0c0 : Code := { maxStack := 0, maxLocals := 1, code := object_method_1_code, exceptionTable := #[], attributes := #[] }
def k0m0 : Method := { name := "<init>", desc := "()V", sig := { parameters := [], returnType := none }, accessFlags := 1, code := some k0c0 }
/-- java/lang/Object -/
def k0 : Class := { plain "java/lang/Object" none with
  accessFlags := 33
  interfaces := #[]
  cf := some (fileOf pool0 8 #[] #[{ accessFlags := 1, nameIndex := 5, descriptorIndex := 6, attributes := #[] }] 33 0 #[] #[])
  fields := #[]
  methods := #[k0m0]
  instanceTypes := #[]
  staticTypes := #[]
  resolved := Array.replicate 124 none
  statics := none }

def pool1 : Array CpInfo := pool [(2, .class_ 4), (1, u "java/lang/Object"), (0, u "<init>"), (0, u "()V"), (0, .methodref 8 9), (0, .class_ 10), (0, .nameAndType 11 12), (0, u "com/example/tenorbook/tenorbook/definitions/FloatingRateIndexEqualsPinLaw"), (0, u "ch"), (0, u "(II)I"), (0, .class_ 14), (0, u "java/lang/String"), (0, .methodref 13 16), (0, .nameAndType 5 17), (0, u "([C)V"), (0, .methodref 8 19), (0, .nameAndType 20 21), (0, u "mk"), (0, u "(I)Ljava/lang/String;"), (0, .class_ 23), (0, u "com/example/tenorbook/tenorbook/definitions/FloatingRateIndex"), (0, .methodref 22 25), (0, .nameAndType 5 26), (0, u "(Ljava/lang/String;Ljava/lang/String;)V"), (0, .methodref 22 28), (0, .nameAndType 29 30), (0, u "equals"), (0, u "(Ljava/lang/Object;)Z"), (0, .methodref 8 32), (0, .nameAndType 33 34), (0, u "same"), (0, u "(II)Z"), (3, u "law"), (0, u "(IIIII)Z")] 2

def k1m0 : Method := { name := "<init>", desc := "()V", sig := { parameters := [], returnType := none }, accessFlags := 1, code := none }
def k1c1 : Code := { maxStack := 4, maxLocals := 2, code := method_2_code, exceptionTable := #[], attributes := #[] }
def k1m1 : Method := { name := "ch", desc := "(II)I", sig := { parameters := [.int, .int], returnType := some .int }, accessFlags := 10, code := some k1c1 }
def k1c2 : Code := { maxStack := 3, maxLocals := 6, code := method_3_code, exceptionTable := #[], attributes := #[] }
def k1m2 : Method := { name := "mk", desc := "(I)Ljava/lang/String;", sig := { parameters := [.int], returnType := some (.object "java/lang/String") }, accessFlags := 10, code := some k1c2 }
def k1c3 : Code := { maxStack := 3, maxLocals := 3, code := method_4_code, exceptionTable := #[], attributes := #[] }
def k1m3 : Method := { name := "same", desc := "(II)Z", sig := { parameters := [.int, .int], returnType := some .boolean }, accessFlags := 10, code := some k1c3 }
def k1c4 : Code := { maxStack := 4, maxLocals := 17, code := code, exceptionTable := #[], attributes := #[] }
def k1m4 : Method := { name := "law", desc := "(IIIII)Z", sig := { parameters := [.int, .int, .int, .int, .int], returnType := some .boolean }, accessFlags := 9, code := some k1c4 }
/-- com/example/tenorbook/tenorbook/definitions/FloatingRateIndexEqualsPinLaw -/
def k1 : Class := { plain "com/example/tenorbook/tenorbook/definitions/FloatingRateIndexEqualsPinLaw" (some 0) with
  accessFlags := 49
  interfaces := #[]
  cf := some (fileOf pool1 8 #[] #[{ accessFlags := 1, nameIndex := 5, descriptorIndex := 6, attributes := #[] }, { accessFlags := 10, nameIndex := 11, descriptorIndex := 12, attributes := #[] }, { accessFlags := 10, nameIndex := 20, descriptorIndex := 21, attributes := #[] }, { accessFlags := 10, nameIndex := 33, descriptorIndex := 34, attributes := #[] }, { accessFlags := 9, nameIndex := 38, descriptorIndex := 39, attributes := #[] }] 49 2 #[] #[])
  fields := #[]
  methods := #[k1m0, k1m1, k1m2, k1m3, k1m4]
  instanceTypes := #[]
  staticTypes := #[]
  resolved := Array.replicate 42 none
  statics := none }

def pool2 : Array CpInfo := pool [(1, .class_ 2), (0, u "java/io/Serializable"), (0, .class_ 4), (0, u "java/lang/Object")] 2

/-- java/io/Serializable -/
def k2 : Class := { plain "java/io/Serializable" (some 0) with
  accessFlags := 1537
  interfaces := #[]
  cf := some (fileOf pool2 1 #[] #[] 1537 3 #[] #[])
  fields := #[]
  methods := #[]
  instanceTypes := #[]
  staticTypes := #[]
  resolved := Array.replicate 7 none
  statics := none }

def pool3 : Array CpInfo := pool [(1, .class_ 2), (0, u "java/lang/Comparable"), (0, .class_ 4), (0, u "java/lang/Object")] 7

/-- java/lang/Comparable -/
def k3 : Class := { plain "java/lang/Comparable" (some 0) with
  accessFlags := 1537
  interfaces := #[]
  cf := some (fileOf pool3 1 #[] #[] 1537 3 #[] #[])
  fields := #[]
  methods := #[]
  instanceTypes := #[]
  staticTypes := #[]
  resolved := Array.replicate 12 none
  statics := none }

def pool4 : Array CpInfo := pool [(2, .class_ 4), (1, u "java/lang/CharSequence"), (42, .class_ 48), (0, u "java/lang/CharSequence$1CodePointIterator"), (10, .class_ 60), (0, u "java/lang/CharSequence$1CharIterator"), (5, .class_ 67), (0, u "java/lang/Object")] 63

/-- java/lang/CharSequence -/
def k4 : Class := { plain "java/lang/CharSequence" (some 0) with
  accessFlags := 1537
  interfaces := #[]
  cf := some (fileOf pool4 2 #[.nestMembers #[47, 59]] #[] 1537 66 #[] #[])
  fields := #[]
  methods := #[]
  instanceTypes := #[]
  staticTypes := #[]
  resolved := Array.replicate 131 none
  statics := none }

def pool5 : Array CpInfo := pool [(1, .class_ 2), (0, u "java/lang/constant/Constable"), (0, .class_ 4), (0, u "java/lang/Object")] 6

/-- java/lang/constant/Constable -/
def k5 : Class := { plain "java/lang/constant/Constable" (some 0) with
  accessFlags := 1537
  interfaces := #[]
  cf := some (fileOf pool5 1 #[] #[] 1537 3 #[] #[])
  fields := #[]
  methods := #[]
  instanceTypes := #[]
  staticTypes := #[]
  resolved := Array.replicate 11 none
  statics := none }

def pool6 : Array CpInfo := pool [(1, .class_ 2), (0, u "java/lang/constant/ConstantDesc"), (0, .class_ 4), (0, u "java/lang/Object")] 32

/-- java/lang/constant/ConstantDesc -/
def k6 : Class := { plain "java/lang/constant/ConstantDesc" (some 0) with
  accessFlags := 1537
  interfaces := #[]
  cf := some (fileOf pool6 1 #[] #[] 1537 3 #[] #[])
  fields := #[]
  methods := #[]
  instanceTypes := #[]
  staticTypes := #[]
  resolved := Array.replicate 37 none
  statics := none }

def pool7 : Array CpInfo := pool [(1, .methodref 2 3), (0, .class_ 4), (0, .nameAndType 5 6), (0, u "java/lang/Object"), (0, u "<init>"), (0, u "()V"), (0, .string 8), (0, u ""), (0, .fieldref 10 11), (0, .class_ 12), (0, .nameAndType 13 14), (0, u "java/lang/String"), (0, u "value"), (0, u "[B"), (0, .fieldref 10 16), (0, .nameAndType 17 18), (0, u "coder"), (0, u "B"), (2, u "hash"), (0, u "I"), (2, u "hashIsZero"), (0, u "Z"), (0, .methodref 10 28), (0, .nameAndType 5 29), (0, u "([CIILjava/lang/Void;)V"), (8, .fieldref 10 39), (0, .nameAndType 40 26), (0, u "COMPACT_STRINGS"), (1, .class_ 44), (1, u "java/lang/StringUTF16"), (0, u "compress"), (1, .methodref 42 48), (0, .nameAndType 49 50), (0, u "coderFromArrayLen"), (0, u "([BI)B"), (56, .class_ 109), (1, u "java/lang/StringLatin1"), (67, .methodref 42 178), (0, .nameAndType 45 179), (0, u "([CII)[B"), (361, .methodref 107 542), (0, .nameAndType 543 544), (0, u "equals"), (0, u "([B[B)Z"), (28, u "(Ljava/lang/Object;)Z"), (1, .class_ 576), (0, u "java/lang/CharSequence"), (22, u "CASE_INSENSITIVE_ORDER"), (0, u "Ljava/util/Comparator;"), (409, u "([C)V"), (90, u "serialPersistentFields"), (0, u "[Ljava/io/ObjectStreamField;"), (0, .class_ 1104), (0, u "java/lang/String$CaseInsensitiveComparator"), (1, .class_ 1107), (0, u "java/io/Serializable"), (0, .class_ 1109), (0, u "java/lang/Comparable"), (0, .class_ 1111), (0, u "java/lang/constant/Constable"), (0, .class_ 1113), (0, u "java/lang/constant/ConstantDesc"), (2, u "serialVersionUID"), (0, u "J"), (3, u "REPL"), (0, u "C"), (2, u "LATIN1"), (1, u "UTF16")] 323

def k7m0 : Method := { name := "<init>", desc := "()V", sig := { parameters := [], returnType := none }, accessFlags := 1, code := none }
def k7c1 : Code := { maxStack := 5, maxLocals := 2, code := jdk_42_method_3_code, exceptionTable := #[], attributes := #[] }
def k7m1 : Method := { name := "<init>", desc := "([C)V", sig := { parameters := [(.array .char)], returnType := none }, accessFlags := 1, code := some k7c1 }
def k7c2 : Code := { maxStack := 2, maxLocals := 3, code := jdk_42_method_66_code, exceptionTable := #[], attributes := #[] }
def k7m2 : Method := { name := "equals", desc := "(Ljava/lang/Object;)Z", sig := { parameters := [(.object "java/lang/Object")], returnType := some .boolean }, accessFlags := 1, code := some k7c2 }
def k7c3 : Code := { maxStack := 4, maxLocals := 6, code := jdk_42_method_149_code, exceptionTable := #[], attributes := #[] }
def k7m3 : Method := { name := "<init>", desc := "([CIILjava/lang/Void;)V", sig := { parameters := [(.array .char), .int, .int, (.object "java/lang/Void")], returnType := none }, accessFlags := 2, code := some k7c3 }
/-- java/lang/String -/
def k7 : Class := { plain "java/lang/String" (some 0) with
  accessFlags := 49
  interfaces := #[2, 3, 4, 5, 6]
  cf := some (fileOf pool7 10 #[.nestMembers #[1103]] #[{ accessFlags := 1, nameIndex := 5, descriptorIndex := 6, attributes := #[] }, { accessFlags := 1, nameIndex := 5, descriptorIndex := 1010, attributes := #[] }, { accessFlags := 1, nameIndex := 543, descriptorIndex := 573, attributes := #[] }, { accessFlags := 2, nameIndex := 5, descriptorIndex := 29, attributes := #[] }] 49 2 #[1106, 1108, 575, 1110, 1112] #[{ accessFlags := 18, nameIndex := 13, descriptorIndex := 14, attributes := #[] }, { accessFlags := 18, nameIndex := 17, descriptorIndex := 18, attributes := #[] }, { accessFlags := 2, nameIndex := 21, descriptorIndex := 22, attributes := #[] }, { accessFlags := 2, nameIndex := 25, descriptorIndex := 26, attributes := #[] }, { accessFlags := 26, nameIndex := 1116, descriptorIndex := 1117, attributes := #[] }, { accessFlags := 24, nameIndex := 40, descriptorIndex := 26, attributes := #[] }, { accessFlags := 26, nameIndex := 1101, descriptorIndex := 1102, attributes := #[] }, { accessFlags := 26, nameIndex := 1121, descriptorIndex := 1122, attributes := #[] }, { accessFlags := 25, nameIndex := 599, descriptorIndex := 600, attributes := #[] }, { accessFlags := 24, nameIndex := 1125, descriptorIndex := 18, attributes := #[] }, { accessFlags := 24, nameIndex := 1127, descriptorIndex := 18, attributes := #[] }])
  fields := #[{ name := "value", type := (.array .byte), accessFlags := 18, slot := 0, constantValue := 0 }, { name := "coder", type := .byte, accessFlags := 18, slot := 1, constantValue := 0 }, { name := "hash", type := .int, accessFlags := 2, slot := 2, constantValue := 0 }, { name := "hashIsZero", type := .boolean, accessFlags := 2, slot := 3, constantValue := 0 }, { name := "serialVersionUID", type := .long, accessFlags := 26, slot := 0, constantValue := 0 }, { name := "COMPACT_STRINGS", type := .boolean, accessFlags := 24, slot := 1, constantValue := 0 }, { name := "serialPersistentFields", type := (.array (.object "java/io/ObjectStreamField")), accessFlags := 26, slot := 2, constantValue := 0 }, { name := "REPL", type := .char, accessFlags := 26, slot := 3, constantValue := 0 }, { name := "CASE_INSENSITIVE_ORDER", type := (.object "java/util/Comparator"), accessFlags := 25, slot := 4, constantValue := 0 }, { name := "LATIN1", type := .byte, accessFlags := 24, slot := 5, constantValue := 0 }, { name := "UTF16", type := .byte, accessFlags := 24, slot := 6, constantValue := 0 }]
  methods := #[k7m0, k7m1, k7m2, k7m3]
  instanceTypes := #[(.array .byte), .byte, .int, .boolean]
  staticTypes := #[.long, .boolean, (.array (.object "java/io/ObjectStreamField")), .char, (.object "java/util/Comparator"), .byte, .byte]
  resolved := Array.replicate 1451 none
  statics := some 0 }

def pool8 : Array CpInfo := pool [(6, .class_ 8), (1, u "java/lang/Object"), (0, u "<init>"), (0, u "()V"), (1, .class_ 14), (1, u "java/lang/StringUTF16"), (31, u "$assertionsDisabled"), (0, u "Z"), (13, u "HI_BYTE_SHIFT"), (0, u "I"), (2, u "LO_BYTE_SHIFT"), (49, .methodref 12 116), (0, .nameAndType 117 118), (0, u "compress"), (0, u "([CI[BII)I"), (3, u "([CII)[B"), (138, u "coderFromArrayLen"), (0, u "([BI)B"), (106, .class_ 371), (1, u "java/lang/StringUTF16$LinesSpliterator"), (58, u "MAX_LENGTH"), (196, .class_ 628), (0, u "java/lang/StringUTF16$CodePointsSpliterator"), (0, .class_ 630), (0, u "java/lang/StringUTF16$CharsSpliterator")] 4

def k8m0 : Method := { name := "<init>", desc := "()V", sig := { parameters := [], returnType := none }, accessFlags := 0, code := none }
def k8c1 : Code := { maxStack := 2, maxLocals := 2, code := jdk_52_method_15_code, exceptionTable := #[], attributes := #[] }
def k8m1 : Method := { name := "coderFromArrayLen", desc := "([BI)B", sig := { parameters := [(.array .byte), .int], returnType := some .byte }, accessFlags := 8, code := some k8c1 }
def k8c2 : Code := { maxStack := 5, maxLocals := 6, code := jdk_52_method_16_code, exceptionTable := #[], attributes := #[] }
def k8m2 : Method := { name := "compress", desc := "([CII)[B", sig := { parameters := [(.array .char), .int, .int], returnType := some (.array .byte) }, accessFlags := 9, code := some k8c2 }
def k8c3 : Code := { maxStack := 3, maxLocals := 7, code := jdk_52_method_21_code, exceptionTable := #[], attributes := #[] }
def k8m3 : Method := { name := "compress", desc := "([CI[BII)I", sig := { parameters := [(.array .char), .int, (.array .byte), .int, .int], returnType := some .int }, accessFlags := 9, code := some k8c3 }
/-- java/lang/StringUTF16 -/
def k8 : Class := { plain "java/lang/StringUTF16" (some 0) with
  accessFlags := 48
  interfaces := #[]
  cf := some (fileOf pool8 12 #[.nestMembers #[627, 629, 369]] #[{ accessFlags := 0, nameIndex := 9, descriptorIndex := 10, attributes := #[] }, { accessFlags := 8, nameIndex := 261, descriptorIndex := 262, attributes := #[] }, { accessFlags := 9, nameIndex := 117, descriptorIndex := 122, attributes := #[] }, { accessFlags := 9, nameIndex := 117, descriptorIndex := 118, attributes := #[] }] 48 6 #[] #[{ accessFlags := 26, nameIndex := 61, descriptorIndex := 62, attributes := #[] }, { accessFlags := 26, nameIndex := 65, descriptorIndex := 62, attributes := #[] }, { accessFlags := 24, nameIndex := 430, descriptorIndex := 62, attributes := #[] }, { accessFlags := 4120, nameIndex := 46, descriptorIndex := 47, attributes := #[] }])
  fields := #[{ name := "HI_BYTE_SHIFT", type := .int, accessFlags := 26, slot := 0, constantValue := 0 }, { name := "LO_BYTE_SHIFT", type := .int, accessFlags := 26, slot := 1, constantValue := 0 }, { name := "MAX_LENGTH", type := .int, accessFlags := 24, slot := 2, constantValue := 0 }, { name := "$assertionsDisabled", type := .boolean, accessFlags := 4120, slot := 3, constantValue := 0 }]
  methods := #[k8m0, k8m1, k8m2, k8m3]
  instanceTypes := #[]
  staticTypes := #[.int, .int, .int, .boolean]
  resolved := Array.replicate 635 none
  statics := none }

def pool9 : Array CpInfo := pool [(1, .methodref 2 3), (0, .class_ 4), (0, .nameAndType 5 6), (0, u "java/lang/Object"), (0, u "<init>"), (0, u "()V"), (0, .class_ 8), (0, u "java/lang/Record")] 13

def k9c0 : Code := { maxStack := 1, maxLocals := 1, code := jdk_30_method_1_code, exceptionTable := #[], attributes := #[] }
def k9m0 : Method := { name := "<init>", desc := "()V", sig := { parameters := [], returnType := none }, accessFlags := 4, code := some k9c0 }
/-- java/lang/Record -/
def k9 : Class := { plain "java/lang/Record" (some 0) with
  accessFlags := 1057
  interfaces := #[]
  cf := some (fileOf pool9 7 #[] #[{ accessFlags := 4, nameIndex := 5, descriptorIndex := 6, attributes := #[] }] 1057 2 #[] #[])
  fields := #[]
  methods := #[k9m0]
  instanceTypes := #[]
  staticTypes := #[]
  resolved := Array.replicate 22 none
  statics := none }

def pool10 : Array CpInfo := pool [(1, .methodref 2 3), (0, .class_ 4), (0, .nameAndType 5 6), (0, u "java/lang/Record"), (0, u "<init>"), (0, u "()V"), (0, .string 8), (0, u "floatingRateOption"), (0, .methodref 10 11), (0, .class_ 12), (0, .nameAndType 13 14), (0, u "java/util/Objects"), (0, u "requireNonNull"), (0, u "(Ljava/lang/Object;Ljava/lang/String;)Ljava/lang/Object;"), (0, .string 16), (0, u "designatedMaturity"), (0, .fieldref 18 19), (0, .class_ 20), (0, .nameAndType 8 21), (0, u "com/example/tenorbook/tenorbook/definitions/FloatingRateIndex"), (0, u "Ljava/lang/String;"), (0, .fieldref 18 23), (0, .nameAndType 16 21), (0, .methodref 25 26), (0, .class_ 27), (0, .nameAndType 28 29), (0, u "java/lang/String"), (0, u "equals"), (0, u "(Ljava/lang/Object;)Z"), (8, u "(Ljava/lang/String;Ljava/lang/String;)V")] 24

def k10c0 : Code := { maxStack := 2, maxLocals := 3, code := prog_18_method_1_code, exceptionTable := #[], attributes := #[] }
def k10m0 : Method := { name := "<init>", desc := "(Ljava/lang/String;Ljava/lang/String;)V", sig := { parameters := [(.object "java/lang/String"), (.object "java/lang/String")], returnType := none }, accessFlags := 1, code := some k10c0 }
def k10c1 : Code := { maxStack := 2, maxLocals := 3, code := prog_18_method_2_code, exceptionTable := #[], attributes := #[] }
def k10m1 : Method := { name := "equals", desc := "(Ljava/lang/Object;)Z", sig := { parameters := [(.object "java/lang/Object")], returnType := some .boolean }, accessFlags := 1, code := some k10c1 }
/-- com/example/tenorbook/tenorbook/definitions/FloatingRateIndex -/
def k10 : Class := { plain "com/example/tenorbook/tenorbook/definitions/FloatingRateIndex" (some 9) with
  accessFlags := 49
  interfaces := #[]
  cf := some (fileOf pool10 18 #[] #[{ accessFlags := 1, nameIndex := 5, descriptorIndex := 38, attributes := #[] }, { accessFlags := 1, nameIndex := 28, descriptorIndex := 29, attributes := #[] }] 49 2 #[] #[{ accessFlags := 18, nameIndex := 8, descriptorIndex := 21, attributes := #[] }, { accessFlags := 18, nameIndex := 16, descriptorIndex := 21, attributes := #[] }])
  fields := #[{ name := "floatingRateOption", type := (.object "java/lang/String"), accessFlags := 18, slot := 0, constantValue := 0 }, { name := "designatedMaturity", type := (.object "java/lang/String"), accessFlags := 18, slot := 1, constantValue := 0 }]
  methods := #[k10m0, k10m1]
  instanceTypes := #[(.object "java/lang/String"), (.object "java/lang/String")]
  staticTypes := #[]
  resolved := Array.replicate 63 none
  statics := none }

def pool11 : Array CpInfo := pool [(2, .class_ 4), (1, u "java/lang/Object"), (0, u "<init>"), (0, u "()V"), (35, .class_ 44), (1, u "java/util/Objects"), (0, u "requireNonNull"), (48, u "(Ljava/lang/Object;Ljava/lang/String;)Ljava/lang/Object;")] 89

def k11m0 : Method := { name := "<init>", desc := "()V", sig := { parameters := [], returnType := none }, accessFlags := 2, code := none }
def k11c1 : Code := { maxStack := 3, maxLocals := 2, code := jdk_31_method_11_code, exceptionTable := #[], attributes := #[] }
def k11m1 : Method := { name := "requireNonNull", desc := "(Ljava/lang/Object;Ljava/lang/String;)Ljava/lang/Object;", sig := { parameters := [(.object "java/lang/Object"), (.object "java/lang/String")], returnType := some (.object "java/lang/Object") }, accessFlags := 9, code := some k11c1 }
/-- java/util/Objects -/
def k11 : Class := { plain "java/util/Objects" (some 0) with
  accessFlags := 49
  interfaces := #[]
  cf := some (fileOf pool11 42 #[] #[{ accessFlags := 2, nameIndex := 5, descriptorIndex := 6, attributes := #[] }, { accessFlags := 9, nameIndex := 45, descriptorIndex := 94, attributes := #[] }] 49 2 #[] #[])
  fields := #[]
  methods := #[k11m0, k11m1]
  instanceTypes := #[]
  staticTypes := #[]
  resolved := Array.replicate 184 none
  statics := none }

def pool12 : Array CpInfo := pool [(4, .class_ 6), (1, u "java/lang/Object"), (0, u "<init>"), (0, u "()V"), (5, .class_ 16), (1, u "java/lang/StringLatin1"), (104, u "$assertionsDisabled"), (0, u "Z"), (98, .class_ 223), (1, u "java/lang/StringLatin1$LinesSpliterator"), (57, u "equals"), (0, u "([B[B)Z"), (107, .class_ 391), (0, u "java/lang/StringLatin1$CharsSpliterator")] 3

def k12m0 : Method := { name := "<init>", desc := "()V", sig := { parameters := [], returnType := none }, accessFlags := 0, code := none }
def k12c1 : Code := { maxStack := 3, maxLocals := 3, code := jdk_43_method_13_code, exceptionTable := #[], attributes := #[] }
def k12m1 : Method := { name := "equals", desc := "([B[B)Z", sig := { parameters := [(.array .byte), (.array .byte)], returnType := some .boolean }, accessFlags := 9, code := some k12c1 }
/-- java/lang/StringLatin1 -/
def k12 : Class := { plain "java/lang/StringLatin1" (some 0) with
  accessFlags := 48
  interfaces := #[]
  cf := some (fileOf pool12 14 #[.nestMembers #[390, 221]] #[{ accessFlags := 0, nameIndex := 7, descriptorIndex := 8, attributes := #[] }, { accessFlags := 9, nameIndex := 281, descriptorIndex := 282, attributes := #[] }] 48 4 #[] #[{ accessFlags := 4120, nameIndex := 121, descriptorIndex := 122, attributes := #[] }])
  fields := #[{ name := "$assertionsDisabled", type := .boolean, accessFlags := 4120, slot := 0, constantValue := 0 }]
  methods := #[k12m0, k12m1]
  instanceTypes := #[]
  staticTypes := #[.boolean]
  resolved := Array.replicate 395 none
  statics := none }

def pool13 : Array CpInfo := pool [(2, .class_ 4), (1, u "java/lang/Object"), (0, u "<init>"), (0, u "()V"), (17, .class_ 26), (1, u "jdk/internal/util/Preconditions"), (28, .class_ 56), (0, u "jdk/internal/util/Preconditions$4"), (57, .class_ 115), (0, u "jdk/internal/util/Preconditions$1"), (7, u "SIOOBE_FORMATTER"), (0, u "Ljava/util/function/BiFunction;"), (0, .class_ 126), (0, u "jdk/internal/util/Preconditions$2"), (3, u "AIOOBE_FORMATTER"), (0, .class_ 132), (0, u "jdk/internal/util/Preconditions$3"), (3, u "IOOBE_FORMATTER")] 57

def k13m0 : Method := { name := "<init>", desc := "()V", sig := { parameters := [], returnType := none }, accessFlags := 1, code := none }
/-- jdk/internal/util/Preconditions -/
def k13 : Class := { plain "jdk/internal/util/Preconditions" (some 0) with
  accessFlags := 33
  interfaces := #[]
  cf := some (fileOf pool13 24 #[.nestMembers #[55, 131, 125, 114]] #[{ accessFlags := 1, nameIndex := 5, descriptorIndex := 6, attributes := #[] }] 33 2 #[] #[{ accessFlags := 25, nameIndex := 123, descriptorIndex := 124, attributes := #[] }, { accessFlags := 25, nameIndex := 130, descriptorIndex := 124, attributes := #[] }, { accessFlags := 25, nameIndex := 136, descriptorIndex := 124, attributes := #[] }])
  fields := #[{ name := "SIOOBE_FORMATTER", type := (.object "java/util/function/BiFunction"), accessFlags := 25, slot := 0, constantValue := 0 }, { name := "AIOOBE_FORMATTER", type := (.object "java/util/function/BiFunction"), accessFlags := 25, slot := 1, constantValue := 0 }, { name := "IOOBE_FORMATTER", type := (.object "java/util/function/BiFunction"), accessFlags := 25, slot := 2, constantValue := 0 }]
  methods := #[k13m0]
  instanceTypes := #[]
  staticTypes := #[(.object "java/util/function/BiFunction"), (.object "java/util/function/BiFunction"), (.object "java/util/function/BiFunction")]
  resolved := Array.replicate 194 none
  statics := some 1 }

def pool14 : Array CpInfo := pool [(9, u "<init>"), (6, .class_ 18), (1, u "java/lang/Object"), (0, u "()V"), (1, .class_ 23), (1, u "jdk/internal/util/ArraysSupport"), (0, u "LOG2_ARRAY_LONG_INDEX_SCALE"), (0, u "I"), (2, u "U"), (0, u "Ljdk/internal/misc/Unsafe;"), (8, u "BIG_ENDIAN"), (0, u "Z"), (8, u "LOG2_BYTE_BIT_SIZE"), (4, u "LOG2_ARRAY_INT_INDEX_SCALE"), (54, u "JLA"), (0, u "Ljdk/internal/access/JavaLangAccess;"), (11, u "LOG2_ARRAY_BOOLEAN_INDEX_SCALE"), (9, u "LOG2_ARRAY_BYTE_INDEX_SCALE"), (5, u "LOG2_ARRAY_CHAR_INDEX_SCALE"), (5, u "LOG2_ARRAY_SHORT_INDEX_SCALE"), (18, u "LOG2_ARRAY_FLOAT_INDEX_SCALE"), (24, u "LOG2_ARRAY_DOUBLE_INDEX_SCALE"), (89, u "T_BOOLEAN"), (2, u "T_CHAR"), (1, u "T_FLOAT"), (1, u "T_DOUBLE"), (1, u "T_BYTE"), (1, u "T_SHORT"), (1, u "T_INT"), (1, u "T_LONG"), (1, u "SOFT_MAX_ARRAY_LENGTH")] 83

def k14m0 : Method := { name := "<init>", desc := "()V", sig := { parameters := [], returnType := none }, accessFlags := 2, code := none }
/-- jdk/internal/util/ArraysSupport -/
def k14 : Class := { plain "jdk/internal/util/ArraysSupport" (some 0) with
  accessFlags := 33
  interfaces := #[]
  cf := some (fileOf pool14 21 #[] #[{ accessFlags := 2, nameIndex := 9, descriptorIndex := 19, attributes := #[] }] 33 16 #[] #[{ accessFlags := 24, nameIndex := 28, descriptorIndex := 29, attributes := #[] }, { accessFlags := 26, nameIndex := 38, descriptorIndex := 39, attributes := #[] }, { accessFlags := 25, nameIndex := 121, descriptorIndex := 25, attributes := #[] }, { accessFlags := 25, nameIndex := 131, descriptorIndex := 25, attributes := #[] }, { accessFlags := 25, nameIndex := 137, descriptorIndex := 25, attributes := #[] }, { accessFlags := 25, nameIndex := 143, descriptorIndex := 25, attributes := #[] }, { accessFlags := 25, nameIndex := 53, descriptorIndex := 25, attributes := #[] }, { accessFlags := 25, nameIndex := 24, descriptorIndex := 25, attributes := #[] }, { accessFlags := 25, nameIndex := 162, descriptorIndex := 25, attributes := #[] }, { accessFlags := 25, nameIndex := 187, descriptorIndex := 25, attributes := #[] }, { accessFlags := 26, nameIndex := 48, descriptorIndex := 25, attributes := #[] }, { accessFlags := 25, nameIndex := 277, descriptorIndex := 25, attributes := #[] }, { accessFlags := 25, nameIndex := 280, descriptorIndex := 25, attributes := #[] }, { accessFlags := 25, nameIndex := 282, descriptorIndex := 25, attributes := #[] }, { accessFlags := 25, nameIndex := 284, descriptorIndex := 25, attributes := #[] }, { accessFlags := 25, nameIndex := 286, descriptorIndex := 25, attributes := #[] }, { accessFlags := 25, nameIndex := 288, descriptorIndex := 25, attributes := #[] }, { accessFlags := 25, nameIndex := 290, descriptorIndex := 25, attributes := #[] }, { accessFlags := 25, nameIndex := 292, descriptorIndex := 25, attributes := #[] }, { accessFlags := 26, nameIndex := 108, descriptorIndex := 109, attributes := #[] }, { accessFlags := 25, nameIndex := 294, descriptorIndex := 25, attributes := #[] }])
  fields := #[{ name := "U", type := (.object "jdk/internal/misc/Unsafe"), accessFlags := 24, slot := 0, constantValue := 0 }, { name := "BIG_ENDIAN", type := .boolean, accessFlags := 26, slot := 1, constantValue := 0 }, { name := "LOG2_ARRAY_BOOLEAN_INDEX_SCALE", type := .int, accessFlags := 25, slot := 2, constantValue := 0 }, { name := "LOG2_ARRAY_BYTE_INDEX_SCALE", type := .int, accessFlags := 25, slot := 3, constantValue := 0 }, { name := "LOG2_ARRAY_CHAR_INDEX_SCALE", type := .int, accessFlags := 25, slot := 4, constantValue := 0 }, { name := "LOG2_ARRAY_SHORT_INDEX_SCALE", type := .int, accessFlags := 25, slot := 5, constantValue := 0 }, { name := "LOG2_ARRAY_INT_INDEX_SCALE", type := .int, accessFlags := 25, slot := 6, constantValue := 0 }, { name := "LOG2_ARRAY_LONG_INDEX_SCALE", type := .int, accessFlags := 25, slot := 7, constantValue := 0 }, { name := "LOG2_ARRAY_FLOAT_INDEX_SCALE", type := .int, accessFlags := 25, slot := 8, constantValue := 0 }, { name := "LOG2_ARRAY_DOUBLE_INDEX_SCALE", type := .int, accessFlags := 25, slot := 9, constantValue := 0 }, { name := "LOG2_BYTE_BIT_SIZE", type := .int, accessFlags := 26, slot := 10, constantValue := 0 }, { name := "T_BOOLEAN", type := .int, accessFlags := 25, slot := 11, constantValue := 0 }, { name := "T_CHAR", type := .int, accessFlags := 25, slot := 12, constantValue := 0 }, { name := "T_FLOAT", type := .int, accessFlags := 25, slot := 13, constantValue := 0 }, { name := "T_DOUBLE", type := .int, accessFlags := 25, slot := 14, constantValue := 0 }, { name := "T_BYTE", type := .int, accessFlags := 25, slot := 15, constantValue := 0 }, { name := "T_SHORT", type := .int, accessFlags := 25, slot := 16, constantValue := 0 }, { name := "T_INT", type := .int, accessFlags := 25, slot := 17, constantValue := 0 }, { name := "T_LONG", type := .int, accessFlags := 25, slot := 18, constantValue := 0 }, { name := "JLA", type := (.object "jdk/internal/access/JavaLangAccess"), accessFlags := 26, slot := 19, constantValue := 0 }, { name := "SOFT_MAX_ARRAY_LENGTH", type := .int, accessFlags := 25, slot := 20, constantValue := 0 }]
  methods := #[k14m0]
  instanceTypes := #[]
  staticTypes := #[(.object "jdk/internal/misc/Unsafe"), .boolean, .int, .int, .int, .int, .int, .int, .int, .int, .int, .int, .int, .int, .int, .int, .int, .int, .int, (.object "jdk/internal/access/JavaLangAccess"), .int]
  resolved := Array.replicate 378 none
  statics := none }

def pool15 : Array CpInfo := pool [(1, u "java/lang/Cloneable"), (0, .class_ 1), (0, u "java/lang/Object"), (0, .class_ 3)] 3

/-- java/lang/Cloneable -/
def k15 : Class := { plain "java/lang/Cloneable" (some 0) with
  accessFlags := 1537
  interfaces := #[]
  cf := some (fileOf pool15 2 #[] #[] 1537 4 #[] #[])
  fields := #[]
  methods := #[]
  instanceTypes := #[]
  staticTypes := #[]
  resolved := Array.replicate 8 none
  statics := none }

/-- the primitive byte -/
def k16 : Class := { plain "byte" none with kind := .primitive 'B', accessFlags := 0x411 }
/-- [B -/
def k17 : Class := { plain "[B" (some 0) with kind := .array 16 .byte, interfaces := #[15, 2], accessFlags := 1041 }

/-- the primitive char -/
def k18 : Class := { plain "char" none with kind := .primitive 'C', accessFlags := 0x411 }
/-- [C -/
def k19 : Class := { plain "[C" (some 0) with kind := .array 18 .char, interfaces := #[15, 2], accessFlags := 1041 }

/-- the primitive int -/
def k20 : Class := { plain "int" none with kind := .primitive 'I', accessFlags := 0x411 }
/-- [I -/
def k21 : Class := { plain "[I" (some 0) with kind := .array 20 .int, interfaces := #[15, 2], accessFlags := 1041 }

def heap : Heap := #[{ cls := 7, slots := #[.long 0, .int 1, .null, .int 0, .null, .int 0, .int 0], vm := .statics 7 },
  { cls := 13, slots := #[.null, .null, .null], vm := .statics 13 }]
def classes : Array Class := #[k0, k1, k2, k3, k4, k5, k6, k7, k8, k9, k10, k11, k12, k13, k14, k15, k16, k17, k18, k19, k20, k21]
def interned : List (Array UInt16 × Addr) := []
def slotsUsed : Nat := 10
def theMethod : MethodId := ⟨1, 4⟩
def args0 : Array Value := #[.int 5, .int 5, .int 5, .int 5, .int 5]
def aboutOver (below : List Frame) : State where
  vm := { classes := classes, interned := interned.toArray }
  heap := heap
  slotsUsed := slotsUsed
  threads := #[{ frames := .invoking theMethod args0 :: below }]
def below0 : List Frame := [.native { method := ⟨0, 0⟩, args := #[] }]
def about1 : State := aboutOver below0
def p0 : Program := .bare "" "" ""
def e0 : Env := launch0.env 0 0 0
theorem w_frames : about1.frames = Frame.invoking theMethod args0 :: below0 := rfl
set_option maxRecDepth 65536 in
theorem w_args : argsFit about1.vm theMethod args0 = true := by decide +kernel
set_option maxRecDepth 65536 in
theorem w_heap : heapFits about1 = true := by decide +kernel
set_option maxRecDepth 65536 in
theorem w_runnable : about1.curStatus? = some .runnable := by decide +kernel
set_option maxRecDepth 65536 in
theorem w_alone : about1.alone = true := by decide +kernel
set_option maxRecDepth 65536 in
theorem w_named : about1.methodNamed? x = some theMethod := by decide +kernel
set_option maxRecDepth 65536 in
theorem w_hears : about1.hears theMethod below0 = true := by decide +kernel
set_option maxRecDepth 65536 in
theorem w_ripe : about1.ripe theMethod args0 below0 = true := by decide +kernel
theorem w_running : about1.status = .running := rfl
set_option maxRecDepth 65536 in
theorem w_room : about1.hasRoom e0.platform room_1 = true :=
  launch0.hasRoom_least _ room_1 (by decide +kernel) (by decide +kernel) (by decide +kernel) (by decide +kernel) (by decide +kernel) (by decide +kernel)
theorem allAtoms_all (ts : List Jvm.Cond) (a : Array Jvm.Value) (st : Jvm.State) : (allAtoms ts).before a st = ts.all (fun c => c.before a st) := by
  induction ts with
  | nil => rfl
  | cons c t ih =>
    show (Jvm.Cond.and c (allAtoms t)).before a st = _
    rw [Jvm.Cond.before_and, ih, List.all_cons]
def words1 : List Jvm.Cond := Jvm.Cond.code x code maxLocals ret :: tables_1
/-- a 'code' word, met by the world's own term for the bytes: nothing is compared byte by byte -/
theorem code_word {y : MethodName} {bytes : ByteArray} {mx : Nat} {rt : Option FieldType} {a : Array Value} {s : State} {m : MethodId} {meth : Method} {c : Code} (h1 : s.methodNamed? y = some m) (h2 : s.vm.method? m = some meth) (h3 : meth.code = some c) (h4 : c.code = bytes)
    (h5 : (c.maxLocals == mx && c.exceptionTable.isEmpty && decide (c.maxStack ≤ mostOperands) && decide (meth.sig.returnType = rt) && !meth.locks && decide (parseMethodDescriptor y.desc = some meth.sig)) = true) : (Jvm.Cond.code y bytes mx rt).before a s = true := by
  simp only [Bool.and_eq_true, beq_iff_eq, Bool.not_eq_true', decide_eq_true_eq] at h5
  obtain ⟨⟨⟨⟨⟨g1, g2⟩, g3⟩, g4⟩, g5⟩, g6⟩ := h5
  simp [Cond.before, Cond.holds, Cond.value, h1, h2, h3, h4, g1, g2, g3, g4, g5, g6]
def isCode : Jvm.Cond → Bool
  | .code _ _ _ _ => true
  | _ => false
theorem all_split {L : List Jvm.Cond} {P : Jvm.Cond → Bool} (h1 : L.all (fun c => isCode c || P c) = true) (h2 : ∀ c ∈ L.filter isCode, P c = true) : L.all P = true := by
  refine List.all_eq_true.mpr fun c hc => ?_
  have h := List.all_eq_true.mp h1 c hc
  rcases Bool.eq_false_or_eq_true (isCode c) with hi | hi
  · exact h2 c (List.mem_filter.mpr ⟨hc, hi⟩)
  · simpa [hi] using h
set_option maxRecDepth 65536 in
theorem w_c0 : (Jvm.Cond.code x code maxLocals ret).before args0 about1 = true := code_word (m := ⟨1, 4⟩) (meth := k1m4) (c := k1c4) (by decide +kernel) rfl rfl rfl (by decide +kernel)
set_option maxRecDepth 65536 in
theorem w_c1 : (Jvm.Cond.code ({ cls := "com/example/tenorbook/tenorbook/definitions/FloatingRateIndexEqualsPinLaw", name := "mk", desc := "(I)Ljava/lang/String;" } : Jvm.MethodName) method_3_code (6 : Nat) (Option.some (Jvm.ClassFile.FieldType.object "java/lang/String"))).before args0 about1 = true := code_word (m := ⟨1, 2⟩) (meth := k1m2) (c := k1c2) (by decide +kernel) rfl rfl rfl (by decide +kernel)
set_option maxRecDepth 65536 in
theorem w_c2 : (Jvm.Cond.code ({ cls := "com/example/tenorbook/tenorbook/definitions/FloatingRateIndexEqualsPinLaw", name := "ch", desc := "(II)I" } : Jvm.MethodName) method_2_code (2 : Nat) (Option.some Jvm.ClassFile.FieldType.int)).before args0 about1 = true := code_word (m := ⟨1, 1⟩) (meth := k1m1) (c := k1c1) (by decide +kernel) rfl rfl rfl (by decide +kernel)
set_option maxRecDepth 65536 in
theorem w_c3 : (Jvm.Cond.code ({ cls := "java/lang/String", name := "<init>", desc := "([C)V" } : Jvm.MethodName) jdk_42_method_3_code (2 : Nat) (Option.none : Option Jvm.ClassFile.FieldType)).before args0 about1 = true := code_word (m := ⟨7, 1⟩) (meth := k7m1) (c := k7c1) (by decide +kernel) rfl rfl rfl (by decide +kernel)
set_option maxRecDepth 65536 in
theorem w_c4 : (Jvm.Cond.code ({ cls := "java/lang/String", name := "<init>", desc := "([CIILjava/lang/Void;)V" } : Jvm.MethodName) jdk_42_method_149_code (6 : Nat) (Option.none : Option Jvm.ClassFile.FieldType)).before args0 about1 = true := code_word (m := ⟨7, 3⟩) (meth := k7m3) (c := k7c3) (by decide +kernel) rfl rfl rfl (by decide +kernel)
set_option maxRecDepth 65536 in
theorem w_c5 : (Jvm.Cond.code ({ cls := "java/lang/Object", name := "<init>", desc := "()V" } : Jvm.MethodName) object_method_1_code (1 : Nat) (Option.none : Option Jvm.ClassFile.FieldType)).before args0 about1 = true := code_word (m := ⟨0, 0⟩) (meth := k0m0) (c := k0c0) (by decide +kernel) rfl rfl rfl (by decide +kernel)
set_option maxRecDepth 65536 in
theorem w_c6 : (Jvm.Cond.code ({ cls := "java/lang/StringUTF16", name := "compress", desc := "([CII)[B" } : Jvm.MethodName) jdk_52_method_16_code (6 : Nat) (Option.some (Jvm.ClassFile.FieldType.array Jvm.ClassFile.FieldType.byte))).before args0 about1 = true := code_word (m := ⟨8, 2⟩) (meth := k8m2) (c := k8c2) (by decide +kernel) rfl rfl rfl (by decide +kernel)
set_option maxRecDepth 65536 in
theorem w_c7 : (Jvm.Cond.code ({ cls := "java/lang/StringUTF16", name := "compress", desc := "([CI[BII)I" } : Jvm.MethodName) jdk_52_method_21_code (7 : Nat) (Option.some Jvm.ClassFile.FieldType.int)).before args0 about1 = true := code_word (m := ⟨8, 3⟩) (meth := k8m3) (c := k8c3) (by decide +kernel) rfl rfl rfl (by decide +kernel)
set_option maxRecDepth 65536 in
theorem w_c8 : (Jvm.Cond.code ({ cls := "java/lang/StringUTF16", name := "coderFromArrayLen", desc := "([BI)B" } : Jvm.MethodName) jdk_52_method_15_code (2 : Nat) (Option.some Jvm.ClassFile.FieldType.byte)).before args0 about1 = true := code_word (m := ⟨8, 1⟩) (meth := k8m1) (c := k8c1) (by decide +kernel) rfl rfl rfl (by decide +kernel)
set_option maxRecDepth 65536 in
theorem w_c9 : (Jvm.Cond.code ({ cls := "com/example/tenorbook/tenorbook/definitions/FloatingRateIndex", name := "<init>", desc := "(Ljava/lang/String;Ljava/lang/String;)V" } : Jvm.MethodName) prog_18_method_1_code (3 : Nat) (Option.none : Option Jvm.ClassFile.FieldType)).before args0 about1 = true := code_word (m := ⟨10, 0⟩) (meth := k10m0) (c := k10c0) (by decide +kernel) rfl rfl rfl (by decide +kernel)
set_option maxRecDepth 65536 in
theorem w_c10 : (Jvm.Cond.code ({ cls := "java/lang/Record", name := "<init>", desc := "()V" } : Jvm.MethodName) jdk_30_method_1_code (1 : Nat) (Option.none : Option Jvm.ClassFile.FieldType)).before args0 about1 = true := code_word (m := ⟨9, 0⟩) (meth := k9m0) (c := k9c0) (by decide +kernel) rfl rfl rfl (by decide +kernel)
set_option maxRecDepth 65536 in
theorem w_c11 : (Jvm.Cond.code ({ cls := "java/util/Objects", name := "requireNonNull", desc := "(Ljava/lang/Object;Ljava/lang/String;)Ljava/lang/Object;" } : Jvm.MethodName) jdk_31_method_11_code (2 : Nat) (Option.some (Jvm.ClassFile.FieldType.object "java/lang/Object"))).before args0 about1 = true := code_word (m := ⟨11, 1⟩) (meth := k11m1) (c := k11c1) (by decide +kernel) rfl rfl rfl (by decide +kernel)
set_option maxRecDepth 65536 in
theorem w_c12 : (Jvm.Cond.code ({ cls := "com/example/tenorbook/tenorbook/definitions/FloatingRateIndexEqualsPinLaw", name := "same", desc := "(II)Z" } : Jvm.MethodName) method_4_code (3 : Nat) (Option.some Jvm.ClassFile.FieldType.boolean)).before args0 about1 = true := code_word (m := ⟨1, 3⟩) (meth := k1m3) (c := k1c3) (by decide +kernel) rfl rfl rfl (by decide +kernel)
set_option maxRecDepth 65536 in
theorem w_c13 : (Jvm.Cond.code ({ cls := "com/example/tenorbook/tenorbook/definitions/FloatingRateIndex", name := "equals", desc := "(Ljava/lang/Object;)Z" } : Jvm.MethodName) prog_18_method_2_code (3 : Nat) (Option.some Jvm.ClassFile.FieldType.boolean)).before args0 about1 = true := code_word (m := ⟨10, 1⟩) (meth := k10m1) (c := k10c1) (by decide +kernel) rfl rfl rfl (by decide +kernel)
set_option maxRecDepth 65536 in
theorem w_c14 : (Jvm.Cond.code ({ cls := "java/lang/String", name := "equals", desc := "(Ljava/lang/Object;)Z" } : Jvm.MethodName) jdk_42_method_66_code (3 : Nat) (Option.some Jvm.ClassFile.FieldType.boolean)).before args0 about1 = true := code_word (m := ⟨7, 2⟩) (meth := k7m2) (c := k7c2) (by decide +kernel) rfl rfl rfl (by decide +kernel)
set_option maxRecDepth 65536 in
theorem w_c15 : (Jvm.Cond.code ({ cls := "java/lang/StringLatin1", name := "equals", desc := "([B[B)Z" } : Jvm.MethodName) jdk_43_method_13_code (3 : Nat) (Option.some Jvm.ClassFile.FieldType.boolean)).before args0 about1 = true := code_word (m := ⟨12, 1⟩) (meth := k12m1) (c := k12c1) (by decide +kernel) rfl rfl rfl (by decide +kernel)
def codes1 : List Jvm.Cond := [Jvm.Cond.code x code maxLocals ret, Jvm.Cond.code ({ cls := "com/example/tenorbook/tenorbook/definitions/FloatingRateIndexEqualsPinLaw", name := "mk", desc := "(I)Ljava/lang/String;" } : Jvm.MethodName) method_3_code (6 : Nat) (Option.some (Jvm.ClassFile.FieldType.object "java/lang/String")), Jvm.Cond.code ({ cls := "com/example/tenorbook/tenorbook/definitions/FloatingRateIndexEqualsPinLaw", name := "ch", desc := "(II)I" } : Jvm.MethodName) method_2_code (2 : Nat) (Option.some Jvm.ClassFile.FieldType.int), Jvm.Cond.code ({ cls := "java/lang/String", name := "<init>", desc := "([C)V" } : Jvm.MethodName) jdk_42_method_3_code (2 : Nat) (Option.none : Option Jvm.ClassFile.FieldType), Jvm.Cond.code ({ cls := "java/lang/String", name := "<init>", desc := "([CIILjava/lang/Void;)V" } : Jvm.MethodName) jdk_42_method_149_code (6 : Nat) (Option.none : Option Jvm.ClassFile.FieldType), Jvm.Cond.code ({ cls := "java/lang/Object", name := "<init>", desc := "()V" } : Jvm.MethodName) object_method_1_code (1 : Nat) (Option.none : Option Jvm.ClassFile.FieldType), Jvm.Cond.code ({ cls := "java/lang/StringUTF16", name := "compress", desc := "([CII)[B" } : Jvm.MethodName) jdk_52_method_16_code (6 : Nat) (Option.some (Jvm.ClassFile.FieldType.array Jvm.ClassFile.FieldType.byte)), Jvm.Cond.code ({ cls := "java/lang/StringUTF16", name := "compress", desc := "([CI[BII)I" } : Jvm.MethodName) jdk_52_method_21_code (7 : Nat) (Option.some Jvm.ClassFile.FieldType.int), Jvm.Cond.code ({ cls := "java/lang/StringUTF16", name := "coderFromArrayLen", desc := "([BI)B" } : Jvm.MethodName) jdk_52_method_15_code (2 : Nat) (Option.some Jvm.ClassFile.FieldType.byte), Jvm.Cond.code ({ cls := "com/example/tenorbook/tenorbook/definitions/FloatingRateIndex", name := "<init>", desc := "(Ljava/lang/String;Ljava/lang/String;)V" } : Jvm.MethodName) prog_18_method_1_code (3 : Nat) (Option.none : Option Jvm.ClassFile.FieldType), Jvm.Cond.code ({ cls := "java/lang/Record", name := "<init>", desc := "()V" } : Jvm.MethodName) jdk_30_method_1_code (1 : Nat) (Option.none : Option Jvm.ClassFile.FieldType), Jvm.Cond.code ({ cls := "java/util/Objects", name := "requireNonNull", desc := "(Ljava/lang/Object;Ljava/lang/String;)Ljava/lang/Object;" } : Jvm.MethodName) jdk_31_method_11_code (2 : Nat) (Option.some (Jvm.ClassFile.FieldType.object "java/lang/Object")), Jvm.Cond.code ({ cls := "com/example/tenorbook/tenorbook/definitions/FloatingRateIndexEqualsPinLaw", name := "same", desc := "(II)Z" } : Jvm.MethodName) method_4_code (3 : Nat) (Option.some Jvm.ClassFile.FieldType.boolean), Jvm.Cond.code ({ cls := "com/example/tenorbook/tenorbook/definitions/FloatingRateIndex", name := "equals", desc := "(Ljava/lang/Object;)Z" } : Jvm.MethodName) prog_18_method_2_code (3 : Nat) (Option.some Jvm.ClassFile.FieldType.boolean), Jvm.Cond.code ({ cls := "java/lang/String", name := "equals", desc := "(Ljava/lang/Object;)Z" } : Jvm.MethodName) jdk_42_method_66_code (3 : Nat) (Option.some Jvm.ClassFile.FieldType.boolean), Jvm.Cond.code ({ cls := "java/lang/StringLatin1", name := "equals", desc := "([B[B)Z" } : Jvm.MethodName) jdk_43_method_13_code (3 : Nat) (Option.some Jvm.ClassFile.FieldType.boolean)]
set_option maxRecDepth 65536 in
theorem codes_eq : words1.filter isCode = codes1 := rfl
theorem w_codes : ∀ c ∈ words1.filter isCode, c.before args0 about1 = true := by
  rw [codes_eq]
  intro c hc
  simp only [codes1, List.mem_cons, List.not_mem_nil, or_false] at hc
  rcases hc with rfl | rfl | rfl | rfl | rfl | rfl | rfl | rfl | rfl | rfl | rfl | rfl | rfl | rfl | rfl | rfl
  · exact w_c0
  · exact w_c1
  · exact w_c2
  · exact w_c3
  · exact w_c4
  · exact w_c5
  · exact w_c6
  · exact w_c7
  · exact w_c8
  · exact w_c9
  · exact w_c10
  · exact w_c11
  · exact w_c12
  · exact w_c13
  · exact w_c14
  · exact w_c15
set_option maxRecDepth 65536 in
theorem w_t1 : (words1.take 24).all (fun c => isCode c || c.before args0 about1) = true := by decide +kernel
set_option maxRecDepth 65536 in
theorem w_t2 : ((words1.drop 24).take 24).all (fun c => isCode c || c.before args0 about1) = true := by decide +kernel
set_option maxRecDepth 65536 in
theorem w_t3 : (((words1.drop 24).drop 24).take 24).all (fun c => isCode c || c.before args0 about1) = true := by decide +kernel
set_option maxRecDepth 65536 in
theorem w_t4 : (((words1.drop 24).drop 24).drop 24).all (fun c => isCode c || c.before args0 about1) = true := by decide +kernel
theorem w_tables : (allAtoms (Jvm.Cond.code x code maxLocals ret :: tables_1)).before args0 about1 = true := by
  rw [allAtoms_all]
  show words1.all (fun c => c.before args0 about1) = true
  refine all_split ?_ w_codes
  rw [← List.take_append_drop 24 words1, List.all_append, w_t1, ← List.take_append_drop 24 (words1.drop 24), List.all_append, w_t2, ← List.take_append_drop 24 ((words1.drop 24).drop 24), List.all_append, w_t3, w_t4]
  rfl
set_option maxRecDepth 65536 in
theorem w_rest : rest_1_c.before args0 about1 = true := by decide +kernel
set_option maxRecDepth 65536 in
theorem w_case : (Jvm.Cond.and given_1 narrow_1).before args0 about1 = true := by decide +kernel
set_option maxRecDepth 65536 in
theorem w_consts : constsHeld consts_1 about1 := Jvm.Lit.constsHeldB_iff.mp (by decide +kernel)
theorem w_applies : (headSpec (Jvm.Cond.code x code maxLocals ret :: tables_1) room_1).applies x e0.platform about1 = true :=
  (Spec.applies_iff w_frames).mpr ⟨w_running, w_runnable, w_alone, w_named, w_hears, w_ripe, w_room, w_tables⟩
theorem atStart : AtStart classFile x code maxLocals ret World_1 tables_1 room_1 Calls_1 rest_1 Pre_1 launch0 p0 e0 about1 theMethod args0 below0 :=
  ⟨lists_1, trivial, launch0.admits_env _ _ _, launch0.least_env, fairChoices_fair.cas, fairChoices_fair.clock, w_frames, w_args, w_heap, w_applies, ⟨w_consts, trivial⟩, w_rest, w_case⟩
end start1
theorem witness_1 : WitnessClaimed_1 := ⟨start1.p0, start1.e0, start1.about1, start1.theMethod, start1.args0, start1.below0, start1.atStart⟩
end Jvm.Pilot.@@N@@
