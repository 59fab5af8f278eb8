import JvmDerived
import JvmDerived.Pilot.@@N@@Statement
import JvmDerived.Pilot.@@N@@Code
set_option linter.unusedVariables false
set_option linter.unusedSimpArgs false
namespace Jvm.RoadKit
open Sem ClassFile Op Lib Jvm.Stand Jvm.Free Jvm.LawKit
section New
variable {p : Program} {l : Launch} {e : Env} {R : Room} {s : State} {m : MethodId} {args : Array Value} {below : List Frame} {meth : Method} {c : Code} {T : State} {locs : List Loc} {cells slots : Nat}
theorem retI (X : Stand p l e R s m args below meth c T locs cells slots) (hx : p.tables.exec = Jvm.exec) {pc : Nat} {Ls : Array Slot} {z : Int32} {rest : List Value} (hret : meth.sig.returnType = some .int) (hd : decode c.code pc = .ok (.ireturn, 1)) {fs : List Frame}
    (hl : ∀ (f : JFrame) (acts : List Action), f.method = m → f.locked = none → f.entered = [] → (doReturn e (T.setTop f) acts (some (.int z))).1 = T.setFrames fs) : Steps p.tables e below (T.setTop (mkF m pc Ls (.int z :: rest))) (T.setFrames fs) := by
  have hm' : T.vm.method? m = some meth := X.method'
  have hn : narrow .int (.int z) = .int z := rfl
  show Steps p.tables e below (T.setTop { method := m, pc := pc, locals := Ls, stack := _ :: rest, locked := none }) _
  jvm_step X.here [X.here.top, hx, hd, hm', hret, hn]
  first | (intro acts; rw [hl _ acts rfl rfl rfl]) | rw [hl _ _ rfl rfl rfl]
  exact Steps.refl _
end New
end Jvm.RoadKit
namespace Jvm.Pilot.@@N@@
open Jvm Jvm.ClassFile Sem Op Lib Jvm.Free Jvm.Stand Jvm.LawKit Jvm.RoadKit Bundle Jvm.Pilot.@@N@@.Jvm.D
section Own
variable {p : Program} {l : Launch} {e : Env} {R : Room} {s : State} {m : MethodId} {args : Array Value} {below : List Frame} {meth : Method} {c : Code} {T T' : State} {locs : List Loc} {cells slots : Nat} {f f' : JFrame} {Q : Option Value → Heap → List Loc → Prop} {ck sk : Nat} {h : Heap} {Z : State}
/-- from here the run comes to its end, and leaves what Q says -/
def Go (p : Program) (e : Env) (below : List Frame) (s : State) (Q : Option Value → Heap → List Loc → Prop) (ck sk : Nat) (T : State) (f : JFrame) : Prop :=
  ∃ s₂ o, Steps p.tables e below (T.setTop f) s₂ ∧ s₂.status = .running ∧ Ended s₂ below o ∧ ∃ v L, o = .returned v ∧ Q v s₂.heap L ∧ FrameEnd s o s₂ L ck sk
theorem Go.step (st : ∀ t, Steps p.tables e below (T'.setTop f') t → Steps p.tables e below (T.setTop f) t) (k : Go p e below s Q ck sk T' f') : Go p e below s Q ck sk T f := by
  obtain ⟨s₂, o, h1, r⟩ := k; exact ⟨s₂, o, st _ h1, r⟩
theorem Go.via (st : Steps p.tables e below (T.setTop f) (T'.setTop f')) (k : Go p e below s Q ck sk T' f') : Go p e below s Q ck sk T f := by
  obtain ⟨s₂, o, h1, r⟩ := k; exact ⟨s₂, o, st.trans h1, r⟩
theorem Go.retI (X : Stand p l e R s m args below meth c T locs cells slots) (hx : p.tables.exec = Jvm.exec) (hlk : meth.locks = false) {pc : Nat} {Ls : Array Slot} {z : Int32} {rest : List Value} (hret : meth.sig.returnType = some .int) (hd : decode c.code pc = .ok (.ireturn, 1)) (eT : T.heap = h) (hq : Q (some (.int z)) h locs) (hck : cells ≤ ck) (hsk : slots ≤ sk) : Go p e below s Q ck sk T (mkF m pc Ls (.int z :: rest)) := by
  subst eT
  obtain ⟨fs, hr, hrun, hended, hW, hsame⟩ := X.leave (v := some (.int z)) (fun h => by rw [hret] at h; cases h) hlk
  exact ⟨_, _, Jvm.RoadKit.retI X hx hret hd hr, hrun, hended, _, _, rfl, hq, ⟨_, rfl⟩, hW, hsame.mono hck hsk⟩
theorem Go.retZ (X : Stand p l e R s m args below meth c T locs cells slots) (hx : p.tables.exec = Jvm.exec) (hlk : meth.locks = false) {pc : Nat} {Ls : Array Slot} {z : Int32} {rest : List Value} {t : FieldType} (hret : meth.sig.returnType = some t) (ht : t = .boolean ∨ t = .byte ∨ t = .char ∨ t = .short) (hd : decode c.code pc = .ok (.ireturn, 1)) (eT : T.heap = h) (hq : Q (some (.int (nar t z))) h locs) (hck : cells ≤ ck) (hsk : slots ≤ sk) : Go p e below s Q ck sk T (mkF m pc Ls (.int z :: rest)) := by
  subst eT
  obtain ⟨fs, hr, hrun, hended, hW, hsame⟩ := X.leave (v := some (.int (nar t z))) (fun h => by rw [hret] at h; cases h) hlk
  exact ⟨_, _, retN X hx hret ht hd hr, hrun, hended, _, _, rfl, hq, ⟨_, rfl⟩, hW, hsame.mono hck hsk⟩
theorem Go.retV (X : Stand p l e R s m args below meth c T locs cells slots) (hx : p.tables.exec = Jvm.exec) (hlk : meth.locks = false) {pc : Nat} {Ls : Array Slot} (hret : meth.sig.returnType = none) (hd : decode c.code pc = .ok (.return_, 1)) (eT : T.heap = h) (hq : Q none h locs) (hck : cells ≤ ck) (hsk : slots ≤ sk) : Go p e below s Q ck sk T (mkF m pc Ls []) := by
  subst eT
  obtain ⟨fs, hr, hrun, hended, hW, hsame⟩ := X.leave (v := none) (fun _ => rfl) hlk
  exact ⟨_, _, X.returnOut hx hret hd hr, hrun, hended, _, _, rfl, hq, ⟨_, rfl⟩, hW, hsame.mono hck hsk⟩
theorem Go.retJ (X : Stand p l e R s m args below meth c T locs cells slots) (hx : p.tables.exec = Jvm.exec) (hlk : meth.locks = false) {pc : Nat} {Ls : Array Slot} {z : Int64} {rest : List Value} (hret : meth.sig.returnType = some .long) (hd : decode c.code pc = .ok (.lreturn, 1)) (eT : T.heap = h) (hq : Q (some (.long z)) h locs) (hck : cells ≤ ck) (hsk : slots ≤ sk) : Go p e below s Q ck sk T (mkF m pc Ls (.long z :: rest)) := by
  subst eT
  obtain ⟨fs, hr, hrun, hended, hW, hsame⟩ := X.leave (v := some (.long z)) (fun h => by rw [hret] at h; cases h) hlk
  exact ⟨_, _, retOut X hx hret rfl (Or.inr (Or.inl ⟨rfl, rfl, _, rfl⟩)) hd hr, hrun, hended, _, _, rfl, hq, ⟨_, rfl⟩, hW, hsame.mono hck hsk⟩
theorem own_nar_ref {t : FieldType} {w : Value} (h1 : t.isReference = true) (h2 : w.isRef = true) : narrow t w = w := by
  cases t <;> first | (cases h1; done) | (cases w <;> first | rfl | (cases h2; done))
theorem Go.retA (X : Stand p l e R s m args below meth c T locs cells slots) (hx : p.tables.exec = Jvm.exec) (hlk : meth.locks = false) {pc : Nat} {Ls : Array Slot} {w : Value} {rest : List Value} {t : FieldType} (hret : meth.sig.returnType = some t) (ht : t.isReference = true) (hw : w.isRef = true) (hd : decode c.code pc = .ok (.areturn, 1)) (eT : T.heap = h) (hq : Q (some w) h locs) (hck : cells ≤ ck) (hsk : slots ≤ sk) : Go p e below s Q ck sk T (mkF m pc Ls (w :: rest)) := by
  subst eT
  obtain ⟨fs, hr, hrun, hended, hW, hsame⟩ := X.leave (v := some w) (fun h => by rw [hret] at h; cases h) hlk
  exact ⟨_, _, retOut X hx hret (own_nar_ref ht hw) (Or.inr (Or.inr (Or.inr (Or.inr ⟨rfl, ht, hw⟩)))) hd hr, hrun, hended, _, _, rfl, hq, ⟨_, rfl⟩, hW, hsame.mono hck hsk⟩
theorem own_old_le {n0 : Nat} (o : Old Z n0 h) : n0 ≤ h.size := o.1 ▸ o.2.1
theorem own_alen (X : Stand p l e R s m args below meth c T locs cells slots) (hx : p.tables.exec = Jvm.exec) (hZ : Z.Warmed39 s.vm) (eT : T.heap = h) {a : Addr} {cl : Cell} {ty : FieldType} (A : Arr Z h a cl ty) {z : Int32} (S : cl.slots.size = z.toNatClampNeg) (N : ¬ z < 0) {g : JFrame} (hg : g.method = m) {rest : List Value} (hs : g.stack = .ref a :: rest) (hd : decode c.code g.pc = .ok (.arraylength, 1)) {t : State}
    (k : Steps p.tables e below (T.setTop { g with pc := g.pc + 1, stack := .int z :: rest }) t) : Steps p.tables e below (T.setTop g) t :=
  X.arraylength hx (by rw [eT]; exact A.1) (State.isArrayOf_alike hZ.alike A.2.1) hg hs hd _ (by rw [len_of S N]; exact k)
theorem own_fld_start {args : Array Value} {s : State} {t : Term} {a : Addr} {C n d : String} {k : Int32} (ev : t.eval args s none [] s = some (.ref a)) (h : (Jvm.Cond.eq (.field t C n d) (.int k)).value args s none s [] = some true) : Fld s s.heap a C n d (.int k) := by
  refine Fld.start ?_
  rw [← fld_at ev]
  obtain ⟨x, y, h1, h2, h3, h4⟩ := cmp_v (Or.inl h)
  have h2' : (Value.int k) = y := Option.some.inj h2
  subst h2'
  obtain ⟨z, rfl⟩ := h4
  have q := gotT (Jvm.Cond.eq_ints h1 h2) h
  rw [h1, q]
theorem own_nar8 (z : Int32) : z.toInt8.toInt32.toInt8.toInt32 = z.toInt8.toInt32 := by simp
end Own
theorem d1_0 : decode prog_31_method_5_code 0 = .ok (.aload_n 0, 1) := by decide +kernel
theorem d1_1 : decode prog_31_method_5_code 1 = .ok (.getstatic 3, 3) := by decide +kernel
theorem d1_4 : decode prog_31_method_5_code 4 = .ok (.if_acmp .eq 24, 3) := by decide +kernel
theorem d1_7 : decode prog_31_method_5_code 7 = .ok (.aload_n 0, 1) := by decide +kernel
theorem d1_8 : decode prog_31_method_5_code 8 = .ok (.getstatic 7, 3) := by decide +kernel
theorem d1_11 : decode prog_31_method_5_code 11 = .ok (.if_acmp .eq 17, 3) := by decide +kernel
theorem d1_14 : decode prog_31_method_5_code 14 = .ok (.aload_n 0, 1) := by decide +kernel
theorem d1_15 : decode prog_31_method_5_code 15 = .ok (.getstatic 10, 3) := by decide +kernel
theorem d1_18 : decode prog_31_method_5_code 18 = .ok (.if_acmp .eq 10, 3) := by decide +kernel
theorem d1_21 : decode prog_31_method_5_code 21 = .ok (.aload_n 0, 1) := by decide +kernel
theorem d1_22 : decode prog_31_method_5_code 22 = .ok (.getstatic 13, 3) := by decide +kernel
theorem d1_25 : decode prog_31_method_5_code 25 = .ok (.if_acmp .ne 7, 3) := by decide +kernel
theorem d1_28 : decode prog_31_method_5_code 28 = .ok (.iconst 1, 1) := by decide +kernel
theorem d1_29 : decode prog_31_method_5_code 29 = .ok (.goto 4, 3) := by decide +kernel
theorem d1_32 : decode prog_31_method_5_code 32 = .ok (.iconst 0, 1) := by decide +kernel
theorem d1_33 : decode prog_31_method_5_code 33 = .ok (.ireturn, 1) := by decide +kernel
theorem pn_com_example_gate3_gate3_config_ValueType : plainName "com/example/gate3/gate3/config/ValueType" = true := by first | (simp [plainName, overriddenIn]; done) | decide +kernel
theorem ef_ask (m : MethodId) (ba : Addr) : entryFrame m #[(.ref ba)] 1 = mkF m 0 #[.val (.ref ba)] [] := by first | (simp [entryFrame, mkF, argsToLocals, Value.category]; done) | rfl
def Q_ask (Z : State) (ba : Addr) (z_INT32 : Addr) (z_INT64 : Addr) (z_FLOAT : Addr) (z_DOUBLE : Addr) (h0 : Heap) (n0 : Nat) (v : Option Value) (h : Heap) (L : List Loc) : Prop := v = some (.int (if ba = z_INT32 ∨ ba = z_INT64 ∨ ba = z_FLOAT ∨ ba = z_DOUBLE then (1 : Int32) else 0)) ∧ Fr n0 L ∧ h = h0
set_option maxRecDepth 65536 in
set_option maxHeartbeats 40000000 in
theorem rm_ask (l : Launch) (Z : State) (a0 : Array Value) (hw : ∀ d ∈ tables_1, d.before a0 Z = true) (ws : List Jvm.Cond) (ba : Addr) (z_INT32 : Addr) (z_INT64 : Addr) (z_FLOAT : Addr) (z_DOUBLE : Addr) (h0 : Heap) (n0 : Nat) (O0 : Old Z n0 h0) (P0 : Sta Z Z.heap "com/example/gate3/gate3/config/ValueType" "INT32" "Lcom/example/gate3/gate3/config/ValueType;" (.ref z_INT32)) (P1 : Sta Z Z.heap "com/example/gate3/gate3/config/ValueType" "INT64" "Lcom/example/gate3/gate3/config/ValueType;" (.ref z_INT64)) (P2 : Sta Z Z.heap "com/example/gate3/gate3/config/ValueType" "FLOAT" "Lcom/example/gate3/gate3/config/ValueType;" (.ref z_FLOAT)) (P3 : Sta Z Z.heap "com/example/gate3/gate3/config/ValueType" "DOUBLE" "Lcom/example/gate3/gate3/config/ValueType;" (.ref z_DOUBLE)) :
    MetFree l (⟨"com/example/gate3/gate3/config/ValueType", "isNumber", "()Z"⟩ : MethodName) (head1 (Jvm.Cond.code (⟨"com/example/gate3/gate3/config/ValueType", "isNumber", "()Z"⟩ : MethodName) prog_31_method_5_code 1 (some .boolean) :: ws) ({ frames := 0, cells := 0, slots := 0, locals := 0 } : Room)) (fun a U => a = #[(.ref ba)] ∧ Z.Warmed39 U.vm ∧ U.heap = h0) (fun _ _ _ _ _ => True) (fun _ U o U' => ∃ v L, o = .returned v ∧ Q_ask Z ba z_INT32 z_INT64 z_FLOAT z_DOUBLE h0 n0 v U'.heap L ∧ FrameEnd U o U' L ({ frames := 0, cells := 0, slots := 0, locals := 0 } : Room).cells ({ frames := 0, cells := 0, slots := 0, locals := 0 } : Room).slots) := by
  refine MetFree.of_bodySF (plainFor_of_name pn_com_example_gate3_gate3_config_ValueType) hisR ?_
  intro p e s m args below meth c s₁ Bd hml0 hP hK
  obtain ⟨rfl, hZ, hh⟩ := hP
  have hx := Bd.exec
  have hby := Bd.bytes
  have hml : c.maxLocals = 1 := hml0
  have hown : s.vm.findClass "com/example/gate3/gate3/config/ValueType" = some m.cls := findClass_of_methodNamed Bd.named
  have hnm := (name_of_methodNamed Bd.named Bd.method).1
  have hlk : meth.locks = false := BodyLoose.notSynchronized Bd
  have X0 : Stand p l e ({ frames := 0, cells := 0, slots := 0, locals := 0 } : Room) s m #[(.ref ba)] below meth c s₁ [] 0 0 := Stand.of_body Bd
  have e0 : s₁.heap = h0 := by rw [← hh, Bd.state]; rfl
  have N0 := Fr.nil n0
  rw [ef_ask m ba]
  show Go p e below s (fun v h L => Q_ask Z ba z_INT32 z_INT64 z_FLOAT z_DOUBLE h0 n0 v h L) ({ frames := 0, cells := 0, slots := 0, locals := 0 } : Room).cells ({ frames := 0, cells := 0, slots := 0, locals := 0 } : Room).slots s₁ (mkF m 0 #[.val (.ref ba)] [])
  refine Go.step (T' := s₁) (f' := (mkF m 1 #[.val (.ref ba)] [(.ref ba)])) (fun t k => XS.aloadN X0.here hx rfl (hb hby d1_0) rfl rfl k) ?_
  obtain ⟨T1, X1, e1, st1⟩ := getS2 X0 hx hZ hown (host := "") (Or.inl (hw _ (List.mem_of_getElem? (i := 9) rfl))) Via.refl e0 (P0.ext O0.2) (g := (mkF m 1 #[.val (.ref ba)] [(.ref ba)])) rfl (hb hby d1_1)
  refine Go.step (T' := T1) (f' := (mkF m 4 #[.val (.ref ba)] [(.ref z_INT32), (.ref ba)])) st1 ?_
  by_cases ha2 : ba = z_INT32
  ·
    refine Go.step (T' := T1) (f' := (mkF m 28 #[.val (.ref ba)] [])) (fun t k => Jvm.RoadKit.acmp (g := (mkF m 4 #[.val (.ref ba)] [(.ref z_INT32), (.ref ba)])) X1 hx rfl rfl rfl (pc0 := 4) (pc' := 28) (same := true) rfl (hb hby d1_4) rfl (decide_eq_true (congrArg Value.ref ha2)) (by decide) (by decide) k) ?_
    refine Go.step (T' := T1) (f' := (mkF m 29 #[.val (.ref ba)] [(.int (1 : Int32))])) (fun t k => XS.iconst X1.here hx rfl (hb hby d1_28) k) ?_
    refine Go.step (T' := T1) (f' := (mkF m 33 #[.val (.ref ba)] [(.int (1 : Int32))])) (fun t k => XS.goto X1.here hx rfl (pc0 := 29) (pc' := 33) rfl (hb hby d1_29) (by decide) (by decide) k) ?_
    refine Go.retZ X1 hx hlk (t := .boolean) Bd.returns (by simp) (hb hby d1_33) e1 ?_ (by decide) (by decide)
    exact ⟨by simp_all [nar], N0, rfl⟩
  ·
    refine Go.step (T' := T1) (f' := (mkF m 7 #[.val (.ref ba)] [])) (fun t k => Jvm.RoadKit.acmp (g := (mkF m 4 #[.val (.ref ba)] [(.ref z_INT32), (.ref ba)])) X1 hx rfl rfl rfl (pc0 := 4) (pc' := 7) (same := false) rfl (hb hby d1_4) rfl (decide_eq_false fun q => ha2 (Value.ref.inj q)) (by decide) (by decide) k) ?_
    refine Go.step (T' := T1) (f' := (mkF m 8 #[.val (.ref ba)] [(.ref ba)])) (fun t k => XS.aloadN X1.here hx rfl (hb hby d1_7) rfl rfl k) ?_
    obtain ⟨T3, X3, e3, st3⟩ := getS2 X1 hx hZ hown (host := "") (Or.inl (hw _ (List.mem_of_getElem? (i := 12) rfl))) Via.refl e1 (P1.ext O0.2) (g := (mkF m 8 #[.val (.ref ba)] [(.ref ba)])) rfl (hb hby d1_8)
    refine Go.step (T' := T3) (f' := (mkF m 11 #[.val (.ref ba)] [(.ref z_INT64), (.ref ba)])) st3 ?_
    by_cases ha4 : ba = z_INT64
    ·
      refine Go.step (T' := T3) (f' := (mkF m 28 #[.val (.ref ba)] [])) (fun t k => Jvm.RoadKit.acmp (g := (mkF m 11 #[.val (.ref ba)] [(.ref z_INT64), (.ref ba)])) X3 hx rfl rfl rfl (pc0 := 11) (pc' := 28) (same := true) rfl (hb hby d1_11) rfl (decide_eq_true (congrArg Value.ref ha4)) (by decide) (by decide) k) ?_
      refine Go.step (T' := T3) (f' := (mkF m 29 #[.val (.ref ba)] [(.int (1 : Int32))])) (fun t k => XS.iconst X3.here hx rfl (hb hby d1_28) k) ?_
      refine Go.step (T' := T3) (f' := (mkF m 33 #[.val (.ref ba)] [(.int (1 : Int32))])) (fun t k => XS.goto X3.here hx rfl (pc0 := 29) (pc' := 33) rfl (hb hby d1_29) (by decide) (by decide) k) ?_
      refine Go.retZ X3 hx hlk (t := .boolean) Bd.returns (by simp) (hb hby d1_33) e3 ?_ (by decide) (by decide)
      exact ⟨by simp_all [nar], N0, rfl⟩
    ·
      refine Go.step (T' := T3) (f' := (mkF m 14 #[.val (.ref ba)] [])) (fun t k => Jvm.RoadKit.acmp (g := (mkF m 11 #[.val (.ref ba)] [(.ref z_INT64), (.ref ba)])) X3 hx rfl rfl rfl (pc0 := 11) (pc' := 14) (same := false) rfl (hb hby d1_11) rfl (decide_eq_false fun q => ha4 (Value.ref.inj q)) (by decide) (by decide) k) ?_
      refine Go.step (T' := T3) (f' := (mkF m 15 #[.val (.ref ba)] [(.ref ba)])) (fun t k => XS.aloadN X3.here hx rfl (hb hby d1_14) rfl rfl k) ?_
      obtain ⟨T5, X5, e5, st5⟩ := getS2 X3 hx hZ hown (host := "") (Or.inl (hw _ (List.mem_of_getElem? (i := 14) rfl))) Via.refl e3 (P2.ext O0.2) (g := (mkF m 15 #[.val (.ref ba)] [(.ref ba)])) rfl (hb hby d1_15)
      refine Go.step (T' := T5) (f' := (mkF m 18 #[.val (.ref ba)] [(.ref z_FLOAT), (.ref ba)])) st5 ?_
      by_cases ha6 : ba = z_FLOAT
      ·
        refine Go.step (T' := T5) (f' := (mkF m 28 #[.val (.ref ba)] [])) (fun t k => Jvm.RoadKit.acmp (g := (mkF m 18 #[.val (.ref ba)] [(.ref z_FLOAT), (.ref ba)])) X5 hx rfl rfl rfl (pc0 := 18) (pc' := 28) (same := true) rfl (hb hby d1_18) rfl (decide_eq_true (congrArg Value.ref ha6)) (by decide) (by decide) k) ?_
        refine Go.step (T' := T5) (f' := (mkF m 29 #[.val (.ref ba)] [(.int (1 : Int32))])) (fun t k => XS.iconst X5.here hx rfl (hb hby d1_28) k) ?_
        refine Go.step (T' := T5) (f' := (mkF m 33 #[.val (.ref ba)] [(.int (1 : Int32))])) (fun t k => XS.goto X5.here hx rfl (pc0 := 29) (pc' := 33) rfl (hb hby d1_29) (by decide) (by decide) k) ?_
        refine Go.retZ X5 hx hlk (t := .boolean) Bd.returns (by simp) (hb hby d1_33) e5 ?_ (by decide) (by decide)
        exact ⟨by simp_all [nar], N0, rfl⟩
      ·
        refine Go.step (T' := T5) (f' := (mkF m 21 #[.val (.ref ba)] [])) (fun t k => Jvm.RoadKit.acmp (g := (mkF m 18 #[.val (.ref ba)] [(.ref z_FLOAT), (.ref ba)])) X5 hx rfl rfl rfl (pc0 := 18) (pc' := 21) (same := false) rfl (hb hby d1_18) rfl (decide_eq_false fun q => ha6 (Value.ref.inj q)) (by decide) (by decide) k) ?_
        refine Go.step (T' := T5) (f' := (mkF m 22 #[.val (.ref ba)] [(.ref ba)])) (fun t k => XS.aloadN X5.here hx rfl (hb hby d1_21) rfl rfl k) ?_
        obtain ⟨T7, X7, e7, st7⟩ := getS2 X5 hx hZ hown (host := "") (Or.inl (hw _ (List.mem_of_getElem? (i := 16) rfl))) Via.refl e5 (P3.ext O0.2) (g := (mkF m 22 #[.val (.ref ba)] [(.ref ba)])) rfl (hb hby d1_22)
        refine Go.step (T' := T7) (f' := (mkF m 25 #[.val (.ref ba)] [(.ref z_DOUBLE), (.ref ba)])) st7 ?_
        by_cases ha8 : ba = z_DOUBLE
        ·
          refine Go.step (T' := T7) (f' := (mkF m 28 #[.val (.ref ba)] [])) (fun t k => Jvm.RoadKit.acmp (g := (mkF m 25 #[.val (.ref ba)] [(.ref z_DOUBLE), (.ref ba)])) X7 hx rfl rfl rfl (pc0 := 25) (pc' := 28) (same := true) rfl (hb hby d1_25) rfl (decide_eq_true (congrArg Value.ref ha8)) (by decide) (by decide) k) ?_
          refine Go.step (T' := T7) (f' := (mkF m 29 #[.val (.ref ba)] [(.int (1 : Int32))])) (fun t k => XS.iconst X7.here hx rfl (hb hby d1_28) k) ?_
          refine Go.step (T' := T7) (f' := (mkF m 33 #[.val (.ref ba)] [(.int (1 : Int32))])) (fun t k => XS.goto X7.here hx rfl (pc0 := 29) (pc' := 33) rfl (hb hby d1_29) (by decide) (by decide) k) ?_
          refine Go.retZ X7 hx hlk (t := .boolean) Bd.returns (by simp) (hb hby d1_33) e7 ?_ (by decide) (by decide)
          exact ⟨by simp_all [nar], N0, rfl⟩
        ·
          refine Go.step (T' := T7) (f' := (mkF m 32 #[.val (.ref ba)] [])) (fun t k => Jvm.RoadKit.acmp (g := (mkF m 25 #[.val (.ref ba)] [(.ref z_DOUBLE), (.ref ba)])) X7 hx rfl rfl rfl (pc0 := 25) (pc' := 32) (same := false) rfl (hb hby d1_25) rfl (decide_eq_false fun q => ha8 (Value.ref.inj q)) (by decide) (by decide) k) ?_
          refine Go.step (T' := T7) (f' := (mkF m 33 #[.val (.ref ba)] [(.int (0 : Int32))])) (fun t k => XS.iconst X7.here hx rfl (hb hby d1_32) k) ?_
          refine Go.retZ X7 hx hlk (t := .boolean) Bd.returns (by simp) (hb hby d1_33) e7 ?_ (by decide) (by decide)
          exact ⟨by simp_all [nar], N0, rfl⟩
theorem pn_com_example_gate3_gate3_config_ValueTypeIsNumberPinLaw : plainName "com/example/gate3/gate3/config/ValueTypeIsNumberPinLaw" = true := by first | (simp [plainName, overriddenIn]; done) | decide +kernel
theorem pd0 : parseMethodDescriptor "()Z" = some ⟨[], some .boolean⟩ := by decide +kernel
theorem ef_law (m : MethodId) (ia : Int32) : entryFrame m #[(.int ia)] maxLocals = mkF m 0 #[.val (.int ia), .unset, .unset, .unset] [] := by first | (simp [entryFrame, mkF, argsToLocals, Value.category, maxLocals]; done) | rfl
def Q_law (Z : State) (ia : Int32) (z_INT32 : Addr) (z_INT64 : Addr) (z_FLOAT : Addr) (z_DOUBLE : Addr) (z_BOOLEAN : Addr) (z_STRING : Addr) (h0 : Heap) (n0 : Nat) (v : Option Value) (h : Heap) (L : List Loc) : Prop := v = some (.int (1 : Int32)) ∧ Fr n0 L ∧ Keep h0 h []
set_option maxRecDepth 65536 in
set_option maxHeartbeats 40000000 in
theorem rm_law (l : Launch) (Z : State) (a0 : Array Value) (hw : ∀ d ∈ tables_1, d.before a0 Z = true) (ws : List Jvm.Cond) (ia : Int32) (z_INT32 : Addr) (z_INT64 : Addr) (z_FLOAT : Addr) (z_DOUBLE : Addr) (z_BOOLEAN : Addr) (z_STRING : Addr) (h0 : Heap) (n0 : Nat) (O0 : Old Z n0 h0) (P0 : Sta Z Z.heap "com/example/gate3/gate3/config/ValueType" "INT32" "Lcom/example/gate3/gate3/config/ValueType;" (.ref z_INT32)) (P1 : Sta Z Z.heap "com/example/gate3/gate3/config/ValueType" "INT64" "Lcom/example/gate3/gate3/config/ValueType;" (.ref z_INT64)) (P2 : Sta Z Z.heap "com/example/gate3/gate3/config/ValueType" "FLOAT" "Lcom/example/gate3/gate3/config/ValueType;" (.ref z_FLOAT)) (P3 : Sta Z Z.heap "com/example/gate3/gate3/config/ValueType" "DOUBLE" "Lcom/example/gate3/gate3/config/ValueType;" (.ref z_DOUBLE)) (P4 : Sta Z Z.heap "com/example/gate3/gate3/config/ValueType" "BOOLEAN" "Lcom/example/gate3/gate3/config/ValueType;" (.ref z_BOOLEAN)) (P5 : Sta Z Z.heap "com/example/gate3/gate3/config/ValueType" "STRING" "Lcom/example/gate3/gate3/config/ValueType;" (.ref z_STRING)) (P6 : Exa Z Z.heap z_INT32 "com/example/gate3/gate3/config/ValueType") (P7 : Exa Z Z.heap z_INT64 "com/example/gate3/gate3/config/ValueType") (P8 : Exa Z Z.heap z_FLOAT "com/example/gate3/gate3/config/ValueType") (P9 : Exa Z Z.heap z_DOUBLE "com/example/gate3/gate3/config/ValueType") (P10 : Exa Z Z.heap z_BOOLEAN "com/example/gate3/gate3/config/ValueType") (P11 : Exa Z Z.heap z_STRING "com/example/gate3/gate3/config/ValueType") (P12 : z_INT32 ≠ z_INT64) (P13 : z_INT32 ≠ z_FLOAT) (P14 : z_INT32 ≠ z_DOUBLE) (P15 : z_INT32 ≠ z_BOOLEAN) (P16 : z_INT32 ≠ z_STRING) (P17 : z_INT64 ≠ z_FLOAT) (P18 : z_INT64 ≠ z_DOUBLE) (P19 : z_INT64 ≠ z_BOOLEAN) (P20 : z_INT64 ≠ z_STRING) (P21 : z_FLOAT ≠ z_DOUBLE) (P22 : z_FLOAT ≠ z_BOOLEAN) (P23 : z_FLOAT ≠ z_STRING) (P24 : z_DOUBLE ≠ z_BOOLEAN) (P25 : z_DOUBLE ≠ z_STRING) :
    MetFree l x (head1 (Jvm.Cond.code x code maxLocals ret :: ws) room_1) (fun a U => a = #[(.int ia)] ∧ Z.Warmed39 U.vm ∧ U.heap = h0) (fun _ _ _ _ _ => True) (fun _ U o U' => ∃ v L, o = .returned v ∧ Q_law Z ia z_INT32 z_INT64 z_FLOAT z_DOUBLE z_BOOLEAN z_STRING h0 n0 v U'.heap L ∧ FrameEnd U o U' L room_1.cells room_1.slots) := by
  refine MetFree.of_bodySF (plainFor_of_name pn_com_example_gate3_gate3_config_ValueTypeIsNumberPinLaw) hisR ?_
  intro p e s m args below meth c s₁ Bd hml0 hP hK
  obtain ⟨rfl, hZ, hh⟩ := hP
  have hx := Bd.exec
  have hby := Bd.bytes
  have hml : c.maxLocals = 4 := hml0
  have hown : s.vm.findClass "com/example/gate3/gate3/config/ValueTypeIsNumberPinLaw" = some m.cls := findClass_of_methodNamed Bd.named
  have hnm := (name_of_methodNamed Bd.named Bd.method).1
  have hlk : meth.locks = false := BodyLoose.notSynchronized Bd
  have X0 : Stand p l e room_1 s m #[(.int ia)] below meth c s₁ [] 0 0 := Stand.of_body Bd
  have e0 : s₁.heap = h0 := by rw [← hh, Bd.state]; rfl
  have N0 := Fr.nil n0
  have K0 := Keep.refl h0 []
  rw [ef_law m ia]
  show Go p e below s (fun v h L => Q_law Z ia z_INT32 z_INT64 z_FLOAT z_DOUBLE z_BOOLEAN z_STRING h0 n0 v h L) room_1.cells room_1.slots s₁ (mkF m 0 #[.val (.int ia), .unset, .unset, .unset] [])
  refine Go.step (T' := s₁) (f' := (mkF m 1 #[.val (.int ia), .unset, .unset, .unset] [(.int ia)])) (fun t k => XS.iloadN X0.here hx rfl (hb hby at_0) rfl k) ?_
  refine Go.step (T' := s₁) (f' := (mkF m 3 #[.val (.int ia), .unset, .unset, .unset] [(.int (2147483647 : Int32)), (.int ia)])) (fun t k => X0.ldcInt hx hown (mvT hZ (hw _ (List.mem_of_getElem? (i := 0) rfl))) (g := (mkF m 1 #[.val (.int ia), .unset, .unset, .unset] [(.int ia)])) rfl (hb hby at_1) t k) ?_
  refine Go.step (T' := s₁) (f' := (mkF m 4 #[.val (.int ia), .unset, .unset, .unset] [(.int (ia &&& (2147483647 : Int32)))])) (fun t k => XS.iand X0.here hx rfl (hb hby at_3) rfl k) ?_
  refine Go.step (T' := s₁) (f' := (mkF m 6 #[.val (.int ia), .unset, .unset, .unset] [(.int (6 : Int32)), (.int (ia &&& (2147483647 : Int32)))])) (fun t k => XS.bipush X0.here hx rfl (hb hby at_4) k) ?_
  refine Go.step (T' := s₁) (f' := (mkF m 7 #[.val (.int ia), .unset, .unset, .unset] [(.int ((ia &&& (2147483647 : Int32)) % (6 : Int32)))])) (fun t k => iremM X0 hx rfl (hb hby at_6) rfl (by decide) k) ?_
  refine Go.step (T' := s₁) (f' := (mkF m 8 #[.val (.int ia), .val (.int ((ia &&& (2147483647 : Int32)) % (6 : Int32))), .unset, .unset] [])) (fun t k => XS.istoreN X0.here hx rfl (hb hby at_7) rfl (l' := #[.val (.int ia), .val (.int ((ia &&& (2147483647 : Int32)) % (6 : Int32))), .unset, .unset]) rfl k) ?_
  refine Go.step (T' := s₁) (f' := (mkF m 9 #[.val (.int ia), .val (.int ((ia &&& (2147483647 : Int32)) % (6 : Int32))), .unset, .unset] [(.int ((ia &&& (2147483647 : Int32)) % (6 : Int32)))])) (fun t k => XS.iloadN X0.here hx rfl (hb hby at_8) rfl k) ?_
  by_cases hc9 : ((ia &&& (2147483647 : Int32)) % (6 : Int32)) = (0 : Int32)
  ·
    refine Go.step (T' := s₁) (f' := (mkF m 12 #[.val (.int ia), .val (.int ((ia &&& (2147483647 : Int32)) % (6 : Int32))), .unset, .unset] [])) (fun t k => XS.ifNo X0.here hx rfl (hb hby at_9) rfl ((if0 _ _).trans (teq hc9).2) k) ?_
    obtain ⟨T10, X10, e10, st10⟩ := getS2 X0 hx hZ hown (host := "") (Or.inl (hw _ (List.mem_of_getElem? (i := 1) rfl))) Via.refl e0 (P0.ext O0.2) (g := (mkF m 12 #[.val (.int ia), .val (.int ((ia &&& (2147483647 : Int32)) % (6 : Int32))), .unset, .unset] [])) rfl (hb hby at_12)
    refine Go.step (T' := T10) (f' := (mkF m 15 #[.val (.int ia), .val (.int ((ia &&& (2147483647 : Int32)) % (6 : Int32))), .unset, .unset] [(.ref z_INT32)])) st10 ?_
    refine Go.step (T' := T10) (f' := (mkF m 16 #[.val (.int ia), .val (.int ((ia &&& (2147483647 : Int32)) % (6 : Int32))), .val (.ref z_INT32), .unset] [])) (fun t k => XS.astoreN X10.here hx rfl (hb hby at_15) rfl rfl (l' := #[.val (.int ia), .val (.int ((ia &&& (2147483647 : Int32)) % (6 : Int32))), .val (.ref z_INT32), .unset]) rfl k) ?_
    refine Go.step (T' := T10) (f' := (mkF m 17 #[.val (.int ia), .val (.int ((ia &&& (2147483647 : Int32)) % (6 : Int32))), .val (.ref z_INT32), .unset] [(.int (1 : Int32))])) (fun t k => XS.iconst X10.here hx rfl (hb hby at_16) k) ?_
    refine Go.step (T' := T10) (f' := (mkF m 18 #[.val (.int ia), .val (.int ((ia &&& (2147483647 : Int32)) % (6 : Int32))), .val (.ref z_INT32), .val (.int (1 : Int32))] [])) (fun t k => XS.istoreN X10.here hx rfl (hb hby at_17) rfl (l' := #[.val (.int ia), .val (.int ((ia &&& (2147483647 : Int32)) % (6 : Int32))), .val (.ref z_INT32), .val (.int (1 : Int32))]) rfl k) ?_
    refine Go.step (T' := T10) (f' := (mkF m 83 #[.val (.int ia), .val (.int ((ia &&& (2147483647 : Int32)) % (6 : Int32))), .val (.ref z_INT32), .val (.int (1 : Int32))] [])) (fun t k => XS.goto X10.here hx rfl (pc0 := 18) (pc' := 83) rfl (hb hby at_18) (by decide) (by decide) k) ?_
    refine Go.step (T' := T10) (f' := (mkF m 84 #[.val (.int ia), .val (.int ((ia &&& (2147483647 : Int32)) % (6 : Int32))), .val (.ref z_INT32), .val (.int (1 : Int32))] [(.ref z_INT32)])) (fun t k => XS.aloadN X10.here hx rfl (hb hby at_83) rfl rfl k) ?_
    obtain ⟨cq11, kq11, q11a, q11b, q11c⟩ := isOf hZ e10 (P6.ext O0.2)
    obtain ⟨_, _, ⟨T11, L11, k11, n11⟩, -, X11, ⟨Lc11, hQ11, l11, y11, z11⟩, st11⟩ := X10.virtualBack hx (y := (⟨"com/example/gate3/gate3/config/ValueType", "isNumber", "()Z"⟩ : MethodName)) (z := (⟨"com/example/gate3/gate3/config/ValueType", "isNumber", "()Z"⟩ : MethodName)) hown (mvT hZ (hw _ (List.mem_of_getElem? (i := 4) rfl))) (mvT hZ (hw _ (List.mem_of_getElem? (i := 5) rfl))) (notFace_of_selects (args := #[]) (mvT hZ (hw _ (List.mem_of_getElem? (i := 7) rfl)))) (mvT hZ (hw _ (List.mem_of_getElem? (i := 7) rfl))) (mvT hZ (hw _ (List.mem_of_getElem? (i := 6) rfl))) (by decide) (backOf (W := 0) (rm_ask l Z a0 hw [] z_INT32 z_INT32 z_INT64 z_FLOAT z_DOUBLE h0 n0 O0 P0 P1 P2 P3) hZ (hw _ (List.mem_of_getElem? (i := 8) rfl)) (hw _ (List.mem_of_getElem? (i := 2) rfl)) (by decide) (by decide)) q11a q11c (g := (mkF m 84 #[.val (.int ia), .val (.int ((ia &&& (2147483647 : Int32)) % (6 : Int32))), .val (.ref z_INT32), .val (.int (1 : Int32))] [(.ref z_INT32)])) rfl (by rw [hml]; rfl) (Steps.refl _) (argsL := []) (rest := []) (lenOf pd0 rfl) rfl (by show 2 * 0 + _ ≤ _; exact Nat.le_of_eq rfl) (hb hby at_84) (fun _ _ => ⟨rfl, e10, (by decide : 0 + 0 ≤ _), (by decide : 0 + 0 ≤ _)⟩)
    dsimp only [Pt.U, Pt.locs, Pt.cells, Pt.slots] at X11 l11 y11 z11 st11 hQ11
    subst l11 y11 z11
    obtain ⟨rfl, Nq11, hh11⟩ := hQ11
    have N12 := Fr.app N0 Nq11
    refine Go.via (T' := T11) (f' := (mkF m 87 #[.val (.int ia), .val (.int ((ia &&& (2147483647 : Int32)) % (6 : Int32))), .val (.ref z_INT32), .val (.int (1 : Int32))] [(.int (if z_INT32 = z_INT32 ∨ z_INT32 = z_INT64 ∨ z_INT32 = z_FLOAT ∨ z_INT32 = z_DOUBLE then (1 : Int32) else 0))])) st11 ?_
    refine Go.step (T' := T11) (f' := (mkF m 88 #[.val (.int ia), .val (.int ((ia &&& (2147483647 : Int32)) % (6 : Int32))), .val (.ref z_INT32), .val (.int (1 : Int32))] [(.int (1 : Int32)), (.int (if z_INT32 = z_INT32 ∨ z_INT32 = z_INT64 ∨ z_INT32 = z_FLOAT ∨ z_INT32 = z_DOUBLE then (1 : Int32) else 0))])) (fun t k => XS.iloadN X11.here hx rfl (hb hby at_87) rfl k) ?_
    have hc13 : (if z_INT32 = z_INT32 ∨ z_INT32 = z_INT64 ∨ z_INT32 = z_FLOAT ∨ z_INT32 = z_DOUBLE then (1 : Int32) else 0) = (1 : Int32) := by
      simp [P12, P13, P14, P15, P16]
    refine Go.step (T' := T11) (f' := (mkF m 91 #[.val (.int ia), .val (.int ((ia &&& (2147483647 : Int32)) % (6 : Int32))), .val (.ref z_INT32), .val (.int (1 : Int32))] [])) (fun t k => XS.icmpNo X11.here hx rfl (hb hby at_88) rfl (teq hc13).2 k) ?_
    refine Go.step (T' := T11) (f' := (mkF m 92 #[.val (.int ia), .val (.int ((ia &&& (2147483647 : Int32)) % (6 : Int32))), .val (.ref z_INT32), .val (.int (1 : Int32))] [(.int (1 : Int32))])) (fun t k => XS.iconst X11.here hx rfl (hb hby at_91) k) ?_
    refine Go.step (T' := T11) (f' := (mkF m 96 #[.val (.int ia), .val (.int ((ia &&& (2147483647 : Int32)) % (6 : Int32))), .val (.ref z_INT32), .val (.int (1 : Int32))] [(.int (1 : Int32))])) (fun t k => XS.goto X11.here hx rfl (pc0 := 92) (pc' := 96) rfl (hb hby at_92) (by decide) (by decide) k) ?_
    refine Go.retZ X11 hx hlk (t := .boolean) Bd.returns (by simp) (hb hby at_96) hh11 ?_ (by decide) (by decide)
    exact ⟨rfl, N12, K0⟩
  ·
    refine Go.step (T' := s₁) (f' := (mkF m 21 #[.val (.int ia), .val (.int ((ia &&& (2147483647 : Int32)) % (6 : Int32))), .unset, .unset] [])) (fun t k => XS.ifYes X0.here hx rfl (pc0 := 9) (pc' := 21) rfl (hb hby at_9) rfl ((if0 _ _).trans (feq hc9).2) (by decide) (by decide) k) ?_
    refine Go.step (T' := s₁) (f' := (mkF m 22 #[.val (.int ia), .val (.int ((ia &&& (2147483647 : Int32)) % (6 : Int32))), .unset, .unset] [(.int ((ia &&& (2147483647 : Int32)) % (6 : Int32)))])) (fun t k => XS.iloadN X0.here hx rfl (hb hby at_21) rfl k) ?_
    refine Go.step (T' := s₁) (f' := (mkF m 23 #[.val (.int ia), .val (.int ((ia &&& (2147483647 : Int32)) % (6 : Int32))), .unset, .unset] [(.int (1 : Int32)), (.int ((ia &&& (2147483647 : Int32)) % (6 : Int32)))])) (fun t k => XS.iconst X0.here hx rfl (hb hby at_22) k) ?_
    by_cases hc14 : ((ia &&& (2147483647 : Int32)) % (6 : Int32)) = (1 : Int32)
    ·
      refine Go.step (T' := s₁) (f' := (mkF m 26 #[.val (.int ia), .val (.int ((ia &&& (2147483647 : Int32)) % (6 : Int32))), .unset, .unset] [])) (fun t k => XS.icmpNo X0.here hx rfl (hb hby at_23) rfl (teq hc14).2 k) ?_
      obtain ⟨T15, X15, e15, st15⟩ := getS2 X0 hx hZ hown (host := "") (Or.inl (hw _ (List.mem_of_getElem? (i := 18) rfl))) Via.refl e0 (P1.ext O0.2) (g := (mkF m 26 #[.val (.int ia), .val (.int ((ia &&& (2147483647 : Int32)) % (6 : Int32))), .unset, .unset] [])) rfl (hb hby at_26)
      refine Go.step (T' := T15) (f' := (mkF m 29 #[.val (.int ia), .val (.int ((ia &&& (2147483647 : Int32)) % (6 : Int32))), .unset, .unset] [(.ref z_INT64)])) st15 ?_
      refine Go.step (T' := T15) (f' := (mkF m 30 #[.val (.int ia), .val (.int ((ia &&& (2147483647 : Int32)) % (6 : Int32))), .val (.ref z_INT64), .unset] [])) (fun t k => XS.astoreN X15.here hx rfl (hb hby at_29) rfl rfl (l' := #[.val (.int ia), .val (.int ((ia &&& (2147483647 : Int32)) % (6 : Int32))), .val (.ref z_INT64), .unset]) rfl k) ?_
      refine Go.step (T' := T15) (f' := (mkF m 31 #[.val (.int ia), .val (.int ((ia &&& (2147483647 : Int32)) % (6 : Int32))), .val (.ref z_INT64), .unset] [(.int (1 : Int32))])) (fun t k => XS.iconst X15.here hx rfl (hb hby at_30) k) ?_
      refine Go.step (T' := T15) (f' := (mkF m 32 #[.val (.int ia), .val (.int ((ia &&& (2147483647 : Int32)) % (6 : Int32))), .val (.ref z_INT64), .val (.int (1 : Int32))] [])) (fun t k => XS.istoreN X15.here hx rfl (hb hby at_31) rfl (l' := #[.val (.int ia), .val (.int ((ia &&& (2147483647 : Int32)) % (6 : Int32))), .val (.ref z_INT64), .val (.int (1 : Int32))]) rfl k) ?_
      refine Go.step (T' := T15) (f' := (mkF m 83 #[.val (.int ia), .val (.int ((ia &&& (2147483647 : Int32)) % (6 : Int32))), .val (.ref z_INT64), .val (.int (1 : Int32))] [])) (fun t k => XS.goto X15.here hx rfl (pc0 := 32) (pc' := 83) rfl (hb hby at_32) (by decide) (by decide) k) ?_
      refine Go.step (T' := T15) (f' := (mkF m 84 #[.val (.int ia), .val (.int ((ia &&& (2147483647 : Int32)) % (6 : Int32))), .val (.ref z_INT64), .val (.int (1 : Int32))] [(.ref z_INT64)])) (fun t k => XS.aloadN X15.here hx rfl (hb hby at_83) rfl rfl k) ?_
      obtain ⟨cq16, kq16, q16a, q16b, q16c⟩ := isOf hZ e15 (P7.ext O0.2)
      obtain ⟨_, _, ⟨T16, L16, k16, n16⟩, -, X16, ⟨Lc16, hQ16, l16, y16, z16⟩, st16⟩ := X15.virtualBack hx (y := (⟨"com/example/gate3/gate3/config/ValueType", "isNumber", "()Z"⟩ : MethodName)) (z := (⟨"com/example/gate3/gate3/config/ValueType", "isNumber", "()Z"⟩ : MethodName)) hown (mvT hZ (hw _ (List.mem_of_getElem? (i := 4) rfl))) (mvT hZ (hw _ (List.mem_of_getElem? (i := 5) rfl))) (notFace_of_selects (args := #[]) (mvT hZ (hw _ (List.mem_of_getElem? (i := 7) rfl)))) (mvT hZ (hw _ (List.mem_of_getElem? (i := 7) rfl))) (mvT hZ (hw _ (List.mem_of_getElem? (i := 6) rfl))) (by decide) (backOf (W := 0) (rm_ask l Z a0 hw [] z_INT64 z_INT32 z_INT64 z_FLOAT z_DOUBLE h0 n0 O0 P0 P1 P2 P3) hZ (hw _ (List.mem_of_getElem? (i := 8) rfl)) (hw _ (List.mem_of_getElem? (i := 2) rfl)) (by decide) (by decide)) q16a q16c (g := (mkF m 84 #[.val (.int ia), .val (.int ((ia &&& (2147483647 : Int32)) % (6 : Int32))), .val (.ref z_INT64), .val (.int (1 : Int32))] [(.ref z_INT64)])) rfl (by rw [hml]; rfl) (Steps.refl _) (argsL := []) (rest := []) (lenOf pd0 rfl) rfl (by show 2 * 0 + _ ≤ _; exact Nat.le_of_eq rfl) (hb hby at_84) (fun _ _ => ⟨rfl, e15, (by decide : 0 + 0 ≤ _), (by decide : 0 + 0 ≤ _)⟩)
      dsimp only [Pt.U, Pt.locs, Pt.cells, Pt.slots] at X16 l16 y16 z16 st16 hQ16
      subst l16 y16 z16
      obtain ⟨rfl, Nq16, hh16⟩ := hQ16
      have N17 := Fr.app N0 Nq16
      refine Go.via (T' := T16) (f' := (mkF m 87 #[.val (.int ia), .val (.int ((ia &&& (2147483647 : Int32)) % (6 : Int32))), .val (.ref z_INT64), .val (.int (1 : Int32))] [(.int (if z_INT64 = z_INT32 ∨ z_INT64 = z_INT64 ∨ z_INT64 = z_FLOAT ∨ z_INT64 = z_DOUBLE then (1 : Int32) else 0))])) st16 ?_
      refine Go.step (T' := T16) (f' := (mkF m 88 #[.val (.int ia), .val (.int ((ia &&& (2147483647 : Int32)) % (6 : Int32))), .val (.ref z_INT64), .val (.int (1 : Int32))] [(.int (1 : Int32)), (.int (if z_INT64 = z_INT32 ∨ z_INT64 = z_INT64 ∨ z_INT64 = z_FLOAT ∨ z_INT64 = z_DOUBLE then (1 : Int32) else 0))])) (fun t k => XS.iloadN X16.here hx rfl (hb hby at_87) rfl k) ?_
      have hc18 : (if z_INT64 = z_INT32 ∨ z_INT64 = z_INT64 ∨ z_INT64 = z_FLOAT ∨ z_INT64 = z_DOUBLE then (1 : Int32) else 0) = (1 : Int32) := by
        simp [Ne.symm P12, P17, P18, P19, P20]
      refine Go.step (T' := T16) (f' := (mkF m 91 #[.val (.int ia), .val (.int ((ia &&& (2147483647 : Int32)) % (6 : Int32))), .val (.ref z_INT64), .val (.int (1 : Int32))] [])) (fun t k => XS.icmpNo X16.here hx rfl (hb hby at_88) rfl (teq hc18).2 k) ?_
      refine Go.step (T' := T16) (f' := (mkF m 92 #[.val (.int ia), .val (.int ((ia &&& (2147483647 : Int32)) % (6 : Int32))), .val (.ref z_INT64), .val (.int (1 : Int32))] [(.int (1 : Int32))])) (fun t k => XS.iconst X16.here hx rfl (hb hby at_91) k) ?_
      refine Go.step (T' := T16) (f' := (mkF m 96 #[.val (.int ia), .val (.int ((ia &&& (2147483647 : Int32)) % (6 : Int32))), .val (.ref z_INT64), .val (.int (1 : Int32))] [(.int (1 : Int32))])) (fun t k => XS.goto X16.here hx rfl (pc0 := 92) (pc' := 96) rfl (hb hby at_92) (by decide) (by decide) k) ?_
      refine Go.retZ X16 hx hlk (t := .boolean) Bd.returns (by simp) (hb hby at_96) hh16 ?_ (by decide) (by decide)
      exact ⟨rfl, N17, K0⟩
    ·
      refine Go.step (T' := s₁) (f' := (mkF m 35 #[.val (.int ia), .val (.int ((ia &&& (2147483647 : Int32)) % (6 : Int32))), .unset, .unset] [])) (fun t k => XS.icmpYes X0.here hx rfl (pc0 := 23) (pc' := 35) rfl (hb hby at_23) rfl (feq hc14).2 (by decide) (by decide) k) ?_
      refine Go.step (T' := s₁) (f' := (mkF m 36 #[.val (.int ia), .val (.int ((ia &&& (2147483647 : Int32)) % (6 : Int32))), .unset, .unset] [(.int ((ia &&& (2147483647 : Int32)) % (6 : Int32)))])) (fun t k => XS.iloadN X0.here hx rfl (hb hby at_35) rfl k) ?_
      refine Go.step (T' := s₁) (f' := (mkF m 37 #[.val (.int ia), .val (.int ((ia &&& (2147483647 : Int32)) % (6 : Int32))), .unset, .unset] [(.int (2 : Int32)), (.int ((ia &&& (2147483647 : Int32)) % (6 : Int32)))])) (fun t k => XS.iconst X0.here hx rfl (hb hby at_36) k) ?_
      by_cases hc19 : ((ia &&& (2147483647 : Int32)) % (6 : Int32)) = (2 : Int32)
      ·
        refine Go.step (T' := s₁) (f' := (mkF m 40 #[.val (.int ia), .val (.int ((ia &&& (2147483647 : Int32)) % (6 : Int32))), .unset, .unset] [])) (fun t k => XS.icmpNo X0.here hx rfl (hb hby at_37) rfl (teq hc19).2 k) ?_
        obtain ⟨T20, X20, e20, st20⟩ := getS2 X0 hx hZ hown (host := "") (Or.inl (hw _ (List.mem_of_getElem? (i := 17) rfl))) Via.refl e0 (P2.ext O0.2) (g := (mkF m 40 #[.val (.int ia), .val (.int ((ia &&& (2147483647 : Int32)) % (6 : Int32))), .unset, .unset] [])) rfl (hb hby at_40)
        refine Go.step (T' := T20) (f' := (mkF m 43 #[.val (.int ia), .val (.int ((ia &&& (2147483647 : Int32)) % (6 : Int32))), .unset, .unset] [(.ref z_FLOAT)])) st20 ?_
        refine Go.step (T' := T20) (f' := (mkF m 44 #[.val (.int ia), .val (.int ((ia &&& (2147483647 : Int32)) % (6 : Int32))), .val (.ref z_FLOAT), .unset] [])) (fun t k => XS.astoreN X20.here hx rfl (hb hby at_43) rfl rfl (l' := #[.val (.int ia), .val (.int ((ia &&& (2147483647 : Int32)) % (6 : Int32))), .val (.ref z_FLOAT), .unset]) rfl k) ?_
        refine Go.step (T' := T20) (f' := (mkF m 45 #[.val (.int ia), .val (.int ((ia &&& (2147483647 : Int32)) % (6 : Int32))), .val (.ref z_FLOAT), .unset] [(.int (1 : Int32))])) (fun t k => XS.iconst X20.here hx rfl (hb hby at_44) k) ?_
        refine Go.step (T' := T20) (f' := (mkF m 46 #[.val (.int ia), .val (.int ((ia &&& (2147483647 : Int32)) % (6 : Int32))), .val (.ref z_FLOAT), .val (.int (1 : Int32))] [])) (fun t k => XS.istoreN X20.here hx rfl (hb hby at_45) rfl (l' := #[.val (.int ia), .val (.int ((ia &&& (2147483647 : Int32)) % (6 : Int32))), .val (.ref z_FLOAT), .val (.int (1 : Int32))]) rfl k) ?_
        refine Go.step (T' := T20) (f' := (mkF m 83 #[.val (.int ia), .val (.int ((ia &&& (2147483647 : Int32)) % (6 : Int32))), .val (.ref z_FLOAT), .val (.int (1 : Int32))] [])) (fun t k => XS.goto X20.here hx rfl (pc0 := 46) (pc' := 83) rfl (hb hby at_46) (by decide) (by decide) k) ?_
        refine Go.step (T' := T20) (f' := (mkF m 84 #[.val (.int ia), .val (.int ((ia &&& (2147483647 : Int32)) % (6 : Int32))), .val (.ref z_FLOAT), .val (.int (1 : Int32))] [(.ref z_FLOAT)])) (fun t k => XS.aloadN X20.here hx rfl (hb hby at_83) rfl rfl k) ?_
        obtain ⟨cq21, kq21, q21a, q21b, q21c⟩ := isOf hZ e20 (P8.ext O0.2)
        obtain ⟨_, _, ⟨T21, L21, k21, n21⟩, -, X21, ⟨Lc21, hQ21, l21, y21, z21⟩, st21⟩ := X20.virtualBack hx (y := (⟨"com/example/gate3/gate3/config/ValueType", "isNumber", "()Z"⟩ : MethodName)) (z := (⟨"com/example/gate3/gate3/config/ValueType", "isNumber", "()Z"⟩ : MethodName)) hown (mvT hZ (hw _ (List.mem_of_getElem? (i := 4) rfl))) (mvT hZ (hw _ (List.mem_of_getElem? (i := 5) rfl))) (notFace_of_selects (args := #[]) (mvT hZ (hw _ (List.mem_of_getElem? (i := 7) rfl)))) (mvT hZ (hw _ (List.mem_of_getElem? (i := 7) rfl))) (mvT hZ (hw _ (List.mem_of_getElem? (i := 6) rfl))) (by decide) (backOf (W := 0) (rm_ask l Z a0 hw [] z_FLOAT z_INT32 z_INT64 z_FLOAT z_DOUBLE h0 n0 O0 P0 P1 P2 P3) hZ (hw _ (List.mem_of_getElem? (i := 8) rfl)) (hw _ (List.mem_of_getElem? (i := 2) rfl)) (by decide) (by decide)) q21a q21c (g := (mkF m 84 #[.val (.int ia), .val (.int ((ia &&& (2147483647 : Int32)) % (6 : Int32))), .val (.ref z_FLOAT), .val (.int (1 : Int32))] [(.ref z_FLOAT)])) rfl (by rw [hml]; rfl) (Steps.refl _) (argsL := []) (rest := []) (lenOf pd0 rfl) rfl (by show 2 * 0 + _ ≤ _; exact Nat.le_of_eq rfl) (hb hby at_84) (fun _ _ => ⟨rfl, e20, (by decide : 0 + 0 ≤ _), (by decide : 0 + 0 ≤ _)⟩)
        dsimp only [Pt.U, Pt.locs, Pt.cells, Pt.slots] at X21 l21 y21 z21 st21 hQ21
        subst l21 y21 z21
        obtain ⟨rfl, Nq21, hh21⟩ := hQ21
        have N22 := Fr.app N0 Nq21
        refine Go.via (T' := T21) (f' := (mkF m 87 #[.val (.int ia), .val (.int ((ia &&& (2147483647 : Int32)) % (6 : Int32))), .val (.ref z_FLOAT), .val (.int (1 : Int32))] [(.int (if z_FLOAT = z_INT32 ∨ z_FLOAT = z_INT64 ∨ z_FLOAT = z_FLOAT ∨ z_FLOAT = z_DOUBLE then (1 : Int32) else 0))])) st21 ?_
        refine Go.step (T' := T21) (f' := (mkF m 88 #[.val (.int ia), .val (.int ((ia &&& (2147483647 : Int32)) % (6 : Int32))), .val (.ref z_FLOAT), .val (.int (1 : Int32))] [(.int (1 : Int32)), (.int (if z_FLOAT = z_INT32 ∨ z_FLOAT = z_INT64 ∨ z_FLOAT = z_FLOAT ∨ z_FLOAT = z_DOUBLE then (1 : Int32) else 0))])) (fun t k => XS.iloadN X21.here hx rfl (hb hby at_87) rfl k) ?_
        have hc23 : (if z_FLOAT = z_INT32 ∨ z_FLOAT = z_INT64 ∨ z_FLOAT = z_FLOAT ∨ z_FLOAT = z_DOUBLE then (1 : Int32) else 0) = (1 : Int32) := by
          simp [Ne.symm P13, Ne.symm P17, P21, P22, P23]
        refine Go.step (T' := T21) (f' := (mkF m 91 #[.val (.int ia), .val (.int ((ia &&& (2147483647 : Int32)) % (6 : Int32))), .val (.ref z_FLOAT), .val (.int (1 : Int32))] [])) (fun t k => XS.icmpNo X21.here hx rfl (hb hby at_88) rfl (teq hc23).2 k) ?_
        refine Go.step (T' := T21) (f' := (mkF m 92 #[.val (.int ia), .val (.int ((ia &&& (2147483647 : Int32)) % (6 : Int32))), .val (.ref z_FLOAT), .val (.int (1 : Int32))] [(.int (1 : Int32))])) (fun t k => XS.iconst X21.here hx rfl (hb hby at_91) k) ?_
        refine Go.step (T' := T21) (f' := (mkF m 96 #[.val (.int ia), .val (.int ((ia &&& (2147483647 : Int32)) % (6 : Int32))), .val (.ref z_FLOAT), .val (.int (1 : Int32))] [(.int (1 : Int32))])) (fun t k => XS.goto X21.here hx rfl (pc0 := 92) (pc' := 96) rfl (hb hby at_92) (by decide) (by decide) k) ?_
        refine Go.retZ X21 hx hlk (t := .boolean) Bd.returns (by simp) (hb hby at_96) hh21 ?_ (by decide) (by decide)
        exact ⟨rfl, N22, K0⟩
      ·
        refine Go.step (T' := s₁) (f' := (mkF m 49 #[.val (.int ia), .val (.int ((ia &&& (2147483647 : Int32)) % (6 : Int32))), .unset, .unset] [])) (fun t k => XS.icmpYes X0.here hx rfl (pc0 := 37) (pc' := 49) rfl (hb hby at_37) rfl (feq hc19).2 (by decide) (by decide) k) ?_
        refine Go.step (T' := s₁) (f' := (mkF m 50 #[.val (.int ia), .val (.int ((ia &&& (2147483647 : Int32)) % (6 : Int32))), .unset, .unset] [(.int ((ia &&& (2147483647 : Int32)) % (6 : Int32)))])) (fun t k => XS.iloadN X0.here hx rfl (hb hby at_49) rfl k) ?_
        refine Go.step (T' := s₁) (f' := (mkF m 51 #[.val (.int ia), .val (.int ((ia &&& (2147483647 : Int32)) % (6 : Int32))), .unset, .unset] [(.int (3 : Int32)), (.int ((ia &&& (2147483647 : Int32)) % (6 : Int32)))])) (fun t k => XS.iconst X0.here hx rfl (hb hby at_50) k) ?_
        by_cases hc24 : ((ia &&& (2147483647 : Int32)) % (6 : Int32)) = (3 : Int32)
        ·
          refine Go.step (T' := s₁) (f' := (mkF m 54 #[.val (.int ia), .val (.int ((ia &&& (2147483647 : Int32)) % (6 : Int32))), .unset, .unset] [])) (fun t k => XS.icmpNo X0.here hx rfl (hb hby at_51) rfl (teq hc24).2 k) ?_
          obtain ⟨T25, X25, e25, st25⟩ := getS2 X0 hx hZ hown (host := "") (Or.inl (hw _ (List.mem_of_getElem? (i := 10) rfl))) Via.refl e0 (P3.ext O0.2) (g := (mkF m 54 #[.val (.int ia), .val (.int ((ia &&& (2147483647 : Int32)) % (6 : Int32))), .unset, .unset] [])) rfl (hb hby at_54)
          refine Go.step (T' := T25) (f' := (mkF m 57 #[.val (.int ia), .val (.int ((ia &&& (2147483647 : Int32)) % (6 : Int32))), .unset, .unset] [(.ref z_DOUBLE)])) st25 ?_
          refine Go.step (T' := T25) (f' := (mkF m 58 #[.val (.int ia), .val (.int ((ia &&& (2147483647 : Int32)) % (6 : Int32))), .val (.ref z_DOUBLE), .unset] [])) (fun t k => XS.astoreN X25.here hx rfl (hb hby at_57) rfl rfl (l' := #[.val (.int ia), .val (.int ((ia &&& (2147483647 : Int32)) % (6 : Int32))), .val (.ref z_DOUBLE), .unset]) rfl k) ?_
          refine Go.step (T' := T25) (f' := (mkF m 59 #[.val (.int ia), .val (.int ((ia &&& (2147483647 : Int32)) % (6 : Int32))), .val (.ref z_DOUBLE), .unset] [(.int (1 : Int32))])) (fun t k => XS.iconst X25.here hx rfl (hb hby at_58) k) ?_
          refine Go.step (T' := T25) (f' := (mkF m 60 #[.val (.int ia), .val (.int ((ia &&& (2147483647 : Int32)) % (6 : Int32))), .val (.ref z_DOUBLE), .val (.int (1 : Int32))] [])) (fun t k => XS.istoreN X25.here hx rfl (hb hby at_59) rfl (l' := #[.val (.int ia), .val (.int ((ia &&& (2147483647 : Int32)) % (6 : Int32))), .val (.ref z_DOUBLE), .val (.int (1 : Int32))]) rfl k) ?_
          refine Go.step (T' := T25) (f' := (mkF m 83 #[.val (.int ia), .val (.int ((ia &&& (2147483647 : Int32)) % (6 : Int32))), .val (.ref z_DOUBLE), .val (.int (1 : Int32))] [])) (fun t k => XS.goto X25.here hx rfl (pc0 := 60) (pc' := 83) rfl (hb hby at_60) (by decide) (by decide) k) ?_
          refine Go.step (T' := T25) (f' := (mkF m 84 #[.val (.int ia), .val (.int ((ia &&& (2147483647 : Int32)) % (6 : Int32))), .val (.ref z_DOUBLE), .val (.int (1 : Int32))] [(.ref z_DOUBLE)])) (fun t k => XS.aloadN X25.here hx rfl (hb hby at_83) rfl rfl k) ?_
          obtain ⟨cq26, kq26, q26a, q26b, q26c⟩ := isOf hZ e25 (P9.ext O0.2)
          obtain ⟨_, _, ⟨T26, L26, k26, n26⟩, -, X26, ⟨Lc26, hQ26, l26, y26, z26⟩, st26⟩ := X25.virtualBack hx (y := (⟨"com/example/gate3/gate3/config/ValueType", "isNumber", "()Z"⟩ : MethodName)) (z := (⟨"com/example/gate3/gate3/config/ValueType", "isNumber", "()Z"⟩ : MethodName)) hown (mvT hZ (hw _ (List.mem_of_getElem? (i := 4) rfl))) (mvT hZ (hw _ (List.mem_of_getElem? (i := 5) rfl))) (notFace_of_selects (args := #[]) (mvT hZ (hw _ (List.mem_of_getElem? (i := 7) rfl)))) (mvT hZ (hw _ (List.mem_of_getElem? (i := 7) rfl))) (mvT hZ (hw _ (List.mem_of_getElem? (i := 6) rfl))) (by decide) (backOf (W := 0) (rm_ask l Z a0 hw [] z_DOUBLE z_INT32 z_INT64 z_FLOAT z_DOUBLE h0 n0 O0 P0 P1 P2 P3) hZ (hw _ (List.mem_of_getElem? (i := 8) rfl)) (hw _ (List.mem_of_getElem? (i := 2) rfl)) (by decide) (by decide)) q26a q26c (g := (mkF m 84 #[.val (.int ia), .val (.int ((ia &&& (2147483647 : Int32)) % (6 : Int32))), .val (.ref z_DOUBLE), .val (.int (1 : Int32))] [(.ref z_DOUBLE)])) rfl (by rw [hml]; rfl) (Steps.refl _) (argsL := []) (rest := []) (lenOf pd0 rfl) rfl (by show 2 * 0 + _ ≤ _; exact Nat.le_of_eq rfl) (hb hby at_84) (fun _ _ => ⟨rfl, e25, (by decide : 0 + 0 ≤ _), (by decide : 0 + 0 ≤ _)⟩)
          dsimp only [Pt.U, Pt.locs, Pt.cells, Pt.slots] at X26 l26 y26 z26 st26 hQ26
          subst l26 y26 z26
          obtain ⟨rfl, Nq26, hh26⟩ := hQ26
          have N27 := Fr.app N0 Nq26
          refine Go.via (T' := T26) (f' := (mkF m 87 #[.val (.int ia), .val (.int ((ia &&& (2147483647 : Int32)) % (6 : Int32))), .val (.ref z_DOUBLE), .val (.int (1 : Int32))] [(.int (if z_DOUBLE = z_INT32 ∨ z_DOUBLE = z_INT64 ∨ z_DOUBLE = z_FLOAT ∨ z_DOUBLE = z_DOUBLE then (1 : Int32) else 0))])) st26 ?_
          refine Go.step (T' := T26) (f' := (mkF m 88 #[.val (.int ia), .val (.int ((ia &&& (2147483647 : Int32)) % (6 : Int32))), .val (.ref z_DOUBLE), .val (.int (1 : Int32))] [(.int (1 : Int32)), (.int (if z_DOUBLE = z_INT32 ∨ z_DOUBLE = z_INT64 ∨ z_DOUBLE = z_FLOAT ∨ z_DOUBLE = z_DOUBLE then (1 : Int32) else 0))])) (fun t k => XS.iloadN X26.here hx rfl (hb hby at_87) rfl k) ?_
          have hc28 : (if z_DOUBLE = z_INT32 ∨ z_DOUBLE = z_INT64 ∨ z_DOUBLE = z_FLOAT ∨ z_DOUBLE = z_DOUBLE then (1 : Int32) else 0) = (1 : Int32) := by
            simp [Ne.symm P14, Ne.symm P18, Ne.symm P21, P24, P25]
          refine Go.step (T' := T26) (f' := (mkF m 91 #[.val (.int ia), .val (.int ((ia &&& (2147483647 : Int32)) % (6 : Int32))), .val (.ref z_DOUBLE), .val (.int (1 : Int32))] [])) (fun t k => XS.icmpNo X26.here hx rfl (hb hby at_88) rfl (teq hc28).2 k) ?_
          refine Go.step (T' := T26) (f' := (mkF m 92 #[.val (.int ia), .val (.int ((ia &&& (2147483647 : Int32)) % (6 : Int32))), .val (.ref z_DOUBLE), .val (.int (1 : Int32))] [(.int (1 : Int32))])) (fun t k => XS.iconst X26.here hx rfl (hb hby at_91) k) ?_
          refine Go.step (T' := T26) (f' := (mkF m 96 #[.val (.int ia), .val (.int ((ia &&& (2147483647 : Int32)) % (6 : Int32))), .val (.ref z_DOUBLE), .val (.int (1 : Int32))] [(.int (1 : Int32))])) (fun t k => XS.goto X26.here hx rfl (pc0 := 92) (pc' := 96) rfl (hb hby at_92) (by decide) (by decide) k) ?_
          refine Go.retZ X26 hx hlk (t := .boolean) Bd.returns (by simp) (hb hby at_96) hh26 ?_ (by decide) (by decide)
          exact ⟨rfl, N27, K0⟩
        ·
          refine Go.step (T' := s₁) (f' := (mkF m 63 #[.val (.int ia), .val (.int ((ia &&& (2147483647 : Int32)) % (6 : Int32))), .unset, .unset] [])) (fun t k => XS.icmpYes X0.here hx rfl (pc0 := 51) (pc' := 63) rfl (hb hby at_51) rfl (feq hc24).2 (by decide) (by decide) k) ?_
          refine Go.step (T' := s₁) (f' := (mkF m 64 #[.val (.int ia), .val (.int ((ia &&& (2147483647 : Int32)) % (6 : Int32))), .unset, .unset] [(.int ((ia &&& (2147483647 : Int32)) % (6 : Int32)))])) (fun t k => XS.iloadN X0.here hx rfl (hb hby at_63) rfl k) ?_
          refine Go.step (T' := s₁) (f' := (mkF m 65 #[.val (.int ia), .val (.int ((ia &&& (2147483647 : Int32)) % (6 : Int32))), .unset, .unset] [(.int (4 : Int32)), (.int ((ia &&& (2147483647 : Int32)) % (6 : Int32)))])) (fun t k => XS.iconst X0.here hx rfl (hb hby at_64) k) ?_
          by_cases hc29 : ((ia &&& (2147483647 : Int32)) % (6 : Int32)) = (4 : Int32)
          ·
            refine Go.step (T' := s₁) (f' := (mkF m 68 #[.val (.int ia), .val (.int ((ia &&& (2147483647 : Int32)) % (6 : Int32))), .unset, .unset] [])) (fun t k => XS.icmpNo X0.here hx rfl (hb hby at_65) rfl (teq hc29).2 k) ?_
            obtain ⟨T30, X30, e30, st30⟩ := getS2 X0 hx hZ hown (host := "") (Or.inl (hw _ (List.mem_of_getElem? (i := 21) rfl))) Via.refl e0 (P4.ext O0.2) (g := (mkF m 68 #[.val (.int ia), .val (.int ((ia &&& (2147483647 : Int32)) % (6 : Int32))), .unset, .unset] [])) rfl (hb hby at_68)
            refine Go.step (T' := T30) (f' := (mkF m 71 #[.val (.int ia), .val (.int ((ia &&& (2147483647 : Int32)) % (6 : Int32))), .unset, .unset] [(.ref z_BOOLEAN)])) st30 ?_
            refine Go.step (T' := T30) (f' := (mkF m 72 #[.val (.int ia), .val (.int ((ia &&& (2147483647 : Int32)) % (6 : Int32))), .val (.ref z_BOOLEAN), .unset] [])) (fun t k => XS.astoreN X30.here hx rfl (hb hby at_71) rfl rfl (l' := #[.val (.int ia), .val (.int ((ia &&& (2147483647 : Int32)) % (6 : Int32))), .val (.ref z_BOOLEAN), .unset]) rfl k) ?_
            refine Go.step (T' := T30) (f' := (mkF m 73 #[.val (.int ia), .val (.int ((ia &&& (2147483647 : Int32)) % (6 : Int32))), .val (.ref z_BOOLEAN), .unset] [(.int (0 : Int32))])) (fun t k => XS.iconst X30.here hx rfl (hb hby at_72) k) ?_
            refine Go.step (T' := T30) (f' := (mkF m 74 #[.val (.int ia), .val (.int ((ia &&& (2147483647 : Int32)) % (6 : Int32))), .val (.ref z_BOOLEAN), .val (.int (0 : Int32))] [])) (fun t k => XS.istoreN X30.here hx rfl (hb hby at_73) rfl (l' := #[.val (.int ia), .val (.int ((ia &&& (2147483647 : Int32)) % (6 : Int32))), .val (.ref z_BOOLEAN), .val (.int (0 : Int32))]) rfl k) ?_
            refine Go.step (T' := T30) (f' := (mkF m 83 #[.val (.int ia), .val (.int ((ia &&& (2147483647 : Int32)) % (6 : Int32))), .val (.ref z_BOOLEAN), .val (.int (0 : Int32))] [])) (fun t k => XS.goto X30.here hx rfl (pc0 := 74) (pc' := 83) rfl (hb hby at_74) (by decide) (by decide) k) ?_
            refine Go.step (T' := T30) (f' := (mkF m 84 #[.val (.int ia), .val (.int ((ia &&& (2147483647 : Int32)) % (6 : Int32))), .val (.ref z_BOOLEAN), .val (.int (0 : Int32))] [(.ref z_BOOLEAN)])) (fun t k => XS.aloadN X30.here hx rfl (hb hby at_83) rfl rfl k) ?_
            obtain ⟨cq31, kq31, q31a, q31b, q31c⟩ := isOf hZ e30 (P10.ext O0.2)
            obtain ⟨_, _, ⟨T31, L31, k31, n31⟩, -, X31, ⟨Lc31, hQ31, l31, y31, z31⟩, st31⟩ := X30.virtualBack hx (y := (⟨"com/example/gate3/gate3/config/ValueType", "isNumber", "()Z"⟩ : MethodName)) (z := (⟨"com/example/gate3/gate3/config/ValueType", "isNumber", "()Z"⟩ : MethodName)) hown (mvT hZ (hw _ (List.mem_of_getElem? (i := 4) rfl))) (mvT hZ (hw _ (List.mem_of_getElem? (i := 5) rfl))) (notFace_of_selects (args := #[]) (mvT hZ (hw _ (List.mem_of_getElem? (i := 7) rfl)))) (mvT hZ (hw _ (List.mem_of_getElem? (i := 7) rfl))) (mvT hZ (hw _ (List.mem_of_getElem? (i := 6) rfl))) (by decide) (backOf (W := 0) (rm_ask l Z a0 hw [] z_BOOLEAN z_INT32 z_INT64 z_FLOAT z_DOUBLE h0 n0 O0 P0 P1 P2 P3) hZ (hw _ (List.mem_of_getElem? (i := 8) rfl)) (hw _ (List.mem_of_getElem? (i := 2) rfl)) (by decide) (by decide)) q31a q31c (g := (mkF m 84 #[.val (.int ia), .val (.int ((ia &&& (2147483647 : Int32)) % (6 : Int32))), .val (.ref z_BOOLEAN), .val (.int (0 : Int32))] [(.ref z_BOOLEAN)])) rfl (by rw [hml]; rfl) (Steps.refl _) (argsL := []) (rest := []) (lenOf pd0 rfl) rfl (by show 2 * 0 + _ ≤ _; exact Nat.le_of_eq rfl) (hb hby at_84) (fun _ _ => ⟨rfl, e30, (by decide : 0 + 0 ≤ _), (by decide : 0 + 0 ≤ _)⟩)
            dsimp only [Pt.U, Pt.locs, Pt.cells, Pt.slots] at X31 l31 y31 z31 st31 hQ31
            subst l31 y31 z31
            obtain ⟨rfl, Nq31, hh31⟩ := hQ31
            have N32 := Fr.app N0 Nq31
            refine Go.via (T' := T31) (f' := (mkF m 87 #[.val (.int ia), .val (.int ((ia &&& (2147483647 : Int32)) % (6 : Int32))), .val (.ref z_BOOLEAN), .val (.int (0 : Int32))] [(.int (if z_BOOLEAN = z_INT32 ∨ z_BOOLEAN = z_INT64 ∨ z_BOOLEAN = z_FLOAT ∨ z_BOOLEAN = z_DOUBLE then (1 : Int32) else 0))])) st31 ?_
            refine Go.step (T' := T31) (f' := (mkF m 88 #[.val (.int ia), .val (.int ((ia &&& (2147483647 : Int32)) % (6 : Int32))), .val (.ref z_BOOLEAN), .val (.int (0 : Int32))] [(.int (0 : Int32)), (.int (if z_BOOLEAN = z_INT32 ∨ z_BOOLEAN = z_INT64 ∨ z_BOOLEAN = z_FLOAT ∨ z_BOOLEAN = z_DOUBLE then (1 : Int32) else 0))])) (fun t k => XS.iloadN X31.here hx rfl (hb hby at_87) rfl k) ?_
            have hc33 : (if z_BOOLEAN = z_INT32 ∨ z_BOOLEAN = z_INT64 ∨ z_BOOLEAN = z_FLOAT ∨ z_BOOLEAN = z_DOUBLE then (1 : Int32) else 0) = (0 : Int32) := by
              simp [Ne.symm P15, Ne.symm P19, Ne.symm P22, Ne.symm P24]
            refine Go.step (T' := T31) (f' := (mkF m 91 #[.val (.int ia), .val (.int ((ia &&& (2147483647 : Int32)) % (6 : Int32))), .val (.ref z_BOOLEAN), .val (.int (0 : Int32))] [])) (fun t k => XS.icmpNo X31.here hx rfl (hb hby at_88) rfl (teq hc33).2 k) ?_
            refine Go.step (T' := T31) (f' := (mkF m 92 #[.val (.int ia), .val (.int ((ia &&& (2147483647 : Int32)) % (6 : Int32))), .val (.ref z_BOOLEAN), .val (.int (0 : Int32))] [(.int (1 : Int32))])) (fun t k => XS.iconst X31.here hx rfl (hb hby at_91) k) ?_
            refine Go.step (T' := T31) (f' := (mkF m 96 #[.val (.int ia), .val (.int ((ia &&& (2147483647 : Int32)) % (6 : Int32))), .val (.ref z_BOOLEAN), .val (.int (0 : Int32))] [(.int (1 : Int32))])) (fun t k => XS.goto X31.here hx rfl (pc0 := 92) (pc' := 96) rfl (hb hby at_92) (by decide) (by decide) k) ?_
            refine Go.retZ X31 hx hlk (t := .boolean) Bd.returns (by simp) (hb hby at_96) hh31 ?_ (by decide) (by decide)
            exact ⟨rfl, N32, K0⟩
          ·
            refine Go.step (T' := s₁) (f' := (mkF m 77 #[.val (.int ia), .val (.int ((ia &&& (2147483647 : Int32)) % (6 : Int32))), .unset, .unset] [])) (fun t k => XS.icmpYes X0.here hx rfl (pc0 := 65) (pc' := 77) rfl (hb hby at_65) rfl (feq hc29).2 (by decide) (by decide) k) ?_
            obtain ⟨T34, X34, e34, st34⟩ := getS2 X0 hx hZ hown (host := "") (Or.inl (hw _ (List.mem_of_getElem? (i := 19) rfl))) Via.refl e0 (P5.ext O0.2) (g := (mkF m 77 #[.val (.int ia), .val (.int ((ia &&& (2147483647 : Int32)) % (6 : Int32))), .unset, .unset] [])) rfl (hb hby at_77)
            refine Go.step (T' := T34) (f' := (mkF m 80 #[.val (.int ia), .val (.int ((ia &&& (2147483647 : Int32)) % (6 : Int32))), .unset, .unset] [(.ref z_STRING)])) st34 ?_
            refine Go.step (T' := T34) (f' := (mkF m 81 #[.val (.int ia), .val (.int ((ia &&& (2147483647 : Int32)) % (6 : Int32))), .val (.ref z_STRING), .unset] [])) (fun t k => XS.astoreN X34.here hx rfl (hb hby at_80) rfl rfl (l' := #[.val (.int ia), .val (.int ((ia &&& (2147483647 : Int32)) % (6 : Int32))), .val (.ref z_STRING), .unset]) rfl k) ?_
            refine Go.step (T' := T34) (f' := (mkF m 82 #[.val (.int ia), .val (.int ((ia &&& (2147483647 : Int32)) % (6 : Int32))), .val (.ref z_STRING), .unset] [(.int (0 : Int32))])) (fun t k => XS.iconst X34.here hx rfl (hb hby at_81) k) ?_
            refine Go.step (T' := T34) (f' := (mkF m 83 #[.val (.int ia), .val (.int ((ia &&& (2147483647 : Int32)) % (6 : Int32))), .val (.ref z_STRING), .val (.int (0 : Int32))] [])) (fun t k => XS.istoreN X34.here hx rfl (hb hby at_82) rfl (l' := #[.val (.int ia), .val (.int ((ia &&& (2147483647 : Int32)) % (6 : Int32))), .val (.ref z_STRING), .val (.int (0 : Int32))]) rfl k) ?_
            refine Go.step (T' := T34) (f' := (mkF m 84 #[.val (.int ia), .val (.int ((ia &&& (2147483647 : Int32)) % (6 : Int32))), .val (.ref z_STRING), .val (.int (0 : Int32))] [(.ref z_STRING)])) (fun t k => XS.aloadN X34.here hx rfl (hb hby at_83) rfl rfl k) ?_
            obtain ⟨cq35, kq35, q35a, q35b, q35c⟩ := isOf hZ e34 (P11.ext O0.2)
            obtain ⟨_, _, ⟨T35, L35, k35, n35⟩, -, X35, ⟨Lc35, hQ35, l35, y35, z35⟩, st35⟩ := X34.virtualBack hx (y := (⟨"com/example/gate3/gate3/config/ValueType", "isNumber", "()Z"⟩ : MethodName)) (z := (⟨"com/example/gate3/gate3/config/ValueType", "isNumber", "()Z"⟩ : MethodName)) hown (mvT hZ (hw _ (List.mem_of_getElem? (i := 4) rfl))) (mvT hZ (hw _ (List.mem_of_getElem? (i := 5) rfl))) (notFace_of_selects (args := #[]) (mvT hZ (hw _ (List.mem_of_getElem? (i := 7) rfl)))) (mvT hZ (hw _ (List.mem_of_getElem? (i := 7) rfl))) (mvT hZ (hw _ (List.mem_of_getElem? (i := 6) rfl))) (by decide) (backOf (W := 0) (rm_ask l Z a0 hw [] z_STRING z_INT32 z_INT64 z_FLOAT z_DOUBLE h0 n0 O0 P0 P1 P2 P3) hZ (hw _ (List.mem_of_getElem? (i := 8) rfl)) (hw _ (List.mem_of_getElem? (i := 2) rfl)) (by decide) (by decide)) q35a q35c (g := (mkF m 84 #[.val (.int ia), .val (.int ((ia &&& (2147483647 : Int32)) % (6 : Int32))), .val (.ref z_STRING), .val (.int (0 : Int32))] [(.ref z_STRING)])) rfl (by rw [hml]; rfl) (Steps.refl _) (argsL := []) (rest := []) (lenOf pd0 rfl) rfl (by show 2 * 0 + _ ≤ _; exact Nat.le_of_eq rfl) (hb hby at_84) (fun _ _ => ⟨rfl, e34, (by decide : 0 + 0 ≤ _), (by decide : 0 + 0 ≤ _)⟩)
            dsimp only [Pt.U, Pt.locs, Pt.cells, Pt.slots] at X35 l35 y35 z35 st35 hQ35
            subst l35 y35 z35
            obtain ⟨rfl, Nq35, hh35⟩ := hQ35
            have N36 := Fr.app N0 Nq35
            refine Go.via (T' := T35) (f' := (mkF m 87 #[.val (.int ia), .val (.int ((ia &&& (2147483647 : Int32)) % (6 : Int32))), .val (.ref z_STRING), .val (.int (0 : Int32))] [(.int (if z_STRING = z_INT32 ∨ z_STRING = z_INT64 ∨ z_STRING = z_FLOAT ∨ z_STRING = z_DOUBLE then (1 : Int32) else 0))])) st35 ?_
            refine Go.step (T' := T35) (f' := (mkF m 88 #[.val (.int ia), .val (.int ((ia &&& (2147483647 : Int32)) % (6 : Int32))), .val (.ref z_STRING), .val (.int (0 : Int32))] [(.int (0 : Int32)), (.int (if z_STRING = z_INT32 ∨ z_STRING = z_INT64 ∨ z_STRING = z_FLOAT ∨ z_STRING = z_DOUBLE then (1 : Int32) else 0))])) (fun t k => XS.iloadN X35.here hx rfl (hb hby at_87) rfl k) ?_
            have hc37 : (if z_STRING = z_INT32 ∨ z_STRING = z_INT64 ∨ z_STRING = z_FLOAT ∨ z_STRING = z_DOUBLE then (1 : Int32) else 0) = (0 : Int32) := by
              simp [Ne.symm P16, Ne.symm P20, Ne.symm P23, Ne.symm P25]
            refine Go.step (T' := T35) (f' := (mkF m 91 #[.val (.int ia), .val (.int ((ia &&& (2147483647 : Int32)) % (6 : Int32))), .val (.ref z_STRING), .val (.int (0 : Int32))] [])) (fun t k => XS.icmpNo X35.here hx rfl (hb hby at_88) rfl (teq hc37).2 k) ?_
            refine Go.step (T' := T35) (f' := (mkF m 92 #[.val (.int ia), .val (.int ((ia &&& (2147483647 : Int32)) % (6 : Int32))), .val (.ref z_STRING), .val (.int (0 : Int32))] [(.int (1 : Int32))])) (fun t k => XS.iconst X35.here hx rfl (hb hby at_91) k) ?_
            refine Go.step (T' := T35) (f' := (mkF m 96 #[.val (.int ia), .val (.int ((ia &&& (2147483647 : Int32)) % (6 : Int32))), .val (.ref z_STRING), .val (.int (0 : Int32))] [(.int (1 : Int32))])) (fun t k => XS.goto X35.here hx rfl (pc0 := 92) (pc' := 96) rfl (hb hby at_92) (by decide) (by decide) k) ?_
            refine Go.retZ X35 hx hlk (t := .boolean) Bd.returns (by simp) (hb hby at_96) hh35 ?_ (by decide) (by decide)
            exact ⟨rfl, N36, K0⟩
set_option maxRecDepth 65536 in
set_option maxHeartbeats 40000000 in
theorem comes_1 {Post : Tables → Env → Array Value → State → Outcome → State → Prop} (hpost : ∀ tb e args s v u, (limb_1_1.after args s (.returned v) u = true ∧ limb_1_2.after args s (.returned v) u = true ∧ True) → FrameEnd s (.returned v) u (Jvm.fieldLocs frame_1_writes args s ++ Jvm.arrayLocs frame_1_arrays args s ++ Jvm.staticLocs frame_1_statics s) 0 0 → Post tb e args s (.returned v) u) :
    ArmFor flags0 classFile x code maxLocals ret World_1 tables_1 room_1 Calls_1 rest_1 Pre_1 Post := by
  intro l hfl _ _ p e ha hc hk s m args below hf hA hF happ hP
  obtain ⟨hcalls, hrest, hpre⟩ := hP
  obtain ⟨-, -, -, hnamed, -, -, -, hat⟩ := (Spec.applies_iff hf).mp happ
  obtain ⟨hg, hn⟩ := and_e (Cond.before_iff.mp (show (Jvm.Cond.and given_1 narrow_1).before args s = true from hpre))
  obtain ⟨c1, c2⟩ := and_e hg
  obtain ⟨c3, c4⟩ := and_e hn
  obtain ⟨c5, c6⟩ := and_e c4
  obtain ⟨c7, c8⟩ := and_e c6
  obtain ⟨c9, c10⟩ := and_e c8
  obtain ⟨c11, c12⟩ := and_e c10
  obtain ⟨c13, c14⟩ := and_e c12
  obtain ⟨c15, c16⟩ := and_e c14
  obtain ⟨c17, c18⟩ := and_e c16
  obtain ⟨c19, c20⟩ := and_e c18
  obtain ⟨c21, c22⟩ := and_e c20
  obtain ⟨c23, c24⟩ := and_e c22
  obtain ⟨w0, rfl⟩ : ∃ w0 : Value, args = #[w0] := by
    have hs : args.size = 1 := by simpa [Cond.value, given_1] using c1
    obtain ⟨L⟩ := args
    match L, hs with
    | [w0], _ => exact ⟨w0, rfl⟩
  have hw := fun d (hd : d ∈ tables_1) => atoms_spec (ws := Jvm.Cond.code x code maxLocals ret :: tables_1) hat d (List.mem_cons_of_mem _ hd)
  have hfit : Fit s := fun {y c} hc i hi => by
    obtain ⟨ha, rfl⟩ := Array.getElem?_eq_some_iff.mp hc
    have q := List.all_eq_true.mp ((Array.all_eq_true_iff_forall_mem.mp hF) _ (Array.getElem_mem ha)) i (List.mem_range.mpr hi)
    simpa [Array.getElem?_eq_getElem hi] using q
  obtain ⟨i0, ei0⟩ := is_v c2
  obtain rfl : w0 = (.int i0) := Option.some.inj ei0
  obtain ⟨z_INT32, ev_z_INT32⟩ := exa_v c3
  have S_z_INT32 := Sta.start ev_z_INT32 (Or.inr ⟨(hw _ (List.mem_of_getElem? (i := 2) rfl)), (hw _ (List.mem_of_getElem? (i := 3) rfl))⟩)
  have E_z_INT32 := Exa.start ev_z_INT32 c3
  obtain ⟨z_DOUBLE, ev_z_DOUBLE⟩ := exa_v c5
  have S_z_DOUBLE := Sta.start ev_z_DOUBLE (Or.inr ⟨(hw _ (List.mem_of_getElem? (i := 2) rfl)), (hw _ (List.mem_of_getElem? (i := 11) rfl))⟩)
  have E_z_DOUBLE := Exa.start ev_z_DOUBLE c5
  obtain ⟨z_INT64, ev_z_INT64⟩ := exa_v c11
  have S_z_INT64 := Sta.start ev_z_INT64 (Or.inr ⟨(hw _ (List.mem_of_getElem? (i := 2) rfl)), (hw _ (List.mem_of_getElem? (i := 13) rfl))⟩)
  have E_z_INT64 := Exa.start ev_z_INT64 c11
  obtain ⟨z_FLOAT, ev_z_FLOAT⟩ := exa_v c15
  have S_z_FLOAT := Sta.start ev_z_FLOAT (Or.inr ⟨(hw _ (List.mem_of_getElem? (i := 2) rfl)), (hw _ (List.mem_of_getElem? (i := 15) rfl))⟩)
  have E_z_FLOAT := Exa.start ev_z_FLOAT c15
  obtain ⟨z_STRING, ev_z_STRING⟩ := exa_v c19
  have S_z_STRING := Sta.start ev_z_STRING (Or.inr ⟨(hw _ (List.mem_of_getElem? (i := 2) rfl)), (hw _ (List.mem_of_getElem? (i := 20) rfl))⟩)
  have E_z_STRING := Exa.start ev_z_STRING c19
  obtain ⟨z_BOOLEAN, ev_z_BOOLEAN⟩ := exa_v c23
  have S_z_BOOLEAN := Sta.start ev_z_BOOLEAN (Or.inr ⟨(hw _ (List.mem_of_getElem? (i := 2) rfl)), (hw _ (List.mem_of_getElem? (i := 22) rfl))⟩)
  have E_z_BOOLEAN := Exa.start ev_z_BOOLEAN c23
  have F_z_DOUBLE : Fld s s.heap z_DOUBLE "java/lang/Enum" "ordinal" "I" (.int (3 : Int32)) := own_fld_start ev_z_DOUBLE c7
  have F_z_INT32 : Fld s s.heap z_INT32 "java/lang/Enum" "ordinal" "I" (.int (0 : Int32)) := own_fld_start ev_z_INT32 c9
  have F_z_INT64 : Fld s s.heap z_INT64 "java/lang/Enum" "ordinal" "I" (.int (1 : Int32)) := own_fld_start ev_z_INT64 c13
  have F_z_FLOAT : Fld s s.heap z_FLOAT "java/lang/Enum" "ordinal" "I" (.int (2 : Int32)) := own_fld_start ev_z_FLOAT c17
  have F_z_STRING : Fld s s.heap z_STRING "java/lang/Enum" "ordinal" "I" (.int (5 : Int32)) := own_fld_start ev_z_STRING c21
  have F_z_BOOLEAN : Fld s s.heap z_BOOLEAN "java/lang/Enum" "ordinal" "I" (.int (4 : Int32)) := own_fld_start ev_z_BOOLEAN c24
  obtain ⟨n, o, h1, h2, h3, _, L, rfl, ⟨rfl, N, -⟩, hq⟩ := rm_law l s _ hw tables_1 i0 z_INT32 z_INT64 z_FLOAT z_DOUBLE z_BOOLEAN z_STRING s.heap s.heap.size (Old.start s) S_z_INT32 S_z_INT64 S_z_FLOAT S_z_DOUBLE S_z_BOOLEAN S_z_STRING E_z_INT32 E_z_INT64 E_z_FLOAT E_z_DOUBLE E_z_BOOLEAN E_z_STRING (F_z_INT32.ne F_z_INT64 (by decide)) (F_z_INT32.ne F_z_FLOAT (by decide)) (F_z_INT32.ne F_z_DOUBLE (by decide)) (F_z_INT32.ne F_z_BOOLEAN (by decide)) (F_z_INT32.ne F_z_STRING (by decide)) (F_z_INT64.ne F_z_FLOAT (by decide)) (F_z_INT64.ne F_z_DOUBLE (by decide)) (F_z_INT64.ne F_z_BOOLEAN (by decide)) (F_z_INT64.ne F_z_STRING (by decide)) (F_z_FLOAT.ne F_z_DOUBLE (by decide)) (F_z_FLOAT.ne F_z_BOOLEAN (by decide)) (F_z_FLOAT.ne F_z_STRING (by decide)) (F_z_DOUBLE.ne F_z_BOOLEAN (by decide)) (F_z_DOUBLE.ne F_z_STRING (by decide)) p e ha hc hk s m _ below hf ((Spec.applies_iff_loose hf).mp happ).1 ⟨rfl, State.Warmed39.refl s, rfl⟩ trivial
  refine ⟨n, _, h1, h2, h3, hpost _ _ _ _ _ _ ⟨Cond.after_iff.mpr rfl, Cond.after_iff.mpr (eq_i res_at (Term.int_eval (1)) rfl), trivial⟩ ⟨hq.1, hq.2.1, (hq.2.2.sift fun y hy => Or.inr (N y hy)).mono (by decide) (by decide)⟩⟩
theorem main_1_1 : Claimed_1_1 := comes_1 fun _ _ _ _ _ _ h hF => ⟨h.1, hF⟩
theorem main_1_2 : Claimed_1_2 := comes_1 fun _ _ _ _ _ _ h hF => ⟨h.2.1, hF⟩
end Jvm.Pilot.@@N@@
namespace Jvm.Pilot.@@N@@
open Jvm Jvm.ClassFile Sem Op Lib Jvm.Free Jvm.Stand Jvm.Pilot.@@N@@.Jvm.D
/-! MADE BY PROGRAM (witnessworld.py) out of the Statement's table words and the real class files: 12 classes; the members and pool entries that the words name. The judged class is class 1, her method 1. -/
namespace start1
open Jvm.ClassFile
def u (s : String) : CpInfo := .utf8 (stringToUtf16 s)
/-- a pool by its gaps: so many unusable entries, then the entry; so many at the end -/
def gap : Nat → List CpInfo → List CpInfo
  | 0, r => r
  | n + 1, r => .unusable :: gap n r
def poolList (es : List (Nat × CpInfo)) (last : Nat) : List CpInfo := es.foldr (fun e r => gap e.1 (e.2 :: r)) (gap last [])
def pool (es : List (Nat × CpInfo)) (last : Nat) : Array CpInfo := ⟨poolList es last⟩
def fileOf (pool : Array CpInfo) (this : Nat) (attrs : Array Attribute := #[]) (ms : Array MethodInfo := #[]) (fl : Nat := 33) (sup : Nat := 0) (ifs : Array Nat := #[]) (fds : Array FieldInfo := #[]) : ClassFile where
  minorVersion := 0
  majorVersion := 65
  constantPool := pool
  accessFlags := fl
  thisClass := this
  superClass := sup
  interfaces := ifs
  fields := fds
  methods := ms
  attributes := attrs
def plain (name : String) (sup : Option ClassId) : Class where
  name := name
  kind := .ordinary
  loader := none
  accessFlags := 33
  super := sup
  interfaces := #[]
  cf := none
  fields := #[]
  methods := #[]
  instanceTypes := #[]
  staticTypes := #[]
  resolved := #[]
  callSites := []
  init := .initialized
  statics := none
  mirror := none

def pool0 : Array CpInfo := pool [(5, u "<init>"), (0, u "()V"), (1, .class_ 10), (1, u "java/lang/Object")] 113

def k0m0 : Method := { name := "<init>", desc := "()V", sig := { parameters := [], returnType := none }, accessFlags := 1, code := none }
/-- java/lang/Object -/
def k0 : Class := { plain "java/lang/Object" none with
  accessFlags := 33
  interfaces := #[]
  cf := some (fileOf pool0 8 #[] #[{ accessFlags := 1, nameIndex := 5, descriptorIndex := 6, attributes := #[] }] 33 0 #[] #[])
  fields := #[]
  methods := #[k0m0]
  instanceTypes := #[]
  staticTypes := #[]
  resolved := Array.replicate 124 none
  statics := none }

def pool1 : Array CpInfo := pool [(2, .class_ 4), (1, u "java/lang/Object"), (0, u "<init>"), (0, u "()V"), (0, .integer 2147483647), (0, .fieldref 9 10), (0, .class_ 11), (0, .nameAndType 12 13), (0, u "com/example/gate3/gate3/config/ValueType"), (0, u "INT32"), (0, u "Lcom/example/gate3/gate3/config/ValueType;"), (0, .fieldref 9 15), (0, .nameAndType 16 13), (0, u "INT64"), (0, .fieldref 9 18), (0, .nameAndType 19 13), (0, u "FLOAT"), (0, .fieldref 9 21), (0, .nameAndType 22 13), (0, u "DOUBLE"), (0, .fieldref 9 24), (0, .nameAndType 25 13), (0, u "BOOLEAN"), (0, .fieldref 9 27), (0, .nameAndType 28 13), (0, u "STRING"), (0, .methodref 9 30), (0, .nameAndType 31 32), (0, u "isNumber"), (0, u "()Z"), (0, .class_ 34), (0, u "com/example/gate3/gate3/config/ValueTypeIsNumberPinLaw"), (2, u "law"), (0, u "(I)Z")] 3

def k1m0 : Method := { name := "<init>", desc := "()V", sig := { parameters := [], returnType := none }, accessFlags := 1, code := none }
def k1c1 : Code := { maxStack := 2, maxLocals := 4, code := code, exceptionTable := #[], attributes := #[] }
def k1m1 : Method := { name := "law", desc := "(I)Z", sig := { parameters := [.int], returnType := some .boolean }, accessFlags := 9, code := some k1c1 }
/-- com/example/gate3/gate3/config/ValueTypeIsNumberPinLaw -/
def k1 : Class := { plain "com/example/gate3/gate3/config/ValueTypeIsNumberPinLaw" (some 0) with
  accessFlags := 49
  interfaces := #[]
  cf := some (fileOf pool1 33 #[] #[{ accessFlags := 1, nameIndex := 5, descriptorIndex := 6, attributes := #[] }, { accessFlags := 9, nameIndex := 37, descriptorIndex := 38, attributes := #[] }] 49 2 #[] #[])
  fields := #[]
  methods := #[k1m0, k1m1]
  instanceTypes := #[]
  staticTypes := #[]
  resolved := Array.replicate 42 none
  statics := none }

def pool2 : Array CpInfo := pool [(1, .class_ 2), (0, u "java/lang/constant/Constable"), (0, .class_ 4), (0, u "java/lang/Object")] 6

/-- java/lang/constant/Constable -/
def k2 : Class := { plain "java/lang/constant/Constable" (some 0) with
  accessFlags := 1537
  interfaces := #[]
  cf := some (fileOf pool2 1 #[] #[] 1537 3 #[] #[])
  fields := #[]
  methods := #[]
  instanceTypes := #[]
  staticTypes := #[]
  resolved := Array.replicate 11 none
  statics := none }

def pool3 : Array CpInfo := pool [(1, .class_ 2), (0, u "java/lang/Comparable"), (0, .class_ 4), (0, u "java/lang/Object")] 7

/-- java/lang/Comparable -/
def k3 : Class := { plain "java/lang/Comparable" (some 0) with
  accessFlags := 1537
  interfaces := #[]
  cf := some (fileOf pool3 1 #[] #[] 1537 3 #[] #[])
  fields := #[]
  methods := #[]
  instanceTypes := #[]
  staticTypes := #[]
  resolved := Array.replicate 12 none
  statics := none }

def pool4 : Array CpInfo := pool [(1, .class_ 2), (0, u "java/io/Serializable"), (0, .class_ 4), (0, u "java/lang/Object")] 2

/-- java/io/Serializable -/
def k4 : Class := { plain "java/io/Serializable" (some 0) with
  accessFlags := 1537
  interfaces := #[]
  cf := some (fileOf pool4 1 #[] #[] 1537 3 #[] #[])
  fields := #[]
  methods := #[]
  instanceTypes := #[]
  staticTypes := #[]
  resolved := Array.replicate 7 none
  statics := none }

def pool5 : Array CpInfo := pool [(2, .class_ 4), (1, u "java/lang/Enum"), (0, u "name"), (0, u "Ljava/lang/String;"), (2, u "ordinal"), (0, u "I"), (1, .class_ 14), (1, u "java/lang/Object"), (4, u "hash"), (86, .class_ 108), (1, u "java/lang/Enum$EnumDesc"), (2, .class_ 112), (0, u "java/lang/constant/Constable"), (0, .class_ 114), (0, u "java/lang/Comparable"), (0, .class_ 116), (0, u "java/io/Serializable")] 87

/-- java/lang/Enum -/
def k5 : Class := { plain "java/lang/Enum" (some 0) with
  accessFlags := 1057
  interfaces := #[2, 3, 4]
  cf := some (fileOf pool5 2 #[.nestMembers #[106]] #[] 1057 12 #[111, 113, 115] #[{ accessFlags := 18, nameIndex := 5, descriptorIndex := 6, attributes := #[] }, { accessFlags := 18, nameIndex := 9, descriptorIndex := 10, attributes := #[] }, { accessFlags := 2, nameIndex := 19, descriptorIndex := 10, attributes := #[] }])
  fields := #[{ name := "name", type := (.object "java/lang/String"), accessFlags := 18, slot := 0, constantValue := 0 }, { name := "ordinal", type := .int, accessFlags := 18, slot := 1, constantValue := 0 }, { name := "hash", type := .int, accessFlags := 2, slot := 2, constantValue := 0 }]
  methods := #[]
  instanceTypes := #[(.object "java/lang/String"), .int, .int]
  staticTypes := #[]
  resolved := Array.replicate 204 none
  statics := none }

def pool6 : Array CpInfo := pool [(1, .class_ 2), (0, u "com/example/gate3/gate3/config/ValueType"), (0, .fieldref 1 4), (0, .nameAndType 5 6), (0, u "INT32"), (0, u "Lcom/example/gate3/gate3/config/ValueType;"), (0, .fieldref 1 8), (0, .nameAndType 9 6), (0, u "INT64"), (0, .fieldref 1 11), (0, .nameAndType 12 6), (0, u "FLOAT"), (0, .fieldref 1 14), (0, .nameAndType 15 6), (0, u "DOUBLE"), (2, u "BOOLEAN"), (2, u "STRING"), (2, u "$VALUES"), (0, u "[Lcom/example/gate3/gate3/config/ValueType;"), (6, .class_ 34), (1, u "java/lang/Enum"), (8, u "description"), (0, u "Ljava/lang/String;"), (11, u "WHOLE"), (0, u "Ljava/util/regex/Pattern;"), (25, u "DECIMAL"), (46, u "()Z"), (74, u "isNumber")] 9

def k6c0 : Code := { maxStack := 2, maxLocals := 1, code := prog_31_method_5_code, exceptionTable := #[], attributes := #[] }
def k6m0 : Method := { name := "isNumber", desc := "()Z", sig := { parameters := [], returnType := some .boolean }, accessFlags := 0, code := some k6c0 }
/-- com/example/gate3/gate3/config/ValueType -/
def k6 : Class := { plain "com/example/gate3/gate3/config/ValueType" (some 5) with
  accessFlags := 16433
  interfaces := #[]
  cf := some (fileOf pool6 1 #[] #[{ accessFlags := 0, nameIndex := 205, descriptorIndex := 130, attributes := #[] }] 16433 32 #[] #[{ accessFlags := 16409, nameIndex := 5, descriptorIndex := 6, attributes := #[] }, { accessFlags := 16409, nameIndex := 9, descriptorIndex := 6, attributes := #[] }, { accessFlags := 16409, nameIndex := 12, descriptorIndex := 6, attributes := #[] }, { accessFlags := 16409, nameIndex := 15, descriptorIndex := 6, attributes := #[] }, { accessFlags := 16409, nameIndex := 18, descriptorIndex := 6, attributes := #[] }, { accessFlags := 16409, nameIndex := 21, descriptorIndex := 6, attributes := #[] }, { accessFlags := 26, nameIndex := 56, descriptorIndex := 57, attributes := #[] }, { accessFlags := 26, nameIndex := 83, descriptorIndex := 57, attributes := #[] }, { accessFlags := 18, nameIndex := 43, descriptorIndex := 44, attributes := #[] }, { accessFlags := 4122, nameIndex := 24, descriptorIndex := 25, attributes := #[] }])
  fields := #[{ name := "INT32", type := (.object "com/example/gate3/gate3/config/ValueType"), accessFlags := 16409, slot := 0, constantValue := 0 }, { name := "INT64", type := (.object "com/example/gate3/gate3/config/ValueType"), accessFlags := 16409, slot := 1, constantValue := 0 }, { name := "FLOAT", type := (.object "com/example/gate3/gate3/config/ValueType"), accessFlags := 16409, slot := 2, constantValue := 0 }, { name := "DOUBLE", type := (.object "com/example/gate3/gate3/config/ValueType"), accessFlags := 16409, slot := 3, constantValue := 0 }, { name := "BOOLEAN", type := (.object "com/example/gate3/gate3/config/ValueType"), accessFlags := 16409, slot := 4, constantValue := 0 }, { name := "STRING", type := (.object "com/example/gate3/gate3/config/ValueType"), accessFlags := 16409, slot := 5, constantValue := 0 }, { name := "WHOLE", type := (.object "java/util/regex/Pattern"), accessFlags := 26, slot := 6, constantValue := 0 }, { name := "DECIMAL", type := (.object "java/util/regex/Pattern"), accessFlags := 26, slot := 7, constantValue := 0 }, { name := "description", type := (.object "java/lang/String"), accessFlags := 18, slot := 3, constantValue := 0 }, { name := "$VALUES", type := (.array (.object "com/example/gate3/gate3/config/ValueType")), accessFlags := 4122, slot := 8, constantValue := 0 }]
  methods := #[k6m0]
  instanceTypes := #[(.object "java/lang/String"), .int, .int, (.object "java/lang/String")]
  staticTypes := #[(.object "com/example/gate3/gate3/config/ValueType"), (.object "com/example/gate3/gate3/config/ValueType"), (.object "com/example/gate3/gate3/config/ValueType"), (.object "com/example/gate3/gate3/config/ValueType"), (.object "com/example/gate3/gate3/config/ValueType"), (.object "com/example/gate3/gate3/config/ValueType"), (.object "java/util/regex/Pattern"), (.object "java/util/regex/Pattern"), (.array (.object "com/example/gate3/gate3/config/ValueType"))]
  resolved := Array.replicate 215 none
  statics := some 0 }

def pool7 : Array CpInfo := pool [(1, u "java/lang/Cloneable"), (0, .class_ 1), (0, u "java/lang/Object"), (0, .class_ 3)] 3

/-- java/lang/Cloneable -/
def k7 : Class := { plain "java/lang/Cloneable" (some 0) with
  accessFlags := 1537
  interfaces := #[]
  cf := some (fileOf pool7 2 #[] #[] 1537 4 #[] #[])
  fields := #[]
  methods := #[]
  instanceTypes := #[]
  staticTypes := #[]
  resolved := Array.replicate 8 none
  statics := none }

/-- the primitive byte -/
def k8 : Class := { plain "byte" none with kind := .primitive 'B', accessFlags := 0x411 }
/-- [B -/
def k9 : Class := { plain "[B" (some 0) with kind := .array 8 .byte, interfaces := #[7, 4], accessFlags := 1041 }

/-- the primitive int -/
def k10 : Class := { plain "int" none with kind := .primitive 'I', accessFlags := 0x411 }
/-- [I -/
def k11 : Class := { plain "[I" (some 0) with kind := .array 10 .int, interfaces := #[7, 4], accessFlags := 1041 }

def heap : Heap := #[{ cls := 6, slots := #[.ref 1, .ref 3, .ref 4, .ref 2, .ref 6, .ref 5, .null, .null, .null], vm := .statics 6 },
  { cls := 6, slots := #[.null, .int 0, .int 0, .null], vm := .none },
  { cls := 6, slots := #[.null, .int 3, .int 0, .null], vm := .none },
  { cls := 6, slots := #[.null, .int 1, .int 0, .null], vm := .none },
  { cls := 6, slots := #[.null, .int 2, .int 0, .null], vm := .none },
  { cls := 6, slots := #[.null, .int 5, .int 0, .null], vm := .none },
  { cls := 6, slots := #[.null, .int 4, .int 0, .null], vm := .none }]
def classes : Array Class := #[k0, k1, k2, k3, k4, k5, k6, k7, k8, k9, k10, k11]
def interned : List (Array UInt16 × Addr) := []
def slotsUsed : Nat := 33
def theMethod : MethodId := ⟨1, 1⟩
def args0 : Array Value := #[.int 5]
def aboutOver (below : List Frame) : State where
  vm := { classes := classes, interned := interned.toArray }
  heap := heap
  slotsUsed := slotsUsed
  threads := #[{ frames := .invoking theMethod args0 :: below }]
def below0 : List Frame := [.native { method := ⟨0, 0⟩, args := #[] }]
def about1 : State := aboutOver below0
def p0 : Program := .bare "" "" ""
def e0 : Env := launch0.env 0 0 0
theorem w_frames : about1.frames = Frame.invoking theMethod args0 :: below0 := rfl
set_option maxRecDepth 65536 in
theorem w_args : argsFit about1.vm theMethod args0 = true := by decide +kernel
set_option maxRecDepth 65536 in
theorem w_heap : heapFits about1 = true := by decide +kernel
set_option maxRecDepth 65536 in
theorem w_runnable : about1.curStatus? = some .runnable := by decide +kernel
set_option maxRecDepth 65536 in
theorem w_alone : about1.alone = true := by decide +kernel
set_option maxRecDepth 65536 in
theorem w_named : about1.methodNamed? x = some theMethod := by decide +kernel
set_option maxRecDepth 65536 in
theorem w_hears : about1.hears theMethod below0 = true := by decide +kernel
set_option maxRecDepth 65536 in
theorem w_ripe : about1.ripe theMethod args0 below0 = true := by decide +kernel
theorem w_running : about1.status = .running := rfl
set_option maxRecDepth 65536 in
theorem w_room : about1.hasRoom e0.platform room_1 = true :=
  launch0.hasRoom_least _ room_1 (by decide +kernel) (by decide +kernel) (by decide +kernel) (by decide +kernel) (by decide +kernel) (by decide +kernel)
theorem allAtoms_all (ts : List Jvm.Cond) (a : Array Jvm.Value) (st : Jvm.State) : (allAtoms ts).before a st = ts.all (fun c => c.before a st) := by
  induction ts with
  | nil => rfl
  | cons c t ih =>
    show (Jvm.Cond.and c (allAtoms t)).before a st = _
    rw [Jvm.Cond.before_and, ih, List.all_cons]
def words1 : List Jvm.Cond := Jvm.Cond.code x code maxLocals ret :: tables_1
/-- a 'code' word, met by the world's own term for the bytes: nothing is compared byte by byte -/
theorem code_word {y : MethodName} {bytes : ByteArray} {mx : Nat} {rt : Option FieldType} {a : Array Value} {s : State} {m : MethodId} {meth : Method} {c : Code} (h1 : s.methodNamed? y = some m) (h2 : s.vm.method? m = some meth) (h3 : meth.code = some c) (h4 : c.code = bytes)
    (h5 : (c.maxLocals == mx && c.exceptionTable.isEmpty && decide (c.maxStack ≤ mostOperands) && decide (meth.sig.returnType = rt) && !meth.locks && decide (parseMethodDescriptor y.desc = some meth.sig)) = true) : (Jvm.Cond.code y bytes mx rt).before a s = true := by
  simp only [Bool.and_eq_true, beq_iff_eq, Bool.not_eq_true', decide_eq_true_eq] at h5
  obtain ⟨⟨⟨⟨⟨g1, g2⟩, g3⟩, g4⟩, g5⟩, g6⟩ := h5
  simp [Cond.before, Cond.holds, Cond.value, h1, h2, h3, h4, g1, g2, g3, g4, g5, g6]
def isCode : Jvm.Cond → Bool
  | .code _ _ _ _ => true
  | _ => false
theorem all_split {L : List Jvm.Cond} {P : Jvm.Cond → Bool} (h1 : L.all (fun c => isCode c || P c) = true) (h2 : ∀ c ∈ L.filter isCode, P c = true) : L.all P = true := by
  refine List.all_eq_true.mpr fun c hc => ?_
  have h := List.all_eq_true.mp h1 c hc
  rcases Bool.eq_false_or_eq_true (isCode c) with hi | hi
  · exact h2 c (List.mem_filter.mpr ⟨hc, hi⟩)
  · simpa [hi] using h
set_option maxRecDepth 65536 in
theorem w_c0 : (Jvm.Cond.code x code maxLocals ret).before args0 about1 = true := code_word (m := ⟨1, 1⟩) (meth := k1m1) (c := k1c1) (by decide +kernel) rfl rfl rfl (by decide +kernel)
set_option maxRecDepth 65536 in
theorem w_c1 : (Jvm.Cond.code ({ cls := "com/example/gate3/gate3/config/ValueType", name := "isNumber", desc := "()Z" } : Jvm.MethodName) prog_31_method_5_code (1 : Nat) (Option.some Jvm.ClassFile.FieldType.boolean)).before args0 about1 = true := code_word (m := ⟨6, 0⟩) (meth := k6m0) (c := k6c0) (by decide +kernel) rfl rfl rfl (by decide +kernel)
def codes1 : List Jvm.Cond := [Jvm.Cond.code x code maxLocals ret, Jvm.Cond.code ({ cls := "com/example/gate3/gate3/config/ValueType", name := "isNumber", desc := "()Z" } : Jvm.MethodName) prog_31_method_5_code (1 : Nat) (Option.some Jvm.ClassFile.FieldType.boolean)]
set_option maxRecDepth 65536 in
theorem codes_eq : words1.filter isCode = codes1 := rfl
theorem w_codes : ∀ c ∈ words1.filter isCode, c.before args0 about1 = true := by
  rw [codes_eq]
  intro c hc
  simp only [codes1, List.mem_cons, List.not_mem_nil, or_false] at hc
  rcases hc with rfl | rfl
  · exact w_c0
  · exact w_c1
set_option maxRecDepth 65536 in
theorem w_t1 : words1.all (fun c => isCode c || c.before args0 about1) = true := by decide +kernel
theorem w_tables : (allAtoms (Jvm.Cond.code x code maxLocals ret :: tables_1)).before args0 about1 = true := by
  rw [allAtoms_all]
  show words1.all (fun c => c.before args0 about1) = true
  refine all_split ?_ w_codes
  rw [w_t1]
set_option maxRecDepth 65536 in
theorem w_case : (Jvm.Cond.and given_1 narrow_1).before args0 about1 = true := by decide +kernel
theorem w_applies : (headSpec (Jvm.Cond.code x code maxLocals ret :: tables_1) room_1).applies x e0.platform about1 = true :=
  (Spec.applies_iff w_frames).mpr ⟨w_running, w_runnable, w_alone, w_named, w_hears, w_ripe, w_room, w_tables⟩
theorem atStart : AtStart classFile x code maxLocals ret World_1 tables_1 room_1 Calls_1 rest_1 Pre_1 launch0 p0 e0 about1 theMethod args0 below0 :=
  ⟨lists_1, trivial, launch0.admits_env _ _ _, launch0.least_env, fairChoices_fair.cas, fairChoices_fair.clock, w_frames, w_args, w_heap, w_applies, trivial, trivial, w_case⟩
end start1
theorem witness_1 : WitnessClaimed_1 := ⟨start1.p0, start1.e0, start1.about1, start1.theMethod, start1.args0, start1.below0, start1.atStart⟩
end Jvm.Pilot.@@N@@
