import JvmDerived
import JvmDerived.Pilot.@@N@@Statement
import JvmDerived.Pilot.@@N@@Code
set_option linter.unusedVariables false
set_option linter.unusedSimpArgs false
namespace Jvm.RoadKit
open Sem ClassFile Op Lib Jvm.Stand Jvm.Free Jvm.LawKit
section New
variable {p : Program} {l : Launch} {e : Env} {R : Room} {s : State} {m : MethodId} {args : Array Value} {below : List Frame} {meth : Method} {c : Code} {T : State} {locs : List Loc} {cells slots : Nat}
theorem retI (X : Stand p l e R s m args below meth c T locs cells slots) (hx : p.tables.exec = Jvm.exec) {pc : Nat} {Ls : Array Slot} {z : Int32} {rest : List Value} (hret : meth.sig.returnType = some .int) (hd : decode c.code pc = .ok (.ireturn, 1)) {fs : List Frame}
    (hl : ∀ (f : JFrame) (acts : List Action), f.method = m → f.locked = none → f.entered = [] → (doReturn e (T.setTop f) acts (some (.int z))).1 = T.setFrames fs) : Steps p.tables e below (T.setTop (mkF m pc Ls (.int z :: rest))) (T.setFrames fs) := by
  have hm' : T.vm.method? m = some meth := X.method'
  have hn : narrow .int (.int z) = .int z := rfl
  show Steps p.tables e below (T.setTop { method := m, pc := pc, locals := Ls, stack := _ :: rest, locked := none }) _
  jvm_step X.here [X.here.top, hx, hd, hm', hret, hn]
  first | (intro acts; rw [hl _ acts rfl rfl rfl]) | rw [hl _ _ rfl rfl rfl]
  exact Steps.refl _
end New
end Jvm.RoadKit
namespace Jvm.Pilot.@@N@@
open Jvm Jvm.ClassFile Sem Op Lib Jvm.Free Jvm.Stand Jvm.LawKit Jvm.RoadKit Bundle Jvm.Pilot.@@N@@.Jvm.D
section Own
variable {p : Program} {l : Launch} {e : Env} {R : Room} {s : State} {m : MethodId} {args : Array Value} {below : List Frame} {meth : Method} {c : Code} {T T' : State} {locs : List Loc} {cells slots : Nat} {f f' : JFrame} {Q : Option Value → Heap → List Loc → Prop} {ck sk : Nat} {h : Heap} {Z : State}
/-- from here the run comes to its end, and leaves what Q says -/
def Go (p : Program) (e : Env) (below : List Frame) (s : State) (Q : Option Value → Heap → List Loc → Prop) (ck sk : Nat) (T : State) (f : JFrame) : Prop :=
  ∃ s₂ o, Steps p.tables e below (T.setTop f) s₂ ∧ s₂.status = .running ∧ Ended s₂ below o ∧ ∃ v L, o = .returned v ∧ Q v s₂.heap L ∧ FrameEnd s o s₂ L ck sk
theorem Go.step (st : ∀ t, Steps p.tables e below (T'.setTop f') t → Steps p.tables e below (T.setTop f) t) (k : Go p e below s Q ck sk T' f') : Go p e below s Q ck sk T f := by
  obtain ⟨s₂, o, h1, r⟩ := k; exact ⟨s₂, o, st _ h1, r⟩
theorem Go.via (st : Steps p.tables e below (T.setTop f) (T'.setTop f')) (k : Go p e below s Q ck sk T' f') : Go p e below s Q ck sk T f := by
  obtain ⟨s₂, o, h1, r⟩ := k; exact ⟨s₂, o, st.trans h1, r⟩
theorem Go.retI (X : Stand p l e R s m args below meth c T locs cells slots) (hx : p.tables.exec = Jvm.exec) (hlk : meth.locks = false) {pc : Nat} {Ls : Array Slot} {z : Int32} {rest : List Value} (hret : meth.sig.returnType = some .int) (hd : decode c.code pc = .ok (.ireturn, 1)) (eT : T.heap = h) (hq : Q (some (.int z)) h locs) (hck : cells ≤ ck) (hsk : slots ≤ sk) : Go p e below s Q ck sk T (mkF m pc Ls (.int z :: rest)) := by
  subst eT
  obtain ⟨fs, hr, hrun, hended, hW, hsame⟩ := X.leave (v := some (.int z)) (fun h => by rw [hret] at h; cases h) hlk
  exact ⟨_, _, Jvm.RoadKit.retI X hx hret hd hr, hrun, hended, _, _, rfl, hq, ⟨_, rfl⟩, hW, hsame.mono hck hsk⟩
theorem Go.retZ (X : Stand p l e R s m args below meth c T locs cells slots) (hx : p.tables.exec = Jvm.exec) (hlk : meth.locks = false) {pc : Nat} {Ls : Array Slot} {z : Int32} {rest : List Value} {t : FieldType} (hret : meth.sig.returnType = some t) (ht : t = .boolean ∨ t = .byte ∨ t = .char ∨ t = .short) (hd : decode c.code pc = .ok (.ireturn, 1)) (eT : T.heap = h) (hq : Q (some (.int (nar t z))) h locs) (hck : cells ≤ ck) (hsk : slots ≤ sk) : Go p e below s Q ck sk T (mkF m pc Ls (.int z :: rest)) := by
  subst eT
  obtain ⟨fs, hr, hrun, hended, hW, hsame⟩ := X.leave (v := some (.int (nar t z))) (fun h => by rw [hret] at h; cases h) hlk
  exact ⟨_, _, retN X hx hret ht hd hr, hrun, hended, _, _, rfl, hq, ⟨_, rfl⟩, hW, hsame.mono hck hsk⟩
theorem Go.retV (X : Stand p l e R s m args below meth c T locs cells slots) (hx : p.tables.exec = Jvm.exec) (hlk : meth.locks = false) {pc : Nat} {Ls : Array Slot} (hret : meth.sig.returnType = none) (hd : decode c.code pc = .ok (.return_, 1)) (eT : T.heap = h) (hq : Q none h locs) (hck : cells ≤ ck) (hsk : slots ≤ sk) : Go p e below s Q ck sk T (mkF m pc Ls []) := by
  subst eT
  obtain ⟨fs, hr, hrun, hended, hW, hsame⟩ := X.leave (v := none) (fun _ => rfl) hlk
  exact ⟨_, _, X.returnOut hx hret hd hr, hrun, hended, _, _, rfl, hq, ⟨_, rfl⟩, hW, hsame.mono hck hsk⟩
theorem Go.retJ (X : Stand p l e R s m args below meth c T locs cells slots) (hx : p.tables.exec = Jvm.exec) (hlk : meth.locks = false) {pc : Nat} {Ls : Array Slot} {z : Int64} {rest : List Value} (hret : meth.sig.returnType = some .long) (hd : decode c.code pc = .ok (.lreturn, 1)) (eT : T.heap = h) (hq : Q (some (.long z)) h locs) (hck : cells ≤ ck) (hsk : slots ≤ sk) : Go p e below s Q ck sk T (mkF m pc Ls (.long z :: rest)) := by
  subst eT
  obtain ⟨fs, hr, hrun, hended, hW, hsame⟩ := X.leave (v := some (.long z)) (fun h => by rw [hret] at h; cases h) hlk
  exact ⟨_, _, retOut X hx hret rfl (Or.inr (Or.inl ⟨rfl, rfl, _, rfl⟩)) hd hr, hrun, hended, _, _, rfl, hq, ⟨_, rfl⟩, hW, hsame.mono hck hsk⟩
theorem own_nar_ref {t : FieldType} {w : Value} (h1 : t.isReference = true) (h2 : w.isRef = true) : narrow t w = w := by
  cases t <;> first | (cases h1; done) | (cases w <;> first | rfl | (cases h2; done))
theorem Go.retA (X : Stand p l e R s m args below meth c T locs cells slots) (hx : p.tables.exec = Jvm.exec) (hlk : meth.locks = false) {pc : Nat} {Ls : Array Slot} {w : Value} {rest : List Value} {t : FieldType} (hret : meth.sig.returnType = some t) (ht : t.isReference = true) (hw : w.isRef = true) (hd : decode c.code pc = .ok (.areturn, 1)) (eT : T.heap = h) (hq : Q (some w) h locs) (hck : cells ≤ ck) (hsk : slots ≤ sk) : Go p e below s Q ck sk T (mkF m pc Ls (w :: rest)) := by
  subst eT
  obtain ⟨fs, hr, hrun, hended, hW, hsame⟩ := X.leave (v := some w) (fun h => by rw [hret] at h; cases h) hlk
  exact ⟨_, _, retOut X hx hret (own_nar_ref ht hw) (Or.inr (Or.inr (Or.inr (Or.inr ⟨rfl, ht, hw⟩)))) hd hr, hrun, hended, _, _, rfl, hq, ⟨_, rfl⟩, hW, hsame.mono hck hsk⟩
theorem own_old_le {n0 : Nat} (o : Old Z n0 h) : n0 ≤ h.size := o.1 ▸ o.2.1
theorem own_alen (X : Stand p l e R s m args below meth c T locs cells slots) (hx : p.tables.exec = Jvm.exec) (hZ : Z.Warmed39 s.vm) (eT : T.heap = h) {a : Addr} {cl : Cell} {ty : FieldType} (A : Arr Z h a cl ty) {z : Int32} (S : cl.slots.size = z.toNatClampNeg) (N : ¬ z < 0) {g : JFrame} (hg : g.method = m) {rest : List Value} (hs : g.stack = .ref a :: rest) (hd : decode c.code g.pc = .ok (.arraylength, 1)) {t : State}
    (k : Steps p.tables e below (T.setTop { g with pc := g.pc + 1, stack := .int z :: rest }) t) : Steps p.tables e below (T.setTop g) t :=
  X.arraylength hx (by rw [eT]; exact A.1) (State.isArrayOf_alike hZ.alike A.2.1) hg hs hd _ (by rw [len_of S N]; exact k)
theorem own_fld_start {args : Array Value} {s : State} {t : Term} {a : Addr} {C n d : String} {k : Int32} (ev : t.eval args s none [] s = some (.ref a)) (h : (Jvm.Cond.eq (.field t C n d) (.int k)).value args s none s [] = some true) : Fld s s.heap a C n d (.int k) := by
  refine Fld.start ?_
  rw [← fld_at ev]
  obtain ⟨x, y, h1, h2, h3, h4⟩ := cmp_v (Or.inl h)
  have h2' : (Value.int k) = y := Option.some.inj h2
  subst h2'
  obtain ⟨z, rfl⟩ := h4
  have q := gotT (Jvm.Cond.eq_ints h1 h2) h
  rw [h1, q]
theorem own_nar8 (z : Int32) : z.toInt8.toInt32.toInt8.toInt32 = z.toInt8.toInt32 := by simp
end Own
theorem d1_0 : decode prog_19_method_4_code 0 = .ok (.aload_n 0, 1) := by decide +kernel
theorem d1_1 : decode prog_19_method_4_code 1 = .ok (.getstatic 3, 3) := by decide +kernel
theorem d1_4 : decode prog_19_method_4_code 4 = .ok (.if_acmp .eq 17, 3) := by decide +kernel
theorem d1_7 : decode prog_19_method_4_code 7 = .ok (.aload_n 0, 1) := by decide +kernel
theorem d1_8 : decode prog_19_method_4_code 8 = .ok (.getstatic 19, 3) := by decide +kernel
theorem d1_11 : decode prog_19_method_4_code 11 = .ok (.if_acmp .eq 10, 3) := by decide +kernel
theorem d1_14 : decode prog_19_method_4_code 14 = .ok (.aload_n 0, 1) := by decide +kernel
theorem d1_15 : decode prog_19_method_4_code 15 = .ok (.getstatic 22, 3) := by decide +kernel
theorem d1_18 : decode prog_19_method_4_code 18 = .ok (.if_acmp .ne 7, 3) := by decide +kernel
theorem d1_21 : decode prog_19_method_4_code 21 = .ok (.iconst 1, 1) := by decide +kernel
theorem d1_22 : decode prog_19_method_4_code 22 = .ok (.goto 4, 3) := by decide +kernel
theorem d1_25 : decode prog_19_method_4_code 25 = .ok (.iconst 0, 1) := by decide +kernel
theorem d1_26 : decode prog_19_method_4_code 26 = .ok (.ireturn, 1) := by decide +kernel
theorem pn_com_example_gate3_gate3_config_HttpMethod : plainName "com/example/gate3/gate3/config/HttpMethod" = true := by first | (simp [plainName, overriddenIn]; done) | decide +kernel
theorem ef_ask (m : MethodId) (ba : Addr) : entryFrame m #[(.ref ba)] 1 = mkF m 0 #[.val (.ref ba)] [] := by first | (simp [entryFrame, mkF, argsToLocals, Value.category]; done) | rfl
def Q_ask (Z : State) (ba : Addr) (z_GET : Addr) (z_HEAD : Addr) (z_OPTIONS : Addr) (h0 : Heap) (n0 : Nat) (v : Option Value) (h : Heap) (L : List Loc) : Prop := v = some (.int (if ba = z_GET ∨ ba = z_HEAD ∨ ba = z_OPTIONS then (1 : Int32) else 0)) ∧ Fr n0 L ∧ h = h0
set_option maxRecDepth 65536 in
set_option maxHeartbeats 40000000 in
theorem rm_ask (l : Launch) (Z : State) (a0 : Array Value) (hw : ∀ d ∈ tables_1, d.before a0 Z = true) (ws : List Jvm.Cond) (ba : Addr) (z_GET : Addr) (z_HEAD : Addr) (z_OPTIONS : Addr) (h0 : Heap) (n0 : Nat) (O0 : Old Z n0 h0) (P0 : Sta Z Z.heap "com/example/gate3/gate3/config/HttpMethod" "GET" "Lcom/example/gate3/gate3/config/HttpMethod;" (.ref z_GET)) (P1 : Sta Z Z.heap "com/example/gate3/gate3/config/HttpMethod" "HEAD" "Lcom/example/gate3/gate3/config/HttpMethod;" (.ref z_HEAD)) (P2 : Sta Z Z.heap "com/example/gate3/gate3/config/HttpMethod" "OPTIONS" "Lcom/example/gate3/gate3/config/HttpMethod;" (.ref z_OPTIONS)) :
    MetFree l (⟨"com/example/gate3/gate3/config/HttpMethod", "isSafe", "()Z"⟩ : MethodName) (head1 (Jvm.Cond.code (⟨"com/example/gate3/gate3/config/HttpMethod", "isSafe", "()Z"⟩ : MethodName) prog_19_method_4_code 1 (some .boolean) :: ws) ({ frames := 0, cells := 0, slots := 0, locals := 0 } : Room)) (fun a U => a = #[(.ref ba)] ∧ Z.Warmed39 U.vm ∧ U.heap = h0) (fun _ _ _ _ _ => True) (fun _ U o U' => ∃ v L, o = .returned v ∧ Q_ask Z ba z_GET z_HEAD z_OPTIONS h0 n0 v U'.heap L ∧ FrameEnd U o U' L ({ frames := 0, cells := 0, slots := 0, locals := 0 } : Room).cells ({ frames := 0, cells := 0, slots := 0, locals := 0 } : Room).slots) := by
  refine MetFree.of_bodySF (plainFor_of_name pn_com_example_gate3_gate3_config_HttpMethod) hisR ?_
  intro p e s m args below meth c s₁ Bd hml0 hP hK
  obtain ⟨rfl, hZ, hh⟩ := hP
  have hx := Bd.exec
  have hby := Bd.bytes
  have hml : c.maxLocals = 1 := hml0
  have hown : s.vm.findClass "com/example/gate3/gate3/config/HttpMethod" = some m.cls := findClass_of_methodNamed Bd.named
  have hnm := (name_of_methodNamed Bd.named Bd.method).1
  have hlk : meth.locks = false := BodyLoose.notSynchronized Bd
  have X0 : Stand p l e ({ frames := 0, cells := 0, slots := 0, locals := 0 } : Room) s m #[(.ref ba)] below meth c s₁ [] 0 0 := Stand.of_body Bd
  have e0 : s₁.heap = h0 := by rw [← hh, Bd.state]; rfl
  have N0 := Fr.nil n0
  rw [ef_ask m ba]
  show Go p e below s (fun v h L => Q_ask Z ba z_GET z_HEAD z_OPTIONS h0 n0 v h L) ({ frames := 0, cells := 0, slots := 0, locals := 0 } : Room).cells ({ frames := 0, cells := 0, slots := 0, locals := 0 } : Room).slots s₁ (mkF m 0 #[.val (.ref ba)] [])
  refine Go.step (T' := s₁) (f' := (mkF m 1 #[.val (.ref ba)] [(.ref ba)])) (fun t k => XS.aloadN X0.here hx rfl (hb hby d1_0) rfl rfl k) ?_
  obtain ⟨T1, X1, e1, st1⟩ := getS2 X0 hx hZ hown (host := "") (Or.inl (hw _ (List.mem_of_getElem? (i := 9) rfl))) Via.refl e0 (P0.ext O0.2) (g := (mkF m 1 #[.val (.ref ba)] [(.ref ba)])) rfl (hb hby d1_1)
  refine Go.step (T' := T1) (f' := (mkF m 4 #[.val (.ref ba)] [(.ref z_GET), (.ref ba)])) st1 ?_
  by_cases ha2 : ba = z_GET
  ·
    refine Go.step (T' := T1) (f' := (mkF m 21 #[.val (.ref ba)] [])) (fun t k => Jvm.RoadKit.acmp (g := (mkF m 4 #[.val (.ref ba)] [(.ref z_GET), (.ref ba)])) X1 hx rfl rfl rfl (pc0 := 4) (pc' := 21) (same := true) rfl (hb hby d1_4) rfl (decide_eq_true (congrArg Value.ref ha2)) (by decide) (by decide) k) ?_
    refine Go.step (T' := T1) (f' := (mkF m 22 #[.val (.ref ba)] [(.int (1 : Int32))])) (fun t k => XS.iconst X1.here hx rfl (hb hby d1_21) k) ?_
    refine Go.step (T' := T1) (f' := (mkF m 26 #[.val (.ref ba)] [(.int (1 : Int32))])) (fun t k => XS.goto X1.here hx rfl (pc0 := 22) (pc' := 26) rfl (hb hby d1_22) (by decide) (by decide) k) ?_
    refine Go.retZ X1 hx hlk (t := .boolean) Bd.returns (by simp) (hb hby d1_26) e1 ?_ (by decide) (by decide)
    exact ⟨by simp_all [nar], N0, rfl⟩
  ·
    refine Go.step (T' := T1) (f' := (mkF m 7 #[.val (.ref ba)] [])) (fun t k => Jvm.RoadKit.acmp (g := (mkF m 4 #[.val (.ref ba)] [(.ref z_GET), (.ref ba)])) X1 hx rfl rfl rfl (pc0 := 4) (pc' := 7) (same := false) rfl (hb hby d1_4) rfl (decide_eq_false fun q => ha2 (Value.ref.inj q)) (by decide) (by decide) k) ?_
    refine Go.step (T' := T1) (f' := (mkF m 8 #[.val (.ref ba)] [(.ref ba)])) (fun t k => XS.aloadN X1.here hx rfl (hb hby d1_7) rfl rfl k) ?_
    obtain ⟨T3, X3, e3, st3⟩ := getS2 X1 hx hZ hown (host := "") (Or.inl (hw _ (List.mem_of_getElem? (i := 12) rfl))) Via.refl e1 (P1.ext O0.2) (g := (mkF m 8 #[.val (.ref ba)] [(.ref ba)])) rfl (hb hby d1_8)
    refine Go.step (T' := T3) (f' := (mkF m 11 #[.val (.ref ba)] [(.ref z_HEAD), (.ref ba)])) st3 ?_
    by_cases ha4 : ba = z_HEAD
    ·
      refine Go.step (T' := T3) (f' := (mkF m 21 #[.val (.ref ba)] [])) (fun t k => Jvm.RoadKit.acmp (g := (mkF m 11 #[.val (.ref ba)] [(.ref z_HEAD), (.ref ba)])) X3 hx rfl rfl rfl (pc0 := 11) (pc' := 21) (same := true) rfl (hb hby d1_11) rfl (decide_eq_true (congrArg Value.ref ha4)) (by decide) (by decide) k) ?_
      refine Go.step (T' := T3) (f' := (mkF m 22 #[.val (.ref ba)] [(.int (1 : Int32))])) (fun t k => XS.iconst X3.here hx rfl (hb hby d1_21) k) ?_
      refine Go.step (T' := T3) (f' := (mkF m 26 #[.val (.ref ba)] [(.int (1 : Int32))])) (fun t k => XS.goto X3.here hx rfl (pc0 := 22) (pc' := 26) rfl (hb hby d1_22) (by decide) (by decide) k) ?_
      refine Go.retZ X3 hx hlk (t := .boolean) Bd.returns (by simp) (hb hby d1_26) e3 ?_ (by decide) (by decide)
      exact ⟨by simp_all [nar], N0, rfl⟩
    ·
      refine Go.step (T' := T3) (f' := (mkF m 14 #[.val (.ref ba)] [])) (fun t k => Jvm.RoadKit.acmp (g := (mkF m 11 #[.val (.ref ba)] [(.ref z_HEAD), (.ref ba)])) X3 hx rfl rfl rfl (pc0 := 11) (pc' := 14) (same := false) rfl (hb hby d1_11) rfl (decide_eq_false fun q => ha4 (Value.ref.inj q)) (by decide) (by decide) k) ?_
      refine Go.step (T' := T3) (f' := (mkF m 15 #[.val (.ref ba)] [(.ref ba)])) (fun t k => XS.aloadN X3.here hx rfl (hb hby d1_14) rfl rfl k) ?_
      obtain ⟨T5, X5, e5, st5⟩ := getS2 X3 hx hZ hown (host := "") (Or.inl (hw _ (List.mem_of_getElem? (i := 14) rfl))) Via.refl e3 (P2.ext O0.2) (g := (mkF m 15 #[.val (.ref ba)] [(.ref ba)])) rfl (hb hby d1_15)
      refine Go.step (T' := T5) (f' := (mkF m 18 #[.val (.ref ba)] [(.ref z_OPTIONS), (.ref ba)])) st5 ?_
      by_cases ha6 : ba = z_OPTIONS
      ·
        refine Go.step (T' := T5) (f' := (mkF m 21 #[.val (.ref ba)] [])) (fun t k => Jvm.RoadKit.acmp (g := (mkF m 18 #[.val (.ref ba)] [(.ref z_OPTIONS), (.ref ba)])) X5 hx rfl rfl rfl (pc0 := 18) (pc' := 21) (same := true) rfl (hb hby d1_18) rfl (decide_eq_true (congrArg Value.ref ha6)) (by decide) (by decide) k) ?_
        refine Go.step (T' := T5) (f' := (mkF m 22 #[.val (.ref ba)] [(.int (1 : Int32))])) (fun t k => XS.iconst X5.here hx rfl (hb hby d1_21) k) ?_
        refine Go.step (T' := T5) (f' := (mkF m 26 #[.val (.ref ba)] [(.int (1 : Int32))])) (fun t k => XS.goto X5.here hx rfl (pc0 := 22) (pc' := 26) rfl (hb hby d1_22) (by decide) (by decide) k) ?_
        refine Go.retZ X5 hx hlk (t := .boolean) Bd.returns (by simp) (hb hby d1_26) e5 ?_ (by decide) (by decide)
        exact ⟨by simp_all [nar], N0, rfl⟩
      ·
        refine Go.step (T' := T5) (f' := (mkF m 25 #[.val (.ref ba)] [])) (fun t k => Jvm.RoadKit.acmp (g := (mkF m 18 #[.val (.ref ba)] [(.ref z_OPTIONS), (.ref ba)])) X5 hx rfl rfl rfl (pc0 := 18) (pc' := 25) (same := false) rfl (hb hby d1_18) rfl (decide_eq_false fun q => ha6 (Value.ref.inj q)) (by decide) (by decide) k) ?_
        refine Go.step (T' := T5) (f' := (mkF m 26 #[.val (.ref ba)] [(.int (0 : Int32))])) (fun t k => XS.iconst X5.here hx rfl (hb hby d1_25) k) ?_
        refine Go.retZ X5 hx hlk (t := .boolean) Bd.returns (by simp) (hb hby d1_26) e5 ?_ (by decide) (by decide)
        exact ⟨by simp_all [nar], N0, rfl⟩
theorem pn_com_example_gate3_gate3_config_HttpMethodIsSafePinLaw : plainName "com/example/gate3/gate3/config/HttpMethodIsSafePinLaw" = true := by first | (simp [plainName, overriddenIn]; done) | decide +kernel
theorem pd0 : parseMethodDescriptor "()Z" = some ⟨[], some .boolean⟩ := by decide +kernel
theorem ef_law (m : MethodId) (ia : Int32) : entryFrame m #[(.int ia)] maxLocals = mkF m 0 #[.val (.int ia), .unset, .unset, .unset] [] := by first | (simp [entryFrame, mkF, argsToLocals, Value.category, maxLocals]; done) | rfl
def Q_law (Z : State) (ia : Int32) (z_GET : Addr) (z_POST : Addr) (z_PUT : Addr) (z_DELETE : Addr) (z_PATCH : Addr) (z_HEAD : Addr) (z_OPTIONS : Addr) (h0 : Heap) (n0 : Nat) (v : Option Value) (h : Heap) (L : List Loc) : Prop := v = some (.int (1 : Int32)) ∧ Fr n0 L ∧ Keep h0 h []
set_option maxRecDepth 65536 in
set_option maxHeartbeats 40000000 in
theorem rm_law (l : Launch) (Z : State) (a0 : Array Value) (hw : ∀ d ∈ tables_1, d.before a0 Z = true) (ws : List Jvm.Cond) (ia : Int32) (z_GET : Addr) (z_POST : Addr) (z_PUT : Addr) (z_DELETE : Addr) (z_PATCH : Addr) (z_HEAD : Addr) (z_OPTIONS : Addr) (h0 : Heap) (n0 : Nat) (O0 : Old Z n0 h0) (P0 : Sta Z Z.heap "com/example/gate3/gate3/config/HttpMethod" "GET" "Lcom/example/gate3/gate3/config/HttpMethod;" (.ref z_GET)) (P1 : Sta Z Z.heap "com/example/gate3/gate3/config/HttpMethod" "POST" "Lcom/example/gate3/gate3/config/HttpMethod;" (.ref z_POST)) (P2 : Sta Z Z.heap "com/example/gate3/gate3/config/HttpMethod" "PUT" "Lcom/example/gate3/gate3/config/HttpMethod;" (.ref z_PUT)) (P3 : Sta Z Z.heap "com/example/gate3/gate3/config/HttpMethod" "DELETE" "Lcom/example/gate3/gate3/config/HttpMethod;" (.ref z_DELETE)) (P4 : Sta Z Z.heap "com/example/gate3/gate3/config/HttpMethod" "PATCH" "Lcom/example/gate3/gate3/config/HttpMethod;" (.ref z_PATCH)) (P5 : Sta Z Z.heap "com/example/gate3/gate3/config/HttpMethod" "HEAD" "Lcom/example/gate3/gate3/config/HttpMethod;" (.ref z_HEAD)) (P6 : Sta Z Z.heap "com/example/gate3/gate3/config/HttpMethod" "OPTIONS" "Lcom/example/gate3/gate3/config/HttpMethod;" (.ref z_OPTIONS)) (P7 : Exa Z Z.heap z_GET "com/example/gate3/gate3/config/HttpMethod") (P8 : Exa Z Z.heap z_POST "com/example/gate3/gate3/config/HttpMethod") (P9 : Exa Z Z.heap z_PUT "com/example/gate3/gate3/config/HttpMethod") (P10 : Exa Z Z.heap z_DELETE "com/example/gate3/gate3/config/HttpMethod") (P11 : Exa Z Z.heap z_PATCH "com/example/gate3/gate3/config/HttpMethod") (P12 : Exa Z Z.heap z_HEAD "com/example/gate3/gate3/config/HttpMethod") (P13 : Exa Z Z.heap z_OPTIONS "com/example/gate3/gate3/config/HttpMethod") (P14 : z_GET ≠ z_POST) (P15 : z_GET ≠ z_PUT) (P16 : z_GET ≠ z_DELETE) (P17 : z_GET ≠ z_PATCH) (P18 : z_GET ≠ z_HEAD) (P19 : z_GET ≠ z_OPTIONS) (P20 : z_POST ≠ z_HEAD) (P21 : z_POST ≠ z_OPTIONS) (P22 : z_PUT ≠ z_HEAD) (P23 : z_PUT ≠ z_OPTIONS) (P24 : z_DELETE ≠ z_HEAD) (P25 : z_DELETE ≠ z_OPTIONS) (P26 : z_PATCH ≠ z_HEAD) (P27 : z_PATCH ≠ z_OPTIONS) (P28 : z_HEAD ≠ z_OPTIONS) :
    MetFree l x (head1 (Jvm.Cond.code x code maxLocals ret :: ws) room_1) (fun a U => a = #[(.int ia)] ∧ Z.Warmed39 U.vm ∧ U.heap = h0) (fun _ _ _ _ _ => True) (fun _ U o U' => ∃ v L, o = .returned v ∧ Q_law Z ia z_GET z_POST z_PUT z_DELETE z_PATCH z_HEAD z_OPTIONS h0 n0 v U'.heap L ∧ FrameEnd U o U' L room_1.cells room_1.slots) := by
  refine MetFree.of_bodySF (plainFor_of_name pn_com_example_gate3_gate3_config_HttpMethodIsSafePinLaw) hisR ?_
  intro p e s m args below meth c s₁ Bd hml0 hP hK
  obtain ⟨rfl, hZ, hh⟩ := hP
  have hx := Bd.exec
  have hby := Bd.bytes
  have hml : c.maxLocals = 4 := hml0
  have hown : s.vm.findClass "com/example/gate3/gate3/config/HttpMethodIsSafePinLaw" = some m.cls := findClass_of_methodNamed Bd.named
  have hnm := (name_of_methodNamed Bd.named Bd.method).1
  have hlk : meth.locks = false := BodyLoose.notSynchronized Bd
  have X0 : Stand p l e room_1 s m #[(.int ia)] below meth c s₁ [] 0 0 := Stand.of_body Bd
  have e0 : s₁.heap = h0 := by rw [← hh, Bd.state]; rfl
  have N0 := Fr.nil n0
  have K0 := Keep.refl h0 []
  rw [ef_law m ia]
  show Go p e below s (fun v h L => Q_law Z ia z_GET z_POST z_PUT z_DELETE z_PATCH z_HEAD z_OPTIONS h0 n0 v h L) room_1.cells room_1.slots s₁ (mkF m 0 #[.val (.int ia), .unset, .unset, .unset] [])
  refine Go.step (T' := s₁) (f' := (mkF m 1 #[.val (.int ia), .unset, .unset, .unset] [(.int ia)])) (fun t k => XS.iloadN X0.here hx rfl (hb hby at_0) rfl k) ?_
  refine Go.step (T' := s₁) (f' := (mkF m 3 #[.val (.int ia), .unset, .unset, .unset] [(.int (2147483647 : Int32)), (.int ia)])) (fun t k => X0.ldcInt hx hown (mvT hZ (hw _ (List.mem_of_getElem? (i := 0) rfl))) (g := (mkF m 1 #[.val (.int ia), .unset, .unset, .unset] [(.int ia)])) rfl (hb hby at_1) t k) ?_
  refine Go.step (T' := s₁) (f' := (mkF m 4 #[.val (.int ia), .unset, .unset, .unset] [(.int (ia &&& (2147483647 : Int32)))])) (fun t k => XS.iand X0.here hx rfl (hb hby at_3) rfl k) ?_
  refine Go.step (T' := s₁) (f' := (mkF m 6 #[.val (.int ia), .unset, .unset, .unset] [(.int (7 : Int32)), (.int (ia &&& (2147483647 : Int32)))])) (fun t k => XS.bipush X0.here hx rfl (hb hby at_4) k) ?_
  refine Go.step (T' := s₁) (f' := (mkF m 7 #[.val (.int ia), .unset, .unset, .unset] [(.int ((ia &&& (2147483647 : Int32)) % (7 : Int32)))])) (fun t k => iremM X0 hx rfl (hb hby at_6) rfl (by decide) k) ?_
  refine Go.step (T' := s₁) (f' := (mkF m 8 #[.val (.int ia), .val (.int ((ia &&& (2147483647 : Int32)) % (7 : Int32))), .unset, .unset] [])) (fun t k => XS.istoreN X0.here hx rfl (hb hby at_7) rfl (l' := #[.val (.int ia), .val (.int ((ia &&& (2147483647 : Int32)) % (7 : Int32))), .unset, .unset]) rfl k) ?_
  refine Go.step (T' := s₁) (f' := (mkF m 9 #[.val (.int ia), .val (.int ((ia &&& (2147483647 : Int32)) % (7 : Int32))), .unset, .unset] [(.int ((ia &&& (2147483647 : Int32)) % (7 : Int32)))])) (fun t k => XS.iloadN X0.here hx rfl (hb hby at_8) rfl k) ?_
  by_cases hc7 : ((ia &&& (2147483647 : Int32)) % (7 : Int32)) = (0 : Int32)
  ·
    refine Go.step (T' := s₁) (f' := (mkF m 12 #[.val (.int ia), .val (.int ((ia &&& (2147483647 : Int32)) % (7 : Int32))), .unset, .unset] [])) (fun t k => XS.ifNo X0.here hx rfl (hb hby at_9) rfl ((if0 _ _).trans (teq hc7).2) k) ?_
    obtain ⟨T8, X8, e8, st8⟩ := getS2 X0 hx hZ hown (host := "") (Or.inl (hw _ (List.mem_of_getElem? (i := 1) rfl))) Via.refl e0 (P0.ext O0.2) (g := (mkF m 12 #[.val (.int ia), .val (.int ((ia &&& (2147483647 : Int32)) % (7 : Int32))), .unset, .unset] [])) rfl (hb hby at_12)
    refine Go.step (T' := T8) (f' := (mkF m 15 #[.val (.int ia), .val (.int ((ia &&& (2147483647 : Int32)) % (7 : Int32))), .unset, .unset] [(.ref z_GET)])) st8 ?_
    refine Go.step (T' := T8) (f' := (mkF m 16 #[.val (.int ia), .val (.int ((ia &&& (2147483647 : Int32)) % (7 : Int32))), .val (.ref z_GET), .unset] [])) (fun t k => XS.astoreN X8.here hx rfl (hb hby at_15) rfl rfl (l' := #[.val (.int ia), .val (.int ((ia &&& (2147483647 : Int32)) % (7 : Int32))), .val (.ref z_GET), .unset]) rfl k) ?_
    refine Go.step (T' := T8) (f' := (mkF m 17 #[.val (.int ia), .val (.int ((ia &&& (2147483647 : Int32)) % (7 : Int32))), .val (.ref z_GET), .unset] [(.int (1 : Int32))])) (fun t k => XS.iconst X8.here hx rfl (hb hby at_16) k) ?_
    refine Go.step (T' := T8) (f' := (mkF m 18 #[.val (.int ia), .val (.int ((ia &&& (2147483647 : Int32)) % (7 : Int32))), .val (.ref z_GET), .val (.int (1 : Int32))] [])) (fun t k => XS.istoreN X8.here hx rfl (hb hby at_17) rfl (l' := #[.val (.int ia), .val (.int ((ia &&& (2147483647 : Int32)) % (7 : Int32))), .val (.ref z_GET), .val (.int (1 : Int32))]) rfl k) ?_
    refine Go.step (T' := T8) (f' := (mkF m 97 #[.val (.int ia), .val (.int ((ia &&& (2147483647 : Int32)) % (7 : Int32))), .val (.ref z_GET), .val (.int (1 : Int32))] [])) (fun t k => XS.goto X8.here hx rfl (pc0 := 18) (pc' := 97) rfl (hb hby at_18) (by decide) (by decide) k) ?_
    refine Go.step (T' := T8) (f' := (mkF m 98 #[.val (.int ia), .val (.int ((ia &&& (2147483647 : Int32)) % (7 : Int32))), .val (.ref z_GET), .val (.int (1 : Int32))] [(.ref z_GET)])) (fun t k => XS.aloadN X8.here hx rfl (hb hby at_97) rfl rfl k) ?_
    obtain ⟨cq9, kq9, q9a, q9b, q9c⟩ := isOf hZ e8 (P7.ext O0.2)
    obtain ⟨_, _, ⟨T9, L9, k9, n9⟩, -, X9, ⟨Lc9, hQ9, l9, y9, z9⟩, st9⟩ := X8.virtualBack hx (y := (⟨"com/example/gate3/gate3/config/HttpMethod", "isSafe", "()Z"⟩ : MethodName)) (z := (⟨"com/example/gate3/gate3/config/HttpMethod", "isSafe", "()Z"⟩ : MethodName)) hown (mvT hZ (hw _ (List.mem_of_getElem? (i := 4) rfl))) (mvT hZ (hw _ (List.mem_of_getElem? (i := 5) rfl))) (notFace_of_selects (args := #[]) (mvT hZ (hw _ (List.mem_of_getElem? (i := 7) rfl)))) (mvT hZ (hw _ (List.mem_of_getElem? (i := 7) rfl))) (mvT hZ (hw _ (List.mem_of_getElem? (i := 6) rfl))) (by decide) (backOf (W := 0) (rm_ask l Z a0 hw [] z_GET z_GET z_HEAD z_OPTIONS h0 n0 O0 P0 P5 P6) hZ (hw _ (List.mem_of_getElem? (i := 8) rfl)) (hw _ (List.mem_of_getElem? (i := 2) rfl)) (by decide) (by decide)) q9a q9c (g := (mkF m 98 #[.val (.int ia), .val (.int ((ia &&& (2147483647 : Int32)) % (7 : Int32))), .val (.ref z_GET), .val (.int (1 : Int32))] [(.ref z_GET)])) rfl (by rw [hml]; rfl) (Steps.refl _) (argsL := []) (rest := []) (lenOf pd0 rfl) rfl (by show 2 * 0 + _ ≤ _; exact Nat.le_of_eq rfl) (hb hby at_98) (fun _ _ => ⟨rfl, e8, (by decide : 0 + 0 ≤ _), (by decide : 0 + 0 ≤ _)⟩)
    dsimp only [Pt.U, Pt.locs, Pt.cells, Pt.slots] at X9 l9 y9 z9 st9 hQ9
    subst l9 y9 z9
    obtain ⟨rfl, Nq9, hh9⟩ := hQ9
    have N10 := Fr.app N0 Nq9
    refine Go.via (T' := T9) (f' := (mkF m 101 #[.val (.int ia), .val (.int ((ia &&& (2147483647 : Int32)) % (7 : Int32))), .val (.ref z_GET), .val (.int (1 : Int32))] [(.int (if z_GET = z_GET ∨ z_GET = z_HEAD ∨ z_GET = z_OPTIONS then (1 : Int32) else 0))])) st9 ?_
    refine Go.step (T' := T9) (f' := (mkF m 102 #[.val (.int ia), .val (.int ((ia &&& (2147483647 : Int32)) % (7 : Int32))), .val (.ref z_GET), .val (.int (1 : Int32))] [(.int (1 : Int32)), (.int (if z_GET = z_GET ∨ z_GET = z_HEAD ∨ z_GET = z_OPTIONS then (1 : Int32) else 0))])) (fun t k => XS.iloadN X9.here hx rfl (hb hby at_101) rfl k) ?_
    have hc11 : (if z_GET = z_GET ∨ z_GET = z_HEAD ∨ z_GET = z_OPTIONS then (1 : Int32) else 0) = (1 : Int32) := by
      simp [P14, P15, P16, P17, P18, P19]
    refine Go.step (T' := T9) (f' := (mkF m 105 #[.val (.int ia), .val (.int ((ia &&& (2147483647 : Int32)) % (7 : Int32))), .val (.ref z_GET), .val (.int (1 : Int32))] [])) (fun t k => XS.icmpNo X9.here hx rfl (hb hby at_102) rfl (teq hc11).2 k) ?_
    refine Go.step (T' := T9) (f' := (mkF m 106 #[.val (.int ia), .val (.int ((ia &&& (2147483647 : Int32)) % (7 : Int32))), .val (.ref z_GET), .val (.int (1 : Int32))] [(.int (1 : Int32))])) (fun t k => XS.iconst X9.here hx rfl (hb hby at_105) k) ?_
    refine Go.step (T' := T9) (f' := (mkF m 110 #[.val (.int ia), .val (.int ((ia &&& (2147483647 : Int32)) % (7 : Int32))), .val (.ref z_GET), .val (.int (1 : Int32))] [(.int (1 : Int32))])) (fun t k => XS.goto X9.here hx rfl (pc0 := 106) (pc' := 110) rfl (hb hby at_106) (by decide) (by decide) k) ?_
    refine Go.retZ X9 hx hlk (t := .boolean) Bd.returns (by simp) (hb hby at_110) hh9 ?_ (by decide) (by decide)
    exact ⟨rfl, N10, K0⟩
  ·
    refine Go.step (T' := s₁) (f' := (mkF m 21 #[.val (.int ia), .val (.int ((ia &&& (2147483647 : Int32)) % (7 : Int32))), .unset, .unset] [])) (fun t k => XS.ifYes X0.here hx rfl (pc0 := 9) (pc' := 21) rfl (hb hby at_9) rfl ((if0 _ _).trans (feq hc7).2) (by decide) (by decide) k) ?_
    refine Go.step (T' := s₁) (f' := (mkF m 22 #[.val (.int ia), .val (.int ((ia &&& (2147483647 : Int32)) % (7 : Int32))), .unset, .unset] [(.int ((ia &&& (2147483647 : Int32)) % (7 : Int32)))])) (fun t k => XS.iloadN X0.here hx rfl (hb hby at_21) rfl k) ?_
    refine Go.step (T' := s₁) (f' := (mkF m 23 #[.val (.int ia), .val (.int ((ia &&& (2147483647 : Int32)) % (7 : Int32))), .unset, .unset] [(.int (1 : Int32)), (.int ((ia &&& (2147483647 : Int32)) % (7 : Int32)))])) (fun t k => XS.iconst X0.here hx rfl (hb hby at_22) k) ?_
    by_cases hc12 : ((ia &&& (2147483647 : Int32)) % (7 : Int32)) = (1 : Int32)
    ·
      refine Go.step (T' := s₁) (f' := (mkF m 26 #[.val (.int ia), .val (.int ((ia &&& (2147483647 : Int32)) % (7 : Int32))), .unset, .unset] [])) (fun t k => XS.icmpNo X0.here hx rfl (hb hby at_23) rfl (teq hc12).2 k) ?_
      obtain ⟨T13, X13, e13, st13⟩ := getS2 X0 hx hZ hown (host := "") (Or.inl (hw _ (List.mem_of_getElem? (i := 22) rfl))) Via.refl e0 (P1.ext O0.2) (g := (mkF m 26 #[.val (.int ia), .val (.int ((ia &&& (2147483647 : Int32)) % (7 : Int32))), .unset, .unset] [])) rfl (hb hby at_26)
      refine Go.step (T' := T13) (f' := (mkF m 29 #[.val (.int ia), .val (.int ((ia &&& (2147483647 : Int32)) % (7 : Int32))), .unset, .unset] [(.ref z_POST)])) st13 ?_
      refine Go.step (T' := T13) (f' := (mkF m 30 #[.val (.int ia), .val (.int ((ia &&& (2147483647 : Int32)) % (7 : Int32))), .val (.ref z_POST), .unset] [])) (fun t k => XS.astoreN X13.here hx rfl (hb hby at_29) rfl rfl (l' := #[.val (.int ia), .val (.int ((ia &&& (2147483647 : Int32)) % (7 : Int32))), .val (.ref z_POST), .unset]) rfl k) ?_
      refine Go.step (T' := T13) (f' := (mkF m 31 #[.val (.int ia), .val (.int ((ia &&& (2147483647 : Int32)) % (7 : Int32))), .val (.ref z_POST), .unset] [(.int (0 : Int32))])) (fun t k => XS.iconst X13.here hx rfl (hb hby at_30) k) ?_
      refine Go.step (T' := T13) (f' := (mkF m 32 #[.val (.int ia), .val (.int ((ia &&& (2147483647 : Int32)) % (7 : Int32))), .val (.ref z_POST), .val (.int (0 : Int32))] [])) (fun t k => XS.istoreN X13.here hx rfl (hb hby at_31) rfl (l' := #[.val (.int ia), .val (.int ((ia &&& (2147483647 : Int32)) % (7 : Int32))), .val (.ref z_POST), .val (.int (0 : Int32))]) rfl k) ?_
      refine Go.step (T' := T13) (f' := (mkF m 97 #[.val (.int ia), .val (.int ((ia &&& (2147483647 : Int32)) % (7 : Int32))), .val (.ref z_POST), .val (.int (0 : Int32))] [])) (fun t k => XS.goto X13.here hx rfl (pc0 := 32) (pc' := 97) rfl (hb hby at_32) (by decide) (by decide) k) ?_
      refine Go.step (T' := T13) (f' := (mkF m 98 #[.val (.int ia), .val (.int ((ia &&& (2147483647 : Int32)) % (7 : Int32))), .val (.ref z_POST), .val (.int (0 : Int32))] [(.ref z_POST)])) (fun t k => XS.aloadN X13.here hx rfl (hb hby at_97) rfl rfl k) ?_
      obtain ⟨cq14, kq14, q14a, q14b, q14c⟩ := isOf hZ e13 (P8.ext O0.2)
      obtain ⟨_, _, ⟨T14, L14, k14, n14⟩, -, X14, ⟨Lc14, hQ14, l14, y14, z14⟩, st14⟩ := X13.virtualBack hx (y := (⟨"com/example/gate3/gate3/config/HttpMethod", "isSafe", "()Z"⟩ : MethodName)) (z := (⟨"com/example/gate3/gate3/config/HttpMethod", "isSafe", "()Z"⟩ : MethodName)) hown (mvT hZ (hw _ (List.mem_of_getElem? (i := 4) rfl))) (mvT hZ (hw _ (List.mem_of_getElem? (i := 5) rfl))) (notFace_of_selects (args := #[]) (mvT hZ (hw _ (List.mem_of_getElem? (i := 7) rfl)))) (mvT hZ (hw _ (List.mem_of_getElem? (i := 7) rfl))) (mvT hZ (hw _ (List.mem_of_getElem? (i := 6) rfl))) (by decide) (backOf (W := 0) (rm_ask l Z a0 hw [] z_POST z_GET z_HEAD z_OPTIONS h0 n0 O0 P0 P5 P6) hZ (hw _ (List.mem_of_getElem? (i := 8) rfl)) (hw _ (List.mem_of_getElem? (i := 2) rfl)) (by decide) (by decide)) q14a q14c (g := (mkF m 98 #[.val (.int ia), .val (.int ((ia &&& (2147483647 : Int32)) % (7 : Int32))), .val (.ref z_POST), .val (.int (0 : Int32))] [(.ref z_POST)])) rfl (by rw [hml]; rfl) (Steps.refl _) (argsL := []) (rest := []) (lenOf pd0 rfl) rfl (by show 2 * 0 + _ ≤ _; exact Nat.le_of_eq rfl) (hb hby at_98) (fun _ _ => ⟨rfl, e13, (by decide : 0 + 0 ≤ _), (by decide : 0 + 0 ≤ _)⟩)
      dsimp only [Pt.U, Pt.locs, Pt.cells, Pt.slots] at X14 l14 y14 z14 st14 hQ14
      subst l14 y14 z14
      obtain ⟨rfl, Nq14, hh14⟩ := hQ14
      have N15 := Fr.app N0 Nq14
      refine Go.via (T' := T14) (f' := (mkF m 101 #[.val (.int ia), .val (.int ((ia &&& (2147483647 : Int32)) % (7 : Int32))), .val (.ref z_POST), .val (.int (0 : Int32))] [(.int (if z_POST = z_GET ∨ z_POST = z_HEAD ∨ z_POST = z_OPTIONS then (1 : Int32) else 0))])) st14 ?_
      refine Go.step (T' := T14) (f' := (mkF m 102 #[.val (.int ia), .val (.int ((ia &&& (2147483647 : Int32)) % (7 : Int32))), .val (.ref z_POST), .val (.int (0 : Int32))] [(.int (0 : Int32)), (.int (if z_POST = z_GET ∨ z_POST = z_HEAD ∨ z_POST = z_OPTIONS then (1 : Int32) else 0))])) (fun t k => XS.iloadN X14.here hx rfl (hb hby at_101) rfl k) ?_
      have hc16 : (if z_POST = z_GET ∨ z_POST = z_HEAD ∨ z_POST = z_OPTIONS then (1 : Int32) else 0) = (0 : Int32) := by
        simp [Ne.symm P14, P20, P21]
      refine Go.step (T' := T14) (f' := (mkF m 105 #[.val (.int ia), .val (.int ((ia &&& (2147483647 : Int32)) % (7 : Int32))), .val (.ref z_POST), .val (.int (0 : Int32))] [])) (fun t k => XS.icmpNo X14.here hx rfl (hb hby at_102) rfl (teq hc16).2 k) ?_
      refine Go.step (T' := T14) (f' := (mkF m 106 #[.val (.int ia), .val (.int ((ia &&& (2147483647 : Int32)) % (7 : Int32))), .val (.ref z_POST), .val (.int (0 : Int32))] [(.int (1 : Int32))])) (fun t k => XS.iconst X14.here hx rfl (hb hby at_105) k) ?_
      refine Go.step (T' := T14) (f' := (mkF m 110 #[.val (.int ia), .val (.int ((ia &&& (2147483647 : Int32)) % (7 : Int32))), .val (.ref z_POST), .val (.int (0 : Int32))] [(.int (1 : Int32))])) (fun t k => XS.goto X14.here hx rfl (pc0 := 106) (pc' := 110) rfl (hb hby at_106) (by decide) (by decide) k) ?_
      refine Go.retZ X14 hx hlk (t := .boolean) Bd.returns (by simp) (hb hby at_110) hh14 ?_ (by decide) (by decide)
      exact ⟨rfl, N15, K0⟩
    ·
      refine Go.step (T' := s₁) (f' := (mkF m 35 #[.val (.int ia), .val (.int ((ia &&& (2147483647 : Int32)) % (7 : Int32))), .unset, .unset] [])) (fun t k => XS.icmpYes X0.here hx rfl (pc0 := 23) (pc' := 35) rfl (hb hby at_23) rfl (feq hc12).2 (by decide) (by decide) k) ?_
      refine Go.step (T' := s₁) (f' := (mkF m 36 #[.val (.int ia), .val (.int ((ia &&& (2147483647 : Int32)) % (7 : Int32))), .unset, .unset] [(.int ((ia &&& (2147483647 : Int32)) % (7 : Int32)))])) (fun t k => XS.iloadN X0.here hx rfl (hb hby at_35) rfl k) ?_
      refine Go.step (T' := s₁) (f' := (mkF m 37 #[.val (.int ia), .val (.int ((ia &&& (2147483647 : Int32)) % (7 : Int32))), .unset, .unset] [(.int (2 : Int32)), (.int ((ia &&& (2147483647 : Int32)) % (7 : Int32)))])) (fun t k => XS.iconst X0.here hx rfl (hb hby at_36) k) ?_
      by_cases hc17 : ((ia &&& (2147483647 : Int32)) % (7 : Int32)) = (2 : Int32)
      ·
        refine Go.step (T' := s₁) (f' := (mkF m 40 #[.val (.int ia), .val (.int ((ia &&& (2147483647 : Int32)) % (7 : Int32))), .unset, .unset] [])) (fun t k => XS.icmpNo X0.here hx rfl (hb hby at_37) rfl (teq hc17).2 k) ?_
        obtain ⟨T18, X18, e18, st18⟩ := getS2 X0 hx hZ hown (host := "") (Or.inl (hw _ (List.mem_of_getElem? (i := 20) rfl))) Via.refl e0 (P2.ext O0.2) (g := (mkF m 40 #[.val (.int ia), .val (.int ((ia &&& (2147483647 : Int32)) % (7 : Int32))), .unset, .unset] [])) rfl (hb hby at_40)
        refine Go.step (T' := T18) (f' := (mkF m 43 #[.val (.int ia), .val (.int ((ia &&& (2147483647 : Int32)) % (7 : Int32))), .unset, .unset] [(.ref z_PUT)])) st18 ?_
        refine Go.step (T' := T18) (f' := (mkF m 44 #[.val (.int ia), .val (.int ((ia &&& (2147483647 : Int32)) % (7 : Int32))), .val (.ref z_PUT), .unset] [])) (fun t k => XS.astoreN X18.here hx rfl (hb hby at_43) rfl rfl (l' := #[.val (.int ia), .val (.int ((ia &&& (2147483647 : Int32)) % (7 : Int32))), .val (.ref z_PUT), .unset]) rfl k) ?_
        refine Go.step (T' := T18) (f' := (mkF m 45 #[.val (.int ia), .val (.int ((ia &&& (2147483647 : Int32)) % (7 : Int32))), .val (.ref z_PUT), .unset] [(.int (0 : Int32))])) (fun t k => XS.iconst X18.here hx rfl (hb hby at_44) k) ?_
        refine Go.step (T' := T18) (f' := (mkF m 46 #[.val (.int ia), .val (.int ((ia &&& (2147483647 : Int32)) % (7 : Int32))), .val (.ref z_PUT), .val (.int (0 : Int32))] [])) (fun t k => XS.istoreN X18.here hx rfl (hb hby at_45) rfl (l' := #[.val (.int ia), .val (.int ((ia &&& (2147483647 : Int32)) % (7 : Int32))), .val (.ref z_PUT), .val (.int (0 : Int32))]) rfl k) ?_
        refine Go.step (T' := T18) (f' := (mkF m 97 #[.val (.int ia), .val (.int ((ia &&& (2147483647 : Int32)) % (7 : Int32))), .val (.ref z_PUT), .val (.int (0 : Int32))] [])) (fun t k => XS.goto X18.here hx rfl (pc0 := 46) (pc' := 97) rfl (hb hby at_46) (by decide) (by decide) k) ?_
        refine Go.step (T' := T18) (f' := (mkF m 98 #[.val (.int ia), .val (.int ((ia &&& (2147483647 : Int32)) % (7 : Int32))), .val (.ref z_PUT), .val (.int (0 : Int32))] [(.ref z_PUT)])) (fun t k => XS.aloadN X18.here hx rfl (hb hby at_97) rfl rfl k) ?_
        obtain ⟨cq19, kq19, q19a, q19b, q19c⟩ := isOf hZ e18 (P9.ext O0.2)
        obtain ⟨_, _, ⟨T19, L19, k19, n19⟩, -, X19, ⟨Lc19, hQ19, l19, y19, z19⟩, st19⟩ := X18.virtualBack hx (y := (⟨"com/example/gate3/gate3/config/HttpMethod", "isSafe", "()Z"⟩ : MethodName)) (z := (⟨"com/example/gate3/gate3/config/HttpMethod", "isSafe", "()Z"⟩ : MethodName)) hown (mvT hZ (hw _ (List.mem_of_getElem? (i := 4) rfl))) (mvT hZ (hw _ (List.mem_of_getElem? (i := 5) rfl))) (notFace_of_selects (args := #[]) (mvT hZ (hw _ (List.mem_of_getElem? (i := 7) rfl)))) (mvT hZ (hw _ (List.mem_of_getElem? (i := 7) rfl))) (mvT hZ (hw _ (List.mem_of_getElem? (i := 6) rfl))) (by decide) (backOf (W := 0) (rm_ask l Z a0 hw [] z_PUT z_GET z_HEAD z_OPTIONS h0 n0 O0 P0 P5 P6) hZ (hw _ (List.mem_of_getElem? (i := 8) rfl)) (hw _ (List.mem_of_getElem? (i := 2) rfl)) (by decide) (by decide)) q19a q19c (g := (mkF m 98 #[.val (.int ia), .val (.int ((ia &&& (2147483647 : Int32)) % (7 : Int32))), .val (.ref z_PUT), .val (.int (0 : Int32))] [(.ref z_PUT)])) rfl (by rw [hml]; rfl) (Steps.refl _) (argsL := []) (rest := []) (lenOf pd0 rfl) rfl (by show 2 * 0 + _ ≤ _; exact Nat.le_of_eq rfl) (hb hby at_98) (fun _ _ => ⟨rfl, e18, (by decide : 0 + 0 ≤ _), (by decide : 0 + 0 ≤ _)⟩)
        dsimp only [Pt.U, Pt.locs, Pt.cells, Pt.slots] at X19 l19 y19 z19 st19 hQ19
        subst l19 y19 z19
        obtain ⟨rfl, Nq19, hh19⟩ := hQ19
        have N20 := Fr.app N0 Nq19
        refine Go.via (T' := T19) (f' := (mkF m 101 #[.val (.int ia), .val (.int ((ia &&& (2147483647 : Int32)) % (7 : Int32))), .val (.ref z_PUT), .val (.int (0 : Int32))] [(.int (if z_PUT = z_GET ∨ z_PUT = z_HEAD ∨ z_PUT = z_OPTIONS then (1 : Int32) else 0))])) st19 ?_
        refine Go.step (T' := T19) (f' := (mkF m 102 #[.val (.int ia), .val (.int ((ia &&& (2147483647 : Int32)) % (7 : Int32))), .val (.ref z_PUT), .val (.int (0 : Int32))] [(.int (0 : Int32)), (.int (if z_PUT = z_GET ∨ z_PUT = z_HEAD ∨ z_PUT = z_OPTIONS then (1 : Int32) else 0))])) (fun t k => XS.iloadN X19.here hx rfl (hb hby at_101) rfl k) ?_
        have hc21 : (if z_PUT = z_GET ∨ z_PUT = z_HEAD ∨ z_PUT = z_OPTIONS then (1 : Int32) else 0) = (0 : Int32) := by
          simp [Ne.symm P15, P22, P23]
        refine Go.step (T' := T19) (f' := (mkF m 105 #[.val (.int ia), .val (.int ((ia &&& (2147483647 : Int32)) % (7 : Int32))), .val (.ref z_PUT), .val (.int (0 : Int32))] [])) (fun t k => XS.icmpNo X19.here hx rfl (hb hby at_102) rfl (teq hc21).2 k) ?_
        refine Go.step (T' := T19) (f' := (mkF m 106 #[.val (.int ia), .val (.int ((ia &&& (2147483647 : Int32)) % (7 : Int32))), .val (.ref z_PUT), .val (.int (0 : Int32))] [(.int (1 : Int32))])) (fun t k => XS.iconst X19.here hx rfl (hb hby at_105) k) ?_
        refine Go.step (T' := T19) (f' := (mkF m 110 #[.val (.int ia), .val (.int ((ia &&& (2147483647 : Int32)) % (7 : Int32))), .val (.ref z_PUT), .val (.int (0 : Int32))] [(.int (1 : Int32))])) (fun t k => XS.goto X19.here hx rfl (pc0 := 106) (pc' := 110) rfl (hb hby at_106) (by decide) (by decide) k) ?_
        refine Go.retZ X19 hx hlk (t := .boolean) Bd.returns (by simp) (hb hby at_110) hh19 ?_ (by decide) (by decide)
        exact ⟨rfl, N20, K0⟩
      ·
        refine Go.step (T' := s₁) (f' := (mkF m 49 #[.val (.int ia), .val (.int ((ia &&& (2147483647 : Int32)) % (7 : Int32))), .unset, .unset] [])) (fun t k => XS.icmpYes X0.here hx rfl (pc0 := 37) (pc' := 49) rfl (hb hby at_37) rfl (feq hc17).2 (by decide) (by decide) k) ?_
        refine Go.step (T' := s₁) (f' := (mkF m 50 #[.val (.int ia), .val (.int ((ia &&& (2147483647 : Int32)) % (7 : Int32))), .unset, .unset] [(.int ((ia &&& (2147483647 : Int32)) % (7 : Int32)))])) (fun t k => XS.iloadN X0.here hx rfl (hb hby at_49) rfl k) ?_
        refine Go.step (T' := s₁) (f' := (mkF m 51 #[.val (.int ia), .val (.int ((ia &&& (2147483647 : Int32)) % (7 : Int32))), .unset, .unset] [(.int (3 : Int32)), (.int ((ia &&& (2147483647 : Int32)) % (7 : Int32)))])) (fun t k => XS.iconst X0.here hx rfl (hb hby at_50) k) ?_
        by_cases hc22 : ((ia &&& (2147483647 : Int32)) % (7 : Int32)) = (3 : Int32)
        ·
          refine Go.step (T' := s₁) (f' := (mkF m 54 #[.val (.int ia), .val (.int ((ia &&& (2147483647 : Int32)) % (7 : Int32))), .unset, .unset] [])) (fun t k => XS.icmpNo X0.here hx rfl (hb hby at_51) rfl (teq hc22).2 k) ?_
          obtain ⟨T23, X23, e23, st23⟩ := getS2 X0 hx hZ hown (host := "") (Or.inl (hw _ (List.mem_of_getElem? (i := 10) rfl))) Via.refl e0 (P3.ext O0.2) (g := (mkF m 54 #[.val (.int ia), .val (.int ((ia &&& (2147483647 : Int32)) % (7 : Int32))), .unset, .unset] [])) rfl (hb hby at_54)
          refine Go.step (T' := T23) (f' := (mkF m 57 #[.val (.int ia), .val (.int ((ia &&& (2147483647 : Int32)) % (7 : Int32))), .unset, .unset] [(.ref z_DELETE)])) st23 ?_
          refine Go.step (T' := T23) (f' := (mkF m 58 #[.val (.int ia), .val (.int ((ia &&& (2147483647 : Int32)) % (7 : Int32))), .val (.ref z_DELETE), .unset] [])) (fun t k => XS.astoreN X23.here hx rfl (hb hby at_57) rfl rfl (l' := #[.val (.int ia), .val (.int ((ia &&& (2147483647 : Int32)) % (7 : Int32))), .val (.ref z_DELETE), .unset]) rfl k) ?_
          refine Go.step (T' := T23) (f' := (mkF m 59 #[.val (.int ia), .val (.int ((ia &&& (2147483647 : Int32)) % (7 : Int32))), .val (.ref z_DELETE), .unset] [(.int (0 : Int32))])) (fun t k => XS.iconst X23.here hx rfl (hb hby at_58) k) ?_
          refine Go.step (T' := T23) (f' := (mkF m 60 #[.val (.int ia), .val (.int ((ia &&& (2147483647 : Int32)) % (7 : Int32))), .val (.ref z_DELETE), .val (.int (0 : Int32))] [])) (fun t k => XS.istoreN X23.here hx rfl (hb hby at_59) rfl (l' := #[.val (.int ia), .val (.int ((ia &&& (2147483647 : Int32)) % (7 : Int32))), .val (.ref z_DELETE), .val (.int (0 : Int32))]) rfl k) ?_
          refine Go.step (T' := T23) (f' := (mkF m 97 #[.val (.int ia), .val (.int ((ia &&& (2147483647 : Int32)) % (7 : Int32))), .val (.ref z_DELETE), .val (.int (0 : Int32))] [])) (fun t k => XS.goto X23.here hx rfl (pc0 := 60) (pc' := 97) rfl (hb hby at_60) (by decide) (by decide) k) ?_
          refine Go.step (T' := T23) (f' := (mkF m 98 #[.val (.int ia), .val (.int ((ia &&& (2147483647 : Int32)) % (7 : Int32))), .val (.ref z_DELETE), .val (.int (0 : Int32))] [(.ref z_DELETE)])) (fun t k => XS.aloadN X23.here hx rfl (hb hby at_97) rfl rfl k) ?_
          obtain ⟨cq24, kq24, q24a, q24b, q24c⟩ := isOf hZ e23 (P10.ext O0.2)
          obtain ⟨_, _, ⟨T24, L24, k24, n24⟩, -, X24, ⟨Lc24, hQ24, l24, y24, z24⟩, st24⟩ := X23.virtualBack hx (y := (⟨"com/example/gate3/gate3/config/HttpMethod", "isSafe", "()Z"⟩ : MethodName)) (z := (⟨"com/example/gate3/gate3/config/HttpMethod", "isSafe", "()Z"⟩ : MethodName)) hown (mvT hZ (hw _ (List.mem_of_getElem? (i := 4) rfl))) (mvT hZ (hw _ (List.mem_of_getElem? (i := 5) rfl))) (notFace_of_selects (args := #[]) (mvT hZ (hw _ (List.mem_of_getElem? (i := 7) rfl)))) (mvT hZ (hw _ (List.mem_of_getElem? (i := 7) rfl))) (mvT hZ (hw _ (List.mem_of_getElem? (i := 6) rfl))) (by decide) (backOf (W := 0) (rm_ask l Z a0 hw [] z_DELETE z_GET z_HEAD z_OPTIONS h0 n0 O0 P0 P5 P6) hZ (hw _ (List.mem_of_getElem? (i := 8) rfl)) (hw _ (List.mem_of_getElem? (i := 2) rfl)) (by decide) (by decide)) q24a q24c (g := (mkF m 98 #[.val (.int ia), .val (.int ((ia &&& (2147483647 : Int32)) % (7 : Int32))), .val (.ref z_DELETE), .val (.int (0 : Int32))] [(.ref z_DELETE)])) rfl (by rw [hml]; rfl) (Steps.refl _) (argsL := []) (rest := []) (lenOf pd0 rfl) rfl (by show 2 * 0 + _ ≤ _; exact Nat.le_of_eq rfl) (hb hby at_98) (fun _ _ => ⟨rfl, e23, (by decide : 0 + 0 ≤ _), (by decide : 0 + 0 ≤ _)⟩)
          dsimp only [Pt.U, Pt.locs, Pt.cells, Pt.slots] at X24 l24 y24 z24 st24 hQ24
          subst l24 y24 z24
          obtain ⟨rfl, Nq24, hh24⟩ := hQ24
          have N25 := Fr.app N0 Nq24
          refine Go.via (T' := T24) (f' := (mkF m 101 #[.val (.int ia), .val (.int ((ia &&& (2147483647 : Int32)) % (7 : Int32))), .val (.ref z_DELETE), .val (.int (0 : Int32))] [(.int (if z_DELETE = z_GET ∨ z_DELETE = z_HEAD ∨ z_DELETE = z_OPTIONS then (1 : Int32) else 0))])) st24 ?_
          refine Go.step (T' := T24) (f' := (mkF m 102 #[.val (.int ia), .val (.int ((ia &&& (2147483647 : Int32)) % (7 : Int32))), .val (.ref z_DELETE), .val (.int (0 : Int32))] [(.int (0 : Int32)), (.int (if z_DELETE = z_GET ∨ z_DELETE = z_HEAD ∨ z_DELETE = z_OPTIONS then (1 : Int32) else 0))])) (fun t k => XS.iloadN X24.here hx rfl (hb hby at_101) rfl k) ?_
          have hc26 : (if z_DELETE = z_GET ∨ z_DELETE = z_HEAD ∨ z_DELETE = z_OPTIONS then (1 : Int32) else 0) = (0 : Int32) := by
            simp [Ne.symm P16, P24, P25]
          refine Go.step (T' := T24) (f' := (mkF m 105 #[.val (.int ia), .val (.int ((ia &&& (2147483647 : Int32)) % (7 : Int32))), .val (.ref z_DELETE), .val (.int (0 : Int32))] [])) (fun t k => XS.icmpNo X24.here hx rfl (hb hby at_102) rfl (teq hc26).2 k) ?_
          refine Go.step (T' := T24) (f' := (mkF m 106 #[.val (.int ia), .val (.int ((ia &&& (2147483647 : Int32)) % (7 : Int32))), .val (.ref z_DELETE), .val (.int (0 : Int32))] [(.int (1 : Int32))])) (fun t k => XS.iconst X24.here hx rfl (hb hby at_105) k) ?_
          refine Go.step (T' := T24) (f' := (mkF m 110 #[.val (.int ia), .val (.int ((ia &&& (2147483647 : Int32)) % (7 : Int32))), .val (.ref z_DELETE), .val (.int (0 : Int32))] [(.int (1 : Int32))])) (fun t k => XS.goto X24.here hx rfl (pc0 := 106) (pc' := 110) rfl (hb hby at_106) (by decide) (by decide) k) ?_
          refine Go.retZ X24 hx hlk (t := .boolean) Bd.returns (by simp) (hb hby at_110) hh24 ?_ (by decide) (by decide)
          exact ⟨rfl, N25, K0⟩
        ·
          refine Go.step (T' := s₁) (f' := (mkF m 63 #[.val (.int ia), .val (.int ((ia &&& (2147483647 : Int32)) % (7 : Int32))), .unset, .unset] [])) (fun t k => XS.icmpYes X0.here hx rfl (pc0 := 51) (pc' := 63) rfl (hb hby at_51) rfl (feq hc22).2 (by decide) (by decide) k) ?_
          refine Go.step (T' := s₁) (f' := (mkF m 64 #[.val (.int ia), .val (.int ((ia &&& (2147483647 : Int32)) % (7 : Int32))), .unset, .unset] [(.int ((ia &&& (2147483647 : Int32)) % (7 : Int32)))])) (fun t k => XS.iloadN X0.here hx rfl (hb hby at_63) rfl k) ?_
          refine Go.step (T' := s₁) (f' := (mkF m 65 #[.val (.int ia), .val (.int ((ia &&& (2147483647 : Int32)) % (7 : Int32))), .unset, .unset] [(.int (4 : Int32)), (.int ((ia &&& (2147483647 : Int32)) % (7 : Int32)))])) (fun t k => XS.iconst X0.here hx rfl (hb hby at_64) k) ?_
          by_cases hc27 : ((ia &&& (2147483647 : Int32)) % (7 : Int32)) = (4 : Int32)
          ·
            refine Go.step (T' := s₁) (f' := (mkF m 68 #[.val (.int ia), .val (.int ((ia &&& (2147483647 : Int32)) % (7 : Int32))), .unset, .unset] [])) (fun t k => XS.icmpNo X0.here hx rfl (hb hby at_65) rfl (teq hc27).2 k) ?_
            obtain ⟨T28, X28, e28, st28⟩ := getS2 X0 hx hZ hown (host := "") (Or.inl (hw _ (List.mem_of_getElem? (i := 18) rfl))) Via.refl e0 (P4.ext O0.2) (g := (mkF m 68 #[.val (.int ia), .val (.int ((ia &&& (2147483647 : Int32)) % (7 : Int32))), .unset, .unset] [])) rfl (hb hby at_68)
            refine Go.step (T' := T28) (f' := (mkF m 71 #[.val (.int ia), .val (.int ((ia &&& (2147483647 : Int32)) % (7 : Int32))), .unset, .unset] [(.ref z_PATCH)])) st28 ?_
            refine Go.step (T' := T28) (f' := (mkF m 72 #[.val (.int ia), .val (.int ((ia &&& (2147483647 : Int32)) % (7 : Int32))), .val (.ref z_PATCH), .unset] [])) (fun t k => XS.astoreN X28.here hx rfl (hb hby at_71) rfl rfl (l' := #[.val (.int ia), .val (.int ((ia &&& (2147483647 : Int32)) % (7 : Int32))), .val (.ref z_PATCH), .unset]) rfl k) ?_
            refine Go.step (T' := T28) (f' := (mkF m 73 #[.val (.int ia), .val (.int ((ia &&& (2147483647 : Int32)) % (7 : Int32))), .val (.ref z_PATCH), .unset] [(.int (0 : Int32))])) (fun t k => XS.iconst X28.here hx rfl (hb hby at_72) k) ?_
            refine Go.step (T' := T28) (f' := (mkF m 74 #[.val (.int ia), .val (.int ((ia &&& (2147483647 : Int32)) % (7 : Int32))), .val (.ref z_PATCH), .val (.int (0 : Int32))] [])) (fun t k => XS.istoreN X28.here hx rfl (hb hby at_73) rfl (l' := #[.val (.int ia), .val (.int ((ia &&& (2147483647 : Int32)) % (7 : Int32))), .val (.ref z_PATCH), .val (.int (0 : Int32))]) rfl k) ?_
            refine Go.step (T' := T28) (f' := (mkF m 97 #[.val (.int ia), .val (.int ((ia &&& (2147483647 : Int32)) % (7 : Int32))), .val (.ref z_PATCH), .val (.int (0 : Int32))] [])) (fun t k => XS.goto X28.here hx rfl (pc0 := 74) (pc' := 97) rfl (hb hby at_74) (by decide) (by decide) k) ?_
            refine Go.step (T' := T28) (f' := (mkF m 98 #[.val (.int ia), .val (.int ((ia &&& (2147483647 : Int32)) % (7 : Int32))), .val (.ref z_PATCH), .val (.int (0 : Int32))] [(.ref z_PATCH)])) (fun t k => XS.aloadN X28.here hx rfl (hb hby at_97) rfl rfl k) ?_
            obtain ⟨cq29, kq29, q29a, q29b, q29c⟩ := isOf hZ e28 (P11.ext O0.2)
            obtain ⟨_, _, ⟨T29, L29, k29, n29⟩, -, X29, ⟨Lc29, hQ29, l29, y29, z29⟩, st29⟩ := X28.virtualBack hx (y := (⟨"com/example/gate3/gate3/config/HttpMethod", "isSafe", "()Z"⟩ : MethodName)) (z := (⟨"com/example/gate3/gate3/config/HttpMethod", "isSafe", "()Z"⟩ : MethodName)) hown (mvT hZ (hw _ (List.mem_of_getElem? (i := 4) rfl))) (mvT hZ (hw _ (List.mem_of_getElem? (i := 5) rfl))) (notFace_of_selects (args := #[]) (mvT hZ (hw _ (List.mem_of_getElem? (i := 7) rfl)))) (mvT hZ (hw _ (List.mem_of_getElem? (i := 7) rfl))) (mvT hZ (hw _ (List.mem_of_getElem? (i := 6) rfl))) (by decide) (backOf (W := 0) (rm_ask l Z a0 hw [] z_PATCH z_GET z_HEAD z_OPTIONS h0 n0 O0 P0 P5 P6) hZ (hw _ (List.mem_of_getElem? (i := 8) rfl)) (hw _ (List.mem_of_getElem? (i := 2) rfl)) (by decide) (by decide)) q29a q29c (g := (mkF m 98 #[.val (.int ia), .val (.int ((ia &&& (2147483647 : Int32)) % (7 : Int32))), .val (.ref z_PATCH), .val (.int (0 : Int32))] [(.ref z_PATCH)])) rfl (by rw [hml]; rfl) (Steps.refl _) (argsL := []) (rest := []) (lenOf pd0 rfl) rfl (by show 2 * 0 + _ ≤ _; exact Nat.le_of_eq rfl) (hb hby at_98) (fun _ _ => ⟨rfl, e28, (by decide : 0 + 0 ≤ _), (by decide : 0 + 0 ≤ _)⟩)
            dsimp only [Pt.U, Pt.locs, Pt.cells, Pt.slots] at X29 l29 y29 z29 st29 hQ29
            subst l29 y29 z29
            obtain ⟨rfl, Nq29, hh29⟩ := hQ29
            have N30 := Fr.app N0 Nq29
            refine Go.via (T' := T29) (f' := (mkF m 101 #[.val (.int ia), .val (.int ((ia &&& (2147483647 : Int32)) % (7 : Int32))), .val (.ref z_PATCH), .val (.int (0 : Int32))] [(.int (if z_PATCH = z_GET ∨ z_PATCH = z_HEAD ∨ z_PATCH = z_OPTIONS then (1 : Int32) else 0))])) st29 ?_
            refine Go.step (T' := T29) (f' := (mkF m 102 #[.val (.int ia), .val (.int ((ia &&& (2147483647 : Int32)) % (7 : Int32))), .val (.ref z_PATCH), .val (.int (0 : Int32))] [(.int (0 : Int32)), (.int (if z_PATCH = z_GET ∨ z_PATCH = z_HEAD ∨ z_PATCH = z_OPTIONS then (1 : Int32) else 0))])) (fun t k => XS.iloadN X29.here hx rfl (hb hby at_101) rfl k) ?_
            have hc31 : (if z_PATCH = z_GET ∨ z_PATCH = z_HEAD ∨ z_PATCH = z_OPTIONS then (1 : Int32) else 0) = (0 : Int32) := by
              simp [Ne.symm P17, P26, P27]
            refine Go.step (T' := T29) (f' := (mkF m 105 #[.val (.int ia), .val (.int ((ia &&& (2147483647 : Int32)) % (7 : Int32))), .val (.ref z_PATCH), .val (.int (0 : Int32))] [])) (fun t k => XS.icmpNo X29.here hx rfl (hb hby at_102) rfl (teq hc31).2 k) ?_
            refine Go.step (T' := T29) (f' := (mkF m 106 #[.val (.int ia), .val (.int ((ia &&& (2147483647 : Int32)) % (7 : Int32))), .val (.ref z_PATCH), .val (.int (0 : Int32))] [(.int (1 : Int32))])) (fun t k => XS.iconst X29.here hx rfl (hb hby at_105) k) ?_
            refine Go.step (T' := T29) (f' := (mkF m 110 #[.val (.int ia), .val (.int ((ia &&& (2147483647 : Int32)) % (7 : Int32))), .val (.ref z_PATCH), .val (.int (0 : Int32))] [(.int (1 : Int32))])) (fun t k => XS.goto X29.here hx rfl (pc0 := 106) (pc' := 110) rfl (hb hby at_106) (by decide) (by decide) k) ?_
            refine Go.retZ X29 hx hlk (t := .boolean) Bd.returns (by simp) (hb hby at_110) hh29 ?_ (by decide) (by decide)
            exact ⟨rfl, N30, K0⟩
          ·
            refine Go.step (T' := s₁) (f' := (mkF m 77 #[.val (.int ia), .val (.int ((ia &&& (2147483647 : Int32)) % (7 : Int32))), .unset, .unset] [])) (fun t k => XS.icmpYes X0.here hx rfl (pc0 := 65) (pc' := 77) rfl (hb hby at_65) rfl (feq hc27).2 (by decide) (by decide) k) ?_
            refine Go.step (T' := s₁) (f' := (mkF m 78 #[.val (.int ia), .val (.int ((ia &&& (2147483647 : Int32)) % (7 : Int32))), .unset, .unset] [(.int ((ia &&& (2147483647 : Int32)) % (7 : Int32)))])) (fun t k => XS.iloadN X0.here hx rfl (hb hby at_77) rfl k) ?_
            refine Go.step (T' := s₁) (f' := (mkF m 79 #[.val (.int ia), .val (.int ((ia &&& (2147483647 : Int32)) % (7 : Int32))), .unset, .unset] [(.int (5 : Int32)), (.int ((ia &&& (2147483647 : Int32)) % (7 : Int32)))])) (fun t k => XS.iconst X0.here hx rfl (hb hby at_78) k) ?_
            by_cases hc32 : ((ia &&& (2147483647 : Int32)) % (7 : Int32)) = (5 : Int32)
            ·
              refine Go.step (T' := s₁) (f' := (mkF m 82 #[.val (.int ia), .val (.int ((ia &&& (2147483647 : Int32)) % (7 : Int32))), .unset, .unset] [])) (fun t k => XS.icmpNo X0.here hx rfl (hb hby at_79) rfl (teq hc32).2 k) ?_
              obtain ⟨T33, X33, e33, st33⟩ := getS2 X0 hx hZ hown (host := "") (Or.inl (hw _ (List.mem_of_getElem? (i := 16) rfl))) Via.refl e0 (P5.ext O0.2) (g := (mkF m 82 #[.val (.int ia), .val (.int ((ia &&& (2147483647 : Int32)) % (7 : Int32))), .unset, .unset] [])) rfl (hb hby at_82)
              refine Go.step (T' := T33) (f' := (mkF m 85 #[.val (.int ia), .val (.int ((ia &&& (2147483647 : Int32)) % (7 : Int32))), .unset, .unset] [(.ref z_HEAD)])) st33 ?_
              refine Go.step (T' := T33) (f' := (mkF m 86 #[.val (.int ia), .val (.int ((ia &&& (2147483647 : Int32)) % (7 : Int32))), .val (.ref z_HEAD), .unset] [])) (fun t k => XS.astoreN X33.here hx rfl (hb hby at_85) rfl rfl (l' := #[.val (.int ia), .val (.int ((ia &&& (2147483647 : Int32)) % (7 : Int32))), .val (.ref z_HEAD), .unset]) rfl k) ?_
              refine Go.step (T' := T33) (f' := (mkF m 87 #[.val (.int ia), .val (.int ((ia &&& (2147483647 : Int32)) % (7 : Int32))), .val (.ref z_HEAD), .unset] [(.int (1 : Int32))])) (fun t k => XS.iconst X33.here hx rfl (hb hby at_86) k) ?_
              refine Go.step (T' := T33) (f' := (mkF m 88 #[.val (.int ia), .val (.int ((ia &&& (2147483647 : Int32)) % (7 : Int32))), .val (.ref z_HEAD), .val (.int (1 : Int32))] [])) (fun t k => XS.istoreN X33.here hx rfl (hb hby at_87) rfl (l' := #[.val (.int ia), .val (.int ((ia &&& (2147483647 : Int32)) % (7 : Int32))), .val (.ref z_HEAD), .val (.int (1 : Int32))]) rfl k) ?_
              refine Go.step (T' := T33) (f' := (mkF m 97 #[.val (.int ia), .val (.int ((ia &&& (2147483647 : Int32)) % (7 : Int32))), .val (.ref z_HEAD), .val (.int (1 : Int32))] [])) (fun t k => XS.goto X33.here hx rfl (pc0 := 88) (pc' := 97) rfl (hb hby at_88) (by decide) (by decide) k) ?_
              refine Go.step (T' := T33) (f' := (mkF m 98 #[.val (.int ia), .val (.int ((ia &&& (2147483647 : Int32)) % (7 : Int32))), .val (.ref z_HEAD), .val (.int (1 : Int32))] [(.ref z_HEAD)])) (fun t k => XS.aloadN X33.here hx rfl (hb hby at_97) rfl rfl k) ?_
              obtain ⟨cq34, kq34, q34a, q34b, q34c⟩ := isOf hZ e33 (P12.ext O0.2)
              obtain ⟨_, _, ⟨T34, L34, k34, n34⟩, -, X34, ⟨Lc34, hQ34, l34, y34, z34⟩, st34⟩ := X33.virtualBack hx (y := (⟨"com/example/gate3/gate3/config/HttpMethod", "isSafe", "()Z"⟩ : MethodName)) (z := (⟨"com/example/gate3/gate3/config/HttpMethod", "isSafe", "()Z"⟩ : MethodName)) hown (mvT hZ (hw _ (List.mem_of_getElem? (i := 4) rfl))) (mvT hZ (hw _ (List.mem_of_getElem? (i := 5) rfl))) (notFace_of_selects (args := #[]) (mvT hZ (hw _ (List.mem_of_getElem? (i := 7) rfl)))) (mvT hZ (hw _ (List.mem_of_getElem? (i := 7) rfl))) (mvT hZ (hw _ (List.mem_of_getElem? (i := 6) rfl))) (by decide) (backOf (W := 0) (rm_ask l Z a0 hw [] z_HEAD z_GET z_HEAD z_OPTIONS h0 n0 O0 P0 P5 P6) hZ (hw _ (List.mem_of_getElem? (i := 8) rfl)) (hw _ (List.mem_of_getElem? (i := 2) rfl)) (by decide) (by decide)) q34a q34c (g := (mkF m 98 #[.val (.int ia), .val (.int ((ia &&& (2147483647 : Int32)) % (7 : Int32))), .val (.ref z_HEAD), .val (.int (1 : Int32))] [(.ref z_HEAD)])) rfl (by rw [hml]; rfl) (Steps.refl _) (argsL := []) (rest := []) (lenOf pd0 rfl) rfl (by show 2 * 0 + _ ≤ _; exact Nat.le_of_eq rfl) (hb hby at_98) (fun _ _ => ⟨rfl, e33, (by decide : 0 + 0 ≤ _), (by decide : 0 + 0 ≤ _)⟩)
              dsimp only [Pt.U, Pt.locs, Pt.cells, Pt.slots] at X34 l34 y34 z34 st34 hQ34
              subst l34 y34 z34
              obtain ⟨rfl, Nq34, hh34⟩ := hQ34
              have N35 := Fr.app N0 Nq34
              refine Go.via (T' := T34) (f' := (mkF m 101 #[.val (.int ia), .val (.int ((ia &&& (2147483647 : Int32)) % (7 : Int32))), .val (.ref z_HEAD), .val (.int (1 : Int32))] [(.int (if z_HEAD = z_GET ∨ z_HEAD = z_HEAD ∨ z_HEAD = z_OPTIONS then (1 : Int32) else 0))])) st34 ?_
              refine Go.step (T' := T34) (f' := (mkF m 102 #[.val (.int ia), .val (.int ((ia &&& (2147483647 : Int32)) % (7 : Int32))), .val (.ref z_HEAD), .val (.int (1 : Int32))] [(.int (1 : Int32)), (.int (if z_HEAD = z_GET ∨ z_HEAD = z_HEAD ∨ z_HEAD = z_OPTIONS then (1 : Int32) else 0))])) (fun t k => XS.iloadN X34.here hx rfl (hb hby at_101) rfl k) ?_
              have hc36 : (if z_HEAD = z_GET ∨ z_HEAD = z_HEAD ∨ z_HEAD = z_OPTIONS then (1 : Int32) else 0) = (1 : Int32) := by
                simp [Ne.symm P18, Ne.symm P20, Ne.symm P22, Ne.symm P24, Ne.symm P26, P28]
              refine Go.step (T' := T34) (f' := (mkF m 105 #[.val (.int ia), .val (.int ((ia &&& (2147483647 : Int32)) % (7 : Int32))), .val (.ref z_HEAD), .val (.int (1 : Int32))] [])) (fun t k => XS.icmpNo X34.here hx rfl (hb hby at_102) rfl (teq hc36).2 k) ?_
              refine Go.step (T' := T34) (f' := (mkF m 106 #[.val (.int ia), .val (.int ((ia &&& (2147483647 : Int32)) % (7 : Int32))), .val (.ref z_HEAD), .val (.int (1 : Int32))] [(.int (1 : Int32))])) (fun t k => XS.iconst X34.here hx rfl (hb hby at_105) k) ?_
              refine Go.step (T' := T34) (f' := (mkF m 110 #[.val (.int ia), .val (.int ((ia &&& (2147483647 : Int32)) % (7 : Int32))), .val (.ref z_HEAD), .val (.int (1 : Int32))] [(.int (1 : Int32))])) (fun t k => XS.goto X34.here hx rfl (pc0 := 106) (pc' := 110) rfl (hb hby at_106) (by decide) (by decide) k) ?_
              refine Go.retZ X34 hx hlk (t := .boolean) Bd.returns (by simp) (hb hby at_110) hh34 ?_ (by decide) (by decide)
              exact ⟨rfl, N35, K0⟩
            ·
              refine Go.step (T' := s₁) (f' := (mkF m 91 #[.val (.int ia), .val (.int ((ia &&& (2147483647 : Int32)) % (7 : Int32))), .unset, .unset] [])) (fun t k => XS.icmpYes X0.here hx rfl (pc0 := 79) (pc' := 91) rfl (hb hby at_79) rfl (feq hc32).2 (by decide) (by decide) k) ?_
              obtain ⟨T37, X37, e37, st37⟩ := getS2 X0 hx hZ hown (host := "") (Or.inl (hw _ (List.mem_of_getElem? (i := 17) rfl))) Via.refl e0 (P6.ext O0.2) (g := (mkF m 91 #[.val (.int ia), .val (.int ((ia &&& (2147483647 : Int32)) % (7 : Int32))), .unset, .unset] [])) rfl (hb hby at_91)
              refine Go.step (T' := T37) (f' := (mkF m 94 #[.val (.int ia), .val (.int ((ia &&& (2147483647 : Int32)) % (7 : Int32))), .unset, .unset] [(.ref z_OPTIONS)])) st37 ?_
              refine Go.step (T' := T37) (f' := (mkF m 95 #[.val (.int ia), .val (.int ((ia &&& (2147483647 : Int32)) % (7 : Int32))), .val (.ref z_OPTIONS), .unset] [])) (fun t k => XS.astoreN X37.here hx rfl (hb hby at_94) rfl rfl (l' := #[.val (.int ia), .val (.int ((ia &&& (2147483647 : Int32)) % (7 : Int32))), .val (.ref z_OPTIONS), .unset]) rfl k) ?_
              refine Go.step (T' := T37) (f' := (mkF m 96 #[.val (.int ia), .val (.int ((ia &&& (2147483647 : Int32)) % (7 : Int32))), .val (.ref z_OPTIONS), .unset] [(.int (1 : Int32))])) (fun t k => XS.iconst X37.here hx rfl (hb hby at_95) k) ?_
              refine Go.step (T' := T37) (f' := (mkF m 97 #[.val (.int ia), .val (.int ((ia &&& (2147483647 : Int32)) % (7 : Int32))), .val (.ref z_OPTIONS), .val (.int (1 : Int32))] [])) (fun t k => XS.istoreN X37.here hx rfl (hb hby at_96) rfl (l' := #[.val (.int ia), .val (.int ((ia &&& (2147483647 : Int32)) % (7 : Int32))), .val (.ref z_OPTIONS), .val (.int (1 : Int32))]) rfl k) ?_
              refine Go.step (T' := T37) (f' := (mkF m 98 #[.val (.int ia), .val (.int ((ia &&& (2147483647 : Int32)) % (7 : Int32))), .val (.ref z_OPTIONS), .val (.int (1 : Int32))] [(.ref z_OPTIONS)])) (fun t k => XS.aloadN X37.here hx rfl (hb hby at_97) rfl rfl k) ?_
              obtain ⟨cq38, kq38, q38a, q38b, q38c⟩ := isOf hZ e37 (P13.ext O0.2)
              obtain ⟨_, _, ⟨T38, L38, k38, n38⟩, -, X38, ⟨Lc38, hQ38, l38, y38, z38⟩, st38⟩ := X37.virtualBack hx (y := (⟨"com/example/gate3/gate3/config/HttpMethod", "isSafe", "()Z"⟩ : MethodName)) (z := (⟨"com/example/gate3/gate3/config/HttpMethod", "isSafe", "()Z"⟩ : MethodName)) hown (mvT hZ (hw _ (List.mem_of_getElem? (i := 4) rfl))) (mvT hZ (hw _ (List.mem_of_getElem? (i := 5) rfl))) (notFace_of_selects (args := #[]) (mvT hZ (hw _ (List.mem_of_getElem? (i := 7) rfl)))) (mvT hZ (hw _ (List.mem_of_getElem? (i := 7) rfl))) (mvT hZ (hw _ (List.mem_of_getElem? (i := 6) rfl))) (by decide) (backOf (W := 0) (rm_ask l Z a0 hw [] z_OPTIONS z_GET z_HEAD z_OPTIONS h0 n0 O0 P0 P5 P6) hZ (hw _ (List.mem_of_getElem? (i := 8) rfl)) (hw _ (List.mem_of_getElem? (i := 2) rfl)) (by decide) (by decide)) q38a q38c (g := (mkF m 98 #[.val (.int ia), .val (.int ((ia &&& (2147483647 : Int32)) % (7 : Int32))), .val (.ref z_OPTIONS), .val (.int (1 : Int32))] [(.ref z_OPTIONS)])) rfl (by rw [hml]; rfl) (Steps.refl _) (argsL := []) (rest := []) (lenOf pd0 rfl) rfl (by show 2 * 0 + _ ≤ _; exact Nat.le_of_eq rfl) (hb hby at_98) (fun _ _ => ⟨rfl, e37, (by decide : 0 + 0 ≤ _), (by decide : 0 + 0 ≤ _)⟩)
              dsimp only [Pt.U, Pt.locs, Pt.cells, Pt.slots] at X38 l38 y38 z38 st38 hQ38
              subst l38 y38 z38
              obtain ⟨rfl, Nq38, hh38⟩ := hQ38
              have N39 := Fr.app N0 Nq38
              refine Go.via (T' := T38) (f' := (mkF m 101 #[.val (.int ia), .val (.int ((ia &&& (2147483647 : Int32)) % (7 : Int32))), .val (.ref z_OPTIONS), .val (.int (1 : Int32))] [(.int (if z_OPTIONS = z_GET ∨ z_OPTIONS = z_HEAD ∨ z_OPTIONS = z_OPTIONS then (1 : Int32) else 0))])) st38 ?_
              refine Go.step (T' := T38) (f' := (mkF m 102 #[.val (.int ia), .val (.int ((ia &&& (2147483647 : Int32)) % (7 : Int32))), .val (.ref z_OPTIONS), .val (.int (1 : Int32))] [(.int (1 : Int32)), (.int (if z_OPTIONS = z_GET ∨ z_OPTIONS = z_HEAD ∨ z_OPTIONS = z_OPTIONS then (1 : Int32) else 0))])) (fun t k => XS.iloadN X38.here hx rfl (hb hby at_101) rfl k) ?_
              have hc40 : (if z_OPTIONS = z_GET ∨ z_OPTIONS = z_HEAD ∨ z_OPTIONS = z_OPTIONS then (1 : Int32) else 0) = (1 : Int32) := by
                simp [Ne.symm P19, Ne.symm P21, Ne.symm P23, Ne.symm P25, Ne.symm P27, Ne.symm P28]
              refine Go.step (T' := T38) (f' := (mkF m 105 #[.val (.int ia), .val (.int ((ia &&& (2147483647 : Int32)) % (7 : Int32))), .val (.ref z_OPTIONS), .val (.int (1 : Int32))] [])) (fun t k => XS.icmpNo X38.here hx rfl (hb hby at_102) rfl (teq hc40).2 k) ?_
              refine Go.step (T' := T38) (f' := (mkF m 106 #[.val (.int ia), .val (.int ((ia &&& (2147483647 : Int32)) % (7 : Int32))), .val (.ref z_OPTIONS), .val (.int (1 : Int32))] [(.int (1 : Int32))])) (fun t k => XS.iconst X38.here hx rfl (hb hby at_105) k) ?_
              refine Go.step (T' := T38) (f' := (mkF m 110 #[.val (.int ia), .val (.int ((ia &&& (2147483647 : Int32)) % (7 : Int32))), .val (.ref z_OPTIONS), .val (.int (1 : Int32))] [(.int (1 : Int32))])) (fun t k => XS.goto X38.here hx rfl (pc0 := 106) (pc' := 110) rfl (hb hby at_106) (by decide) (by decide) k) ?_
              refine Go.retZ X38 hx hlk (t := .boolean) Bd.returns (by simp) (hb hby at_110) hh38 ?_ (by decide) (by decide)
              exact ⟨rfl, N39, K0⟩
set_option maxRecDepth 65536 in
set_option maxHeartbeats 40000000 in
theorem comes_1 {Post : Tables → Env → Array Value → State → Outcome → State → Prop} (hpost : ∀ tb e args s v u, (limb_1_1.after args s (.returned v) u = true ∧ limb_1_2.after args s (.returned v) u = true ∧ True) → FrameEnd s (.returned v) u (Jvm.fieldLocs frame_1_writes args s ++ Jvm.arrayLocs frame_1_arrays args s ++ Jvm.staticLocs frame_1_statics s) 0 0 → Post tb e args s (.returned v) u) :
    ArmFor flags0 classFile x code maxLocals ret World_1 tables_1 room_1 Calls_1 rest_1 Pre_1 Post := by
  intro l hfl _ _ p e ha hc hk s m args below hf hA hF happ hP
  obtain ⟨hcalls, hrest, hpre⟩ := hP
  obtain ⟨-, -, -, hnamed, -, -, -, hat⟩ := (Spec.applies_iff hf).mp happ
  obtain ⟨hg, hn⟩ := and_e (Cond.before_iff.mp (show (Jvm.Cond.and given_1 narrow_1).before args s = true from hpre))
  obtain ⟨c1, c2⟩ := and_e hg
  obtain ⟨c3, c4⟩ := and_e hn
  obtain ⟨c5, c6⟩ := and_e c4
  obtain ⟨c7, c8⟩ := and_e c6
  obtain ⟨c9, c10⟩ := and_e c8
  obtain ⟨c11, c12⟩ := and_e c10
  obtain ⟨c13, c14⟩ := and_e c12
  obtain ⟨c15, c16⟩ := and_e c14
  obtain ⟨c17, c18⟩ := and_e c16
  obtain ⟨c19, c20⟩ := and_e c18
  obtain ⟨c21, c22⟩ := and_e c20
  obtain ⟨c23, c24⟩ := and_e c22
  obtain ⟨c25, c26⟩ := and_e c24
  obtain ⟨c27, c28⟩ := and_e c26
  obtain ⟨w0, rfl⟩ : ∃ w0 : Value, args = #[w0] := by
    have hs : args.size = 1 := by simpa [Cond.value, given_1] using c1
    obtain ⟨L⟩ := args
    match L, hs with
    | [w0], _ => exact ⟨w0, rfl⟩
  have hw := fun d (hd : d ∈ tables_1) => atoms_spec (ws := Jvm.Cond.code x code maxLocals ret :: tables_1) hat d (List.mem_cons_of_mem _ hd)
  have hfit : Fit s := fun {y c} hc i hi => by
    obtain ⟨ha, rfl⟩ := Array.getElem?_eq_some_iff.mp hc
    have q := List.all_eq_true.mp ((Array.all_eq_true_iff_forall_mem.mp hF) _ (Array.getElem_mem ha)) i (List.mem_range.mpr hi)
    simpa [Array.getElem?_eq_getElem hi] using q
  obtain ⟨i0, ei0⟩ := is_v c2
  obtain rfl : w0 = (.int i0) := Option.some.inj ei0
  obtain ⟨z_GET, ev_z_GET⟩ := exa_v c3
  have S_z_GET := Sta.start ev_z_GET (Or.inr ⟨(hw _ (List.mem_of_getElem? (i := 2) rfl)), (hw _ (List.mem_of_getElem? (i := 3) rfl))⟩)
  have E_z_GET := Exa.start ev_z_GET c3
  obtain ⟨z_DELETE, ev_z_DELETE⟩ := exa_v c5
  have S_z_DELETE := Sta.start ev_z_DELETE (Or.inr ⟨(hw _ (List.mem_of_getElem? (i := 2) rfl)), (hw _ (List.mem_of_getElem? (i := 11) rfl))⟩)
  have E_z_DELETE := Exa.start ev_z_DELETE c5
  obtain ⟨z_HEAD, ev_z_HEAD⟩ := exa_v c11
  have S_z_HEAD := Sta.start ev_z_HEAD (Or.inr ⟨(hw _ (List.mem_of_getElem? (i := 2) rfl)), (hw _ (List.mem_of_getElem? (i := 13) rfl))⟩)
  have E_z_HEAD := Exa.start ev_z_HEAD c11
  obtain ⟨z_OPTIONS, ev_z_OPTIONS⟩ := exa_v c15
  have S_z_OPTIONS := Sta.start ev_z_OPTIONS (Or.inr ⟨(hw _ (List.mem_of_getElem? (i := 2) rfl)), (hw _ (List.mem_of_getElem? (i := 15) rfl))⟩)
  have E_z_OPTIONS := Exa.start ev_z_OPTIONS c15
  obtain ⟨z_PATCH, ev_z_PATCH⟩ := exa_v c19
  have S_z_PATCH := Sta.start ev_z_PATCH (Or.inr ⟨(hw _ (List.mem_of_getElem? (i := 2) rfl)), (hw _ (List.mem_of_getElem? (i := 19) rfl))⟩)
  have E_z_PATCH := Exa.start ev_z_PATCH c19
  obtain ⟨z_PUT, ev_z_PUT⟩ := exa_v c23
  have S_z_PUT := Sta.start ev_z_PUT (Or.inr ⟨(hw _ (List.mem_of_getElem? (i := 2) rfl)), (hw _ (List.mem_of_getElem? (i := 21) rfl))⟩)
  have E_z_PUT := Exa.start ev_z_PUT c23
  obtain ⟨z_POST, ev_z_POST⟩ := exa_v c27
  have S_z_POST := Sta.start ev_z_POST (Or.inr ⟨(hw _ (List.mem_of_getElem? (i := 2) rfl)), (hw _ (List.mem_of_getElem? (i := 23) rfl))⟩)
  have E_z_POST := Exa.start ev_z_POST c27
  have F_z_DELETE : Fld s s.heap z_DELETE "java/lang/Enum" "ordinal" "I" (.int (3 : Int32)) := own_fld_start ev_z_DELETE c7
  have F_z_GET : Fld s s.heap z_GET "java/lang/Enum" "ordinal" "I" (.int (0 : Int32)) := own_fld_start ev_z_GET c9
  have F_z_HEAD : Fld s s.heap z_HEAD "java/lang/Enum" "ordinal" "I" (.int (5 : Int32)) := own_fld_start ev_z_HEAD c13
  have F_z_OPTIONS : Fld s s.heap z_OPTIONS "java/lang/Enum" "ordinal" "I" (.int (6 : Int32)) := own_fld_start ev_z_OPTIONS c17
  have F_z_PATCH : Fld s s.heap z_PATCH "java/lang/Enum" "ordinal" "I" (.int (4 : Int32)) := own_fld_start ev_z_PATCH c21
  have F_z_PUT : Fld s s.heap z_PUT "java/lang/Enum" "ordinal" "I" (.int (2 : Int32)) := own_fld_start ev_z_PUT c25
  have F_z_POST : Fld s s.heap z_POST "java/lang/Enum" "ordinal" "I" (.int (1 : Int32)) := own_fld_start ev_z_POST c28
  obtain ⟨n, o, h1, h2, h3, _, L, rfl, ⟨rfl, N, -⟩, hq⟩ := rm_law l s _ hw tables_1 i0 z_GET z_POST z_PUT z_DELETE z_PATCH z_HEAD z_OPTIONS s.heap s.heap.size (Old.start s) S_z_GET S_z_POST S_z_PUT S_z_DELETE S_z_PATCH S_z_HEAD S_z_OPTIONS E_z_GET E_z_POST E_z_PUT E_z_DELETE E_z_PATCH E_z_HEAD E_z_OPTIONS (F_z_GET.ne F_z_POST (by decide)) (F_z_GET.ne F_z_PUT (by decide)) (F_z_GET.ne F_z_DELETE (by decide)) (F_z_GET.ne F_z_PATCH (by decide)) (F_z_GET.ne F_z_HEAD (by decide)) (F_z_GET.ne F_z_OPTIONS (by decide)) (F_z_POST.ne F_z_HEAD (by decide)) (F_z_POST.ne F_z_OPTIONS (by decide)) (F_z_PUT.ne F_z_HEAD (by decide)) (F_z_PUT.ne F_z_OPTIONS (by decide)) (F_z_DELETE.ne F_z_HEAD (by decide)) (F_z_DELETE.ne F_z_OPTIONS (by decide)) (F_z_PATCH.ne F_z_HEAD (by decide)) (F_z_PATCH.ne F_z_OPTIONS (by decide)) (F_z_HEAD.ne F_z_OPTIONS (by decide)) p e ha hc hk s m _ below hf ((Spec.applies_iff_loose hf).mp happ).1 ⟨rfl, State.Warmed39.refl s, rfl⟩ trivial
  refine ⟨n, _, h1, h2, h3, hpost _ _ _ _ _ _ ⟨Cond.after_iff.mpr rfl, Cond.after_iff.mpr (eq_i res_at (Term.int_eval (1)) rfl), trivial⟩ ⟨hq.1, hq.2.1, (hq.2.2.sift fun y hy => Or.inr (N y hy)).mono (by decide) (by decide)⟩⟩
theorem main_1_1 : Claimed_1_1 := comes_1 fun _ _ _ _ _ _ h hF => ⟨h.1, hF⟩
theorem main_1_2 : Claimed_1_2 := comes_1 fun _ _ _ _ _ _ h hF => ⟨h.2.1, hF⟩
end Jvm.Pilot.@@N@@
namespace Jvm.Pilot.@@N@@
open Jvm Jvm.ClassFile Sem Op Lib Jvm.Free Jvm.Stand Jvm.Pilot.@@N@@.Jvm.D
/-! MADE BY PROGRAM (witnessworld.py) out of the Statement's table words and the real class files: 12 classes; the members and pool entries that the words name. The judged class is class 1, her method 1. -/
namespace start1
open Jvm.ClassFile
def u (s : String) : CpInfo := .utf8 (stringToUtf16 s)
/-- a pool by its gaps: so many unusable entries, then the entry; so many at the end -/
def gap : Nat → List CpInfo → List CpInfo
  | 0, r => r
  | n + 1, r => .unusable :: gap n r
def poolList (es : List (Nat × CpInfo)) (last : Nat) : List CpInfo := es.foldr (fun e r => gap e.1 (e.2 :: r)) (gap last [])
def pool (es : List (Nat × CpInfo)) (last : Nat) : Array CpInfo := ⟨poolList es last⟩
def fileOf (pool : Array CpInfo) (this : Nat) (attrs : Array Attribute := #[]) (ms : Array MethodInfo := #[]) (fl : Nat := 33) (sup : Nat := 0) (ifs : Array Nat := #[]) (fds : Array FieldInfo := #[]) : ClassFile where
  minorVersion := 0
  majorVersion := 65
  constantPool := pool
  accessFlags := fl
  thisClass := this
  superClass := sup
  interfaces := ifs
  fields := fds
  methods := ms
  attributes := attrs
def plain (name : String) (sup : Option ClassId) : Class where
  name := name
  kind := .ordinary
  loader := none
  accessFlags := 33
  super := sup
  interfaces := #[]
  cf := none
  fields := #[]
  methods := #[]
  instanceTypes := #[]
  staticTypes := #[]
  resolved := #[]
  callSites := []
  init := .initialized
  statics := none
  mirror := none

def pool0 : Array CpInfo := pool [(5, u "<init>"), (0, u "()V"), (1, .class_ 10), (1, u "java/lang/Object")] 113

def k0m0 : Method := { name := "<init>", desc := "()V", sig := { parameters := [], returnType := none }, accessFlags := 1, code := none }
/-- java/lang/Object -/
def k0 : Class := { plain "java/lang/Object" none with
  accessFlags := 33
  interfaces := #[]
  cf := some (fileOf pool0 8 #[] #[{ accessFlags := 1, nameIndex := 5, descriptorIndex := 6, attributes := #[] }] 33 0 #[] #[])
  fields := #[]
  methods := #[k0m0]
  instanceTypes := #[]
  staticTypes := #[]
  resolved := Array.replicate 124 none
  statics := none }

def pool1 : Array CpInfo := pool [(2, .class_ 4), (1, u "java/lang/Object"), (0, u "<init>"), (0, u "()V"), (0, .integer 2147483647), (0, .fieldref 9 10), (0, .class_ 11), (0, .nameAndType 12 13), (0, u "com/example/gate3/gate3/config/HttpMethod"), (0, u "GET"), (0, u "Lcom/example/gate3/gate3/config/HttpMethod;"), (0, .fieldref 9 15), (0, .nameAndType 16 13), (0, u "POST"), (0, .fieldref 9 18), (0, .nameAndType 19 13), (0, u "PUT"), (0, .fieldref 9 21), (0, .nameAndType 22 13), (0, u "DELETE"), (0, .fieldref 9 24), (0, .nameAndType 25 13), (0, u "PATCH"), (0, .fieldref 9 27), (0, .nameAndType 28 13), (0, u "HEAD"), (0, .fieldref 9 30), (0, .nameAndType 31 13), (0, u "OPTIONS"), (0, .methodref 9 33), (0, .nameAndType 34 35), (0, u "isSafe"), (0, u "()Z"), (0, .class_ 37), (0, u "com/example/gate3/gate3/config/HttpMethodIsSafePinLaw"), (2, u "law"), (0, u "(I)Z")] 3

def k1m0 : Method := { name := "<init>", desc := "()V", sig := { parameters := [], returnType := none }, accessFlags := 1, code := none }
def k1c1 : Code := { maxStack := 2, maxLocals := 4, code := code, exceptionTable := #[], attributes := #[] }
def k1m1 : Method := { name := "law", desc := "(I)Z", sig := { parameters := [.int], returnType := some .boolean }, accessFlags := 9, code := some k1c1 }
/-- com/example/gate3/gate3/config/HttpMethodIsSafePinLaw -/
def k1 : Class := { plain "com/example/gate3/gate3/config/HttpMethodIsSafePinLaw" (some 0) with
  accessFlags := 49
  interfaces := #[]
  cf := some (fileOf pool1 36 #[] #[{ accessFlags := 1, nameIndex := 5, descriptorIndex := 6, attributes := #[] }, { accessFlags := 9, nameIndex := 40, descriptorIndex := 41, attributes := #[] }] 49 2 #[] #[])
  fields := #[]
  methods := #[k1m0, k1m1]
  instanceTypes := #[]
  staticTypes := #[]
  resolved := Array.replicate 45 none
  statics := none }

def pool2 : Array CpInfo := pool [(1, .class_ 2), (0, u "java/lang/constant/Constable"), (0, .class_ 4), (0, u "java/lang/Object")] 6

/-- java/lang/constant/Constable -/
def k2 : Class := { plain "java/lang/constant/Constable" (some 0) with
  accessFlags := 1537
  interfaces := #[]
  cf := some (fileOf pool2 1 #[] #[] 1537 3 #[] #[])
  fields := #[]
  methods := #[]
  instanceTypes := #[]
  staticTypes := #[]
  resolved := Array.replicate 11 none
  statics := none }

def pool3 : Array CpInfo := pool [(1, .class_ 2), (0, u "java/lang/Comparable"), (0, .class_ 4), (0, u "java/lang/Object")] 7

/-- java/lang/Comparable -/
def k3 : Class := { plain "java/lang/Comparable" (some 0) with
  accessFlags := 1537
  interfaces := #[]
  cf := some (fileOf pool3 1 #[] #[] 1537 3 #[] #[])
  fields := #[]
  methods := #[]
  instanceTypes := #[]
  staticTypes := #[]
  resolved := Array.replicate 12 none
  statics := none }

def pool4 : Array CpInfo := pool [(1, .class_ 2), (0, u "java/io/Serializable"), (0, .class_ 4), (0, u "java/lang/Object")] 2

/-- java/io/Serializable -/
def k4 : Class := { plain "java/io/Serializable" (some 0) with
  accessFlags := 1537
  interfaces := #[]
  cf := some (fileOf pool4 1 #[] #[] 1537 3 #[] #[])
  fields := #[]
  methods := #[]
  instanceTypes := #[]
  staticTypes := #[]
  resolved := Array.replicate 7 none
  statics := none }

def pool5 : Array CpInfo := pool [(2, .class_ 4), (1, u "java/lang/Enum"), (0, u "name"), (0, u "Ljava/lang/String;"), (2, u "ordinal"), (0, u "I"), (1, .class_ 14), (1, u "java/lang/Object"), (4, u "hash"), (86, .class_ 108), (1, u "java/lang/Enum$EnumDesc"), (2, .class_ 112), (0, u "java/lang/constant/Constable"), (0, .class_ 114), (0, u "java/lang/Comparable"), (0, .class_ 116), (0, u "java/io/Serializable")] 87

/-- java/lang/Enum -/
def k5 : Class := { plain "java/lang/Enum" (some 0) with
  accessFlags := 1057
  interfaces := #[2, 3, 4]
  cf := some (fileOf pool5 2 #[.nestMembers #[106]] #[] 1057 12 #[111, 113, 115] #[{ accessFlags := 18, nameIndex := 5, descriptorIndex := 6, attributes := #[] }, { accessFlags := 18, nameIndex := 9, descriptorIndex := 10, attributes := #[] }, { accessFlags := 2, nameIndex := 19, descriptorIndex := 10, attributes := #[] }])
  fields := #[{ name := "name", type := (.object "java/lang/String"), accessFlags := 18, slot := 0, constantValue := 0 }, { name := "ordinal", type := .int, accessFlags := 18, slot := 1, constantValue := 0 }, { name := "hash", type := .int, accessFlags := 2, slot := 2, constantValue := 0 }]
  methods := #[]
  instanceTypes := #[(.object "java/lang/String"), .int, .int]
  staticTypes := #[]
  resolved := Array.replicate 204 none
  statics := none }

def pool6 : Array CpInfo := pool [(1, .class_ 2), (0, u "com/example/gate3/gate3/config/HttpMethod"), (0, .fieldref 1 4), (0, .nameAndType 5 6), (0, u "GET"), (0, u "Lcom/example/gate3/gate3/config/HttpMethod;"), (2, u "POST"), (2, u "PUT"), (2, u "DELETE"), (2, u "PATCH"), (0, .fieldref 1 20), (0, .nameAndType 21 6), (0, u "HEAD"), (0, .fieldref 1 23), (0, .nameAndType 24 6), (0, u "OPTIONS"), (2, u "$VALUES"), (0, u "[Lcom/example/gate3/gate3/config/HttpMethod;"), (6, .class_ 37), (1, u "java/lang/Enum"), (25, u "isSafe"), (0, u "()Z")] 5

def k6c0 : Code := { maxStack := 2, maxLocals := 1, code := prog_19_method_4_code, exceptionTable := #[], attributes := #[] }
def k6m0 : Method := { name := "isSafe", desc := "()Z", sig := { parameters := [], returnType := some .boolean }, accessFlags := 1, code := some k6c0 }
/-- com/example/gate3/gate3/config/HttpMethod -/
def k6 : Class := { plain "com/example/gate3/gate3/config/HttpMethod" (some 5) with
  accessFlags := 16433
  interfaces := #[]
  cf := some (fileOf pool6 1 #[] #[{ accessFlags := 1, nameIndex := 63, descriptorIndex := 64, attributes := #[] }] 16433 35 #[] #[{ accessFlags := 16409, nameIndex := 5, descriptorIndex := 6, attributes := #[] }, { accessFlags := 16409, nameIndex := 9, descriptorIndex := 6, attributes := #[] }, { accessFlags := 16409, nameIndex := 12, descriptorIndex := 6, attributes := #[] }, { accessFlags := 16409, nameIndex := 15, descriptorIndex := 6, attributes := #[] }, { accessFlags := 16409, nameIndex := 18, descriptorIndex := 6, attributes := #[] }, { accessFlags := 16409, nameIndex := 21, descriptorIndex := 6, attributes := #[] }, { accessFlags := 16409, nameIndex := 24, descriptorIndex := 6, attributes := #[] }, { accessFlags := 4122, nameIndex := 27, descriptorIndex := 28, attributes := #[] }])
  fields := #[{ name := "GET", type := (.object "com/example/gate3/gate3/config/HttpMethod"), accessFlags := 16409, slot := 0, constantValue := 0 }, { name := "POST", type := (.object "com/example/gate3/gate3/config/HttpMethod"), accessFlags := 16409, slot := 1, constantValue := 0 }, { name := "PUT", type := (.object "com/example/gate3/gate3/config/HttpMethod"), accessFlags := 16409, slot := 2, constantValue := 0 }, { name := "DELETE", type := (.object "com/example/gate3/gate3/config/HttpMethod"), accessFlags := 16409, slot := 3, constantValue := 0 }, { name := "PATCH", type := (.object "com/example/gate3/gate3/config/HttpMethod"), accessFlags := 16409, slot := 4, constantValue := 0 }, { name := "HEAD", type := (.object "com/example/gate3/gate3/config/HttpMethod"), accessFlags := 16409, slot := 5, constantValue := 0 }, { name := "OPTIONS", type := (.object "com/example/gate3/gate3/config/HttpMethod"), accessFlags := 16409, slot := 6, constantValue := 0 }, { name := "$VALUES", type := (.array (.object "com/example/gate3/gate3/config/HttpMethod")), accessFlags := 4122, slot := 7, constantValue := 0 }]
  methods := #[k6m0]
  instanceTypes := #[(.object "java/lang/String"), .int, .int]
  staticTypes := #[(.object "com/example/gate3/gate3/config/HttpMethod"), (.object "com/example/gate3/gate3/config/HttpMethod"), (.object "com/example/gate3/gate3/config/HttpMethod"), (.object "com/example/gate3/gate3/config/HttpMethod"), (.object "com/example/gate3/gate3/config/HttpMethod"), (.object "com/example/gate3/gate3/config/HttpMethod"), (.object "com/example/gate3/gate3/config/HttpMethod"), (.array (.object "com/example/gate3/gate3/config/HttpMethod"))]
  resolved := Array.replicate 70 none
  statics := some 0 }

def pool7 : Array CpInfo := pool [(1, u "java/lang/Cloneable"), (0, .class_ 1), (0, u "java/lang/Object"), (0, .class_ 3)] 3

/-- java/lang/Cloneable -/
def k7 : Class := { plain "java/lang/Cloneable" (some 0) with
  accessFlags := 1537
  interfaces := #[]
  cf := some (fileOf pool7 2 #[] #[] 1537 4 #[] #[])
  fields := #[]
  methods := #[]
  instanceTypes := #[]
  staticTypes := #[]
  resolved := Array.replicate 8 none
  statics := none }

/-- the primitive byte -/
def k8 : Class := { plain "byte" none with kind := .primitive 'B', accessFlags := 0x411 }
/-- [B -/
def k9 : Class := { plain "[B" (some 0) with kind := .array 8 .byte, interfaces := #[7, 4], accessFlags := 1041 }

/-- the primitive int -/
def k10 : Class := { plain "int" none with kind := .primitive 'I', accessFlags := 0x411 }
/-- [I -/
def k11 : Class := { plain "[I" (some 0) with kind := .array 10 .int, interfaces := #[7, 4], accessFlags := 1041 }

def heap : Heap := #[{ cls := 6, slots := #[.ref 1, .ref 7, .ref 6, .ref 2, .ref 5, .ref 3, .ref 4, .null], vm := .statics 6 },
  { cls := 6, slots := #[.null, .int 0, .int 0], vm := .none },
  { cls := 6, slots := #[.null, .int 3, .int 0], vm := .none },
  { cls := 6, slots := #[.null, .int 5, .int 0], vm := .none },
  { cls := 6, slots := #[.null, .int 6, .int 0], vm := .none },
  { cls := 6, slots := #[.null, .int 4, .int 0], vm := .none },
  { cls := 6, slots := #[.null, .int 2, .int 0], vm := .none },
  { cls := 6, slots := #[.null, .int 1, .int 0], vm := .none }]
def classes : Array Class := #[k0, k1, k2, k3, k4, k5, k6, k7, k8, k9, k10, k11]
def interned : List (Array UInt16 × Addr) := []
def slotsUsed : Nat := 29
def theMethod : MethodId := ⟨1, 1⟩
def args0 : Array Value := #[.int 5]
def aboutOver (below : List Frame) : State where
  vm := { classes := classes, interned := interned.toArray }
  heap := heap
  slotsUsed := slotsUsed
  threads := #[{ frames := .invoking theMethod args0 :: below }]
def below0 : List Frame := [.native { method := ⟨0, 0⟩, args := #[] }]
def about1 : State := aboutOver below0
def p0 : Program := .bare "" "" ""
def e0 : Env := launch0.env 0 0 0
theorem w_frames : about1.frames = Frame.invoking theMethod args0 :: below0 := rfl
set_option maxRecDepth 65536 in
theorem w_args : argsFit about1.vm theMethod args0 = true := by decide +kernel
set_option maxRecDepth 65536 in
theorem w_heap : heapFits about1 = true := by decide +kernel
set_option maxRecDepth 65536 in
theorem w_runnable : about1.curStatus? = some .runnable := by decide +kernel
set_option maxRecDepth 65536 in
theorem w_alone : about1.alone = true := by decide +kernel
set_option maxRecDepth 65536 in
theorem w_named : about1.methodNamed? x = some theMethod := by decide +kernel
set_option maxRecDepth 65536 in
theorem w_hears : about1.hears theMethod below0 = true := by decide +kernel
set_option maxRecDepth 65536 in
theorem w_ripe : about1.ripe theMethod args0 below0 = true := by decide +kernel
theorem w_running : about1.status = .running := rfl
set_option maxRecDepth 65536 in
theorem w_room : about1.hasRoom e0.platform room_1 = true :=
  launch0.hasRoom_least _ room_1 (by decide +kernel) (by decide +kernel) (by decide +kernel) (by decide +kernel) (by decide +kernel) (by decide +kernel)
theorem allAtoms_all (ts : List Jvm.Cond) (a : Array Jvm.Value) (st : Jvm.State) : (allAtoms ts).before a st = ts.all (fun c => c.before a st) := by
  induction ts with
  | nil => rfl
  | cons c t ih =>
    show (Jvm.Cond.and c (allAtoms t)).before a st = _
    rw [Jvm.Cond.before_and, ih, List.all_cons]
def words1 : List Jvm.Cond := Jvm.Cond.code x code maxLocals ret :: tables_1
/-- a 'code' word, met by the world's own term for the bytes: nothing is compared byte by byte -/
theorem code_word {y : MethodName} {bytes : ByteArray} {mx : Nat} {rt : Option FieldType} {a : Array Value} {s : State} {m : MethodId} {meth : Method} {c : Code} (h1 : s.methodNamed? y = some m) (h2 : s.vm.method? m = some meth) (h3 : meth.code = some c) (h4 : c.code = bytes)
    (h5 : (c.maxLocals == mx && c.exceptionTable.isEmpty && decide (c.maxStack ≤ mostOperands) && decide (meth.sig.returnType = rt) && !meth.locks && decide (parseMethodDescriptor y.desc = some meth.sig)) = true) : (Jvm.Cond.code y bytes mx rt).before a s = true := by
  simp only [Bool.and_eq_true, beq_iff_eq, Bool.not_eq_true', decide_eq_true_eq] at h5
  obtain ⟨⟨⟨⟨⟨g1, g2⟩, g3⟩, g4⟩, g5⟩, g6⟩ := h5
  simp [Cond.before, Cond.holds, Cond.value, h1, h2, h3, h4, g1, g2, g3, g4, g5, g6]
def isCode : Jvm.Cond → Bool
  | .code _ _ _ _ => true
  | _ => false
theorem all_split {L : List Jvm.Cond} {P : Jvm.Cond → Bool} (h1 : L.all (fun c => isCode c || P c) = true) (h2 : ∀ c ∈ L.filter isCode, P c = true) : L.all P = true := by
  refine List.all_eq_true.mpr fun c hc => ?_
  have h := List.all_eq_true.mp h1 c hc
  rcases Bool.eq_false_or_eq_true (isCode c) with hi | hi
  · exact h2 c (List.mem_filter.mpr ⟨hc, hi⟩)
  · simpa [hi] using h
set_option maxRecDepth 65536 in
theorem w_c0 : (Jvm.Cond.code x code maxLocals ret).before args0 about1 = true := code_word (m := ⟨1, 1⟩) (meth := k1m1) (c := k1c1) (by decide +kernel) rfl rfl rfl (by decide +kernel)
set_option maxRecDepth 65536 in
theorem w_c1 : (Jvm.Cond.code ({ cls := "com/example/gate3/gate3/config/HttpMethod", name := "isSafe", desc := "()Z" } : Jvm.MethodName) prog_19_method_4_code (1 : Nat) (Option.some Jvm.ClassFile.FieldType.boolean)).before args0 about1 = true := code_word (m := ⟨6, 0⟩) (meth := k6m0) (c := k6c0) (by decide +kernel) rfl rfl rfl (by decide +kernel)
def codes1 : List Jvm.Cond := [Jvm.Cond.code x code maxLocals ret, Jvm.Cond.code ({ cls := "com/example/gate3/gate3/config/HttpMethod", name := "isSafe", desc := "()Z" } : Jvm.MethodName) prog_19_method_4_code (1 : Nat) (Option.some Jvm.ClassFile.FieldType.boolean)]
set_option maxRecDepth 65536 in
theorem codes_eq : words1.filter isCode = codes1 := rfl
theorem w_codes : ∀ c ∈ words1.filter isCode, c.before args0 about1 = true := by
  rw [codes_eq]
  intro c hc
  simp only [codes1, List.mem_cons, List.not_mem_nil, or_false] at hc
  rcases hc with rfl | rfl
  · exact w_c0
  · exact w_c1
set_option maxRecDepth 65536 in
theorem w_t1 : (words1.take 24).all (fun c => isCode c || c.before args0 about1) = true := by decide +kernel
set_option maxRecDepth 65536 in
theorem w_t2 : (words1.drop 24).all (fun c => isCode c || c.before args0 about1) = true := by decide +kernel
theorem w_tables : (allAtoms (Jvm.Cond.code x code maxLocals ret :: tables_1)).before args0 about1 = true := by
  rw [allAtoms_all]
  show words1.all (fun c => c.before args0 about1) = true
  refine all_split ?_ w_codes
  rw [← List.take_append_drop 24 words1, List.all_append, w_t1, w_t2]
  rfl
set_option maxRecDepth 65536 in
theorem w_case : (Jvm.Cond.and given_1 narrow_1).before args0 about1 = true := by decide +kernel
theorem w_applies : (headSpec (Jvm.Cond.code x code maxLocals ret :: tables_1) room_1).applies x e0.platform about1 = true :=
  (Spec.applies_iff w_frames).mpr ⟨w_running, w_runnable, w_alone, w_named, w_hears, w_ripe, w_room, w_tables⟩
theorem atStart : AtStart classFile x code maxLocals ret World_1 tables_1 room_1 Calls_1 rest_1 Pre_1 launch0 p0 e0 about1 theMethod args0 below0 :=
  ⟨lists_1, trivial, launch0.admits_env _ _ _, launch0.least_env, fairChoices_fair.cas, fairChoices_fair.clock, w_frames, w_args, w_heap, w_applies, trivial, trivial, w_case⟩
end start1
theorem witness_1 : WitnessClaimed_1 := ⟨start1.p0, start1.e0, start1.about1, start1.theMethod, start1.args0, start1.below0, start1.atStart⟩
end Jvm.Pilot.@@N@@
