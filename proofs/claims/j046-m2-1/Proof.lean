import JvmDerived
import JvmDerived.Pilot.@@N@@Statement
import JvmDerived.Pilot.@@N@@Code
set_option linter.unusedVariables false
set_option linter.unusedSimpArgs false
namespace Jvm.RoadKit
open Sem ClassFile Op Lib Jvm.Stand Jvm.Free Jvm.LawKit
section New
variable {p : Program} {l : Launch} {e : Env} {R : Room} {s : State} {m : MethodId} {args : Array Value} {below : List Frame} {meth : Method} {c : Code} {T : State} {locs : List Loc} {cells slots : Nat}
theorem retI (X : Stand p l e R s m args below meth c T locs cells slots) (hx : p.tables.exec = Jvm.exec) {pc : Nat} {Ls : Array Slot} {z : Int32} {rest : List Value} (hret : meth.sig.returnType = some .int) (hd : decode c.code pc = .ok (.ireturn, 1)) {fs : List Frame}
    (hl : ∀ (f : JFrame) (acts : List Action), f.method = m → f.locked = none → f.entered = [] → (doReturn e (T.setTop f) acts (some (.int z))).1 = T.setFrames fs) : Steps p.tables e below (T.setTop (mkF m pc Ls (.int z :: rest))) (T.setFrames fs) := by
  have hm' : T.vm.method? m = some meth := X.method'
  have hn : narrow .int (.int z) = .int z := rfl
  show Steps p.tables e below (T.setTop { method := m, pc := pc, locals := Ls, stack := _ :: rest, locked := none }) _
  jvm_step X.here [X.here.top, hx, hd, hm', hret, hn]
  first | (intro acts; rw [hl _ acts rfl rfl rfl]) | rw [hl _ _ rfl rfl rfl]
  exact Steps.refl _
end New
end Jvm.RoadKit
namespace Jvm.Pilot.@@N@@
open Jvm Jvm.ClassFile Sem Op Lib Jvm.Free Jvm.Stand Jvm.LawKit Jvm.RoadKit Bundle Jvm.Pilot.@@N@@.Jvm.D
section Own
variable {p : Program} {l : Launch} {e : Env} {R : Room} {s : State} {m : MethodId} {args : Array Value} {below : List Frame} {meth : Method} {c : Code} {T T' : State} {locs : List Loc} {cells slots : Nat} {f f' : JFrame} {Q : Option Value → Heap → List Loc → Prop} {ck sk : Nat} {h : Heap} {Z : State}
/-- from here the run comes to its end, and leaves what Q says -/
def Go (p : Program) (e : Env) (below : List Frame) (s : State) (Q : Option Value → Heap → List Loc → Prop) (ck sk : Nat) (T : State) (f : JFrame) : Prop :=
  ∃ s₂ o, Steps p.tables e below (T.setTop f) s₂ ∧ s₂.status = .running ∧ Ended s₂ below o ∧ ∃ v L, o = .returned v ∧ Q v s₂.heap L ∧ FrameEnd s o s₂ L ck sk
theorem Go.step (st : ∀ t, Steps p.tables e below (T'.setTop f') t → Steps p.tables e below (T.setTop f) t) (k : Go p e below s Q ck sk T' f') : Go p e below s Q ck sk T f := by
  obtain ⟨s₂, o, h1, r⟩ := k; exact ⟨s₂, o, st _ h1, r⟩
theorem Go.via (st : Steps p.tables e below (T.setTop f) (T'.setTop f')) (k : Go p e below s Q ck sk T' f') : Go p e below s Q ck sk T f := by
  obtain ⟨s₂, o, h1, r⟩ := k; exact ⟨s₂, o, st.trans h1, r⟩
theorem Go.retI (X : Stand p l e R s m args below meth c T locs cells slots) (hx : p.tables.exec = Jvm.exec) (hlk : meth.locks = false) {pc : Nat} {Ls : Array Slot} {z : Int32} {rest : List Value} (hret : meth.sig.returnType = some .int) (hd : decode c.code pc = .ok (.ireturn, 1)) (eT : T.heap = h) (hq : Q (some (.int z)) h locs) (hck : cells ≤ ck) (hsk : slots ≤ sk) : Go p e below s Q ck sk T (mkF m pc Ls (.int z :: rest)) := by
  subst eT
  obtain ⟨fs, hr, hrun, hended, hW, hsame⟩ := X.leave (v := some (.int z)) (fun h => by rw [hret] at h; cases h) hlk
  exact ⟨_, _, Jvm.RoadKit.retI X hx hret hd hr, hrun, hended, _, _, rfl, hq, ⟨_, rfl⟩, hW, hsame.mono hck hsk⟩
theorem Go.retZ (X : Stand p l e R s m args below meth c T locs cells slots) (hx : p.tables.exec = Jvm.exec) (hlk : meth.locks = false) {pc : Nat} {Ls : Array Slot} {z : Int32} {rest : List Value} {t : FieldType} (hret : meth.sig.returnType = some t) (ht : t = .boolean ∨ t = .byte ∨ t = .char ∨ t = .short) (hd : decode c.code pc = .ok (.ireturn, 1)) (eT : T.heap = h) (hq : Q (some (.int (nar t z))) h locs) (hck : cells ≤ ck) (hsk : slots ≤ sk) : Go p e below s Q ck sk T (mkF m pc Ls (.int z :: rest)) := by
  subst eT
  obtain ⟨fs, hr, hrun, hended, hW, hsame⟩ := X.leave (v := some (.int (nar t z))) (fun h => by rw [hret] at h; cases h) hlk
  exact ⟨_, _, retN X hx hret ht hd hr, hrun, hended, _, _, rfl, hq, ⟨_, rfl⟩, hW, hsame.mono hck hsk⟩
theorem Go.retV (X : Stand p l e R s m args below meth c T locs cells slots) (hx : p.tables.exec = Jvm.exec) (hlk : meth.locks = false) {pc : Nat} {Ls : Array Slot} (hret : meth.sig.returnType = none) (hd : decode c.code pc = .ok (.return_, 1)) (eT : T.heap = h) (hq : Q none h locs) (hck : cells ≤ ck) (hsk : slots ≤ sk) : Go p e below s Q ck sk T (mkF m pc Ls []) := by
  subst eT
  obtain ⟨fs, hr, hrun, hended, hW, hsame⟩ := X.leave (v := none) (fun _ => rfl) hlk
  exact ⟨_, _, X.returnOut hx hret hd hr, hrun, hended, _, _, rfl, hq, ⟨_, rfl⟩, hW, hsame.mono hck hsk⟩
theorem Go.retJ (X : Stand p l e R s m args below meth c T locs cells slots) (hx : p.tables.exec = Jvm.exec) (hlk : meth.locks = false) {pc : Nat} {Ls : Array Slot} {z : Int64} {rest : List Value} (hret : meth.sig.returnType = some .long) (hd : decode c.code pc = .ok (.lreturn, 1)) (eT : T.heap = h) (hq : Q (some (.long z)) h locs) (hck : cells ≤ ck) (hsk : slots ≤ sk) : Go p e below s Q ck sk T (mkF m pc Ls (.long z :: rest)) := by
  subst eT
  obtain ⟨fs, hr, hrun, hended, hW, hsame⟩ := X.leave (v := some (.long z)) (fun h => by rw [hret] at h; cases h) hlk
  exact ⟨_, _, retOut X hx hret rfl (Or.inr (Or.inl ⟨rfl, rfl, _, rfl⟩)) hd hr, hrun, hended, _, _, rfl, hq, ⟨_, rfl⟩, hW, hsame.mono hck hsk⟩
theorem own_nar_ref {t : FieldType} {w : Value} (h1 : t.isReference = true) (h2 : w.isRef = true) : narrow t w = w := by
  cases t <;> first | (cases h1; done) | (cases w <;> first | rfl | (cases h2; done))
theorem Go.retA (X : Stand p l e R s m args below meth c T locs cells slots) (hx : p.tables.exec = Jvm.exec) (hlk : meth.locks = false) {pc : Nat} {Ls : Array Slot} {w : Value} {rest : List Value} {t : FieldType} (hret : meth.sig.returnType = some t) (ht : t.isReference = true) (hw : w.isRef = true) (hd : decode c.code pc = .ok (.areturn, 1)) (eT : T.heap = h) (hq : Q (some w) h locs) (hck : cells ≤ ck) (hsk : slots ≤ sk) : Go p e below s Q ck sk T (mkF m pc Ls (w :: rest)) := by
  subst eT
  obtain ⟨fs, hr, hrun, hended, hW, hsame⟩ := X.leave (v := some w) (fun h => by rw [hret] at h; cases h) hlk
  exact ⟨_, _, retOut X hx hret (own_nar_ref ht hw) (Or.inr (Or.inr (Or.inr (Or.inr ⟨rfl, ht, hw⟩)))) hd hr, hrun, hended, _, _, rfl, hq, ⟨_, rfl⟩, hW, hsame.mono hck hsk⟩
theorem own_old_le {n0 : Nat} (o : Old Z n0 h) : n0 ≤ h.size := o.1 ▸ o.2.1
theorem own_alen (X : Stand p l e R s m args below meth c T locs cells slots) (hx : p.tables.exec = Jvm.exec) (hZ : Z.Warmed39 s.vm) (eT : T.heap = h) {a : Addr} {cl : Cell} {ty : FieldType} (A : Arr Z h a cl ty) {z : Int32} (S : cl.slots.size = z.toNatClampNeg) (N : ¬ z < 0) {g : JFrame} (hg : g.method = m) {rest : List Value} (hs : g.stack = .ref a :: rest) (hd : decode c.code g.pc = .ok (.arraylength, 1)) {t : State}
    (k : Steps p.tables e below (T.setTop { g with pc := g.pc + 1, stack := .int z :: rest }) t) : Steps p.tables e below (T.setTop g) t :=
  X.arraylength hx (by rw [eT]; exact A.1) (State.isArrayOf_alike hZ.alike A.2.1) hg hs hd _ (by rw [len_of S N]; exact k)
theorem own_fld_start {args : Array Value} {s : State} {t : Term} {a : Addr} {C n d : String} {k : Int32} (ev : t.eval args s none [] s = some (.ref a)) (h : (Jvm.Cond.eq (.field t C n d) (.int k)).value args s none s [] = some true) : Fld s s.heap a C n d (.int k) := by
  refine Fld.start ?_
  rw [← fld_at ev]
  obtain ⟨x, y, h1, h2, h3, h4⟩ := cmp_v (Or.inl h)
  have h2' : (Value.int k) = y := Option.some.inj h2
  subst h2'
  obtain ⟨z, rfl⟩ := h4
  have q := gotT (Jvm.Cond.eq_ints h1 h2) h
  rw [h1, q]
theorem own_nar8 (z : Int32) : z.toInt8.toInt32.toInt8.toInt32 = z.toInt8.toInt32 := by simp
end Own
theorem d1_0 : decode method_2_code 0 = .ok (.iload_n 0, 1) := by decide +kernel
theorem d1_1 : decode method_2_code 1 = .ok (.ifCond .ne 7, 3) := by decide +kernel
theorem d1_4 : decode method_2_code 4 = .ok (.getstatic 7, 3) := by decide +kernel
theorem d1_7 : decode method_2_code 7 = .ok (.areturn, 1) := by decide +kernel
theorem d1_8 : decode method_2_code 8 = .ok (.iload_n 0, 1) := by decide +kernel
theorem d1_9 : decode method_2_code 9 = .ok (.iconst 1, 1) := by decide +kernel
theorem d1_10 : decode method_2_code 10 = .ok (.if_icmp .ne 7, 3) := by decide +kernel
theorem d1_13 : decode method_2_code 13 = .ok (.getstatic 13, 3) := by decide +kernel
theorem d1_16 : decode method_2_code 16 = .ok (.areturn, 1) := by decide +kernel
theorem d1_17 : decode method_2_code 17 = .ok (.iload_n 0, 1) := by decide +kernel
theorem d1_18 : decode method_2_code 18 = .ok (.iconst 2, 1) := by decide +kernel
theorem d1_19 : decode method_2_code 19 = .ok (.if_icmp .ne 7, 3) := by decide +kernel
theorem d1_22 : decode method_2_code 22 = .ok (.getstatic 16, 3) := by decide +kernel
theorem d1_25 : decode method_2_code 25 = .ok (.areturn, 1) := by decide +kernel
theorem d1_26 : decode method_2_code 26 = .ok (.iload_n 0, 1) := by decide +kernel
theorem d1_27 : decode method_2_code 27 = .ok (.iconst 3, 1) := by decide +kernel
theorem d1_28 : decode method_2_code 28 = .ok (.if_icmp .ne 7, 3) := by decide +kernel
theorem d1_31 : decode method_2_code 31 = .ok (.getstatic 19, 3) := by decide +kernel
theorem d1_34 : decode method_2_code 34 = .ok (.areturn, 1) := by decide +kernel
theorem d1_35 : decode method_2_code 35 = .ok (.iload_n 0, 1) := by decide +kernel
theorem d1_36 : decode method_2_code 36 = .ok (.iconst 4, 1) := by decide +kernel
theorem d1_37 : decode method_2_code 37 = .ok (.if_icmp .ne 7, 3) := by decide +kernel
theorem d1_40 : decode method_2_code 40 = .ok (.getstatic 22, 3) := by decide +kernel
theorem d1_43 : decode method_2_code 43 = .ok (.areturn, 1) := by decide +kernel
theorem d1_44 : decode method_2_code 44 = .ok (.iload_n 0, 1) := by decide +kernel
theorem d1_45 : decode method_2_code 45 = .ok (.iconst 5, 1) := by decide +kernel
theorem d1_46 : decode method_2_code 46 = .ok (.if_icmp .ne 7, 3) := by decide +kernel
theorem d1_49 : decode method_2_code 49 = .ok (.getstatic 25, 3) := by decide +kernel
theorem d1_52 : decode method_2_code 52 = .ok (.areturn, 1) := by decide +kernel
theorem d1_53 : decode method_2_code 53 = .ok (.iload_n 0, 1) := by decide +kernel
theorem d1_54 : decode method_2_code 54 = .ok (.bipush 6, 2) := by decide +kernel
theorem d1_56 : decode method_2_code 56 = .ok (.if_icmp .ne 7, 3) := by decide +kernel
theorem d1_59 : decode method_2_code 59 = .ok (.getstatic 28, 3) := by decide +kernel
theorem d1_62 : decode method_2_code 62 = .ok (.areturn, 1) := by decide +kernel
theorem d1_63 : decode method_2_code 63 = .ok (.getstatic 31, 3) := by decide +kernel
theorem d1_66 : decode method_2_code 66 = .ok (.areturn, 1) := by decide +kernel
theorem pn_com_example_tenorbook_tenorbook_definitions_DayCountCountsStubPeriodsPinLaw : plainName "com/example/tenorbook/tenorbook/definitions/DayCountCountsStubPeriodsPinLaw" = true := by first | (simp [plainName, overriddenIn]; done) | decide +kernel
theorem ef_pick (m : MethodId) (ia : Int32) : entryFrame m #[(.int ia)] 1 = mkF m 0 #[.val (.int ia)] [] := by first | (simp [entryFrame, mkF, argsToLocals, Value.category]; done) | rfl
def Q_pick (Z : State) (ia : Int32) (z_ACTUAL_360 : Addr) (z_ACTUAL_365_FIXED : Addr) (z_ACTUAL_365_NO_LEAP_DAY : Addr) (z_ACTUAL_ACTUAL : Addr) (z_ACTUAL_ACTUAL_BOND : Addr) (z_THIRTY_360 : Addr) (z_THIRTY_E_360 : Addr) (z_ONE_ONE : Addr) (h0 : Heap) (n0 : Nat) (v : Option Value) (h : Heap) (L : List Loc) : Prop := ∃ bb : Addr, v = some (.ref bb) ∧ Fr n0 L ∧ h = h0 ∧ Exa Z h bb "com/example/tenorbook/tenorbook/definitions/DayCount" ∧ (bb = z_ACTUAL_ACTUAL_BOND ↔ ia = 4)
set_option maxRecDepth 65536 in
set_option maxHeartbeats 40000000 in
theorem rm_pick (l : Launch) (Z : State) (a0 : Array Value) (hw : ∀ d ∈ tables_1, d.before a0 Z = true) (ws : List Jvm.Cond) (ia : Int32) (z_ACTUAL_360 : Addr) (z_ACTUAL_365_FIXED : Addr) (z_ACTUAL_365_NO_LEAP_DAY : Addr) (z_ACTUAL_ACTUAL : Addr) (z_ACTUAL_ACTUAL_BOND : Addr) (z_THIRTY_360 : Addr) (z_THIRTY_E_360 : Addr) (z_ONE_ONE : Addr) (h0 : Heap) (n0 : Nat) (O0 : Old Z n0 h0) (P0 : Sta Z Z.heap "com/example/tenorbook/tenorbook/definitions/DayCount" "ACTUAL_360" "Lcom/example/tenorbook/tenorbook/definitions/DayCount;" (.ref z_ACTUAL_360)) (P1 : Sta Z Z.heap "com/example/tenorbook/tenorbook/definitions/DayCount" "ACTUAL_365_FIXED" "Lcom/example/tenorbook/tenorbook/definitions/DayCount;" (.ref z_ACTUAL_365_FIXED)) (P2 : Sta Z Z.heap "com/example/tenorbook/tenorbook/definitions/DayCount" "ACTUAL_365_NO_LEAP_DAY" "Lcom/example/tenorbook/tenorbook/definitions/DayCount;" (.ref z_ACTUAL_365_NO_LEAP_DAY)) (P3 : Sta Z Z.heap "com/example/tenorbook/tenorbook/definitions/DayCount" "ACTUAL_ACTUAL" "Lcom/example/tenorbook/tenorbook/definitions/DayCount;" (.ref z_ACTUAL_ACTUAL)) (P4 : Sta Z Z.heap "com/example/tenorbook/tenorbook/definitions/DayCount" "ACTUAL_ACTUAL_BOND" "Lcom/example/tenorbook/tenorbook/definitions/DayCount;" (.ref z_ACTUAL_ACTUAL_BOND)) (P5 : Sta Z Z.heap "com/example/tenorbook/tenorbook/definitions/DayCount" "THIRTY_360" "Lcom/example/tenorbook/tenorbook/definitions/DayCount;" (.ref z_THIRTY_360)) (P6 : Sta Z Z.heap "com/example/tenorbook/tenorbook/definitions/DayCount" "THIRTY_E_360" "Lcom/example/tenorbook/tenorbook/definitions/DayCount;" (.ref z_THIRTY_E_360)) (P7 : Sta Z Z.heap "com/example/tenorbook/tenorbook/definitions/DayCount" "ONE_ONE" "Lcom/example/tenorbook/tenorbook/definitions/DayCount;" (.ref z_ONE_ONE)) (P8 : Exa Z Z.heap z_ACTUAL_360 "com/example/tenorbook/tenorbook/definitions/DayCount") (P9 : Exa Z Z.heap z_ACTUAL_365_FIXED "com/example/tenorbook/tenorbook/definitions/DayCount") (P10 : Exa Z Z.heap z_ACTUAL_365_NO_LEAP_DAY "com/example/tenorbook/tenorbook/definitions/DayCount") (P11 : Exa Z Z.heap z_ACTUAL_ACTUAL "com/example/tenorbook/tenorbook/definitions/DayCount") (P12 : Exa Z Z.heap z_ACTUAL_ACTUAL_BOND "com/example/tenorbook/tenorbook/definitions/DayCount") (P13 : Exa Z Z.heap z_THIRTY_360 "com/example/tenorbook/tenorbook/definitions/DayCount") (P14 : Exa Z Z.heap z_THIRTY_E_360 "com/example/tenorbook/tenorbook/definitions/DayCount") (P15 : Exa Z Z.heap z_ONE_ONE "com/example/tenorbook/tenorbook/definitions/DayCount") (P16 : z_ACTUAL_360 ≠ z_ACTUAL_ACTUAL_BOND) (P17 : z_ACTUAL_365_FIXED ≠ z_ACTUAL_ACTUAL_BOND) (P18 : z_ACTUAL_365_NO_LEAP_DAY ≠ z_ACTUAL_ACTUAL_BOND) (P19 : z_ACTUAL_ACTUAL ≠ z_ACTUAL_ACTUAL_BOND) (P20 : z_ACTUAL_ACTUAL_BOND ≠ z_THIRTY_360) (P21 : z_ACTUAL_ACTUAL_BOND ≠ z_THIRTY_E_360) (P22 : z_ACTUAL_ACTUAL_BOND ≠ z_ONE_ONE) :
    MetFree l (⟨"com/example/tenorbook/tenorbook/definitions/DayCountCountsStubPeriodsPinLaw", "pick", "(I)Lcom/example/tenorbook/tenorbook/definitions/DayCount;"⟩ : MethodName) (head1 (Jvm.Cond.code (⟨"com/example/tenorbook/tenorbook/definitions/DayCountCountsStubPeriodsPinLaw", "pick", "(I)Lcom/example/tenorbook/tenorbook/definitions/DayCount;"⟩ : MethodName) method_2_code 1 (some (.object "com/example/tenorbook/tenorbook/definitions/DayCount")) :: ws) ({ frames := 0, cells := 0, slots := 0, locals := 0 } : Room)) (fun a U => a = #[(.int ia)] ∧ Z.Warmed39 U.vm ∧ U.heap = h0) (fun _ _ _ _ _ => True) (fun _ U o U' => ∃ v L, o = .returned v ∧ Q_pick Z ia z_ACTUAL_360 z_ACTUAL_365_FIXED z_ACTUAL_365_NO_LEAP_DAY z_ACTUAL_ACTUAL z_ACTUAL_ACTUAL_BOND z_THIRTY_360 z_THIRTY_E_360 z_ONE_ONE h0 n0 v U'.heap L ∧ FrameEnd U o U' L ({ frames := 0, cells := 0, slots := 0, locals := 0 } : Room).cells ({ frames := 0, cells := 0, slots := 0, locals := 0 } : Room).slots) := by
  refine MetFree.of_bodySF (plainFor_of_name pn_com_example_tenorbook_tenorbook_definitions_DayCountCountsStubPeriodsPinLaw) hisR ?_
  intro p e s m args below meth c s₁ Bd hml0 hP hK
  obtain ⟨rfl, hZ, hh⟩ := hP
  have hx := Bd.exec
  have hby := Bd.bytes
  have hml : c.maxLocals = 1 := hml0
  have hown : s.vm.findClass "com/example/tenorbook/tenorbook/definitions/DayCountCountsStubPeriodsPinLaw" = some m.cls := findClass_of_methodNamed Bd.named
  have hnm := (name_of_methodNamed Bd.named Bd.method).1
  have hlk : meth.locks = false := BodyLoose.notSynchronized Bd
  have X0 : Stand p l e ({ frames := 0, cells := 0, slots := 0, locals := 0 } : Room) s m #[(.int ia)] below meth c s₁ [] 0 0 := Stand.of_body Bd
  have e0 : s₁.heap = h0 := by rw [← hh, Bd.state]; rfl
  have N0 := Fr.nil n0
  rw [ef_pick m ia]
  show Go p e below s (fun v h L => Q_pick Z ia z_ACTUAL_360 z_ACTUAL_365_FIXED z_ACTUAL_365_NO_LEAP_DAY z_ACTUAL_ACTUAL z_ACTUAL_ACTUAL_BOND z_THIRTY_360 z_THIRTY_E_360 z_ONE_ONE h0 n0 v h L) ({ frames := 0, cells := 0, slots := 0, locals := 0 } : Room).cells ({ frames := 0, cells := 0, slots := 0, locals := 0 } : Room).slots s₁ (mkF m 0 #[.val (.int ia)] [])
  refine Go.step (T' := s₁) (f' := (mkF m 1 #[.val (.int ia)] [(.int ia)])) (fun t k => XS.iloadN X0.here hx rfl (hb hby d1_0) rfl k) ?_
  by_cases hc1 : ia = (0 : Int32)
  ·
    refine Go.step (T' := s₁) (f' := (mkF m 4 #[.val (.int ia)] [])) (fun t k => XS.ifNo X0.here hx rfl (hb hby d1_1) rfl ((if0 _ _).trans (teq hc1).2) k) ?_
    obtain ⟨T2, X2, e2, st2⟩ := getS2 X0 hx hZ hown (host := "") (Or.inl (hw _ (List.mem_of_getElem? (i := 5) rfl))) Via.refl e0 (P0.ext O0.2) (g := (mkF m 4 #[.val (.int ia)] [])) rfl (hb hby d1_4)
    refine Go.step (T' := T2) (f' := (mkF m 7 #[.val (.int ia)] [(.ref z_ACTUAL_360)])) st2 ?_
    refine Go.retA X2 hx hlk Bd.returns rfl rfl (hb hby d1_7) e2 ?_ (by decide) (by decide)
    exact ⟨z_ACTUAL_360, rfl, N0, rfl, (P8.ext O0.2), ⟨fun q => absurd q P16, fun q => by simp_all⟩⟩
  ·
    refine Go.step (T' := s₁) (f' := (mkF m 8 #[.val (.int ia)] [])) (fun t k => XS.ifYes X0.here hx rfl (pc0 := 1) (pc' := 8) rfl (hb hby d1_1) rfl ((if0 _ _).trans (feq hc1).2) (by decide) (by decide) k) ?_
    refine Go.step (T' := s₁) (f' := (mkF m 9 #[.val (.int ia)] [(.int ia)])) (fun t k => XS.iloadN X0.here hx rfl (hb hby d1_8) rfl k) ?_
    refine Go.step (T' := s₁) (f' := (mkF m 10 #[.val (.int ia)] [(.int (1 : Int32)), (.int ia)])) (fun t k => XS.iconst X0.here hx rfl (hb hby d1_9) k) ?_
    by_cases hc3 : ia = (1 : Int32)
    ·
      refine Go.step (T' := s₁) (f' := (mkF m 13 #[.val (.int ia)] [])) (fun t k => XS.icmpNo X0.here hx rfl (hb hby d1_10) rfl (teq hc3).2 k) ?_
      obtain ⟨T4, X4, e4, st4⟩ := getS2 X0 hx hZ hown (host := "") (Or.inl (hw _ (List.mem_of_getElem? (i := 26) rfl))) Via.refl e0 (P1.ext O0.2) (g := (mkF m 13 #[.val (.int ia)] [])) rfl (hb hby d1_13)
      refine Go.step (T' := T4) (f' := (mkF m 16 #[.val (.int ia)] [(.ref z_ACTUAL_365_FIXED)])) st4 ?_
      refine Go.retA X4 hx hlk Bd.returns rfl rfl (hb hby d1_16) e4 ?_ (by decide) (by decide)
      exact ⟨z_ACTUAL_365_FIXED, rfl, N0, rfl, (P9.ext O0.2), ⟨fun q => absurd q P17, fun q => by simp_all⟩⟩
    ·
      refine Go.step (T' := s₁) (f' := (mkF m 17 #[.val (.int ia)] [])) (fun t k => XS.icmpYes X0.here hx rfl (pc0 := 10) (pc' := 17) rfl (hb hby d1_10) rfl (feq hc3).2 (by decide) (by decide) k) ?_
      refine Go.step (T' := s₁) (f' := (mkF m 18 #[.val (.int ia)] [(.int ia)])) (fun t k => XS.iloadN X0.here hx rfl (hb hby d1_17) rfl k) ?_
      refine Go.step (T' := s₁) (f' := (mkF m 19 #[.val (.int ia)] [(.int (2 : Int32)), (.int ia)])) (fun t k => XS.iconst X0.here hx rfl (hb hby d1_18) k) ?_
      by_cases hc5 : ia = (2 : Int32)
      ·
        refine Go.step (T' := s₁) (f' := (mkF m 22 #[.val (.int ia)] [])) (fun t k => XS.icmpNo X0.here hx rfl (hb hby d1_19) rfl (teq hc5).2 k) ?_
        obtain ⟨T6, X6, e6, st6⟩ := getS2 X0 hx hZ hown (host := "") (Or.inl (hw _ (List.mem_of_getElem? (i := 24) rfl))) Via.refl e0 (P2.ext O0.2) (g := (mkF m 22 #[.val (.int ia)] [])) rfl (hb hby d1_22)
        refine Go.step (T' := T6) (f' := (mkF m 25 #[.val (.int ia)] [(.ref z_ACTUAL_365_NO_LEAP_DAY)])) st6 ?_
        refine Go.retA X6 hx hlk Bd.returns rfl rfl (hb hby d1_25) e6 ?_ (by decide) (by decide)
        exact ⟨z_ACTUAL_365_NO_LEAP_DAY, rfl, N0, rfl, (P10.ext O0.2), ⟨fun q => absurd q P18, fun q => by simp_all⟩⟩
      ·
        refine Go.step (T' := s₁) (f' := (mkF m 26 #[.val (.int ia)] [])) (fun t k => XS.icmpYes X0.here hx rfl (pc0 := 19) (pc' := 26) rfl (hb hby d1_19) rfl (feq hc5).2 (by decide) (by decide) k) ?_
        refine Go.step (T' := s₁) (f' := (mkF m 27 #[.val (.int ia)] [(.int ia)])) (fun t k => XS.iloadN X0.here hx rfl (hb hby d1_26) rfl k) ?_
        refine Go.step (T' := s₁) (f' := (mkF m 28 #[.val (.int ia)] [(.int (3 : Int32)), (.int ia)])) (fun t k => XS.iconst X0.here hx rfl (hb hby d1_27) k) ?_
        by_cases hc7 : ia = (3 : Int32)
        ·
          refine Go.step (T' := s₁) (f' := (mkF m 31 #[.val (.int ia)] [])) (fun t k => XS.icmpNo X0.here hx rfl (hb hby d1_28) rfl (teq hc7).2 k) ?_
          obtain ⟨T8, X8, e8, st8⟩ := getS2 X0 hx hZ hown (host := "") (Or.inl (hw _ (List.mem_of_getElem? (i := 18) rfl))) Via.refl e0 (P3.ext O0.2) (g := (mkF m 31 #[.val (.int ia)] [])) rfl (hb hby d1_31)
          refine Go.step (T' := T8) (f' := (mkF m 34 #[.val (.int ia)] [(.ref z_ACTUAL_ACTUAL)])) st8 ?_
          refine Go.retA X8 hx hlk Bd.returns rfl rfl (hb hby d1_34) e8 ?_ (by decide) (by decide)
          exact ⟨z_ACTUAL_ACTUAL, rfl, N0, rfl, (P11.ext O0.2), ⟨fun q => absurd q P19, fun q => by simp_all⟩⟩
        ·
          refine Go.step (T' := s₁) (f' := (mkF m 35 #[.val (.int ia)] [])) (fun t k => XS.icmpYes X0.here hx rfl (pc0 := 28) (pc' := 35) rfl (hb hby d1_28) rfl (feq hc7).2 (by decide) (by decide) k) ?_
          refine Go.step (T' := s₁) (f' := (mkF m 36 #[.val (.int ia)] [(.int ia)])) (fun t k => XS.iloadN X0.here hx rfl (hb hby d1_35) rfl k) ?_
          refine Go.step (T' := s₁) (f' := (mkF m 37 #[.val (.int ia)] [(.int (4 : Int32)), (.int ia)])) (fun t k => XS.iconst X0.here hx rfl (hb hby d1_36) k) ?_
          by_cases hc9 : ia = (4 : Int32)
          ·
            refine Go.step (T' := s₁) (f' := (mkF m 40 #[.val (.int ia)] [])) (fun t k => XS.icmpNo X0.here hx rfl (hb hby d1_37) rfl (teq hc9).2 k) ?_
            obtain ⟨T10, X10, e10, st10⟩ := getS2 X0 hx hZ hown (host := "") (Or.inl (hw _ (List.mem_of_getElem? (i := 28) rfl))) Via.refl e0 (P4.ext O0.2) (g := (mkF m 40 #[.val (.int ia)] [])) rfl (hb hby d1_40)
            refine Go.step (T' := T10) (f' := (mkF m 43 #[.val (.int ia)] [(.ref z_ACTUAL_ACTUAL_BOND)])) st10 ?_
            refine Go.retA X10 hx hlk Bd.returns rfl rfl (hb hby d1_43) e10 ?_ (by decide) (by decide)
            exact ⟨z_ACTUAL_ACTUAL_BOND, rfl, N0, rfl, (P12.ext O0.2), ⟨fun _ => by simp_all, fun _ => rfl⟩⟩
          ·
            refine Go.step (T' := s₁) (f' := (mkF m 44 #[.val (.int ia)] [])) (fun t k => XS.icmpYes X0.here hx rfl (pc0 := 37) (pc' := 44) rfl (hb hby d1_37) rfl (feq hc9).2 (by decide) (by decide) k) ?_
            refine Go.step (T' := s₁) (f' := (mkF m 45 #[.val (.int ia)] [(.int ia)])) (fun t k => XS.iloadN X0.here hx rfl (hb hby d1_44) rfl k) ?_
            refine Go.step (T' := s₁) (f' := (mkF m 46 #[.val (.int ia)] [(.int (5 : Int32)), (.int ia)])) (fun t k => XS.iconst X0.here hx rfl (hb hby d1_45) k) ?_
            by_cases hc11 : ia = (5 : Int32)
            ·
              refine Go.step (T' := s₁) (f' := (mkF m 49 #[.val (.int ia)] [])) (fun t k => XS.icmpNo X0.here hx rfl (hb hby d1_46) rfl (teq hc11).2 k) ?_
              obtain ⟨T12, X12, e12, st12⟩ := getS2 X0 hx hZ hown (host := "") (Or.inl (hw _ (List.mem_of_getElem? (i := 29) rfl))) Via.refl e0 (P5.ext O0.2) (g := (mkF m 49 #[.val (.int ia)] [])) rfl (hb hby d1_49)
              refine Go.step (T' := T12) (f' := (mkF m 52 #[.val (.int ia)] [(.ref z_THIRTY_360)])) st12 ?_
              refine Go.retA X12 hx hlk Bd.returns rfl rfl (hb hby d1_52) e12 ?_ (by decide) (by decide)
              exact ⟨z_THIRTY_360, rfl, N0, rfl, (P13.ext O0.2), ⟨fun q => absurd q (Ne.symm P20), fun q => by simp_all⟩⟩
            ·
              refine Go.step (T' := s₁) (f' := (mkF m 53 #[.val (.int ia)] [])) (fun t k => XS.icmpYes X0.here hx rfl (pc0 := 46) (pc' := 53) rfl (hb hby d1_46) rfl (feq hc11).2 (by decide) (by decide) k) ?_
              refine Go.step (T' := s₁) (f' := (mkF m 54 #[.val (.int ia)] [(.int ia)])) (fun t k => XS.iloadN X0.here hx rfl (hb hby d1_53) rfl k) ?_
              refine Go.step (T' := s₁) (f' := (mkF m 56 #[.val (.int ia)] [(.int (6 : Int32)), (.int ia)])) (fun t k => XS.bipush X0.here hx rfl (hb hby d1_54) k) ?_
              by_cases hc13 : ia = (6 : Int32)
              ·
                refine Go.step (T' := s₁) (f' := (mkF m 59 #[.val (.int ia)] [])) (fun t k => XS.icmpNo X0.here hx rfl (hb hby d1_56) rfl (teq hc13).2 k) ?_
                obtain ⟨T14, X14, e14, st14⟩ := getS2 X0 hx hZ hown (host := "") (Or.inl (hw _ (List.mem_of_getElem? (i := 20) rfl))) Via.refl e0 (P6.ext O0.2) (g := (mkF m 59 #[.val (.int ia)] [])) rfl (hb hby d1_59)
                refine Go.step (T' := T14) (f' := (mkF m 62 #[.val (.int ia)] [(.ref z_THIRTY_E_360)])) st14 ?_
                refine Go.retA X14 hx hlk Bd.returns rfl rfl (hb hby d1_62) e14 ?_ (by decide) (by decide)
                exact ⟨z_THIRTY_E_360, rfl, N0, rfl, (P14.ext O0.2), ⟨fun q => absurd q (Ne.symm P21), fun q => by simp_all⟩⟩
              ·
                refine Go.step (T' := s₁) (f' := (mkF m 63 #[.val (.int ia)] [])) (fun t k => XS.icmpYes X0.here hx rfl (pc0 := 56) (pc' := 63) rfl (hb hby d1_56) rfl (feq hc13).2 (by decide) (by decide) k) ?_
                obtain ⟨T15, X15, e15, st15⟩ := getS2 X0 hx hZ hown (host := "") (Or.inl (hw _ (List.mem_of_getElem? (i := 22) rfl))) Via.refl e0 (P7.ext O0.2) (g := (mkF m 63 #[.val (.int ia)] [])) rfl (hb hby d1_63)
                refine Go.step (T' := T15) (f' := (mkF m 66 #[.val (.int ia)] [(.ref z_ONE_ONE)])) st15 ?_
                refine Go.retA X15 hx hlk Bd.returns rfl rfl (hb hby d1_66) e15 ?_ (by decide) (by decide)
                exact ⟨z_ONE_ONE, rfl, N0, rfl, (P15.ext O0.2), ⟨fun q => absurd q (Ne.symm P22), fun q => by simp_all⟩⟩
theorem d2_0 : decode prog_11_method_6_code 0 = .ok (.aload_n 0, 1) := by decide +kernel
theorem d2_1 : decode prog_11_method_6_code 1 = .ok (.getstatic 16, 3) := by decide +kernel
theorem d2_4 : decode prog_11_method_6_code 4 = .ok (.if_acmp .eq 7, 3) := by decide +kernel
theorem d2_7 : decode prog_11_method_6_code 7 = .ok (.iconst 1, 1) := by decide +kernel
theorem d2_8 : decode prog_11_method_6_code 8 = .ok (.goto 4, 3) := by decide +kernel
theorem d2_11 : decode prog_11_method_6_code 11 = .ok (.iconst 0, 1) := by decide +kernel
theorem d2_12 : decode prog_11_method_6_code 12 = .ok (.ireturn, 1) := by decide +kernel
theorem pn_com_example_tenorbook_tenorbook_definitions_DayCount : plainName "com/example/tenorbook/tenorbook/definitions/DayCount" = true := by first | (simp [plainName, overriddenIn]; done) | decide +kernel
theorem ef_cnt (m : MethodId) (ba : Addr) : entryFrame m #[(.ref ba)] 1 = mkF m 0 #[.val (.ref ba)] [] := by first | (simp [entryFrame, mkF, argsToLocals, Value.category]; done) | rfl
def Q_cnt (Z : State) (ba : Addr) (z_ACTUAL_ACTUAL_BOND : Addr) (h0 : Heap) (n0 : Nat) (v : Option Value) (h : Heap) (L : List Loc) : Prop := v = some (.int (if ba = z_ACTUAL_ACTUAL_BOND then (0 : Int32) else 1)) ∧ Fr n0 L ∧ h = h0
set_option maxRecDepth 65536 in
set_option maxHeartbeats 40000000 in
theorem rm_cnt (l : Launch) (Z : State) (a0 : Array Value) (hw : ∀ d ∈ tables_1, d.before a0 Z = true) (ws : List Jvm.Cond) (ba : Addr) (z_ACTUAL_ACTUAL_BOND : Addr) (h0 : Heap) (n0 : Nat) (O0 : Old Z n0 h0) (P0 : Sta Z Z.heap "com/example/tenorbook/tenorbook/definitions/DayCount" "ACTUAL_ACTUAL_BOND" "Lcom/example/tenorbook/tenorbook/definitions/DayCount;" (.ref z_ACTUAL_ACTUAL_BOND)) :
    MetFree l (⟨"com/example/tenorbook/tenorbook/definitions/DayCount", "countsStubPeriods", "()Z"⟩ : MethodName) (head1 (Jvm.Cond.code (⟨"com/example/tenorbook/tenorbook/definitions/DayCount", "countsStubPeriods", "()Z"⟩ : MethodName) prog_11_method_6_code 1 (some .boolean) :: ws) ({ frames := 0, cells := 0, slots := 0, locals := 0 } : Room)) (fun a U => a = #[(.ref ba)] ∧ Z.Warmed39 U.vm ∧ U.heap = h0) (fun _ _ _ _ _ => True) (fun _ U o U' => ∃ v L, o = .returned v ∧ Q_cnt Z ba z_ACTUAL_ACTUAL_BOND h0 n0 v U'.heap L ∧ FrameEnd U o U' L ({ frames := 0, cells := 0, slots := 0, locals := 0 } : Room).cells ({ frames := 0, cells := 0, slots := 0, locals := 0 } : Room).slots) := by
  refine MetFree.of_bodySF (plainFor_of_name pn_com_example_tenorbook_tenorbook_definitions_DayCount) hisR ?_
  intro p e s m args below meth c s₁ Bd hml0 hP hK
  obtain ⟨rfl, hZ, hh⟩ := hP
  have hx := Bd.exec
  have hby := Bd.bytes
  have hml : c.maxLocals = 1 := hml0
  have hown : s.vm.findClass "com/example/tenorbook/tenorbook/definitions/DayCount" = some m.cls := findClass_of_methodNamed Bd.named
  have hnm := (name_of_methodNamed Bd.named Bd.method).1
  have hlk : meth.locks = false := BodyLoose.notSynchronized Bd
  have X0 : Stand p l e ({ frames := 0, cells := 0, slots := 0, locals := 0 } : Room) s m #[(.ref ba)] below meth c s₁ [] 0 0 := Stand.of_body Bd
  have e0 : s₁.heap = h0 := by rw [← hh, Bd.state]; rfl
  have N0 := Fr.nil n0
  rw [ef_cnt m ba]
  show Go p e below s (fun v h L => Q_cnt Z ba z_ACTUAL_ACTUAL_BOND h0 n0 v h L) ({ frames := 0, cells := 0, slots := 0, locals := 0 } : Room).cells ({ frames := 0, cells := 0, slots := 0, locals := 0 } : Room).slots s₁ (mkF m 0 #[.val (.ref ba)] [])
  refine Go.step (T' := s₁) (f' := (mkF m 1 #[.val (.ref ba)] [(.ref ba)])) (fun t k => XS.aloadN X0.here hx rfl (hb hby d2_0) rfl rfl k) ?_
  obtain ⟨T16, X16, e16, st16⟩ := getS2 X0 hx hZ hown (host := "") (Or.inl (hw _ (List.mem_of_getElem? (i := 13) rfl))) Via.refl e0 (P0.ext O0.2) (g := (mkF m 1 #[.val (.ref ba)] [(.ref ba)])) rfl (hb hby d2_1)
  refine Go.step (T' := T16) (f' := (mkF m 4 #[.val (.ref ba)] [(.ref z_ACTUAL_ACTUAL_BOND), (.ref ba)])) st16 ?_
  by_cases ha17 : ba = z_ACTUAL_ACTUAL_BOND
  ·
    refine Go.step (T' := T16) (f' := (mkF m 11 #[.val (.ref ba)] [])) (fun t k => Jvm.RoadKit.acmp (g := (mkF m 4 #[.val (.ref ba)] [(.ref z_ACTUAL_ACTUAL_BOND), (.ref ba)])) X16 hx rfl rfl rfl (pc0 := 4) (pc' := 11) (same := true) rfl (hb hby d2_4) rfl (decide_eq_true (congrArg Value.ref ha17)) (by decide) (by decide) k) ?_
    refine Go.step (T' := T16) (f' := (mkF m 12 #[.val (.ref ba)] [(.int (0 : Int32))])) (fun t k => XS.iconst X16.here hx rfl (hb hby d2_11) k) ?_
    refine Go.retZ X16 hx hlk (t := .boolean) Bd.returns (by simp) (hb hby d2_12) e16 ?_ (by decide) (by decide)
    exact ⟨by simp_all [nar], N0, rfl⟩
  ·
    refine Go.step (T' := T16) (f' := (mkF m 7 #[.val (.ref ba)] [])) (fun t k => Jvm.RoadKit.acmp (g := (mkF m 4 #[.val (.ref ba)] [(.ref z_ACTUAL_ACTUAL_BOND), (.ref ba)])) X16 hx rfl rfl rfl (pc0 := 4) (pc' := 7) (same := false) rfl (hb hby d2_4) rfl (decide_eq_false fun q => ha17 (Value.ref.inj q)) (by decide) (by decide) k) ?_
    refine Go.step (T' := T16) (f' := (mkF m 8 #[.val (.ref ba)] [(.int (1 : Int32))])) (fun t k => XS.iconst X16.here hx rfl (hb hby d2_7) k) ?_
    refine Go.step (T' := T16) (f' := (mkF m 12 #[.val (.ref ba)] [(.int (1 : Int32))])) (fun t k => XS.goto X16.here hx rfl (pc0 := 8) (pc' := 12) rfl (hb hby d2_8) (by decide) (by decide) k) ?_
    refine Go.retZ X16 hx hlk (t := .boolean) Bd.returns (by simp) (hb hby d2_12) e16 ?_ (by decide) (by decide)
    exact ⟨by simp_all [nar], N0, rfl⟩
theorem d3_0 : decode method_3_code 0 = .ok (.iload_n 0, 1) := by decide +kernel
theorem d3_1 : decode method_3_code 1 = .ok (.ifCond .ne 5, 3) := by decide +kernel
theorem d3_4 : decode method_3_code 4 = .ok (.iconst 1, 1) := by decide +kernel
theorem d3_5 : decode method_3_code 5 = .ok (.ireturn, 1) := by decide +kernel
theorem d3_6 : decode method_3_code 6 = .ok (.iload_n 0, 1) := by decide +kernel
theorem d3_7 : decode method_3_code 7 = .ok (.iconst 1, 1) := by decide +kernel
theorem d3_8 : decode method_3_code 8 = .ok (.if_icmp .ne 5, 3) := by decide +kernel
theorem d3_11 : decode method_3_code 11 = .ok (.iconst 1, 1) := by decide +kernel
theorem d3_12 : decode method_3_code 12 = .ok (.ireturn, 1) := by decide +kernel
theorem d3_13 : decode method_3_code 13 = .ok (.iload_n 0, 1) := by decide +kernel
theorem d3_14 : decode method_3_code 14 = .ok (.iconst 2, 1) := by decide +kernel
theorem d3_15 : decode method_3_code 15 = .ok (.if_icmp .ne 5, 3) := by decide +kernel
theorem d3_18 : decode method_3_code 18 = .ok (.iconst 1, 1) := by decide +kernel
theorem d3_19 : decode method_3_code 19 = .ok (.ireturn, 1) := by decide +kernel
theorem d3_20 : decode method_3_code 20 = .ok (.iload_n 0, 1) := by decide +kernel
theorem d3_21 : decode method_3_code 21 = .ok (.iconst 3, 1) := by decide +kernel
theorem d3_22 : decode method_3_code 22 = .ok (.if_icmp .ne 5, 3) := by decide +kernel
theorem d3_25 : decode method_3_code 25 = .ok (.iconst 1, 1) := by decide +kernel
theorem d3_26 : decode method_3_code 26 = .ok (.ireturn, 1) := by decide +kernel
theorem d3_27 : decode method_3_code 27 = .ok (.iload_n 0, 1) := by decide +kernel
theorem d3_28 : decode method_3_code 28 = .ok (.iconst 4, 1) := by decide +kernel
theorem d3_29 : decode method_3_code 29 = .ok (.if_icmp .ne 5, 3) := by decide +kernel
theorem d3_32 : decode method_3_code 32 = .ok (.iconst 0, 1) := by decide +kernel
theorem d3_33 : decode method_3_code 33 = .ok (.ireturn, 1) := by decide +kernel
theorem d3_34 : decode method_3_code 34 = .ok (.iload_n 0, 1) := by decide +kernel
theorem d3_35 : decode method_3_code 35 = .ok (.iconst 5, 1) := by decide +kernel
theorem d3_36 : decode method_3_code 36 = .ok (.if_icmp .ne 5, 3) := by decide +kernel
theorem d3_39 : decode method_3_code 39 = .ok (.iconst 1, 1) := by decide +kernel
theorem d3_40 : decode method_3_code 40 = .ok (.ireturn, 1) := by decide +kernel
theorem d3_41 : decode method_3_code 41 = .ok (.iload_n 0, 1) := by decide +kernel
theorem d3_42 : decode method_3_code 42 = .ok (.bipush 6, 2) := by decide +kernel
theorem d3_44 : decode method_3_code 44 = .ok (.if_icmp .ne 5, 3) := by decide +kernel
theorem d3_47 : decode method_3_code 47 = .ok (.iconst 1, 1) := by decide +kernel
theorem d3_48 : decode method_3_code 48 = .ok (.ireturn, 1) := by decide +kernel
theorem d3_49 : decode method_3_code 49 = .ok (.iconst 1, 1) := by decide +kernel
theorem d3_50 : decode method_3_code 50 = .ok (.ireturn, 1) := by decide +kernel
theorem ef_exp (m : MethodId) (ia : Int32) : entryFrame m #[(.int ia)] 1 = mkF m 0 #[.val (.int ia)] [] := by first | (simp [entryFrame, mkF, argsToLocals, Value.category]; done) | rfl
def Q_exp (Z : State) (ia : Int32) (h0 : Heap) (n0 : Nat) (v : Option Value) (h : Heap) (L : List Loc) : Prop := v = some (.int (if ia = 4 then (0 : Int32) else 1)) ∧ Fr n0 L ∧ h = h0
set_option maxRecDepth 65536 in
set_option maxHeartbeats 40000000 in
theorem rm_exp (l : Launch) (Z : State) (a0 : Array Value) (hw : ∀ d ∈ tables_1, d.before a0 Z = true) (ws : List Jvm.Cond) (ia : Int32) (h0 : Heap) (n0 : Nat) (O0 : Old Z n0 h0) :
    MetFree l (⟨"com/example/tenorbook/tenorbook/definitions/DayCountCountsStubPeriodsPinLaw", "expected", "(I)Z"⟩ : MethodName) (head1 (Jvm.Cond.code (⟨"com/example/tenorbook/tenorbook/definitions/DayCountCountsStubPeriodsPinLaw", "expected", "(I)Z"⟩ : MethodName) method_3_code 1 (some .boolean) :: ws) ({ frames := 0, cells := 0, slots := 0, locals := 0 } : Room)) (fun a U => a = #[(.int ia)] ∧ Z.Warmed39 U.vm ∧ U.heap = h0) (fun _ _ _ _ _ => True) (fun _ U o U' => ∃ v L, o = .returned v ∧ Q_exp Z ia h0 n0 v U'.heap L ∧ FrameEnd U o U' L ({ frames := 0, cells := 0, slots := 0, locals := 0 } : Room).cells ({ frames := 0, cells := 0, slots := 0, locals := 0 } : Room).slots) := by
  refine MetFree.of_bodySF (plainFor_of_name pn_com_example_tenorbook_tenorbook_definitions_DayCountCountsStubPeriodsPinLaw) hisR ?_
  intro p e s m args below meth c s₁ Bd hml0 hP hK
  obtain ⟨rfl, hZ, hh⟩ := hP
  have hx := Bd.exec
  have hby := Bd.bytes
  have hml : c.maxLocals = 1 := hml0
  have hown : s.vm.findClass "com/example/tenorbook/tenorbook/definitions/DayCountCountsStubPeriodsPinLaw" = some m.cls := findClass_of_methodNamed Bd.named
  have hnm := (name_of_methodNamed Bd.named Bd.method).1
  have hlk : meth.locks = false := BodyLoose.notSynchronized Bd
  have X0 : Stand p l e ({ frames := 0, cells := 0, slots := 0, locals := 0 } : Room) s m #[(.int ia)] below meth c s₁ [] 0 0 := Stand.of_body Bd
  have e0 : s₁.heap = h0 := by rw [← hh, Bd.state]; rfl
  have N0 := Fr.nil n0
  rw [ef_exp m ia]
  show Go p e below s (fun v h L => Q_exp Z ia h0 n0 v h L) ({ frames := 0, cells := 0, slots := 0, locals := 0 } : Room).cells ({ frames := 0, cells := 0, slots := 0, locals := 0 } : Room).slots s₁ (mkF m 0 #[.val (.int ia)] [])
  refine Go.step (T' := s₁) (f' := (mkF m 1 #[.val (.int ia)] [(.int ia)])) (fun t k => XS.iloadN X0.here hx rfl (hb hby d3_0) rfl k) ?_
  by_cases hc18 : ia = (0 : Int32)
  ·
    refine Go.step (T' := s₁) (f' := (mkF m 4 #[.val (.int ia)] [])) (fun t k => XS.ifNo X0.here hx rfl (hb hby d3_1) rfl ((if0 _ _).trans (teq hc18).2) k) ?_
    refine Go.step (T' := s₁) (f' := (mkF m 5 #[.val (.int ia)] [(.int (1 : Int32))])) (fun t k => XS.iconst X0.here hx rfl (hb hby d3_4) k) ?_
    refine Go.retZ X0 hx hlk (t := .boolean) Bd.returns (by simp) (hb hby d3_5) e0 ?_ (by decide) (by decide)
    exact ⟨by simp_all [nar], N0, rfl⟩
  ·
    refine Go.step (T' := s₁) (f' := (mkF m 6 #[.val (.int ia)] [])) (fun t k => XS.ifYes X0.here hx rfl (pc0 := 1) (pc' := 6) rfl (hb hby d3_1) rfl ((if0 _ _).trans (feq hc18).2) (by decide) (by decide) k) ?_
    refine Go.step (T' := s₁) (f' := (mkF m 7 #[.val (.int ia)] [(.int ia)])) (fun t k => XS.iloadN X0.here hx rfl (hb hby d3_6) rfl k) ?_
    refine Go.step (T' := s₁) (f' := (mkF m 8 #[.val (.int ia)] [(.int (1 : Int32)), (.int ia)])) (fun t k => XS.iconst X0.here hx rfl (hb hby d3_7) k) ?_
    by_cases hc19 : ia = (1 : Int32)
    ·
      refine Go.step (T' := s₁) (f' := (mkF m 11 #[.val (.int ia)] [])) (fun t k => XS.icmpNo X0.here hx rfl (hb hby d3_8) rfl (teq hc19).2 k) ?_
      refine Go.step (T' := s₁) (f' := (mkF m 12 #[.val (.int ia)] [(.int (1 : Int32))])) (fun t k => XS.iconst X0.here hx rfl (hb hby d3_11) k) ?_
      refine Go.retZ X0 hx hlk (t := .boolean) Bd.returns (by simp) (hb hby d3_12) e0 ?_ (by decide) (by decide)
      exact ⟨by simp_all [nar], N0, rfl⟩
    ·
      refine Go.step (T' := s₁) (f' := (mkF m 13 #[.val (.int ia)] [])) (fun t k => XS.icmpYes X0.here hx rfl (pc0 := 8) (pc' := 13) rfl (hb hby d3_8) rfl (feq hc19).2 (by decide) (by decide) k) ?_
      refine Go.step (T' := s₁) (f' := (mkF m 14 #[.val (.int ia)] [(.int ia)])) (fun t k => XS.iloadN X0.here hx rfl (hb hby d3_13) rfl k) ?_
      refine Go.step (T' := s₁) (f' := (mkF m 15 #[.val (.int ia)] [(.int (2 : Int32)), (.int ia)])) (fun t k => XS.iconst X0.here hx rfl (hb hby d3_14) k) ?_
      by_cases hc20 : ia = (2 : Int32)
      ·
        refine Go.step (T' := s₁) (f' := (mkF m 18 #[.val (.int ia)] [])) (fun t k => XS.icmpNo X0.here hx rfl (hb hby d3_15) rfl (teq hc20).2 k) ?_
        refine Go.step (T' := s₁) (f' := (mkF m 19 #[.val (.int ia)] [(.int (1 : Int32))])) (fun t k => XS.iconst X0.here hx rfl (hb hby d3_18) k) ?_
        refine Go.retZ X0 hx hlk (t := .boolean) Bd.returns (by simp) (hb hby d3_19) e0 ?_ (by decide) (by decide)
        exact ⟨by simp_all [nar], N0, rfl⟩
      ·
        refine Go.step (T' := s₁) (f' := (mkF m 20 #[.val (.int ia)] [])) (fun t k => XS.icmpYes X0.here hx rfl (pc0 := 15) (pc' := 20) rfl (hb hby d3_15) rfl (feq hc20).2 (by decide) (by decide) k) ?_
        refine Go.step (T' := s₁) (f' := (mkF m 21 #[.val (.int ia)] [(.int ia)])) (fun t k => XS.iloadN X0.here hx rfl (hb hby d3_20) rfl k) ?_
        refine Go.step (T' := s₁) (f' := (mkF m 22 #[.val (.int ia)] [(.int (3 : Int32)), (.int ia)])) (fun t k => XS.iconst X0.here hx rfl (hb hby d3_21) k) ?_
        by_cases hc21 : ia = (3 : Int32)
        ·
          refine Go.step (T' := s₁) (f' := (mkF m 25 #[.val (.int ia)] [])) (fun t k => XS.icmpNo X0.here hx rfl (hb hby d3_22) rfl (teq hc21).2 k) ?_
          refine Go.step (T' := s₁) (f' := (mkF m 26 #[.val (.int ia)] [(.int (1 : Int32))])) (fun t k => XS.iconst X0.here hx rfl (hb hby d3_25) k) ?_
          refine Go.retZ X0 hx hlk (t := .boolean) Bd.returns (by simp) (hb hby d3_26) e0 ?_ (by decide) (by decide)
          exact ⟨by simp_all [nar], N0, rfl⟩
        ·
          refine Go.step (T' := s₁) (f' := (mkF m 27 #[.val (.int ia)] [])) (fun t k => XS.icmpYes X0.here hx rfl (pc0 := 22) (pc' := 27) rfl (hb hby d3_22) rfl (feq hc21).2 (by decide) (by decide) k) ?_
          refine Go.step (T' := s₁) (f' := (mkF m 28 #[.val (.int ia)] [(.int ia)])) (fun t k => XS.iloadN X0.here hx rfl (hb hby d3_27) rfl k) ?_
          refine Go.step (T' := s₁) (f' := (mkF m 29 #[.val (.int ia)] [(.int (4 : Int32)), (.int ia)])) (fun t k => XS.iconst X0.here hx rfl (hb hby d3_28) k) ?_
          by_cases hc22 : ia = (4 : Int32)
          ·
            refine Go.step (T' := s₁) (f' := (mkF m 32 #[.val (.int ia)] [])) (fun t k => XS.icmpNo X0.here hx rfl (hb hby d3_29) rfl (teq hc22).2 k) ?_
            refine Go.step (T' := s₁) (f' := (mkF m 33 #[.val (.int ia)] [(.int (0 : Int32))])) (fun t k => XS.iconst X0.here hx rfl (hb hby d3_32) k) ?_
            refine Go.retZ X0 hx hlk (t := .boolean) Bd.returns (by simp) (hb hby d3_33) e0 ?_ (by decide) (by decide)
            exact ⟨by simp_all [nar], N0, rfl⟩
          ·
            refine Go.step (T' := s₁) (f' := (mkF m 34 #[.val (.int ia)] [])) (fun t k => XS.icmpYes X0.here hx rfl (pc0 := 29) (pc' := 34) rfl (hb hby d3_29) rfl (feq hc22).2 (by decide) (by decide) k) ?_
            refine Go.step (T' := s₁) (f' := (mkF m 35 #[.val (.int ia)] [(.int ia)])) (fun t k => XS.iloadN X0.here hx rfl (hb hby d3_34) rfl k) ?_
            refine Go.step (T' := s₁) (f' := (mkF m 36 #[.val (.int ia)] [(.int (5 : Int32)), (.int ia)])) (fun t k => XS.iconst X0.here hx rfl (hb hby d3_35) k) ?_
            by_cases hc23 : ia = (5 : Int32)
            ·
              refine Go.step (T' := s₁) (f' := (mkF m 39 #[.val (.int ia)] [])) (fun t k => XS.icmpNo X0.here hx rfl (hb hby d3_36) rfl (teq hc23).2 k) ?_
              refine Go.step (T' := s₁) (f' := (mkF m 40 #[.val (.int ia)] [(.int (1 : Int32))])) (fun t k => XS.iconst X0.here hx rfl (hb hby d3_39) k) ?_
              refine Go.retZ X0 hx hlk (t := .boolean) Bd.returns (by simp) (hb hby d3_40) e0 ?_ (by decide) (by decide)
              exact ⟨by simp_all [nar], N0, rfl⟩
            ·
              refine Go.step (T' := s₁) (f' := (mkF m 41 #[.val (.int ia)] [])) (fun t k => XS.icmpYes X0.here hx rfl (pc0 := 36) (pc' := 41) rfl (hb hby d3_36) rfl (feq hc23).2 (by decide) (by decide) k) ?_
              refine Go.step (T' := s₁) (f' := (mkF m 42 #[.val (.int ia)] [(.int ia)])) (fun t k => XS.iloadN X0.here hx rfl (hb hby d3_41) rfl k) ?_
              refine Go.step (T' := s₁) (f' := (mkF m 44 #[.val (.int ia)] [(.int (6 : Int32)), (.int ia)])) (fun t k => XS.bipush X0.here hx rfl (hb hby d3_42) k) ?_
              by_cases hc24 : ia = (6 : Int32)
              ·
                refine Go.step (T' := s₁) (f' := (mkF m 47 #[.val (.int ia)] [])) (fun t k => XS.icmpNo X0.here hx rfl (hb hby d3_44) rfl (teq hc24).2 k) ?_
                refine Go.step (T' := s₁) (f' := (mkF m 48 #[.val (.int ia)] [(.int (1 : Int32))])) (fun t k => XS.iconst X0.here hx rfl (hb hby d3_47) k) ?_
                refine Go.retZ X0 hx hlk (t := .boolean) Bd.returns (by simp) (hb hby d3_48) e0 ?_ (by decide) (by decide)
                exact ⟨by simp_all [nar], N0, rfl⟩
              ·
                refine Go.step (T' := s₁) (f' := (mkF m 49 #[.val (.int ia)] [])) (fun t k => XS.icmpYes X0.here hx rfl (pc0 := 44) (pc' := 49) rfl (hb hby d3_44) rfl (feq hc24).2 (by decide) (by decide) k) ?_
                refine Go.step (T' := s₁) (f' := (mkF m 50 #[.val (.int ia)] [(.int (1 : Int32))])) (fun t k => XS.iconst X0.here hx rfl (hb hby d3_49) k) ?_
                refine Go.retZ X0 hx hlk (t := .boolean) Bd.returns (by simp) (hb hby d3_50) e0 ?_ (by decide) (by decide)
                exact ⟨by simp_all [nar], N0, rfl⟩
theorem pd0 : parseMethodDescriptor "(I)Lcom/example/tenorbook/tenorbook/definitions/DayCount;" = some ⟨[.int], some (.object "com/example/tenorbook/tenorbook/definitions/DayCount")⟩ := by decide +kernel
theorem pd1 : parseMethodDescriptor "()Z" = some ⟨[], some .boolean⟩ := by decide +kernel
theorem pd2 : parseMethodDescriptor "(I)Z" = some ⟨[.int], some .boolean⟩ := by decide +kernel
theorem ef_law (m : MethodId) (ia : Int32) : entryFrame m #[(.int ia)] maxLocals = mkF m 0 #[.val (.int ia), .unset, .unset] [] := by first | (simp [entryFrame, mkF, argsToLocals, Value.category, maxLocals]; done) | rfl
def Q_law (Z : State) (ia : Int32) (z_ACTUAL_360 : Addr) (z_ACTUAL_365_FIXED : Addr) (z_ACTUAL_365_NO_LEAP_DAY : Addr) (z_ACTUAL_ACTUAL : Addr) (z_ACTUAL_ACTUAL_BOND : Addr) (z_THIRTY_360 : Addr) (z_THIRTY_E_360 : Addr) (z_ONE_ONE : Addr) (h0 : Heap) (n0 : Nat) (v : Option Value) (h : Heap) (L : List Loc) : Prop := v = some (.int (1 : Int32)) ∧ Fr n0 L ∧ Keep h0 h []
set_option maxRecDepth 65536 in
set_option maxHeartbeats 40000000 in
theorem rm_law (l : Launch) (Z : State) (a0 : Array Value) (hw : ∀ d ∈ tables_1, d.before a0 Z = true) (ws : List Jvm.Cond) (ia : Int32) (z_ACTUAL_360 : Addr) (z_ACTUAL_365_FIXED : Addr) (z_ACTUAL_365_NO_LEAP_DAY : Addr) (z_ACTUAL_ACTUAL : Addr) (z_ACTUAL_ACTUAL_BOND : Addr) (z_THIRTY_360 : Addr) (z_THIRTY_E_360 : Addr) (z_ONE_ONE : Addr) (h0 : Heap) (n0 : Nat) (O0 : Old Z n0 h0) (P0 : Sta Z Z.heap "com/example/tenorbook/tenorbook/definitions/DayCount" "ACTUAL_360" "Lcom/example/tenorbook/tenorbook/definitions/DayCount;" (.ref z_ACTUAL_360)) (P1 : Sta Z Z.heap "com/example/tenorbook/tenorbook/definitions/DayCount" "ACTUAL_365_FIXED" "Lcom/example/tenorbook/tenorbook/definitions/DayCount;" (.ref z_ACTUAL_365_FIXED)) (P2 : Sta Z Z.heap "com/example/tenorbook/tenorbook/definitions/DayCount" "ACTUAL_365_NO_LEAP_DAY" "Lcom/example/tenorbook/tenorbook/definitions/DayCount;" (.ref z_ACTUAL_365_NO_LEAP_DAY)) (P3 : Sta Z Z.heap "com/example/tenorbook/tenorbook/definitions/DayCount" "ACTUAL_ACTUAL" "Lcom/example/tenorbook/tenorbook/definitions/DayCount;" (.ref z_ACTUAL_ACTUAL)) (P4 : Sta Z Z.heap "com/example/tenorbook/tenorbook/definitions/DayCount" "ACTUAL_ACTUAL_BOND" "Lcom/example/tenorbook/tenorbook/definitions/DayCount;" (.ref z_ACTUAL_ACTUAL_BOND)) (P5 : Sta Z Z.heap "com/example/tenorbook/tenorbook/definitions/DayCount" "THIRTY_360" "Lcom/example/tenorbook/tenorbook/definitions/DayCount;" (.ref z_THIRTY_360)) (P6 : Sta Z Z.heap "com/example/tenorbook/tenorbook/definitions/DayCount" "THIRTY_E_360" "Lcom/example/tenorbook/tenorbook/definitions/DayCount;" (.ref z_THIRTY_E_360)) (P7 : Sta Z Z.heap "com/example/tenorbook/tenorbook/definitions/DayCount" "ONE_ONE" "Lcom/example/tenorbook/tenorbook/definitions/DayCount;" (.ref z_ONE_ONE)) (P8 : Exa Z Z.heap z_ACTUAL_360 "com/example/tenorbook/tenorbook/definitions/DayCount") (P9 : Exa Z Z.heap z_ACTUAL_365_FIXED "com/example/tenorbook/tenorbook/definitions/DayCount") (P10 : Exa Z Z.heap z_ACTUAL_365_NO_LEAP_DAY "com/example/tenorbook/tenorbook/definitions/DayCount") (P11 : Exa Z Z.heap z_ACTUAL_ACTUAL "com/example/tenorbook/tenorbook/definitions/DayCount") (P12 : Exa Z Z.heap z_ACTUAL_ACTUAL_BOND "com/example/tenorbook/tenorbook/definitions/DayCount") (P13 : Exa Z Z.heap z_THIRTY_360 "com/example/tenorbook/tenorbook/definitions/DayCount") (P14 : Exa Z Z.heap z_THIRTY_E_360 "com/example/tenorbook/tenorbook/definitions/DayCount") (P15 : Exa Z Z.heap z_ONE_ONE "com/example/tenorbook/tenorbook/definitions/DayCount") (P16 : z_ACTUAL_360 ≠ z_ACTUAL_ACTUAL_BOND) (P17 : z_ACTUAL_365_FIXED ≠ z_ACTUAL_ACTUAL_BOND) (P18 : z_ACTUAL_365_NO_LEAP_DAY ≠ z_ACTUAL_ACTUAL_BOND) (P19 : z_ACTUAL_ACTUAL ≠ z_ACTUAL_ACTUAL_BOND) (P20 : z_ACTUAL_ACTUAL_BOND ≠ z_THIRTY_360) (P21 : z_ACTUAL_ACTUAL_BOND ≠ z_THIRTY_E_360) (P22 : z_ACTUAL_ACTUAL_BOND ≠ z_ONE_ONE) :
    MetFree l x (head1 (Jvm.Cond.code x code maxLocals ret :: ws) room_1) (fun a U => a = #[(.int ia)] ∧ Z.Warmed39 U.vm ∧ U.heap = h0) (fun _ _ _ _ _ => True) (fun _ U o U' => ∃ v L, o = .returned v ∧ Q_law Z ia z_ACTUAL_360 z_ACTUAL_365_FIXED z_ACTUAL_365_NO_LEAP_DAY z_ACTUAL_ACTUAL z_ACTUAL_ACTUAL_BOND z_THIRTY_360 z_THIRTY_E_360 z_ONE_ONE h0 n0 v U'.heap L ∧ FrameEnd U o U' L room_1.cells room_1.slots) := by
  refine MetFree.of_bodySF (plainFor_of_name pn_com_example_tenorbook_tenorbook_definitions_DayCountCountsStubPeriodsPinLaw) hisR ?_
  intro p e s m args below meth c s₁ Bd hml0 hP hK
  obtain ⟨rfl, hZ, hh⟩ := hP
  have hx := Bd.exec
  have hby := Bd.bytes
  have hml : c.maxLocals = 3 := hml0
  have hown : s.vm.findClass "com/example/tenorbook/tenorbook/definitions/DayCountCountsStubPeriodsPinLaw" = some m.cls := findClass_of_methodNamed Bd.named
  have hnm := (name_of_methodNamed Bd.named Bd.method).1
  have hlk : meth.locks = false := BodyLoose.notSynchronized Bd
  have X0 : Stand p l e room_1 s m #[(.int ia)] below meth c s₁ [] 0 0 := Stand.of_body Bd
  have e0 : s₁.heap = h0 := by rw [← hh, Bd.state]; rfl
  have N0 := Fr.nil n0
  have K0 := Keep.refl h0 []
  rw [ef_law m ia]
  show Go p e below s (fun v h L => Q_law Z ia z_ACTUAL_360 z_ACTUAL_365_FIXED z_ACTUAL_365_NO_LEAP_DAY z_ACTUAL_ACTUAL z_ACTUAL_ACTUAL_BOND z_THIRTY_360 z_THIRTY_E_360 z_ONE_ONE h0 n0 v h L) room_1.cells room_1.slots s₁ (mkF m 0 #[.val (.int ia), .unset, .unset] [])
  refine Go.step (T' := s₁) (f' := (mkF m 1 #[.val (.int ia), .unset, .unset] [(.int ia)])) (fun t k => XS.iloadN X0.here hx rfl (hb hby at_0) rfl k) ?_
  refine Go.step (T' := s₁) (f' := (mkF m 3 #[.val (.int ia), .unset, .unset] [(.int (2147483647 : Int32)), (.int ia)])) (fun t k => X0.ldcInt hx hown (mvT hZ (hw _ (List.mem_of_getElem? (i := 0) rfl))) (g := (mkF m 1 #[.val (.int ia), .unset, .unset] [(.int ia)])) rfl (hb hby at_1) t k) ?_
  refine Go.step (T' := s₁) (f' := (mkF m 4 #[.val (.int ia), .unset, .unset] [(.int (ia &&& (2147483647 : Int32)))])) (fun t k => XS.iand X0.here hx rfl (hb hby at_3) rfl k) ?_
  refine Go.step (T' := s₁) (f' := (mkF m 6 #[.val (.int ia), .unset, .unset] [(.int (8 : Int32)), (.int (ia &&& (2147483647 : Int32)))])) (fun t k => XS.bipush X0.here hx rfl (hb hby at_4) k) ?_
  refine Go.step (T' := s₁) (f' := (mkF m 7 #[.val (.int ia), .unset, .unset] [(.int ((ia &&& (2147483647 : Int32)) % (8 : Int32)))])) (fun t k => iremM X0 hx rfl (hb hby at_6) rfl (by decide) k) ?_
  refine Go.step (T' := s₁) (f' := (mkF m 8 #[.val (.int ia), .val (.int ((ia &&& (2147483647 : Int32)) % (8 : Int32))), .unset] [])) (fun t k => XS.istoreN X0.here hx rfl (hb hby at_7) rfl (l' := #[.val (.int ia), .val (.int ((ia &&& (2147483647 : Int32)) % (8 : Int32))), .unset]) rfl k) ?_
  refine Go.step (T' := s₁) (f' := (mkF m 9 #[.val (.int ia), .val (.int ((ia &&& (2147483647 : Int32)) % (8 : Int32))), .unset] [(.int ((ia &&& (2147483647 : Int32)) % (8 : Int32)))])) (fun t k => XS.iloadN X0.here hx rfl (hb hby at_8) rfl k) ?_
  obtain ⟨_, _, ⟨T25, L25, k25, n25⟩, -, X25, ⟨Lc25, hQ25, l25, y25, z25⟩, st25⟩ := Jvm.LawKit.callS X0 hx (y := (⟨"com/example/tenorbook/tenorbook/definitions/DayCountCountsStubPeriodsPinLaw", "pick", "(I)Lcom/example/tenorbook/tenorbook/definitions/DayCount;"⟩ : MethodName)) hown (mvT hZ (hw _ (List.mem_of_getElem? (i := 1) rfl))) (mvT hZ (hw _ (List.mem_of_getElem? (i := 2) rfl))) (mvT hZ (hw _ (List.mem_of_getElem? (i := 3) rfl))) (mvT hZ (hw _ (List.mem_of_getElem? (i := 4) rfl))) (by decide) (backOf (W := 0) (rm_pick l Z a0 hw [] ((ia &&& (2147483647 : Int32)) % (8 : Int32)) z_ACTUAL_360 z_ACTUAL_365_FIXED z_ACTUAL_365_NO_LEAP_DAY z_ACTUAL_ACTUAL z_ACTUAL_ACTUAL_BOND z_THIRTY_360 z_THIRTY_E_360 z_ONE_ONE h0 n0 O0 P0 P1 P2 P3 P4 P5 P6 P7 P8 P9 P10 P11 P12 P13 P14 P15 P16 P17 P18 P19 P20 P21 P22) hZ (hw _ (List.mem_of_getElem? (i := 4) rfl)) (hw _ (List.mem_of_getElem? (i := 3) rfl)) (by decide) (by decide)) (g := (mkF m 9 #[.val (.int ia), .val (.int ((ia &&& (2147483647 : Int32)) % (8 : Int32))), .unset] [(.int ((ia &&& (2147483647 : Int32)) % (8 : Int32)))])) rfl (by rw [hml]; rfl) (argsL := [(.int ((ia &&& (2147483647 : Int32)) % (8 : Int32)))]) (rest := []) (lenOf pd0 rfl) rfl (by show 2 * 0 + _ ≤ _; exact Nat.le_of_eq rfl) (hb hby at_9) (fun _ _ => ⟨rfl, e0, (by decide : 0 + 0 ≤ _), (by decide : 0 + 0 ≤ _)⟩)
  dsimp only [Pt.U, Pt.locs, Pt.cells, Pt.slots] at X25 l25 y25 z25 st25 hQ25
  subst l25 y25 z25
  obtain ⟨u26, rfl, Nq25, hh25, p27, p28⟩ := hQ25
  have N29 := Fr.app N0 Nq25
  rw [hh25] at p27
  refine Go.step (T' := T25) (f' := (mkF m 12 #[.val (.int ia), .val (.int ((ia &&& (2147483647 : Int32)) % (8 : Int32))), .unset] [(.ref u26)])) st25 ?_
  refine Go.step (T' := T25) (f' := (mkF m 13 #[.val (.int ia), .val (.int ((ia &&& (2147483647 : Int32)) % (8 : Int32))), .val (.ref u26)] [])) (fun t k => XS.astoreN X25.here hx rfl (hb hby at_12) rfl rfl (l' := #[.val (.int ia), .val (.int ((ia &&& (2147483647 : Int32)) % (8 : Int32))), .val (.ref u26)]) rfl k) ?_
  refine Go.step (T' := T25) (f' := (mkF m 14 #[.val (.int ia), .val (.int ((ia &&& (2147483647 : Int32)) % (8 : Int32))), .val (.ref u26)] [(.ref u26)])) (fun t k => XS.aloadN X25.here hx rfl (hb hby at_13) rfl rfl k) ?_
  obtain ⟨cq30, kq30, q30a, q30b, q30c⟩ := isOf hZ hh25 p27
  obtain ⟨_, _, ⟨T30, L30, k30, n30⟩, -, X30, ⟨Lc30, hQ30, l30, y30, z30⟩, st30⟩ := X25.virtualBack hx (y := (⟨"com/example/tenorbook/tenorbook/definitions/DayCount", "countsStubPeriods", "()Z"⟩ : MethodName)) (z := (⟨"com/example/tenorbook/tenorbook/definitions/DayCount", "countsStubPeriods", "()Z"⟩ : MethodName)) hown (mvT hZ (hw _ (List.mem_of_getElem? (i := 8) rfl))) (mvT hZ (hw _ (List.mem_of_getElem? (i := 9) rfl))) (notFace_of_selects (args := #[]) (mvT hZ (hw _ (List.mem_of_getElem? (i := 11) rfl)))) (mvT hZ (hw _ (List.mem_of_getElem? (i := 11) rfl))) (mvT hZ (hw _ (List.mem_of_getElem? (i := 10) rfl))) (by decide) (backOf (W := 0) (rm_cnt l Z a0 hw [] u26 z_ACTUAL_ACTUAL_BOND h0 n0 O0 P4) hZ (hw _ (List.mem_of_getElem? (i := 12) rfl)) (hw _ (List.mem_of_getElem? (i := 6) rfl)) (by decide) (by decide)) q30a q30c (g := (mkF m 14 #[.val (.int ia), .val (.int ((ia &&& (2147483647 : Int32)) % (8 : Int32))), .val (.ref u26)] [(.ref u26)])) rfl (by rw [hml]; rfl) (Steps.refl _) (argsL := []) (rest := []) (lenOf pd1 rfl) rfl (by show 2 * 0 + _ ≤ _; exact Nat.le_of_eq rfl) (hb hby at_14) (fun _ _ => ⟨rfl, hh25, (by decide : 0 + 0 ≤ _), (by decide : 0 + 0 ≤ _)⟩)
  dsimp only [Pt.U, Pt.locs, Pt.cells, Pt.slots] at X30 l30 y30 z30 st30 hQ30
  subst l30 y30 z30
  obtain ⟨rfl, Nq30, hh30⟩ := hQ30
  have N31 := Fr.app N29 Nq30
  refine Go.via (T' := T30) (f' := (mkF m 17 #[.val (.int ia), .val (.int ((ia &&& (2147483647 : Int32)) % (8 : Int32))), .val (.ref u26)] [(.int (if u26 = z_ACTUAL_ACTUAL_BOND then (0 : Int32) else 1))])) st30 ?_
  refine Go.step (T' := T30) (f' := (mkF m 18 #[.val (.int ia), .val (.int ((ia &&& (2147483647 : Int32)) % (8 : Int32))), .val (.ref u26)] [(.int ((ia &&& (2147483647 : Int32)) % (8 : Int32))), (.int (if u26 = z_ACTUAL_ACTUAL_BOND then (0 : Int32) else 1))])) (fun t k => XS.iloadN X30.here hx rfl (hb hby at_17) rfl k) ?_
  obtain ⟨_, _, ⟨T32, L32, k32, n32⟩, -, X32, ⟨Lc32, hQ32, l32, y32, z32⟩, st32⟩ := Jvm.LawKit.callS X30 hx (y := (⟨"com/example/tenorbook/tenorbook/definitions/DayCountCountsStubPeriodsPinLaw", "expected", "(I)Z"⟩ : MethodName)) hown (mvT hZ (hw _ (List.mem_of_getElem? (i := 15) rfl))) (mvT hZ (hw _ (List.mem_of_getElem? (i := 16) rfl))) (mvT hZ (hw _ (List.mem_of_getElem? (i := 3) rfl))) (mvT hZ (hw _ (List.mem_of_getElem? (i := 17) rfl))) (by decide) (backOf (W := 1) (rm_exp l Z a0 hw [] ((ia &&& (2147483647 : Int32)) % (8 : Int32)) h0 n0 O0 ) hZ (hw _ (List.mem_of_getElem? (i := 17) rfl)) (hw _ (List.mem_of_getElem? (i := 3) rfl)) (by decide) (by decide)) (g := (mkF m 18 #[.val (.int ia), .val (.int ((ia &&& (2147483647 : Int32)) % (8 : Int32))), .val (.ref u26)] [(.int ((ia &&& (2147483647 : Int32)) % (8 : Int32))), (.int (if u26 = z_ACTUAL_ACTUAL_BOND then (0 : Int32) else 1))])) rfl (by rw [hml]; rfl) (argsL := [(.int ((ia &&& (2147483647 : Int32)) % (8 : Int32)))]) (rest := [(.int (if u26 = z_ACTUAL_ACTUAL_BOND then (0 : Int32) else 1))]) (lenOf pd2 rfl) rfl (by show 2 * 0 + _ ≤ _; exact Nat.le_of_eq rfl) (hb hby at_18) (fun _ _ => ⟨rfl, hh30, (by decide : 0 + 0 ≤ _), (by decide : 0 + 0 ≤ _)⟩)
  dsimp only [Pt.U, Pt.locs, Pt.cells, Pt.slots] at X32 l32 y32 z32 st32 hQ32
  subst l32 y32 z32
  obtain ⟨rfl, Nq32, hh32⟩ := hQ32
  have N33 := Fr.app N31 Nq32
  refine Go.step (T' := T32) (f' := (mkF m 21 #[.val (.int ia), .val (.int ((ia &&& (2147483647 : Int32)) % (8 : Int32))), .val (.ref u26)] [(.int (if ((ia &&& (2147483647 : Int32)) % (8 : Int32)) = 4 then (0 : Int32) else 1)), (.int (if u26 = z_ACTUAL_ACTUAL_BOND then (0 : Int32) else 1))])) st32 ?_
  have hc34 : (if u26 = z_ACTUAL_ACTUAL_BOND then (0 : Int32) else 1) = (if ((ia &&& (2147483647 : Int32)) % (8 : Int32)) = 4 then (0 : Int32) else 1) := by
    simp [p28]
  refine Go.step (T' := T32) (f' := (mkF m 24 #[.val (.int ia), .val (.int ((ia &&& (2147483647 : Int32)) % (8 : Int32))), .val (.ref u26)] [])) (fun t k => XS.icmpNo X32.here hx rfl (hb hby at_21) rfl (teq hc34).2 k) ?_
  refine Go.step (T' := T32) (f' := (mkF m 25 #[.val (.int ia), .val (.int ((ia &&& (2147483647 : Int32)) % (8 : Int32))), .val (.ref u26)] [(.int (1 : Int32))])) (fun t k => XS.iconst X32.here hx rfl (hb hby at_24) k) ?_
  refine Go.step (T' := T32) (f' := (mkF m 29 #[.val (.int ia), .val (.int ((ia &&& (2147483647 : Int32)) % (8 : Int32))), .val (.ref u26)] [(.int (1 : Int32))])) (fun t k => XS.goto X32.here hx rfl (pc0 := 25) (pc' := 29) rfl (hb hby at_25) (by decide) (by decide) k) ?_
  refine Go.retZ X32 hx hlk (t := .boolean) Bd.returns (by simp) (hb hby at_29) hh32 ?_ (by decide) (by decide)
  exact ⟨rfl, N33, K0⟩
set_option maxRecDepth 65536 in
set_option maxHeartbeats 40000000 in
theorem comes_1 {Post : Tables → Env → Array Value → State → Outcome → State → Prop} (hpost : ∀ tb e args s v u, (limb_1_1.after args s (.returned v) u = true ∧ limb_1_2.after args s (.returned v) u = true ∧ True) → FrameEnd s (.returned v) u (Jvm.fieldLocs frame_1_writes args s ++ Jvm.arrayLocs frame_1_arrays args s ++ Jvm.staticLocs frame_1_statics s) 0 0 → Post tb e args s (.returned v) u) :
    ArmFor flags0 classFile x code maxLocals ret World_1 tables_1 room_1 Calls_1 rest_1 Pre_1 Post := by
  intro l hfl _ _ p e ha hc hk s m args below hf hA hF happ hP
  obtain ⟨hcalls, hrest, hpre⟩ := hP
  obtain ⟨-, -, -, hnamed, -, -, -, hat⟩ := (Spec.applies_iff hf).mp happ
  obtain ⟨hg, hn⟩ := and_e (Cond.before_iff.mp (show (Jvm.Cond.and given_1 narrow_1).before args s = true from hpre))
  obtain ⟨c1, c2⟩ := and_e hg
  obtain ⟨c3, c4⟩ := and_e hn
  obtain ⟨c5, c6⟩ := and_e c4
  obtain ⟨c7, c8⟩ := and_e c6
  obtain ⟨c9, c10⟩ := and_e c8
  obtain ⟨c11, c12⟩ := and_e c10
  obtain ⟨c13, c14⟩ := and_e c12
  obtain ⟨c15, c16⟩ := and_e c14
  obtain ⟨c17, c18⟩ := and_e c16
  obtain ⟨c19, c20⟩ := and_e c18
  obtain ⟨c21, c22⟩ := and_e c20
  obtain ⟨c23, c24⟩ := and_e c22
  obtain ⟨c25, c26⟩ := and_e c24
  obtain ⟨c27, c28⟩ := and_e c26
  obtain ⟨c29, c30⟩ := and_e c28
  obtain ⟨c31, c32⟩ := and_e c30
  obtain ⟨w0, rfl⟩ : ∃ w0 : Value, args = #[w0] := by
    have hs : args.size = 1 := by simpa [Cond.value, given_1] using c1
    obtain ⟨L⟩ := args
    match L, hs with
    | [w0], _ => exact ⟨w0, rfl⟩
  have hw := fun d (hd : d ∈ tables_1) => atoms_spec (ws := Jvm.Cond.code x code maxLocals ret :: tables_1) hat d (List.mem_cons_of_mem _ hd)
  have hfit : Fit s := fun {y c} hc i hi => by
    obtain ⟨ha, rfl⟩ := Array.getElem?_eq_some_iff.mp hc
    have q := List.all_eq_true.mp ((Array.all_eq_true_iff_forall_mem.mp hF) _ (Array.getElem_mem ha)) i (List.mem_range.mpr hi)
    simpa [Array.getElem?_eq_getElem hi] using q
  obtain ⟨i0, ei0⟩ := is_v c2
  obtain rfl : w0 = (.int i0) := Option.some.inj ei0
  obtain ⟨z_ACTUAL_360, ev_z_ACTUAL_360⟩ := exa_v c3
  have S_z_ACTUAL_360 := Sta.start ev_z_ACTUAL_360 (Or.inr ⟨(hw _ (List.mem_of_getElem? (i := 6) rfl)), (hw _ (List.mem_of_getElem? (i := 7) rfl))⟩)
  have E_z_ACTUAL_360 := Exa.start ev_z_ACTUAL_360 c3
  obtain ⟨z_ACTUAL_ACTUAL_BOND, ev_z_ACTUAL_ACTUAL_BOND⟩ := exa_v c5
  have S_z_ACTUAL_ACTUAL_BOND := Sta.start ev_z_ACTUAL_ACTUAL_BOND (Or.inr ⟨(hw _ (List.mem_of_getElem? (i := 6) rfl)), (hw _ (List.mem_of_getElem? (i := 14) rfl))⟩)
  have E_z_ACTUAL_ACTUAL_BOND := Exa.start ev_z_ACTUAL_ACTUAL_BOND c5
  obtain ⟨z_ACTUAL_ACTUAL, ev_z_ACTUAL_ACTUAL⟩ := exa_v c11
  have S_z_ACTUAL_ACTUAL := Sta.start ev_z_ACTUAL_ACTUAL (Or.inr ⟨(hw _ (List.mem_of_getElem? (i := 6) rfl)), (hw _ (List.mem_of_getElem? (i := 19) rfl))⟩)
  have E_z_ACTUAL_ACTUAL := Exa.start ev_z_ACTUAL_ACTUAL c11
  obtain ⟨z_THIRTY_E_360, ev_z_THIRTY_E_360⟩ := exa_v c15
  have S_z_THIRTY_E_360 := Sta.start ev_z_THIRTY_E_360 (Or.inr ⟨(hw _ (List.mem_of_getElem? (i := 6) rfl)), (hw _ (List.mem_of_getElem? (i := 21) rfl))⟩)
  have E_z_THIRTY_E_360 := Exa.start ev_z_THIRTY_E_360 c15
  obtain ⟨z_ONE_ONE, ev_z_ONE_ONE⟩ := exa_v c19
  have S_z_ONE_ONE := Sta.start ev_z_ONE_ONE (Or.inr ⟨(hw _ (List.mem_of_getElem? (i := 6) rfl)), (hw _ (List.mem_of_getElem? (i := 23) rfl))⟩)
  have E_z_ONE_ONE := Exa.start ev_z_ONE_ONE c19
  obtain ⟨z_ACTUAL_365_NO_LEAP_DAY, ev_z_ACTUAL_365_NO_LEAP_DAY⟩ := exa_v c23
  have S_z_ACTUAL_365_NO_LEAP_DAY := Sta.start ev_z_ACTUAL_365_NO_LEAP_DAY (Or.inr ⟨(hw _ (List.mem_of_getElem? (i := 6) rfl)), (hw _ (List.mem_of_getElem? (i := 25) rfl))⟩)
  have E_z_ACTUAL_365_NO_LEAP_DAY := Exa.start ev_z_ACTUAL_365_NO_LEAP_DAY c23
  obtain ⟨z_ACTUAL_365_FIXED, ev_z_ACTUAL_365_FIXED⟩ := exa_v c27
  have S_z_ACTUAL_365_FIXED := Sta.start ev_z_ACTUAL_365_FIXED (Or.inr ⟨(hw _ (List.mem_of_getElem? (i := 6) rfl)), (hw _ (List.mem_of_getElem? (i := 27) rfl))⟩)
  have E_z_ACTUAL_365_FIXED := Exa.start ev_z_ACTUAL_365_FIXED c27
  obtain ⟨z_THIRTY_360, ev_z_THIRTY_360⟩ := exa_v c31
  have S_z_THIRTY_360 := Sta.start ev_z_THIRTY_360 (Or.inr ⟨(hw _ (List.mem_of_getElem? (i := 6) rfl)), (hw _ (List.mem_of_getElem? (i := 30) rfl))⟩)
  have E_z_THIRTY_360 := Exa.start ev_z_THIRTY_360 c31
  have F_z_ACTUAL_360 : Fld s s.heap z_ACTUAL_360 "java/lang/Enum" "ordinal" "I" (.int (0 : Int32)) := own_fld_start ev_z_ACTUAL_360 c7
  have F_z_ACTUAL_ACTUAL_BOND : Fld s s.heap z_ACTUAL_ACTUAL_BOND "java/lang/Enum" "ordinal" "I" (.int (4 : Int32)) := own_fld_start ev_z_ACTUAL_ACTUAL_BOND c9
  have F_z_ACTUAL_ACTUAL : Fld s s.heap z_ACTUAL_ACTUAL "java/lang/Enum" "ordinal" "I" (.int (3 : Int32)) := own_fld_start ev_z_ACTUAL_ACTUAL c13
  have F_z_THIRTY_E_360 : Fld s s.heap z_THIRTY_E_360 "java/lang/Enum" "ordinal" "I" (.int (6 : Int32)) := own_fld_start ev_z_THIRTY_E_360 c17
  have F_z_ONE_ONE : Fld s s.heap z_ONE_ONE "java/lang/Enum" "ordinal" "I" (.int (7 : Int32)) := own_fld_start ev_z_ONE_ONE c21
  have F_z_ACTUAL_365_NO_LEAP_DAY : Fld s s.heap z_ACTUAL_365_NO_LEAP_DAY "java/lang/Enum" "ordinal" "I" (.int (2 : Int32)) := own_fld_start ev_z_ACTUAL_365_NO_LEAP_DAY c25
  have F_z_ACTUAL_365_FIXED : Fld s s.heap z_ACTUAL_365_FIXED "java/lang/Enum" "ordinal" "I" (.int (1 : Int32)) := own_fld_start ev_z_ACTUAL_365_FIXED c29
  have F_z_THIRTY_360 : Fld s s.heap z_THIRTY_360 "java/lang/Enum" "ordinal" "I" (.int (5 : Int32)) := own_fld_start ev_z_THIRTY_360 c32
  obtain ⟨n, o, h1, h2, h3, _, L, rfl, ⟨rfl, N, -⟩, hq⟩ := rm_law l s _ hw tables_1 i0 z_ACTUAL_360 z_ACTUAL_365_FIXED z_ACTUAL_365_NO_LEAP_DAY z_ACTUAL_ACTUAL z_ACTUAL_ACTUAL_BOND z_THIRTY_360 z_THIRTY_E_360 z_ONE_ONE s.heap s.heap.size (Old.start s) S_z_ACTUAL_360 S_z_ACTUAL_365_FIXED S_z_ACTUAL_365_NO_LEAP_DAY S_z_ACTUAL_ACTUAL S_z_ACTUAL_ACTUAL_BOND S_z_THIRTY_360 S_z_THIRTY_E_360 S_z_ONE_ONE E_z_ACTUAL_360 E_z_ACTUAL_365_FIXED E_z_ACTUAL_365_NO_LEAP_DAY E_z_ACTUAL_ACTUAL E_z_ACTUAL_ACTUAL_BOND E_z_THIRTY_360 E_z_THIRTY_E_360 E_z_ONE_ONE (F_z_ACTUAL_360.ne F_z_ACTUAL_ACTUAL_BOND (by decide)) (F_z_ACTUAL_365_FIXED.ne F_z_ACTUAL_ACTUAL_BOND (by decide)) (F_z_ACTUAL_365_NO_LEAP_DAY.ne F_z_ACTUAL_ACTUAL_BOND (by decide)) (F_z_ACTUAL_ACTUAL.ne F_z_ACTUAL_ACTUAL_BOND (by decide)) (F_z_ACTUAL_ACTUAL_BOND.ne F_z_THIRTY_360 (by decide)) (F_z_ACTUAL_ACTUAL_BOND.ne F_z_THIRTY_E_360 (by decide)) (F_z_ACTUAL_ACTUAL_BOND.ne F_z_ONE_ONE (by decide)) p e ha hc hk s m _ below hf ((Spec.applies_iff_loose hf).mp happ).1 ⟨rfl, State.Warmed39.refl s, rfl⟩ trivial
  refine ⟨n, _, h1, h2, h3, hpost _ _ _ _ _ _ ⟨Cond.after_iff.mpr rfl, Cond.after_iff.mpr (eq_i res_at (Term.int_eval (1)) rfl), trivial⟩ ⟨hq.1, hq.2.1, (hq.2.2.sift fun y hy => Or.inr (N y hy)).mono (by decide) (by decide)⟩⟩
theorem main_1_1 : Claimed_1_1 := comes_1 fun _ _ _ _ _ _ h hF => ⟨h.1, hF⟩
theorem main_1_2 : Claimed_1_2 := comes_1 fun _ _ _ _ _ _ h hF => ⟨h.2.1, hF⟩
end Jvm.Pilot.@@N@@
namespace Jvm.Pilot.@@N@@
open Jvm Jvm.ClassFile Sem Op Lib Jvm.Free Jvm.Stand Jvm.Pilot.@@N@@.Jvm.D
/-! MADE BY PROGRAM (witnessworld.py) out of the Statement's table words and the real class files: 12 classes; the members and pool entries that the words name. The judged class is class 1, her method 3. -/
namespace start1
open Jvm.ClassFile
def u (s : String) : CpInfo := .utf8 (stringToUtf16 s)
/-- a pool by its gaps: so many unusable entries, then the entry; so many at the end -/
def gap : Nat → List CpInfo → List CpInfo
  | 0, r => r
  | n + 1, r => .unusable :: gap n r
def poolList (es : List (Nat × CpInfo)) (last : Nat) : List CpInfo := es.foldr (fun e r => gap e.1 (e.2 :: r)) (gap last [])
def pool (es : List (Nat × CpInfo)) (last : Nat) : Array CpInfo := ⟨poolList es last⟩
def fileOf (pool : Array CpInfo) (this : Nat) (attrs : Array Attribute := #[]) (ms : Array MethodInfo := #[]) (fl : Nat := 33) (sup : Nat := 0) (ifs : Array Nat := #[]) (fds : Array FieldInfo := #[]) : ClassFile where
  minorVersion := 0
  majorVersion := 65
  constantPool := pool
  accessFlags := fl
  thisClass := this
  superClass := sup
  interfaces := ifs
  fields := fds
  methods := ms
  attributes := attrs
def plain (name : String) (sup : Option ClassId) : Class where
  name := name
  kind := .ordinary
  loader := none
  accessFlags := 33
  super := sup
  interfaces := #[]
  cf := none
  fields := #[]
  methods := #[]
  instanceTypes := #[]
  staticTypes := #[]
  resolved := #[]
  callSites := []
  init := .initialized
  statics := none
  mirror := none

def pool0 : Array CpInfo := pool [(5, u "<init>"), (0, u "()V"), (1, .class_ 10), (1, u "java/lang/Object")] 113

def k0m0 : Method := { name := "<init>", desc := "()V", sig := { parameters := [], returnType := none }, accessFlags := 1, code := none }
/-- java/lang/Object -/
def k0 : Class := { plain "java/lang/Object" none with
  accessFlags := 33
  interfaces := #[]
  cf := some (fileOf pool0 8 #[] #[{ accessFlags := 1, nameIndex := 5, descriptorIndex := 6, attributes := #[] }] 33 0 #[] #[])
  fields := #[]
  methods := #[k0m0]
  instanceTypes := #[]
  staticTypes := #[]
  resolved := Array.replicate 124 none
  statics := none }

def pool1 : Array CpInfo := pool [(2, .class_ 4), (1, u "java/lang/Object"), (0, u "<init>"), (0, u "()V"), (0, .fieldref 8 9), (0, .class_ 10), (0, .nameAndType 11 12), (0, u "com/example/tenorbook/tenorbook/definitions/DayCount"), (0, u "ACTUAL_360"), (0, u "Lcom/example/tenorbook/tenorbook/definitions/DayCount;"), (0, .fieldref 8 14), (0, .nameAndType 15 12), (0, u "ACTUAL_365_FIXED"), (0, .fieldref 8 17), (0, .nameAndType 18 12), (0, u "ACTUAL_365_NO_LEAP_DAY"), (0, .fieldref 8 20), (0, .nameAndType 21 12), (0, u "ACTUAL_ACTUAL"), (0, .fieldref 8 23), (0, .nameAndType 24 12), (0, u "ACTUAL_ACTUAL_BOND"), (0, .fieldref 8 26), (0, .nameAndType 27 12), (0, u "THIRTY_360"), (0, .fieldref 8 29), (0, .nameAndType 30 12), (0, u "THIRTY_E_360"), (0, .fieldref 8 32), (0, .nameAndType 33 12), (0, u "ONE_ONE"), (0, .integer 2147483647), (0, .methodref 36 37), (0, .class_ 38), (0, .nameAndType 39 40), (0, u "com/example/tenorbook/tenorbook/definitions/DayCountCountsStubPeriodsPinLaw"), (0, u "pick"), (0, u "(I)Lcom/example/tenorbook/tenorbook/definitions/DayCount;"), (0, .methodref 8 42), (0, .nameAndType 43 44), (0, u "countsStubPeriods"), (0, u "()Z"), (0, .methodref 36 46), (0, .nameAndType 47 48), (0, u "expected"), (0, u "(I)Z"), (3, u "law")] 2

def k1m0 : Method := { name := "<init>", desc := "()V", sig := { parameters := [], returnType := none }, accessFlags := 2, code := none }
def k1c1 : Code := { maxStack := 2, maxLocals := 1, code := method_2_code, exceptionTable := #[], attributes := #[] }
def k1m1 : Method := { name := "pick", desc := "(I)Lcom/example/tenorbook/tenorbook/definitions/DayCount;", sig := { parameters := [.int], returnType := some (.object "com/example/tenorbook/tenorbook/definitions/DayCount") }, accessFlags := 10, code := some k1c1 }
def k1c2 : Code := { maxStack := 2, maxLocals := 1, code := method_3_code, exceptionTable := #[], attributes := #[] }
def k1m2 : Method := { name := "expected", desc := "(I)Z", sig := { parameters := [.int], returnType := some .boolean }, accessFlags := 10, code := some k1c2 }
def k1c3 : Code := { maxStack := 2, maxLocals := 3, code := code, exceptionTable := #[], attributes := #[] }
def k1m3 : Method := { name := "law", desc := "(I)Z", sig := { parameters := [.int], returnType := some .boolean }, accessFlags := 9, code := some k1c3 }
/-- com/example/tenorbook/tenorbook/definitions/DayCountCountsStubPeriodsPinLaw -/
def k1 : Class := { plain "com/example/tenorbook/tenorbook/definitions/DayCountCountsStubPeriodsPinLaw" (some 0) with
  accessFlags := 49
  interfaces := #[]
  cf := some (fileOf pool1 36 #[] #[{ accessFlags := 2, nameIndex := 5, descriptorIndex := 6, attributes := #[] }, { accessFlags := 10, nameIndex := 39, descriptorIndex := 40, attributes := #[] }, { accessFlags := 10, nameIndex := 47, descriptorIndex := 48, attributes := #[] }, { accessFlags := 9, nameIndex := 52, descriptorIndex := 48, attributes := #[] }] 49 2 #[] #[])
  fields := #[]
  methods := #[k1m0, k1m1, k1m2, k1m3]
  instanceTypes := #[]
  staticTypes := #[]
  resolved := Array.replicate 55 none
  statics := none }

def pool2 : Array CpInfo := pool [(1, .class_ 2), (0, u "java/lang/constant/Constable"), (0, .class_ 4), (0, u "java/lang/Object")] 6

/-- java/lang/constant/Constable -/
def k2 : Class := { plain "java/lang/constant/Constable" (some 0) with
  accessFlags := 1537
  interfaces := #[]
  cf := some (fileOf pool2 1 #[] #[] 1537 3 #[] #[])
  fields := #[]
  methods := #[]
  instanceTypes := #[]
  staticTypes := #[]
  resolved := Array.replicate 11 none
  statics := none }

def pool3 : Array CpInfo := pool [(1, .class_ 2), (0, u "java/lang/Comparable"), (0, .class_ 4), (0, u "java/lang/Object")] 7

/-- java/lang/Comparable -/
def k3 : Class := { plain "java/lang/Comparable" (some 0) with
  accessFlags := 1537
  interfaces := #[]
  cf := some (fileOf pool3 1 #[] #[] 1537 3 #[] #[])
  fields := #[]
  methods := #[]
  instanceTypes := #[]
  staticTypes := #[]
  resolved := Array.replicate 12 none
  statics := none }

def pool4 : Array CpInfo := pool [(1, .class_ 2), (0, u "java/io/Serializable"), (0, .class_ 4), (0, u "java/lang/Object")] 2

/-- java/io/Serializable -/
def k4 : Class := { plain "java/io/Serializable" (some 0) with
  accessFlags := 1537
  interfaces := #[]
  cf := some (fileOf pool4 1 #[] #[] 1537 3 #[] #[])
  fields := #[]
  methods := #[]
  instanceTypes := #[]
  staticTypes := #[]
  resolved := Array.replicate 7 none
  statics := none }

def pool5 : Array CpInfo := pool [(2, .class_ 4), (1, u "java/lang/Enum"), (0, u "name"), (0, u "Ljava/lang/String;"), (2, u "ordinal"), (0, u "I"), (1, .class_ 14), (1, u "java/lang/Object"), (4, u "hash"), (86, .class_ 108), (1, u "java/lang/Enum$EnumDesc"), (2, .class_ 112), (0, u "java/lang/constant/Constable"), (0, .class_ 114), (0, u "java/lang/Comparable"), (0, .class_ 116), (0, u "java/io/Serializable")] 87

/-- java/lang/Enum -/
def k5 : Class := { plain "java/lang/Enum" (some 0) with
  accessFlags := 1057
  interfaces := #[2, 3, 4]
  cf := some (fileOf pool5 2 #[.nestMembers #[106]] #[] 1057 12 #[111, 113, 115] #[{ accessFlags := 18, nameIndex := 5, descriptorIndex := 6, attributes := #[] }, { accessFlags := 18, nameIndex := 9, descriptorIndex := 10, attributes := #[] }, { accessFlags := 2, nameIndex := 19, descriptorIndex := 10, attributes := #[] }])
  fields := #[{ name := "name", type := (.object "java/lang/String"), accessFlags := 18, slot := 0, constantValue := 0 }, { name := "ordinal", type := .int, accessFlags := 18, slot := 1, constantValue := 0 }, { name := "hash", type := .int, accessFlags := 2, slot := 2, constantValue := 0 }]
  methods := #[]
  instanceTypes := #[(.object "java/lang/String"), .int, .int]
  staticTypes := #[]
  resolved := Array.replicate 204 none
  statics := none }

def pool6 : Array CpInfo := pool [(1, .class_ 2), (0, u "com/example/tenorbook/tenorbook/definitions/DayCount"), (2, u "ACTUAL_360"), (0, u "Lcom/example/tenorbook/tenorbook/definitions/DayCount;"), (2, u "ACTUAL_365_FIXED"), (2, u "ACTUAL_365_NO_LEAP_DAY"), (2, u "ACTUAL_ACTUAL"), (0, .fieldref 1 17), (0, .nameAndType 18 6), (0, u "ACTUAL_ACTUAL_BOND"), (2, u "THIRTY_360"), (2, u "THIRTY_E_360"), (2, u "ONE_ONE"), (2, u "$VALUES"), (0, u "[Lcom/example/tenorbook/tenorbook/definitions/DayCount;"), (6, .class_ 40), (1, u "java/lang/Enum"), (64, u "()Z"), (2, u "countsStubPeriods"), (191, u "THIRTY"), (0, u "I")] 58

def k6c0 : Code := { maxStack := 2, maxLocals := 1, code := prog_11_method_6_code, exceptionTable := #[], attributes := #[] }
def k6m0 : Method := { name := "countsStubPeriods", desc := "()Z", sig := { parameters := [], returnType := some .boolean }, accessFlags := 1, code := some k6c0 }
/-- com/example/tenorbook/tenorbook/definitions/DayCount -/
def k6 : Class := { plain "com/example/tenorbook/tenorbook/definitions/DayCount" (some 5) with
  accessFlags := 16433
  interfaces := #[]
  cf := some (fileOf pool6 1 #[] #[{ accessFlags := 1, nameIndex := 108, descriptorIndex := 105, attributes := #[] }] 16433 38 #[] #[{ accessFlags := 16409, nameIndex := 5, descriptorIndex := 6, attributes := #[] }, { accessFlags := 16409, nameIndex := 9, descriptorIndex := 6, attributes := #[] }, { accessFlags := 16409, nameIndex := 12, descriptorIndex := 6, attributes := #[] }, { accessFlags := 16409, nameIndex := 15, descriptorIndex := 6, attributes := #[] }, { accessFlags := 16409, nameIndex := 18, descriptorIndex := 6, attributes := #[] }, { accessFlags := 16409, nameIndex := 21, descriptorIndex := 6, attributes := #[] }, { accessFlags := 16409, nameIndex := 24, descriptorIndex := 6, attributes := #[] }, { accessFlags := 16409, nameIndex := 27, descriptorIndex := 6, attributes := #[] }, { accessFlags := 26, nameIndex := 300, descriptorIndex := 301, attributes := #[] }, { accessFlags := 4122, nameIndex := 30, descriptorIndex := 31, attributes := #[] }])
  fields := #[{ name := "ACTUAL_360", type := (.object "com/example/tenorbook/tenorbook/definitions/DayCount"), accessFlags := 16409, slot := 0, constantValue := 0 }, { name := "ACTUAL_365_FIXED", type := (.object "com/example/tenorbook/tenorbook/definitions/DayCount"), accessFlags := 16409, slot := 1, constantValue := 0 }, { name := "ACTUAL_365_NO_LEAP_DAY", type := (.object "com/example/tenorbook/tenorbook/definitions/DayCount"), accessFlags := 16409, slot := 2, constantValue := 0 }, { name := "ACTUAL_ACTUAL", type := (.object "com/example/tenorbook/tenorbook/definitions/DayCount"), accessFlags := 16409, slot := 3, constantValue := 0 }, { name := "ACTUAL_ACTUAL_BOND", type := (.object "com/example/tenorbook/tenorbook/definitions/DayCount"), accessFlags := 16409, slot := 4, constantValue := 0 }, { name := "THIRTY_360", type := (.object "com/example/tenorbook/tenorbook/definitions/DayCount"), accessFlags := 16409, slot := 5, constantValue := 0 }, { name := "THIRTY_E_360", type := (.object "com/example/tenorbook/tenorbook/definitions/DayCount"), accessFlags := 16409, slot := 6, constantValue := 0 }, { name := "ONE_ONE", type := (.object "com/example/tenorbook/tenorbook/definitions/DayCount"), accessFlags := 16409, slot := 7, constantValue := 0 }, { name := "THIRTY", type := .int, accessFlags := 26, slot := 8, constantValue := 0 }, { name := "$VALUES", type := (.array (.object "com/example/tenorbook/tenorbook/definitions/DayCount")), accessFlags := 4122, slot := 9, constantValue := 0 }]
  methods := #[k6m0]
  instanceTypes := #[(.object "java/lang/String"), .int, .int]
  staticTypes := #[(.object "com/example/tenorbook/tenorbook/definitions/DayCount"), (.object "com/example/tenorbook/tenorbook/definitions/DayCount"), (.object "com/example/tenorbook/tenorbook/definitions/DayCount"), (.object "com/example/tenorbook/tenorbook/definitions/DayCount"), (.object "com/example/tenorbook/tenorbook/definitions/DayCount"), (.object "com/example/tenorbook/tenorbook/definitions/DayCount"), (.object "com/example/tenorbook/tenorbook/definitions/DayCount"), (.object "com/example/tenorbook/tenorbook/definitions/DayCount"), .int, (.array (.object "com/example/tenorbook/tenorbook/definitions/DayCount"))]
  resolved := Array.replicate 360 none
  statics := some 0 }

def pool7 : Array CpInfo := pool [(1, u "java/lang/Cloneable"), (0, .class_ 1), (0, u "java/lang/Object"), (0, .class_ 3)] 3

/-- java/lang/Cloneable -/
def k7 : Class := { plain "java/lang/Cloneable" (some 0) with
  accessFlags := 1537
  interfaces := #[]
  cf := some (fileOf pool7 2 #[] #[] 1537 4 #[] #[])
  fields := #[]
  methods := #[]
  instanceTypes := #[]
  staticTypes := #[]
  resolved := Array.replicate 8 none
  statics := none }

/-- the primitive byte -/
def k8 : Class := { plain "byte" none with kind := .primitive 'B', accessFlags := 0x411 }
/-- [B -/
def k9 : Class := { plain "[B" (some 0) with kind := .array 8 .byte, interfaces := #[7, 4], accessFlags := 1041 }

/-- the primitive int -/
def k10 : Class := { plain "int" none with kind := .primitive 'I', accessFlags := 0x411 }
/-- [I -/
def k11 : Class := { plain "[I" (some 0) with kind := .array 10 .int, interfaces := #[7, 4], accessFlags := 1041 }

def heap : Heap := #[{ cls := 6, slots := #[.ref 1, .ref 7, .ref 6, .ref 3, .ref 2, .ref 8, .ref 4, .ref 5, .int 0, .null], vm := .statics 6 },
  { cls := 6, slots := #[.null, .int 0, .int 0], vm := .none },
  { cls := 6, slots := #[.null, .int 4, .int 0], vm := .none },
  { cls := 6, slots := #[.null, .int 3, .int 0], vm := .none },
  { cls := 6, slots := #[.null, .int 6, .int 0], vm := .none },
  { cls := 6, slots := #[.null, .int 7, .int 0], vm := .none },
  { cls := 6, slots := #[.null, .int 2, .int 0], vm := .none },
  { cls := 6, slots := #[.null, .int 1, .int 0], vm := .none },
  { cls := 6, slots := #[.null, .int 5, .int 0], vm := .none }]
def classes : Array Class := #[k0, k1, k2, k3, k4, k5, k6, k7, k8, k9, k10, k11]
def interned : List (Array UInt16 × Addr) := []
def slotsUsed : Nat := 34
def theMethod : MethodId := ⟨1, 3⟩
def args0 : Array Value := #[.int 5]
def aboutOver (below : List Frame) : State where
  vm := { classes := classes, interned := interned.toArray }
  heap := heap
  slotsUsed := slotsUsed
  threads := #[{ frames := .invoking theMethod args0 :: below }]
def below0 : List Frame := [.native { method := ⟨0, 0⟩, args := #[] }]
def about1 : State := aboutOver below0
def p0 : Program := .bare "" "" ""
def e0 : Env := launch0.env 0 0 0
theorem w_frames : about1.frames = Frame.invoking theMethod args0 :: below0 := rfl
set_option maxRecDepth 65536 in
theorem w_args : argsFit about1.vm theMethod args0 = true := by decide +kernel
set_option maxRecDepth 65536 in
theorem w_heap : heapFits about1 = true := by decide +kernel
set_option maxRecDepth 65536 in
theorem w_runnable : about1.curStatus? = some .runnable := by decide +kernel
set_option maxRecDepth 65536 in
theorem w_alone : about1.alone = true := by decide +kernel
set_option maxRecDepth 65536 in
theorem w_named : about1.methodNamed? x = some theMethod := by decide +kernel
set_option maxRecDepth 65536 in
theorem w_hears : about1.hears theMethod below0 = true := by decide +kernel
set_option maxRecDepth 65536 in
theorem w_ripe : about1.ripe theMethod args0 below0 = true := by decide +kernel
theorem w_running : about1.status = .running := rfl
set_option maxRecDepth 65536 in
theorem w_room : about1.hasRoom e0.platform room_1 = true :=
  launch0.hasRoom_least _ room_1 (by decide +kernel) (by decide +kernel) (by decide +kernel) (by decide +kernel) (by decide +kernel) (by decide +kernel)
theorem allAtoms_all (ts : List Jvm.Cond) (a : Array Jvm.Value) (st : Jvm.State) : (allAtoms ts).before a st = ts.all (fun c => c.before a st) := by
  induction ts with
  | nil => rfl
  | cons c t ih =>
    show (Jvm.Cond.and c (allAtoms t)).before a st = _
    rw [Jvm.Cond.before_and, ih, List.all_cons]
def words1 : List Jvm.Cond := Jvm.Cond.code x code maxLocals ret :: tables_1
/-- a 'code' word, met by the world's own term for the bytes: nothing is compared byte by byte -/
theorem code_word {y : MethodName} {bytes : ByteArray} {mx : Nat} {rt : Option FieldType} {a : Array Value} {s : State} {m : MethodId} {meth : Method} {c : Code} (h1 : s.methodNamed? y = some m) (h2 : s.vm.method? m = some meth) (h3 : meth.code = some c) (h4 : c.code = bytes)
    (h5 : (c.maxLocals == mx && c.exceptionTable.isEmpty && decide (c.maxStack ≤ mostOperands) && decide (meth.sig.returnType = rt) && !meth.locks && decide (parseMethodDescriptor y.desc = some meth.sig)) = true) : (Jvm.Cond.code y bytes mx rt).before a s = true := by
  simp only [Bool.and_eq_true, beq_iff_eq, Bool.not_eq_true', decide_eq_true_eq] at h5
  obtain ⟨⟨⟨⟨⟨g1, g2⟩, g3⟩, g4⟩, g5⟩, g6⟩ := h5
  simp [Cond.before, Cond.holds, Cond.value, h1, h2, h3, h4, g1, g2, g3, g4, g5, g6]
def isCode : Jvm.Cond → Bool
  | .code _ _ _ _ => true
  | _ => false
theorem all_split {L : List Jvm.Cond} {P : Jvm.Cond → Bool} (h1 : L.all (fun c => isCode c || P c) = true) (h2 : ∀ c ∈ L.filter isCode, P c = true) : L.all P = true := by
  refine List.all_eq_true.mpr fun c hc => ?_
  have h := List.all_eq_true.mp h1 c hc
  rcases Bool.eq_false_or_eq_true (isCode c) with hi | hi
  · exact h2 c (List.mem_filter.mpr ⟨hc, hi⟩)
  · simpa [hi] using h
set_option maxRecDepth 65536 in
theorem w_c0 : (Jvm.Cond.code x code maxLocals ret).before args0 about1 = true := code_word (m := ⟨1, 3⟩) (meth := k1m3) (c := k1c3) (by decide +kernel) rfl rfl rfl (by decide +kernel)
set_option maxRecDepth 65536 in
theorem w_c1 : (Jvm.Cond.code ({ cls := "com/example/tenorbook/tenorbook/definitions/DayCountCountsStubPeriodsPinLaw", name := "pick", desc := "(I)Lcom/example/tenorbook/tenorbook/definitions/DayCount;" } : Jvm.MethodName) method_2_code (1 : Nat) (Option.some (Jvm.ClassFile.FieldType.object "com/example/tenorbook/tenorbook/definitions/DayCount"))).before args0 about1 = true := code_word (m := ⟨1, 1⟩) (meth := k1m1) (c := k1c1) (by decide +kernel) rfl rfl rfl (by decide +kernel)
set_option maxRecDepth 65536 in
theorem w_c2 : (Jvm.Cond.code ({ cls := "com/example/tenorbook/tenorbook/definitions/DayCount", name := "countsStubPeriods", desc := "()Z" } : Jvm.MethodName) prog_11_method_6_code (1 : Nat) (Option.some Jvm.ClassFile.FieldType.boolean)).before args0 about1 = true := code_word (m := ⟨6, 0⟩) (meth := k6m0) (c := k6c0) (by decide +kernel) rfl rfl rfl (by decide +kernel)
set_option maxRecDepth 65536 in
theorem w_c3 : (Jvm.Cond.code ({ cls := "com/example/tenorbook/tenorbook/definitions/DayCountCountsStubPeriodsPinLaw", name := "expected", desc := "(I)Z" } : Jvm.MethodName) method_3_code (1 : Nat) (Option.some Jvm.ClassFile.FieldType.boolean)).before args0 about1 = true := code_word (m := ⟨1, 2⟩) (meth := k1m2) (c := k1c2) (by decide +kernel) rfl rfl rfl (by decide +kernel)
def codes1 : List Jvm.Cond := [Jvm.Cond.code x code maxLocals ret, Jvm.Cond.code ({ cls := "com/example/tenorbook/tenorbook/definitions/DayCountCountsStubPeriodsPinLaw", name := "pick", desc := "(I)Lcom/example/tenorbook/tenorbook/definitions/DayCount;" } : Jvm.MethodName) method_2_code (1 : Nat) (Option.some (Jvm.ClassFile.FieldType.object "com/example/tenorbook/tenorbook/definitions/DayCount")), Jvm.Cond.code ({ cls := "com/example/tenorbook/tenorbook/definitions/DayCount", name := "countsStubPeriods", desc := "()Z" } : Jvm.MethodName) prog_11_method_6_code (1 : Nat) (Option.some Jvm.ClassFile.FieldType.boolean), Jvm.Cond.code ({ cls := "com/example/tenorbook/tenorbook/definitions/DayCountCountsStubPeriodsPinLaw", name := "expected", desc := "(I)Z" } : Jvm.MethodName) method_3_code (1 : Nat) (Option.some Jvm.ClassFile.FieldType.boolean)]
set_option maxRecDepth 65536 in
theorem codes_eq : words1.filter isCode = codes1 := rfl
theorem w_codes : ∀ c ∈ words1.filter isCode, c.before args0 about1 = true := by
  rw [codes_eq]
  intro c hc
  simp only [codes1, List.mem_cons, List.not_mem_nil, or_false] at hc
  rcases hc with rfl | rfl | rfl | rfl
  · exact w_c0
  · exact w_c1
  · exact w_c2
  · exact w_c3
set_option maxRecDepth 65536 in
theorem w_t1 : (words1.take 24).all (fun c => isCode c || c.before args0 about1) = true := by decide +kernel
set_option maxRecDepth 65536 in
theorem w_t2 : (words1.drop 24).all (fun c => isCode c || c.before args0 about1) = true := by decide +kernel
theorem w_tables : (allAtoms (Jvm.Cond.code x code maxLocals ret :: tables_1)).before args0 about1 = true := by
  rw [allAtoms_all]
  show words1.all (fun c => c.before args0 about1) = true
  refine all_split ?_ w_codes
  rw [← List.take_append_drop 24 words1, List.all_append, w_t1, w_t2]
  rfl
set_option maxRecDepth 65536 in
theorem w_case : (Jvm.Cond.and given_1 narrow_1).before args0 about1 = true := by decide +kernel
theorem w_applies : (headSpec (Jvm.Cond.code x code maxLocals ret :: tables_1) room_1).applies x e0.platform about1 = true :=
  (Spec.applies_iff w_frames).mpr ⟨w_running, w_runnable, w_alone, w_named, w_hears, w_ripe, w_room, w_tables⟩
theorem atStart : AtStart classFile x code maxLocals ret World_1 tables_1 room_1 Calls_1 rest_1 Pre_1 launch0 p0 e0 about1 theMethod args0 below0 :=
  ⟨lists_1, trivial, launch0.admits_env _ _ _, launch0.least_env, fairChoices_fair.cas, fairChoices_fair.clock, w_frames, w_args, w_heap, w_applies, trivial, trivial, w_case⟩
end start1
theorem witness_1 : WitnessClaimed_1 := ⟨start1.p0, start1.e0, start1.about1, start1.theMethod, start1.args0, start1.below0, start1.atStart⟩
end Jvm.Pilot.@@N@@
