import JvmDerived
import JvmDerived.Pilot.@@N@@Statement
import JvmDerived.Pilot.@@N@@Code
set_option linter.unusedVariables false
set_option linter.unusedSimpArgs false
namespace Jvm.RoadKit
open Sem ClassFile Op Lib Jvm.Stand Jvm.Free Jvm.LawKit
section New
variable {p : Program} {l : Launch} {e : Env} {R : Room} {s : State} {m : MethodId} {args : Array Value} {below : List Frame} {meth : Method} {c : Code} {T : State} {locs : List Loc} {cells slots : Nat}
theorem retI (X : Stand p l e R s m args below meth c T locs cells slots) (hx : p.tables.exec = Jvm.exec) {pc : Nat} {Ls : Array Slot} {z : Int32} {rest : List Value} (hret : meth.sig.returnType = some .int) (hd : decode c.code pc = .ok (.ireturn, 1)) {fs : List Frame}
    (hl : ∀ (f : JFrame) (acts : List Action), f.method = m → f.locked = none → f.entered = [] → (doReturn e (T.setTop f) acts (some (.int z))).1 = T.setFrames fs) : Steps p.tables e below (T.setTop (mkF m pc Ls (.int z :: rest))) (T.setFrames fs) := by
  have hm' : T.vm.method? m = some meth := X.method'
  have hn : narrow .int (.int z) = .int z := rfl
  show Steps p.tables e below (T.setTop { method := m, pc := pc, locals := Ls, stack := _ :: rest, locked := none }) _
  jvm_step X.here [X.here.top, hx, hd, hm', hret, hn]
  first | (intro acts; rw [hl _ acts rfl rfl rfl]) | rw [hl _ _ rfl rfl rfl]
  exact Steps.refl _
end New
end Jvm.RoadKit
namespace Jvm.Pilot.@@N@@
open Jvm Jvm.ClassFile Sem Op Lib Jvm.Free Jvm.Stand Jvm.LawKit Jvm.RoadKit Bundle Jvm.Pilot.@@N@@.Jvm.D
section Own
variable {p : Program} {l : Launch} {e : Env} {R : Room} {s : State} {m : MethodId} {args : Array Value} {below : List Frame} {meth : Method} {c : Code} {T T' : State} {locs : List Loc} {cells slots : Nat} {f f' : JFrame} {Q : Option Value → Heap → List Loc → Prop} {ck sk : Nat} {h : Heap} {Z : State}
/-- from here the run comes to its end, and leaves what Q says -/
def Go (p : Program) (e : Env) (below : List Frame) (s : State) (Q : Option Value → Heap → List Loc → Prop) (ck sk : Nat) (T : State) (f : JFrame) : Prop :=
  ∃ s₂ o, Steps p.tables e below (T.setTop f) s₂ ∧ s₂.status = .running ∧ Ended s₂ below o ∧ ∃ v L, o = .returned v ∧ Q v s₂.heap L ∧ FrameEnd s o s₂ L ck sk
theorem Go.step (st : ∀ t, Steps p.tables e below (T'.setTop f') t → Steps p.tables e below (T.setTop f) t) (k : Go p e below s Q ck sk T' f') : Go p e below s Q ck sk T f := by
  obtain ⟨s₂, o, h1, r⟩ := k; exact ⟨s₂, o, st _ h1, r⟩
theorem Go.via (st : Steps p.tables e below (T.setTop f) (T'.setTop f')) (k : Go p e below s Q ck sk T' f') : Go p e below s Q ck sk T f := by
  obtain ⟨s₂, o, h1, r⟩ := k; exact ⟨s₂, o, st.trans h1, r⟩
theorem Go.retI (X : Stand p l e R s m args below meth c T locs cells slots) (hx : p.tables.exec = Jvm.exec) (hlk : meth.locks = false) {pc : Nat} {Ls : Array Slot} {z : Int32} {rest : List Value} (hret : meth.sig.returnType = some .int) (hd : decode c.code pc = .ok (.ireturn, 1)) (eT : T.heap = h) (hq : Q (some (.int z)) h locs) (hck : cells ≤ ck) (hsk : slots ≤ sk) : Go p e below s Q ck sk T (mkF m pc Ls (.int z :: rest)) := by
  subst eT
  obtain ⟨fs, hr, hrun, hended, hW, hsame⟩ := X.leave (v := some (.int z)) (fun h => by rw [hret] at h; cases h) hlk
  exact ⟨_, _, Jvm.RoadKit.retI X hx hret hd hr, hrun, hended, _, _, rfl, hq, ⟨_, rfl⟩, hW, hsame.mono hck hsk⟩
theorem Go.retZ (X : Stand p l e R s m args below meth c T locs cells slots) (hx : p.tables.exec = Jvm.exec) (hlk : meth.locks = false) {pc : Nat} {Ls : Array Slot} {z : Int32} {rest : List Value} {t : FieldType} (hret : meth.sig.returnType = some t) (ht : t = .boolean ∨ t = .byte ∨ t = .char ∨ t = .short) (hd : decode c.code pc = .ok (.ireturn, 1)) (eT : T.heap = h) (hq : Q (some (.int (nar t z))) h locs) (hck : cells ≤ ck) (hsk : slots ≤ sk) : Go p e below s Q ck sk T (mkF m pc Ls (.int z :: rest)) := by
  subst eT
  obtain ⟨fs, hr, hrun, hended, hW, hsame⟩ := X.leave (v := some (.int (nar t z))) (fun h => by rw [hret] at h; cases h) hlk
  exact ⟨_, _, retN X hx hret ht hd hr, hrun, hended, _, _, rfl, hq, ⟨_, rfl⟩, hW, hsame.mono hck hsk⟩
theorem Go.retV (X : Stand p l e R s m args below meth c T locs cells slots) (hx : p.tables.exec = Jvm.exec) (hlk : meth.locks = false) {pc : Nat} {Ls : Array Slot} (hret : meth.sig.returnType = none) (hd : decode c.code pc = .ok (.return_, 1)) (eT : T.heap = h) (hq : Q none h locs) (hck : cells ≤ ck) (hsk : slots ≤ sk) : Go p e below s Q ck sk T (mkF m pc Ls []) := by
  subst eT
  obtain ⟨fs, hr, hrun, hended, hW, hsame⟩ := X.leave (v := none) (fun _ => rfl) hlk
  exact ⟨_, _, X.returnOut hx hret hd hr, hrun, hended, _, _, rfl, hq, ⟨_, rfl⟩, hW, hsame.mono hck hsk⟩
theorem Go.retJ (X : Stand p l e R s m args below meth c T locs cells slots) (hx : p.tables.exec = Jvm.exec) (hlk : meth.locks = false) {pc : Nat} {Ls : Array Slot} {z : Int64} {rest : List Value} (hret : meth.sig.returnType = some .long) (hd : decode c.code pc = .ok (.lreturn, 1)) (eT : T.heap = h) (hq : Q (some (.long z)) h locs) (hck : cells ≤ ck) (hsk : slots ≤ sk) : Go p e below s Q ck sk T (mkF m pc Ls (.long z :: rest)) := by
  subst eT
  obtain ⟨fs, hr, hrun, hended, hW, hsame⟩ := X.leave (v := some (.long z)) (fun h => by rw [hret] at h; cases h) hlk
  exact ⟨_, _, retOut X hx hret rfl (Or.inr (Or.inl ⟨rfl, rfl, _, rfl⟩)) hd hr, hrun, hended, _, _, rfl, hq, ⟨_, rfl⟩, hW, hsame.mono hck hsk⟩
theorem own_nar_ref {t : FieldType} {w : Value} (h1 : t.isReference = true) (h2 : w.isRef = true) : narrow t w = w := by
  cases t <;> first | (cases h1; done) | (cases w <;> first | rfl | (cases h2; done))
theorem Go.retA (X : Stand p l e R s m args below meth c T locs cells slots) (hx : p.tables.exec = Jvm.exec) (hlk : meth.locks = false) {pc : Nat} {Ls : Array Slot} {w : Value} {rest : List Value} {t : FieldType} (hret : meth.sig.returnType = some t) (ht : t.isReference = true) (hw : w.isRef = true) (hd : decode c.code pc = .ok (.areturn, 1)) (eT : T.heap = h) (hq : Q (some w) h locs) (hck : cells ≤ ck) (hsk : slots ≤ sk) : Go p e below s Q ck sk T (mkF m pc Ls (w :: rest)) := by
  subst eT
  obtain ⟨fs, hr, hrun, hended, hW, hsame⟩ := X.leave (v := some w) (fun h => by rw [hret] at h; cases h) hlk
  exact ⟨_, _, retOut X hx hret (own_nar_ref ht hw) (Or.inr (Or.inr (Or.inr (Or.inr ⟨rfl, ht, hw⟩)))) hd hr, hrun, hended, _, _, rfl, hq, ⟨_, rfl⟩, hW, hsame.mono hck hsk⟩
theorem own_old_le {n0 : Nat} (o : Old Z n0 h) : n0 ≤ h.size := o.1 ▸ o.2.1
theorem own_alen (X : Stand p l e R s m args below meth c T locs cells slots) (hx : p.tables.exec = Jvm.exec) (hZ : Z.Warmed39 s.vm) (eT : T.heap = h) {a : Addr} {cl : Cell} {ty : FieldType} (A : Arr Z h a cl ty) {z : Int32} (S : cl.slots.size = z.toNatClampNeg) (N : ¬ z < 0) {g : JFrame} (hg : g.method = m) {rest : List Value} (hs : g.stack = .ref a :: rest) (hd : decode c.code g.pc = .ok (.arraylength, 1)) {t : State}
    (k : Steps p.tables e below (T.setTop { g with pc := g.pc + 1, stack := .int z :: rest }) t) : Steps p.tables e below (T.setTop g) t :=
  X.arraylength hx (by rw [eT]; exact A.1) (State.isArrayOf_alike hZ.alike A.2.1) hg hs hd _ (by rw [len_of S N]; exact k)
theorem own_fld_start {args : Array Value} {s : State} {t : Term} {a : Addr} {C n d : String} {k : Int32} (ev : t.eval args s none [] s = some (.ref a)) (h : (Jvm.Cond.eq (.field t C n d) (.int k)).value args s none s [] = some true) : Fld s s.heap a C n d (.int k) := by
  refine Fld.start ?_
  rw [← fld_at ev]
  obtain ⟨x, y, h1, h2, h3, h4⟩ := cmp_v (Or.inl h)
  have h2' : (Value.int k) = y := Option.some.inj h2
  subst h2'
  obtain ⟨z, rfl⟩ := h4
  have q := gotT (Jvm.Cond.eq_ints h1 h2) h
  rw [h1, q]
theorem own_nar8 (z : Int32) : z.toInt8.toInt32.toInt8.toInt32 = z.toInt8.toInt32 := by simp
end Own
theorem own_m4 (x : Int32) : ((x &&& (2147483647 : Int32)) % (4 : Int32)) = (0 : Int32) ∨ ((x &&& (2147483647 : Int32)) % (4 : Int32)) = (1 : Int32) ∨ ((x &&& (2147483647 : Int32)) % (4 : Int32)) = (2 : Int32) ∨ ((x &&& (2147483647 : Int32)) % (4 : Int32)) = (3 : Int32) := by
  have h1 := c_and x (2147483647 : Int32) (by decide)
  have h2 := (c_irem (x &&& (2147483647 : Int32)) (4 : Int32) 4 (by decide)).1 h1.1
  have e0 : (0 : Int32).toInt = 0 := by decide
  have e1 : (1 : Int32).toInt = 1 := by decide
  have e2 : (2 : Int32).toInt = 2 := by decide
  have e3 : (3 : Int32).toInt = 3 := by decide
  simp only [← Int32.toInt_inj]
  omega
theorem d1_0 : decode prog_19_method_1_code 0 = .ok (.aload_n 0, 1) := by decide +kernel
theorem d1_1 : decode prog_19_method_1_code 1 = .ok (.invokespecial 3, 3) := by decide +kernel
theorem d1_4 : decode prog_19_method_1_code 4 = .ok (.aload_n 0, 1) := by decide +kernel
theorem d1_5 : decode prog_19_method_1_code 5 = .ok (.iconst 1, 1) := by decide +kernel
theorem d1_6 : decode prog_19_method_1_code 6 = .ok (.anewarray 9, 3) := by decide +kernel
theorem d1_9 : decode prog_19_method_1_code 9 = .ok (.putfield 11, 3) := by decide +kernel
theorem d1_12 : decode prog_19_method_1_code 12 = .ok (.return_, 1) := by decide +kernel
theorem pn_com_example_pin_to_part_pintopart_IntColumn : plainName "com/example/pin_to_part/pintopart/IntColumn" = true := by first | (simp [plainName, overriddenIn]; done) | decide +kernel
theorem ef_init (m : MethodId) (ba : Addr) : entryFrame m #[(.ref ba)] 1 = mkF m 0 #[.val (.ref ba)] [] := by first | (simp [entryFrame, mkF, argsToLocals, Value.category]; done) | rfl
def Q_init (Z : State) (ba : Addr) (u0 : Value) (u1 : Value) (h0 : Heap) (n0 : Nat) (v : Option Value) (h : Heap) (L : List Loc) : Prop := ∃ bb : Addr, ∃ kb : ClassId, v = none ∧ Fr n0 L ∧ Keep h0 h [ba] ∧ Exa Z h ba "com/example/pin_to_part/pintopart/IntColumn" ∧ Fld Z h ba "com/example/pin_to_part/pintopart/IntColumn" "chunks" "[[I" (.ref bb) ∧ Fld Z h ba "com/example/pin_to_part/pintopart/IntColumn" "size" "I" u1 ∧ h0.size ≤ bb ∧ Arv Z h bb kb (.array .int) (1 : Int32) [.null] .null ∧ OvrA Z kb .int "[I"
set_option maxRecDepth 65536 in
set_option maxHeartbeats 40000000 in
theorem rm_init (l : Launch) (Z : State) (a0 : Array Value) (hw : ∀ d ∈ tables_1, d.before a0 Z = true) (ws : List Jvm.Cond) (ba : Addr) (u0 : Value) (u1 : Value) (h0 : Heap) (n0 : Nat) (O0 : Old Z n0 h0) (P0 : Exa Z h0 ba "com/example/pin_to_part/pintopart/IntColumn") (P1 : Fld Z h0 ba "com/example/pin_to_part/pintopart/IntColumn" "chunks" "[[I" u0) (P2 : Fld Z h0 ba "com/example/pin_to_part/pintopart/IntColumn" "size" "I" u1) (P3 : n0 ≤ ba) :
    MetFree l (⟨"com/example/pin_to_part/pintopart/IntColumn", "<init>", "()V"⟩ : MethodName) (head1 (Jvm.Cond.code (⟨"com/example/pin_to_part/pintopart/IntColumn", "<init>", "()V"⟩ : MethodName) prog_19_method_1_code 1 none :: ws) ({ frames := 1, cells := 1, slots := 1, locals := 12 } : Room)) (fun a U => a = #[(.ref ba)] ∧ Z.Warmed39 U.vm ∧ U.heap = h0) (fun _ _ _ _ _ => True) (fun _ U o U' => ∃ v L, o = .returned v ∧ Q_init Z ba u0 u1 h0 n0 v U'.heap L ∧ FrameEnd U o U' L ({ frames := 1, cells := 1, slots := 1, locals := 12 } : Room).cells ({ frames := 1, cells := 1, slots := 1, locals := 12 } : Room).slots) := by
  refine MetFree.of_bodySF (plainFor_of_name pn_com_example_pin_to_part_pintopart_IntColumn) hisR ?_
  intro p e s m args below meth c s₁ Bd hml0 hP hK
  obtain ⟨rfl, hZ, hh⟩ := hP
  have hx := Bd.exec
  have hby := Bd.bytes
  have hml : c.maxLocals = 1 := hml0
  have hown : s.vm.findClass "com/example/pin_to_part/pintopart/IntColumn" = some m.cls := findClass_of_methodNamed Bd.named
  have hnm := (name_of_methodNamed Bd.named Bd.method).1
  have hlk : meth.locks = false := BodyLoose.notSynchronized Bd
  have X0 : Stand p l e ({ frames := 1, cells := 1, slots := 1, locals := 12 } : Room) s m #[(.ref ba)] below meth c s₁ [] 0 0 := Stand.of_body Bd
  have e0 : s₁.heap = h0 := by rw [← hh, Bd.state]; rfl
  have N0 := Fr.nil n0
  have K0 := Keep.refl h0 [ba]
  rw [ef_init m ba]
  show Go p e below s (fun v h L => Q_init Z ba u0 u1 h0 n0 v h L) ({ frames := 1, cells := 1, slots := 1, locals := 12 } : Room).cells ({ frames := 1, cells := 1, slots := 1, locals := 12 } : Room).slots s₁ (mkF m 0 #[.val (.ref ba)] [])
  refine Go.step (T' := s₁) (f' := (mkF m 1 #[.val (.ref ba)] [(.ref ba)])) (fun t k => XS.aloadN X0.here hx rfl (hb hby d1_0) rfl rfl k) ?_
  obtain ⟨T1, X1, e1, st1⟩ := initO X0 hx hZ hown (hw _ (List.mem_of_getElem? (i := 6) rfl)) (hw _ (List.mem_of_getElem? (i := 7) rfl)) (hw _ (List.mem_of_getElem? (i := 8) rfl)) e0 (g := (mkF m 1 #[.val (.ref ba)] [(.ref ba)])) rfl (by rw [hml]; rfl) rfl (hb hby d1_1) (by decide) (W := 0) (by show 2 * 0 + _ ≤ _; exact Nat.le_of_eq rfl) (by decide)
  refine Go.step (T' := T1) (f' := (mkF m 4 #[.val (.ref ba)] [])) st1 ?_
  refine Go.step (T' := T1) (f' := (mkF m 5 #[.val (.ref ba)] [(.ref ba)])) (fun t k => XS.aloadN X1.here hx rfl (hb hby d1_4) rfl rfl k) ?_
  refine Go.step (T' := T1) (f' := (mkF m 6 #[.val (.ref ba)] [(.int (1 : Int32)), (.ref ba)])) (fun t k => XS.iconst X1.here hx rfl (hb hby d1_5) k) ?_
  obtain ⟨T2, h2, k2, X2, e2, E2, A2, Y2, Ov2, st2⟩ := newRA X1 hx hZ hown (ty := .int) (C := "[I") (by decide) (hw _ (List.mem_of_getElem? (i := 9) rfl)) (hw _ (List.mem_of_getElem? (i := 10) rfl)) e1 (g := (mkF m 6 #[.val (.ref ba)] [(.int (1 : Int32)), (.ref ba)])) rfl (hb hby d1_6) rfl (by decide) (cap := 1) (by decide) (by decide) (by decide) (by decide) (ad := "[[I") (by decide)
  obtain ⟨b2, g2⟩ : ∃ z, z = h0.size := ⟨_, rfl⟩
  rw [← g2] at A2 Y2 st2
  have g3 : n0 ≤ b2 := Nat.le_trans (own_old_le O0) (Nat.le_of_eq g2.symm)
  have g4 : h0.size ≤ b2 := Nat.le_trans K0.1 (Nat.le_of_eq g2.symm)
  have ne5 : ba ≠ b2 := Nat.ne_of_lt (Nat.lt_of_lt_of_le P0.lt (Nat.le_of_eq g2.symm))
  have f6 := P0.ext E2
  have f7 := P1.ext E2
  have f8 := P2.ext E2
  have O9 := O0.ext E2
  have K10 := K0.ext E2
  have f11 : Arv Z h2 b2 k2 (.array .int) (1 : Int32) [.null] .null := (Arv.new A2 (by decide)).pad (pad_rep [] .null 1)
  refine Go.step (T' := T2) (f' := (mkF m 9 #[.val (.ref ba)] [(.ref b2), (.ref ba)])) st2 ?_
  obtain ⟨T12, h12, X12, e12, W12, st12⟩ := putF X2 hx hZ hown (host := "") (Or.inl (hw _ (List.mem_of_getElem? (i := 11) rfl))) Via.refl e2 f7 f6 (Or.inl (hw _ (List.mem_of_getElem? (i := 12) rfl))) (hw _ (List.mem_of_getElem? (i := 1) rfl)) (ty := (.array (.array .int))) (by decide) rfl rfl (g := (mkF m 9 #[.val (.ref ba)] [(.ref b2), (.ref ba)])) rfl rfl (hb hby d1_9)
  have f13 := f7.same W12
  have f14 := f6.wr W12
  have f15 := f8.other W12 (Or.inr (slot_ne (Or.inl (hw _ (List.mem_of_getElem? (i := 19) rfl))) (Or.inl (hw _ (List.mem_of_getElem? (i := 12) rfl))) (by decide) (t := .int) (t' := (.array (.array .int))) (by decide) (by decide)))
  have f16 := f11.other W12 (Ne.symm ne5)
  have O17 := O9.wr W12 P3
  have K18 := K10.wr W12 (Or.inl (List.mem_of_getElem? (i := 0) rfl))
  have N19 := Fr.snoc X12 N0 P3
  refine Go.step (T' := T12) (f' := (mkF m 12 #[.val (.ref ba)] [])) st12 ?_
  refine Go.retV X12 hx hlk Bd.returns (hb hby d1_12) e12 ?_ (by decide) (by decide)
  exact ⟨b2, k2, rfl, N19, K18, f14, f13, f15, g4, f16, Ov2⟩
theorem d3_0 : decode prog_19_method_3_code 0 = .ok (.aload_n 0, 1) := by decide +kernel
theorem d3_1 : decode prog_19_method_3_code 1 = .ok (.getfield 15, 3) := by decide +kernel
theorem d3_4 : decode prog_19_method_3_code 4 = .ok (.ldc 21, 2) := by decide +kernel
theorem d3_6 : decode prog_19_method_3_code 6 = .ok (.if_icmp .ne 20, 3) := by decide +kernel
theorem d3_26 : decode prog_19_method_3_code 26 = .ok (.aload_n 0, 1) := by decide +kernel
theorem d3_27 : decode prog_19_method_3_code 27 = .ok (.getfield 15, 3) := by decide +kernel
theorem d3_30 : decode prog_19_method_3_code 30 = .ok (.bipush 14, 2) := by decide +kernel
theorem d3_32 : decode prog_19_method_3_code 32 = .ok (.iushr, 1) := by decide +kernel
theorem d3_33 : decode prog_19_method_3_code 33 = .ok (.istore_n 2, 1) := by decide +kernel
theorem d3_34 : decode prog_19_method_3_code 34 = .ok (.iload_n 2, 1) := by decide +kernel
theorem d3_35 : decode prog_19_method_3_code 35 = .ok (.aload_n 0, 1) := by decide +kernel
theorem d3_36 : decode prog_19_method_3_code 36 = .ok (.getfield 11, 3) := by decide +kernel
theorem d3_39 : decode prog_19_method_3_code 39 = .ok (.arraylength, 1) := by decide +kernel
theorem d3_40 : decode prog_19_method_3_code 40 = .ok (.if_icmp .ne 24, 3) := by decide +kernel
theorem d3_64 : decode prog_19_method_3_code 64 = .ok (.aload_n 0, 1) := by decide +kernel
theorem d3_65 : decode prog_19_method_3_code 65 = .ok (.getfield 11, 3) := by decide +kernel
theorem d3_68 : decode prog_19_method_3_code 68 = .ok (.iload_n 2, 1) := by decide +kernel
theorem d3_69 : decode prog_19_method_3_code 69 = .ok (.aaload, 1) := by decide +kernel
theorem d3_70 : decode prog_19_method_3_code 70 = .ok (.ifnonnull 14, 3) := by decide +kernel
theorem d3_73 : decode prog_19_method_3_code 73 = .ok (.aload_n 0, 1) := by decide +kernel
theorem d3_74 : decode prog_19_method_3_code 74 = .ok (.getfield 11, 3) := by decide +kernel
theorem d3_77 : decode prog_19_method_3_code 77 = .ok (.iload_n 2, 1) := by decide +kernel
theorem d3_78 : decode prog_19_method_3_code 78 = .ok (.sipush 16384, 3) := by decide +kernel
theorem d3_81 : decode prog_19_method_3_code 81 = .ok (.newarray .int, 2) := by decide +kernel
theorem d3_83 : decode prog_19_method_3_code 83 = .ok (.aastore, 1) := by decide +kernel
theorem d3_84 : decode prog_19_method_3_code 84 = .ok (.aload_n 0, 1) := by decide +kernel
theorem d3_85 : decode prog_19_method_3_code 85 = .ok (.getfield 11, 3) := by decide +kernel
theorem d3_88 : decode prog_19_method_3_code 88 = .ok (.iload_n 2, 1) := by decide +kernel
theorem d3_89 : decode prog_19_method_3_code 89 = .ok (.aaload, 1) := by decide +kernel
theorem d3_90 : decode prog_19_method_3_code 90 = .ok (.aload_n 0, 1) := by decide +kernel
theorem d3_91 : decode prog_19_method_3_code 91 = .ok (.getfield 15, 3) := by decide +kernel
theorem d3_94 : decode prog_19_method_3_code 94 = .ok (.sipush 16383, 3) := by decide +kernel
theorem d3_97 : decode prog_19_method_3_code 97 = .ok (.iand, 1) := by decide +kernel
theorem d3_98 : decode prog_19_method_3_code 98 = .ok (.iload_n 1, 1) := by decide +kernel
theorem d3_99 : decode prog_19_method_3_code 99 = .ok (.iastore, 1) := by decide +kernel
theorem d3_100 : decode prog_19_method_3_code 100 = .ok (.aload_n 0, 1) := by decide +kernel
theorem d3_101 : decode prog_19_method_3_code 101 = .ok (.dup, 1) := by decide +kernel
theorem d3_102 : decode prog_19_method_3_code 102 = .ok (.getfield 15, 3) := by decide +kernel
theorem d3_105 : decode prog_19_method_3_code 105 = .ok (.dup_x1, 1) := by decide +kernel
theorem d3_106 : decode prog_19_method_3_code 106 = .ok (.iconst 1, 1) := by decide +kernel
theorem d3_107 : decode prog_19_method_3_code 107 = .ok (.iadd, 1) := by decide +kernel
theorem d3_108 : decode prog_19_method_3_code 108 = .ok (.putfield 15, 3) := by decide +kernel
theorem d3_111 : decode prog_19_method_3_code 111 = .ok (.ireturn, 1) := by decide +kernel
theorem ef_add0 (m : MethodId) (ba : Addr) (ia : Int32) : entryFrame m #[(.ref ba), (.int ia)] 3 = mkF m 0 #[.val (.ref ba), .val (.int ia), .unset] [] := by first | (simp [entryFrame, mkF, argsToLocals, Value.category]; done) | rfl
def Q_add0 (Z : State) (ba : Addr) (ia : Int32) (bb : Addr) (kb : ClassId) (h0 : Heap) (n0 : Nat) (v : Option Value) (h : Heap) (L : List Loc) : Prop := ∃ bc : Addr, ∃ kc : ClassId, v = some (.int (0 : Int32)) ∧ Fr n0 L ∧ Keep h0 h [ba, bb] ∧ Exa Z h ba "com/example/pin_to_part/pintopart/IntColumn" ∧ Fld Z h ba "com/example/pin_to_part/pintopart/IntColumn" "chunks" "[[I" (.ref bb) ∧ Fld Z h ba "com/example/pin_to_part/pintopart/IntColumn" "size" "I" (.int (1 : Int32)) ∧ Arv Z h bb kb (.array .int) (1 : Int32) [(.ref bc)] .null ∧ h0.size ≤ bc ∧ Arv Z h bc kc .int (16384 : Int32) [(.int ia), (.int (0 : Int32)), (.int (0 : Int32))] (.int (0 : Int32))
set_option maxRecDepth 65536 in
set_option maxHeartbeats 40000000 in
theorem rm_add0 (l : Launch) (Z : State) (a0 : Array Value) (hw : ∀ d ∈ tables_1, d.before a0 Z = true) (ws : List Jvm.Cond) (ba : Addr) (ia : Int32) (bb : Addr) (kb : ClassId) (h0 : Heap) (n0 : Nat) (O0 : Old Z n0 h0) (P0 : Exa Z h0 ba "com/example/pin_to_part/pintopart/IntColumn") (P1 : Fld Z h0 ba "com/example/pin_to_part/pintopart/IntColumn" "chunks" "[[I" (.ref bb)) (P2 : Fld Z h0 ba "com/example/pin_to_part/pintopart/IntColumn" "size" "I" (.int (0 : Int32))) (P3 : Arv Z h0 bb kb (.array .int) (1 : Int32) [.null] .null) (ov : OvrA Z kb .int "[I") (P5 : n0 ≤ ba) (P6 : n0 ≤ bb) (P7 : ba ≠ bb) :
    MetFree l (⟨"com/example/pin_to_part/pintopart/IntColumn", "add", "(I)I"⟩ : MethodName) (head1 (Jvm.Cond.code (⟨"com/example/pin_to_part/pintopart/IntColumn", "add", "(I)I"⟩ : MethodName) prog_19_method_3_code 3 (some .int) :: ws) ({ frames := 0, cells := 1, slots := 16384, locals := 0 } : Room)) (fun a U => a = #[(.ref ba), (.int ia)] ∧ Z.Warmed39 U.vm ∧ U.heap = h0) (fun _ _ _ _ _ => True) (fun _ U o U' => ∃ v L, o = .returned v ∧ Q_add0 Z ba ia bb kb h0 n0 v U'.heap L ∧ FrameEnd U o U' L ({ frames := 0, cells := 1, slots := 16384, locals := 0 } : Room).cells ({ frames := 0, cells := 1, slots := 16384, locals := 0 } : Room).slots) := by
  refine MetFree.of_bodySF (plainFor_of_name pn_com_example_pin_to_part_pintopart_IntColumn) hisR ?_
  intro p e s m args below meth c s₁ Bd hml0 hP hK
  obtain ⟨rfl, hZ, hh⟩ := hP
  have hx := Bd.exec
  have hby := Bd.bytes
  have hml : c.maxLocals = 3 := hml0
  have hown : s.vm.findClass "com/example/pin_to_part/pintopart/IntColumn" = some m.cls := findClass_of_methodNamed Bd.named
  have hnm := (name_of_methodNamed Bd.named Bd.method).1
  have hlk : meth.locks = false := BodyLoose.notSynchronized Bd
  have X0 : Stand p l e ({ frames := 0, cells := 1, slots := 16384, locals := 0 } : Room) s m #[(.ref ba), (.int ia)] below meth c s₁ [] 0 0 := Stand.of_body Bd
  have e0 : s₁.heap = h0 := by rw [← hh, Bd.state]; rfl
  have N0 := Fr.nil n0
  have K0 := Keep.refl h0 [ba, bb]
  rw [ef_add0 m ba ia]
  show Go p e below s (fun v h L => Q_add0 Z ba ia bb kb h0 n0 v h L) ({ frames := 0, cells := 1, slots := 16384, locals := 0 } : Room).cells ({ frames := 0, cells := 1, slots := 16384, locals := 0 } : Room).slots s₁ (mkF m 0 #[.val (.ref ba), .val (.int ia), .unset] [])
  refine Go.step (T' := s₁) (f' := (mkF m 1 #[.val (.ref ba), .val (.int ia), .unset] [(.ref ba)])) (fun t k => XS.aloadN X0.here hx rfl (hb hby d3_0) rfl rfl k) ?_
  obtain ⟨T20, X20, e20, st20⟩ := getF X0 hx hZ hown (host := "") (Or.inl (hw _ (List.mem_of_getElem? (i := 18) rfl))) Via.refl e0 P2 (g := (mkF m 1 #[.val (.ref ba), .val (.int ia), .unset] [(.ref ba)])) rfl rfl (hb hby d3_1)
  refine Go.step (T' := T20) (f' := (mkF m 4 #[.val (.ref ba), .val (.int ia), .unset] [(.int (0 : Int32))])) st20 ?_
  refine Go.step (T' := T20) (f' := (mkF m 6 #[.val (.ref ba), .val (.int ia), .unset] [(.int (2147483647 : Int32)), (.int (0 : Int32))])) (fun t k => X20.ldcInt hx hown (mvT hZ (hw _ (List.mem_of_getElem? (i := 20) rfl))) (g := (mkF m 4 #[.val (.ref ba), .val (.int ia), .unset] [(.int (0 : Int32))])) rfl (hb hby d3_4) t k) ?_
  refine Go.step (T' := T20) (f' := (mkF m 26 #[.val (.ref ba), .val (.int ia), .unset] [])) (fun t k => XS.icmpYes X20.here hx rfl (pc0 := 6) (pc' := 26) rfl (hb hby d3_6) rfl (feq (by decide : ¬ ((0 : Int32) = (2147483647 : Int32)))).2 (by decide) (by decide) k) ?_
  refine Go.step (T' := T20) (f' := (mkF m 27 #[.val (.ref ba), .val (.int ia), .unset] [(.ref ba)])) (fun t k => XS.aloadN X20.here hx rfl (hb hby d3_26) rfl rfl k) ?_
  obtain ⟨T21, X21, e21, st21⟩ := getF X20 hx hZ hown (host := "") (Or.inl (hw _ (List.mem_of_getElem? (i := 18) rfl))) Via.refl e20 P2 (g := (mkF m 27 #[.val (.ref ba), .val (.int ia), .unset] [(.ref ba)])) rfl rfl (hb hby d3_27)
  refine Go.step (T' := T21) (f' := (mkF m 30 #[.val (.ref ba), .val (.int ia), .unset] [(.int (0 : Int32))])) st21 ?_
  refine Go.step (T' := T21) (f' := (mkF m 32 #[.val (.ref ba), .val (.int ia), .unset] [(.int (14 : Int32)), (.int (0 : Int32))])) (fun t k => XS.bipush X21.here hx rfl (hb hby d3_30) k) ?_
  refine Go.step (T' := T21) (f' := (mkF m 33 #[.val (.ref ba), .val (.int ia), .unset] [(.int (((0 : Int32).toUInt32 >>> ((14 : Int32) &&& 31).toUInt32).toInt32))])) (fun t k => XS.iushr X21.here hx rfl (hb hby d3_32) rfl k) ?_
  rw [show (((0 : Int32).toUInt32 >>> ((14 : Int32) &&& 31).toUInt32).toInt32) = (0 : Int32) from by decide]
  refine Go.step (T' := T21) (f' := (mkF m 34 #[.val (.ref ba), .val (.int ia), .val (.int (0 : Int32))] [])) (fun t k => XS.istoreN X21.here hx rfl (hb hby d3_33) rfl (l' := #[.val (.ref ba), .val (.int ia), .val (.int (0 : Int32))]) rfl k) ?_
  refine Go.step (T' := T21) (f' := (mkF m 35 #[.val (.ref ba), .val (.int ia), .val (.int (0 : Int32))] [(.int (0 : Int32))])) (fun t k => XS.iloadN X21.here hx rfl (hb hby d3_34) rfl k) ?_
  refine Go.step (T' := T21) (f' := (mkF m 36 #[.val (.ref ba), .val (.int ia), .val (.int (0 : Int32))] [(.ref ba), (.int (0 : Int32))])) (fun t k => XS.aloadN X21.here hx rfl (hb hby d3_35) rfl rfl k) ?_
  obtain ⟨T22, X22, e22, st22⟩ := getF X21 hx hZ hown (host := "") (Or.inl (hw _ (List.mem_of_getElem? (i := 11) rfl))) Via.refl e21 P1 (g := (mkF m 36 #[.val (.ref ba), .val (.int ia), .val (.int (0 : Int32))] [(.ref ba), (.int (0 : Int32))])) rfl rfl (hb hby d3_36)
  refine Go.step (T' := T22) (f' := (mkF m 39 #[.val (.ref ba), .val (.int ia), .val (.int (0 : Int32))] [(.ref bb), (.int (0 : Int32))])) st22 ?_
  obtain ⟨ca23, Aa23, qa23, Sa23, Na23, Ha23, Ga23⟩ := id P3
  refine Go.step (T' := T22) (f' := (mkF m 40 #[.val (.ref ba), .val (.int ia), .val (.int (0 : Int32))] [(.int (1 : Int32)), (.int (0 : Int32))])) (fun t k => own_alen X22 hx hZ e22 Aa23 Sa23 Na23 (g := (mkF m 39 #[.val (.ref ba), .val (.int ia), .val (.int (0 : Int32))] [(.ref bb), (.int (0 : Int32))])) rfl rfl (hb hby d3_39) k) ?_
  refine Go.step (T' := T22) (f' := (mkF m 64 #[.val (.ref ba), .val (.int ia), .val (.int (0 : Int32))] [])) (fun t k => XS.icmpYes X22.here hx rfl (pc0 := 40) (pc' := 64) rfl (hb hby d3_40) rfl (feq (by decide : ¬ ((0 : Int32) = (1 : Int32)))).2 (by decide) (by decide) k) ?_
  refine Go.step (T' := T22) (f' := (mkF m 65 #[.val (.ref ba), .val (.int ia), .val (.int (0 : Int32))] [(.ref ba)])) (fun t k => XS.aloadN X22.here hx rfl (hb hby d3_64) rfl rfl k) ?_
  obtain ⟨T24, X24, e24, st24⟩ := getF X22 hx hZ hown (host := "") (Or.inl (hw _ (List.mem_of_getElem? (i := 11) rfl))) Via.refl e22 P1 (g := (mkF m 65 #[.val (.ref ba), .val (.int ia), .val (.int (0 : Int32))] [(.ref ba)])) rfl rfl (hb hby d3_65)
  refine Go.step (T' := T24) (f' := (mkF m 68 #[.val (.ref ba), .val (.int ia), .val (.int (0 : Int32))] [(.ref bb)])) st24 ?_
  refine Go.step (T' := T24) (f' := (mkF m 69 #[.val (.ref ba), .val (.int ia), .val (.int (0 : Int32))] [(.int (0 : Int32)), (.ref bb)])) (fun t k => XS.iloadN X24.here hx rfl (hb hby d3_68) rfl k) ?_
  obtain ⟨ca25, Aa25, qa25, Sa25, Na25, Ha25, Ga25⟩ := id P3
  have ia25 : ¬ ((0 : Int32) < 0 ∨ ca25.slots.size ≤ ((0 : Int32)).toNatClampNeg) := inb_of Sa25 ⟨by decide, by decide⟩
  have va25 := Ha25.at (v := .null) ia25 rfl
  refine Go.step (T' := T24) (f' := (mkF m 70 #[.val (.ref ba), .val (.int ia), .val (.int (0 : Int32))] [.null])) (fun t k => X24.aaload hx (j := (0 : Int32)) (v := .null) (by rw [e24]; exact Aa25.1) (State.isArrayOf_alike hZ.alike Aa25.2.1) rfl Aa25.2.2 ia25 va25 (g := (mkF m 69 #[.val (.ref ba), .val (.int ia), .val (.int (0 : Int32))] [(.int (0 : Int32)), (.ref bb)])) rfl rfl (hb hby d3_69) t k) ?_
  refine Go.step (T' := T24) (f' := (mkF m 73 #[.val (.ref ba), .val (.int ia), .val (.int (0 : Int32))] [])) (fun t k => XS.ifnonnullNo X24.here hx rfl (hb hby d3_70) rfl k) ?_
  refine Go.step (T' := T24) (f' := (mkF m 74 #[.val (.ref ba), .val (.int ia), .val (.int (0 : Int32))] [(.ref ba)])) (fun t k => XS.aloadN X24.here hx rfl (hb hby d3_73) rfl rfl k) ?_
  obtain ⟨T26, X26, e26, st26⟩ := getF X24 hx hZ hown (host := "") (Or.inl (hw _ (List.mem_of_getElem? (i := 11) rfl))) Via.refl e24 P1 (g := (mkF m 74 #[.val (.ref ba), .val (.int ia), .val (.int (0 : Int32))] [(.ref ba)])) rfl rfl (hb hby d3_74)
  refine Go.step (T' := T26) (f' := (mkF m 77 #[.val (.ref ba), .val (.int ia), .val (.int (0 : Int32))] [(.ref bb)])) st26 ?_
  refine Go.step (T' := T26) (f' := (mkF m 78 #[.val (.ref ba), .val (.int ia), .val (.int (0 : Int32))] [(.int (0 : Int32)), (.ref bb)])) (fun t k => XS.iloadN X26.here hx rfl (hb hby d3_77) rfl k) ?_
  refine Go.step (T' := T26) (f' := (mkF m 81 #[.val (.ref ba), .val (.int ia), .val (.int (0 : Int32))] [(.int (16384 : Int32)), (.int (0 : Int32)), (.ref bb)])) (fun t k => XS.sipush X26.here hx rfl (hb hby d3_78) k) ?_
  obtain ⟨T27, h27, k27, X27, e27, E27, A27, Y27, st27⟩ := newPE X26 hx hZ (hw _ (List.mem_of_getElem? (i := 21) rfl)) e26 (g := (mkF m 81 #[.val (.ref ba), .val (.int ia), .val (.int (0 : Int32))] [(.int (16384 : Int32)), (.int (0 : Int32)), (.ref bb)])) rfl (hb hby d3_81) rfl (by decide) (cap := 16384) (by decide) (by decide) (by decide) (by decide) (ad := "[I") (by decide)
  obtain ⟨b27, g27⟩ : ∃ z, z = h0.size := ⟨_, rfl⟩
  rw [← g27] at A27 Y27 st27
  have g28 : n0 ≤ b27 := Nat.le_trans (own_old_le O0) (Nat.le_of_eq g27.symm)
  have g29 : h0.size ≤ b27 := Nat.le_trans K0.1 (Nat.le_of_eq g27.symm)
  have ne30 : ba ≠ b27 := Nat.ne_of_lt (Nat.lt_of_lt_of_le P0.lt (Nat.le_of_eq g27.symm))
  have ne31 : bb ≠ b27 := Nat.ne_of_lt (Nat.lt_of_lt_of_le P3.lt (Nat.le_of_eq g27.symm))
  have f32 := P0.ext E27
  have f33 := P1.ext E27
  have f34 := P2.ext E27
  have f35 := P3.ext E27
  have O36 := O0.ext E27
  have K37 := K0.ext E27
  have f38 : Arv Z h27 b27 k27 .int (16384 : Int32) [(.int (0 : Int32)), (.int (0 : Int32)), (.int (0 : Int32))] (.int (0 : Int32)) := (Arv.new A27 (by decide)).pad (pad_rep [] (.int (0 : Int32)) 3)
  refine Go.step (T' := T27) (f' := (mkF m 83 #[.val (.ref ba), .val (.int ia), .val (.int (0 : Int32))] [(.ref b27), (.int (0 : Int32)), (.ref bb)])) st27 ?_
  obtain ⟨ca39, Aa39, qa39, Sa39, Na39, Ha39, Ga39⟩ := id f35
  have ia39 : ¬ ((0 : Int32) < 0 ∨ ca39.slots.size ≤ ((0 : Int32)).toNatClampNeg) := inb_of Sa39 ⟨by decide, by decide⟩
  obtain ⟨T40, h40, X40, e40, W40, st40⟩ := stR X27 hx hZ e27 Aa39 (j := (0 : Int32)) (v := (.ref b27)) ia39 rfl (Sto.ofVA Aa39 qa39 ov (Ins.self Y27)) (g := (mkF m 83 #[.val (.ref ba), .val (.int ia), .val (.int (0 : Int32))] [(.ref b27), (.int (0 : Int32)), (.ref bb)])) rfl rfl (hb hby d3_83)
  have f41 : Arv Z h40 bb kb (.array .int) (1 : Int32) [(.ref b27)] .null := Arv.set Aa39 qa39 Sa39 Na39 Ha39 Ga39 rfl W40 0 rfl (Nat.le_of_ble_eq_true rfl)
  have f42 := f32.wr W40
  have f43 := f33.other W40 (Or.inl P7)
  have f44 := f34.other W40 (Or.inl P7)
  have f45 := Y27.wr W40
  have f46 := f38.other W40 (Ne.symm ne31)
  have O47 := O36.wr W40 P6
  have K48 := K37.wr W40 (Or.inl (List.mem_of_getElem? (i := 1) rfl))
  have N49 := Fr.snoc X40 N0 P6
  refine Go.step (T' := T40) (f' := (mkF m 84 #[.val (.ref ba), .val (.int ia), .val (.int (0 : Int32))] [])) st40 ?_
  refine Go.step (T' := T40) (f' := (mkF m 85 #[.val (.ref ba), .val (.int ia), .val (.int (0 : Int32))] [(.ref ba)])) (fun t k => XS.aloadN X40.here hx rfl (hb hby d3_84) rfl rfl k) ?_
  obtain ⟨T50, X50, e50, st50⟩ := getF X40 hx hZ hown (host := "") (Or.inl (hw _ (List.mem_of_getElem? (i := 11) rfl))) Via.refl e40 f43 (g := (mkF m 85 #[.val (.ref ba), .val (.int ia), .val (.int (0 : Int32))] [(.ref ba)])) rfl rfl (hb hby d3_85)
  refine Go.step (T' := T50) (f' := (mkF m 88 #[.val (.ref ba), .val (.int ia), .val (.int (0 : Int32))] [(.ref bb)])) st50 ?_
  refine Go.step (T' := T50) (f' := (mkF m 89 #[.val (.ref ba), .val (.int ia), .val (.int (0 : Int32))] [(.int (0 : Int32)), (.ref bb)])) (fun t k => XS.iloadN X50.here hx rfl (hb hby d3_88) rfl k) ?_
  obtain ⟨ca51, Aa51, qa51, Sa51, Na51, Ha51, Ga51⟩ := id f41
  have ia51 : ¬ ((0 : Int32) < 0 ∨ ca51.slots.size ≤ ((0 : Int32)).toNatClampNeg) := inb_of Sa51 ⟨by decide, by decide⟩
  have va51 := Ha51.at (v := (.ref b27)) ia51 rfl
  refine Go.step (T' := T50) (f' := (mkF m 90 #[.val (.ref ba), .val (.int ia), .val (.int (0 : Int32))] [(.ref b27)])) (fun t k => X50.aaload hx (j := (0 : Int32)) (v := (.ref b27)) (by rw [e50]; exact Aa51.1) (State.isArrayOf_alike hZ.alike Aa51.2.1) rfl Aa51.2.2 ia51 va51 (g := (mkF m 89 #[.val (.ref ba), .val (.int ia), .val (.int (0 : Int32))] [(.int (0 : Int32)), (.ref bb)])) rfl rfl (hb hby d3_89) t k) ?_
  refine Go.step (T' := T50) (f' := (mkF m 91 #[.val (.ref ba), .val (.int ia), .val (.int (0 : Int32))] [(.ref ba), (.ref b27)])) (fun t k => XS.aloadN X50.here hx rfl (hb hby d3_90) rfl rfl k) ?_
  obtain ⟨T52, X52, e52, st52⟩ := getF X50 hx hZ hown (host := "") (Or.inl (hw _ (List.mem_of_getElem? (i := 18) rfl))) Via.refl e50 f44 (g := (mkF m 91 #[.val (.ref ba), .val (.int ia), .val (.int (0 : Int32))] [(.ref ba), (.ref b27)])) rfl rfl (hb hby d3_91)
  refine Go.step (T' := T52) (f' := (mkF m 94 #[.val (.ref ba), .val (.int ia), .val (.int (0 : Int32))] [(.int (0 : Int32)), (.ref b27)])) st52 ?_
  refine Go.step (T' := T52) (f' := (mkF m 97 #[.val (.ref ba), .val (.int ia), .val (.int (0 : Int32))] [(.int (16383 : Int32)), (.int (0 : Int32)), (.ref b27)])) (fun t k => XS.sipush X52.here hx rfl (hb hby d3_94) k) ?_
  refine Go.step (T' := T52) (f' := (mkF m 98 #[.val (.ref ba), .val (.int ia), .val (.int (0 : Int32))] [(.int ((0 : Int32) &&& (16383 : Int32))), (.ref b27)])) (fun t k => XS.iand X52.here hx rfl (hb hby d3_97) rfl k) ?_
  rw [show ((0 : Int32) &&& (16383 : Int32)) = (0 : Int32) from by decide]
  refine Go.step (T' := T52) (f' := (mkF m 99 #[.val (.ref ba), .val (.int ia), .val (.int (0 : Int32))] [(.int ia), (.int (0 : Int32)), (.ref b27)])) (fun t k => XS.iloadN X52.here hx rfl (hb hby d3_98) rfl k) ?_
  obtain ⟨ca53, Aa53, qa53, Sa53, Na53, Ha53, Ga53⟩ := id f46
  have ia53 : ¬ ((0 : Int32) < 0 ∨ ca53.slots.size ≤ ((0 : Int32)).toNatClampNeg) := inb_of Sa53 ⟨by decide, by decide⟩
  obtain ⟨T54, h54, X54, e54, W54, st54⟩ := stI X52 hx hZ e52 Aa53 (j := (0 : Int32)) ia53 (g := (mkF m 99 #[.val (.ref ba), .val (.int ia), .val (.int (0 : Int32))] [(.int ia), (.int (0 : Int32)), (.ref b27)])) rfl rfl (hb hby d3_99)
  have f55 := Arv.set Aa53 qa53 Sa53 Na53 Ha53 Ga53 rfl W54 0 rfl (Nat.le_of_ble_eq_true rfl)
  have f56 : Arv Z h54 b27 k27 .int (16384 : Int32) [(.int ia), (.int (0 : Int32)), (.int (0 : Int32))] (.int (0 : Int32)) := f55
  have f57 := f42.wr W54
  have f58 := f43.other W54 (Or.inl ne30)
  have f59 := f44.other W54 (Or.inl ne30)
  have f60 := f45.wr W54
  have f61 := f41.other W54 ne31
  have O62 := O47.wr W54 g28
  have K63 := K48.wr W54 (Or.inr g29)
  have N64 := Fr.snoc X54 N49 g28
  refine Go.step (T' := T54) (f' := (mkF m 100 #[.val (.ref ba), .val (.int ia), .val (.int (0 : Int32))] [])) st54 ?_
  refine Go.step (T' := T54) (f' := (mkF m 101 #[.val (.ref ba), .val (.int ia), .val (.int (0 : Int32))] [(.ref ba)])) (fun t k => XS.aloadN X54.here hx rfl (hb hby d3_100) rfl rfl k) ?_
  refine Go.step (T' := T54) (f' := (mkF m 102 #[.val (.ref ba), .val (.int ia), .val (.int (0 : Int32))] [(.ref ba), (.ref ba)])) (fun t k => XS.dup X54.here hx rfl (hb hby d3_101) rfl rfl k) ?_
  obtain ⟨T65, X65, e65, st65⟩ := getF X54 hx hZ hown (host := "") (Or.inl (hw _ (List.mem_of_getElem? (i := 18) rfl))) Via.refl e54 f59 (g := (mkF m 102 #[.val (.ref ba), .val (.int ia), .val (.int (0 : Int32))] [(.ref ba), (.ref ba)])) rfl rfl (hb hby d3_102)
  refine Go.step (T' := T65) (f' := (mkF m 105 #[.val (.ref ba), .val (.int ia), .val (.int (0 : Int32))] [(.int (0 : Int32)), (.ref ba)])) st65 ?_
  refine Go.step (T' := T65) (f' := (mkF m 106 #[.val (.ref ba), .val (.int ia), .val (.int (0 : Int32))] [(.int (0 : Int32)), (.ref ba), (.int (0 : Int32))])) (fun t k => XS.dupX1 X65.here hx rfl (hb hby d3_105) rfl rfl rfl k) ?_
  refine Go.step (T' := T65) (f' := (mkF m 107 #[.val (.ref ba), .val (.int ia), .val (.int (0 : Int32))] [(.int (1 : Int32)), (.int (0 : Int32)), (.ref ba), (.int (0 : Int32))])) (fun t k => XS.iconst X65.here hx rfl (hb hby d3_106) k) ?_
  refine Go.step (T' := T65) (f' := (mkF m 108 #[.val (.ref ba), .val (.int ia), .val (.int (0 : Int32))] [(.int ((0 : Int32) + (1 : Int32))), (.ref ba), (.int (0 : Int32))])) (fun t k => XS.iadd X65.here hx rfl (hb hby d3_107) rfl k) ?_
  rw [show ((0 : Int32) + (1 : Int32)) = (1 : Int32) from by decide]
  obtain ⟨T66, h66, X66, e66, W66, st66⟩ := putF X65 hx hZ hown (host := "") (Or.inl (hw _ (List.mem_of_getElem? (i := 18) rfl))) Via.refl e65 f59 f57 (Or.inl (hw _ (List.mem_of_getElem? (i := 19) rfl))) (hw _ (List.mem_of_getElem? (i := 1) rfl)) (ty := .int) (by decide) rfl rfl (g := (mkF m 108 #[.val (.ref ba), .val (.int ia), .val (.int (0 : Int32))] [(.int (1 : Int32)), (.ref ba), (.int (0 : Int32))])) rfl rfl (hb hby d3_108)
  have f67 := f59.same W66
  have f68 := f57.wr W66
  have f69 := f58.other W66 (Or.inr (slot_ne (Or.inl (hw _ (List.mem_of_getElem? (i := 12) rfl))) (Or.inl (hw _ (List.mem_of_getElem? (i := 19) rfl))) (by decide) (t := (.array (.array .int))) (t' := .int) (by decide) (by decide)))
  have f70 := f60.wr W66
  have f71 := f61.other W66 (Ne.symm P7)
  have f72 := f56.other W66 (Ne.symm ne30)
  have O73 := O62.wr W66 P5
  have K74 := K63.wr W66 (Or.inl (List.mem_of_getElem? (i := 0) rfl))
  have N75 := Fr.snoc X66 N64 P5
  refine Go.step (T' := T66) (f' := (mkF m 111 #[.val (.ref ba), .val (.int ia), .val (.int (0 : Int32))] [(.int (0 : Int32))])) st66 ?_
  refine Go.retI X66 hx hlk Bd.returns (hb hby d3_111) e66 ?_ (by decide) (by decide)
  exact ⟨b27, k27, rfl, N75, K74, f68, f69, f67, f71, g29, f72⟩
theorem ef_add1 (m : MethodId) (ba : Addr) (ia : Int32) : entryFrame m #[(.ref ba), (.int ia)] 3 = mkF m 0 #[.val (.ref ba), .val (.int ia), .unset] [] := by first | (simp [entryFrame, mkF, argsToLocals, Value.category]; done) | rfl
def Q_add1 (Z : State) (ba : Addr) (ia : Int32) (bb : Addr) (kb : ClassId) (bc : Addr) (kc : ClassId) (v0 : Int32) (h0 : Heap) (n0 : Nat) (v : Option Value) (h : Heap) (L : List Loc) : Prop := v = some (.int (1 : Int32)) ∧ Fr n0 L ∧ Keep h0 h [ba, bc] ∧ Exa Z h ba "com/example/pin_to_part/pintopart/IntColumn" ∧ Fld Z h ba "com/example/pin_to_part/pintopart/IntColumn" "chunks" "[[I" (.ref bb) ∧ Fld Z h ba "com/example/pin_to_part/pintopart/IntColumn" "size" "I" (.int (2 : Int32)) ∧ Arv Z h bc kc .int (16384 : Int32) [(.int v0), (.int ia), (.int (0 : Int32))] (.int (0 : Int32))
set_option maxRecDepth 65536 in
set_option maxHeartbeats 40000000 in
theorem rm_add1 (l : Launch) (Z : State) (a0 : Array Value) (hw : ∀ d ∈ tables_1, d.before a0 Z = true) (ws : List Jvm.Cond) (ba : Addr) (ia : Int32) (bb : Addr) (kb : ClassId) (bc : Addr) (kc : ClassId) (v0 : Int32) (h0 : Heap) (n0 : Nat) (O0 : Old Z n0 h0) (P0 : Exa Z h0 ba "com/example/pin_to_part/pintopart/IntColumn") (P1 : Fld Z h0 ba "com/example/pin_to_part/pintopart/IntColumn" "chunks" "[[I" (.ref bb)) (P2 : Fld Z h0 ba "com/example/pin_to_part/pintopart/IntColumn" "size" "I" (.int (1 : Int32))) (P3 : Arv Z h0 bb kb (.array .int) (1 : Int32) [(.ref bc)] .null) (P4 : Arv Z h0 bc kc .int (16384 : Int32) [(.int v0), (.int (0 : Int32)), (.int (0 : Int32))] (.int (0 : Int32))) (P5 : n0 ≤ ba) (P6 : n0 ≤ bc) (P7 : ba ≠ bb) (P8 : ba ≠ bc) (P9 : bb ≠ bc) :
    MetFree l (⟨"com/example/pin_to_part/pintopart/IntColumn", "add", "(I)I"⟩ : MethodName) (head1 (Jvm.Cond.code (⟨"com/example/pin_to_part/pintopart/IntColumn", "add", "(I)I"⟩ : MethodName) prog_19_method_3_code 3 (some .int) :: ws) ({ frames := 0, cells := 0, slots := 0, locals := 0 } : Room)) (fun a U => a = #[(.ref ba), (.int ia)] ∧ Z.Warmed39 U.vm ∧ U.heap = h0) (fun _ _ _ _ _ => True) (fun _ U o U' => ∃ v L, o = .returned v ∧ Q_add1 Z ba ia bb kb bc kc v0 h0 n0 v U'.heap L ∧ FrameEnd U o U' L ({ frames := 0, cells := 0, slots := 0, locals := 0 } : Room).cells ({ frames := 0, cells := 0, slots := 0, locals := 0 } : Room).slots) := by
  refine MetFree.of_bodySF (plainFor_of_name pn_com_example_pin_to_part_pintopart_IntColumn) hisR ?_
  intro p e s m args below meth c s₁ Bd hml0 hP hK
  obtain ⟨rfl, hZ, hh⟩ := hP
  have hx := Bd.exec
  have hby := Bd.bytes
  have hml : c.maxLocals = 3 := hml0
  have hown : s.vm.findClass "com/example/pin_to_part/pintopart/IntColumn" = some m.cls := findClass_of_methodNamed Bd.named
  have hnm := (name_of_methodNamed Bd.named Bd.method).1
  have hlk : meth.locks = false := BodyLoose.notSynchronized Bd
  have X0 : Stand p l e ({ frames := 0, cells := 0, slots := 0, locals := 0 } : Room) s m #[(.ref ba), (.int ia)] below meth c s₁ [] 0 0 := Stand.of_body Bd
  have e0 : s₁.heap = h0 := by rw [← hh, Bd.state]; rfl
  have N0 := Fr.nil n0
  have K0 := Keep.refl h0 [ba, bc]
  rw [ef_add1 m ba ia]
  show Go p e below s (fun v h L => Q_add1 Z ba ia bb kb bc kc v0 h0 n0 v h L) ({ frames := 0, cells := 0, slots := 0, locals := 0 } : Room).cells ({ frames := 0, cells := 0, slots := 0, locals := 0 } : Room).slots s₁ (mkF m 0 #[.val (.ref ba), .val (.int ia), .unset] [])
  refine Go.step (T' := s₁) (f' := (mkF m 1 #[.val (.ref ba), .val (.int ia), .unset] [(.ref ba)])) (fun t k => XS.aloadN X0.here hx rfl (hb hby d3_0) rfl rfl k) ?_
  obtain ⟨T76, X76, e76, st76⟩ := getF X0 hx hZ hown (host := "") (Or.inl (hw _ (List.mem_of_getElem? (i := 18) rfl))) Via.refl e0 P2 (g := (mkF m 1 #[.val (.ref ba), .val (.int ia), .unset] [(.ref ba)])) rfl rfl (hb hby d3_1)
  refine Go.step (T' := T76) (f' := (mkF m 4 #[.val (.ref ba), .val (.int ia), .unset] [(.int (1 : Int32))])) st76 ?_
  refine Go.step (T' := T76) (f' := (mkF m 6 #[.val (.ref ba), .val (.int ia), .unset] [(.int (2147483647 : Int32)), (.int (1 : Int32))])) (fun t k => X76.ldcInt hx hown (mvT hZ (hw _ (List.mem_of_getElem? (i := 20) rfl))) (g := (mkF m 4 #[.val (.ref ba), .val (.int ia), .unset] [(.int (1 : Int32))])) rfl (hb hby d3_4) t k) ?_
  refine Go.step (T' := T76) (f' := (mkF m 26 #[.val (.ref ba), .val (.int ia), .unset] [])) (fun t k => XS.icmpYes X76.here hx rfl (pc0 := 6) (pc' := 26) rfl (hb hby d3_6) rfl (feq (by decide : ¬ ((1 : Int32) = (2147483647 : Int32)))).2 (by decide) (by decide) k) ?_
  refine Go.step (T' := T76) (f' := (mkF m 27 #[.val (.ref ba), .val (.int ia), .unset] [(.ref ba)])) (fun t k => XS.aloadN X76.here hx rfl (hb hby d3_26) rfl rfl k) ?_
  obtain ⟨T77, X77, e77, st77⟩ := getF X76 hx hZ hown (host := "") (Or.inl (hw _ (List.mem_of_getElem? (i := 18) rfl))) Via.refl e76 P2 (g := (mkF m 27 #[.val (.ref ba), .val (.int ia), .unset] [(.ref ba)])) rfl rfl (hb hby d3_27)
  refine Go.step (T' := T77) (f' := (mkF m 30 #[.val (.ref ba), .val (.int ia), .unset] [(.int (1 : Int32))])) st77 ?_
  refine Go.step (T' := T77) (f' := (mkF m 32 #[.val (.ref ba), .val (.int ia), .unset] [(.int (14 : Int32)), (.int (1 : Int32))])) (fun t k => XS.bipush X77.here hx rfl (hb hby d3_30) k) ?_
  refine Go.step (T' := T77) (f' := (mkF m 33 #[.val (.ref ba), .val (.int ia), .unset] [(.int (((1 : Int32).toUInt32 >>> ((14 : Int32) &&& 31).toUInt32).toInt32))])) (fun t k => XS.iushr X77.here hx rfl (hb hby d3_32) rfl k) ?_
  rw [show (((1 : Int32).toUInt32 >>> ((14 : Int32) &&& 31).toUInt32).toInt32) = (0 : Int32) from by decide]
  refine Go.step (T' := T77) (f' := (mkF m 34 #[.val (.ref ba), .val (.int ia), .val (.int (0 : Int32))] [])) (fun t k => XS.istoreN X77.here hx rfl (hb hby d3_33) rfl (l' := #[.val (.ref ba), .val (.int ia), .val (.int (0 : Int32))]) rfl k) ?_
  refine Go.step (T' := T77) (f' := (mkF m 35 #[.val (.ref ba), .val (.int ia), .val (.int (0 : Int32))] [(.int (0 : Int32))])) (fun t k => XS.iloadN X77.here hx rfl (hb hby d3_34) rfl k) ?_
  refine Go.step (T' := T77) (f' := (mkF m 36 #[.val (.ref ba), .val (.int ia), .val (.int (0 : Int32))] [(.ref ba), (.int (0 : Int32))])) (fun t k => XS.aloadN X77.here hx rfl (hb hby d3_35) rfl rfl k) ?_
  obtain ⟨T78, X78, e78, st78⟩ := getF X77 hx hZ hown (host := "") (Or.inl (hw _ (List.mem_of_getElem? (i := 11) rfl))) Via.refl e77 P1 (g := (mkF m 36 #[.val (.ref ba), .val (.int ia), .val (.int (0 : Int32))] [(.ref ba), (.int (0 : Int32))])) rfl rfl (hb hby d3_36)
  refine Go.step (T' := T78) (f' := (mkF m 39 #[.val (.ref ba), .val (.int ia), .val (.int (0 : Int32))] [(.ref bb), (.int (0 : Int32))])) st78 ?_
  obtain ⟨ca79, Aa79, qa79, Sa79, Na79, Ha79, Ga79⟩ := id P3
  refine Go.step (T' := T78) (f' := (mkF m 40 #[.val (.ref ba), .val (.int ia), .val (.int (0 : Int32))] [(.int (1 : Int32)), (.int (0 : Int32))])) (fun t k => own_alen X78 hx hZ e78 Aa79 Sa79 Na79 (g := (mkF m 39 #[.val (.ref ba), .val (.int ia), .val (.int (0 : Int32))] [(.ref bb), (.int (0 : Int32))])) rfl rfl (hb hby d3_39) k) ?_
  refine Go.step (T' := T78) (f' := (mkF m 64 #[.val (.ref ba), .val (.int ia), .val (.int (0 : Int32))] [])) (fun t k => XS.icmpYes X78.here hx rfl (pc0 := 40) (pc' := 64) rfl (hb hby d3_40) rfl (feq (by decide : ¬ ((0 : Int32) = (1 : Int32)))).2 (by decide) (by decide) k) ?_
  refine Go.step (T' := T78) (f' := (mkF m 65 #[.val (.ref ba), .val (.int ia), .val (.int (0 : Int32))] [(.ref ba)])) (fun t k => XS.aloadN X78.here hx rfl (hb hby d3_64) rfl rfl k) ?_
  obtain ⟨T80, X80, e80, st80⟩ := getF X78 hx hZ hown (host := "") (Or.inl (hw _ (List.mem_of_getElem? (i := 11) rfl))) Via.refl e78 P1 (g := (mkF m 65 #[.val (.ref ba), .val (.int ia), .val (.int (0 : Int32))] [(.ref ba)])) rfl rfl (hb hby d3_65)
  refine Go.step (T' := T80) (f' := (mkF m 68 #[.val (.ref ba), .val (.int ia), .val (.int (0 : Int32))] [(.ref bb)])) st80 ?_
  refine Go.step (T' := T80) (f' := (mkF m 69 #[.val (.ref ba), .val (.int ia), .val (.int (0 : Int32))] [(.int (0 : Int32)), (.ref bb)])) (fun t k => XS.iloadN X80.here hx rfl (hb hby d3_68) rfl k) ?_
  obtain ⟨ca81, Aa81, qa81, Sa81, Na81, Ha81, Ga81⟩ := id P3
  have ia81 : ¬ ((0 : Int32) < 0 ∨ ca81.slots.size ≤ ((0 : Int32)).toNatClampNeg) := inb_of Sa81 ⟨by decide, by decide⟩
  have va81 := Ha81.at (v := (.ref bc)) ia81 rfl
  refine Go.step (T' := T80) (f' := (mkF m 70 #[.val (.ref ba), .val (.int ia), .val (.int (0 : Int32))] [(.ref bc)])) (fun t k => X80.aaload hx (j := (0 : Int32)) (v := (.ref bc)) (by rw [e80]; exact Aa81.1) (State.isArrayOf_alike hZ.alike Aa81.2.1) rfl Aa81.2.2 ia81 va81 (g := (mkF m 69 #[.val (.ref ba), .val (.int ia), .val (.int (0 : Int32))] [(.int (0 : Int32)), (.ref bb)])) rfl rfl (hb hby d3_69) t k) ?_
  refine Go.step (T' := T80) (f' := (mkF m 84 #[.val (.ref ba), .val (.int ia), .val (.int (0 : Int32))] [])) (fun t k => XS.ifnonnullYes X80.here hx rfl (pc0 := 70) (pc' := 84) rfl (hb hby d3_70) rfl (by decide) (by decide) k) ?_
  refine Go.step (T' := T80) (f' := (mkF m 85 #[.val (.ref ba), .val (.int ia), .val (.int (0 : Int32))] [(.ref ba)])) (fun t k => XS.aloadN X80.here hx rfl (hb hby d3_84) rfl rfl k) ?_
  obtain ⟨T82, X82, e82, st82⟩ := getF X80 hx hZ hown (host := "") (Or.inl (hw _ (List.mem_of_getElem? (i := 11) rfl))) Via.refl e80 P1 (g := (mkF m 85 #[.val (.ref ba), .val (.int ia), .val (.int (0 : Int32))] [(.ref ba)])) rfl rfl (hb hby d3_85)
  refine Go.step (T' := T82) (f' := (mkF m 88 #[.val (.ref ba), .val (.int ia), .val (.int (0 : Int32))] [(.ref bb)])) st82 ?_
  refine Go.step (T' := T82) (f' := (mkF m 89 #[.val (.ref ba), .val (.int ia), .val (.int (0 : Int32))] [(.int (0 : Int32)), (.ref bb)])) (fun t k => XS.iloadN X82.here hx rfl (hb hby d3_88) rfl k) ?_
  obtain ⟨ca83, Aa83, qa83, Sa83, Na83, Ha83, Ga83⟩ := id P3
  have ia83 : ¬ ((0 : Int32) < 0 ∨ ca83.slots.size ≤ ((0 : Int32)).toNatClampNeg) := inb_of Sa83 ⟨by decide, by decide⟩
  have va83 := Ha83.at (v := (.ref bc)) ia83 rfl
  refine Go.step (T' := T82) (f' := (mkF m 90 #[.val (.ref ba), .val (.int ia), .val (.int (0 : Int32))] [(.ref bc)])) (fun t k => X82.aaload hx (j := (0 : Int32)) (v := (.ref bc)) (by rw [e82]; exact Aa83.1) (State.isArrayOf_alike hZ.alike Aa83.2.1) rfl Aa83.2.2 ia83 va83 (g := (mkF m 89 #[.val (.ref ba), .val (.int ia), .val (.int (0 : Int32))] [(.int (0 : Int32)), (.ref bb)])) rfl rfl (hb hby d3_89) t k) ?_
  refine Go.step (T' := T82) (f' := (mkF m 91 #[.val (.ref ba), .val (.int ia), .val (.int (0 : Int32))] [(.ref ba), (.ref bc)])) (fun t k => XS.aloadN X82.here hx rfl (hb hby d3_90) rfl rfl k) ?_
  obtain ⟨T84, X84, e84, st84⟩ := getF X82 hx hZ hown (host := "") (Or.inl (hw _ (List.mem_of_getElem? (i := 18) rfl))) Via.refl e82 P2 (g := (mkF m 91 #[.val (.ref ba), .val (.int ia), .val (.int (0 : Int32))] [(.ref ba), (.ref bc)])) rfl rfl (hb hby d3_91)
  refine Go.step (T' := T84) (f' := (mkF m 94 #[.val (.ref ba), .val (.int ia), .val (.int (0 : Int32))] [(.int (1 : Int32)), (.ref bc)])) st84 ?_
  refine Go.step (T' := T84) (f' := (mkF m 97 #[.val (.ref ba), .val (.int ia), .val (.int (0 : Int32))] [(.int (16383 : Int32)), (.int (1 : Int32)), (.ref bc)])) (fun t k => XS.sipush X84.here hx rfl (hb hby d3_94) k) ?_
  refine Go.step (T' := T84) (f' := (mkF m 98 #[.val (.ref ba), .val (.int ia), .val (.int (0 : Int32))] [(.int ((1 : Int32) &&& (16383 : Int32))), (.ref bc)])) (fun t k => XS.iand X84.here hx rfl (hb hby d3_97) rfl k) ?_
  rw [show ((1 : Int32) &&& (16383 : Int32)) = (1 : Int32) from by decide]
  refine Go.step (T' := T84) (f' := (mkF m 99 #[.val (.ref ba), .val (.int ia), .val (.int (0 : Int32))] [(.int ia), (.int (1 : Int32)), (.ref bc)])) (fun t k => XS.iloadN X84.here hx rfl (hb hby d3_98) rfl k) ?_
  obtain ⟨ca85, Aa85, qa85, Sa85, Na85, Ha85, Ga85⟩ := id P4
  have ia85 : ¬ ((1 : Int32) < 0 ∨ ca85.slots.size ≤ ((1 : Int32)).toNatClampNeg) := inb_of Sa85 ⟨by decide, by decide⟩
  obtain ⟨T86, h86, X86, e86, W86, st86⟩ := stI X84 hx hZ e84 Aa85 (j := (1 : Int32)) ia85 (g := (mkF m 99 #[.val (.ref ba), .val (.int ia), .val (.int (0 : Int32))] [(.int ia), (.int (1 : Int32)), (.ref bc)])) rfl rfl (hb hby d3_99)
  have f87 := Arv.set Aa85 qa85 Sa85 Na85 Ha85 Ga85 rfl W86 1 rfl (Nat.le_of_ble_eq_true rfl)
  have f88 : Arv Z h86 bc kc .int (16384 : Int32) [(.int v0), (.int ia), (.int (0 : Int32))] (.int (0 : Int32)) := f87
  have f89 := P0.wr W86
  have f90 := P1.other W86 (Or.inl P8)
  have f91 := P2.other W86 (Or.inl P8)
  have f92 := P3.other W86 P9
  have O93 := O0.wr W86 P6
  have K94 := K0.wr W86 (Or.inl (List.mem_of_getElem? (i := 1) rfl))
  have N95 := Fr.snoc X86 N0 P6
  refine Go.step (T' := T86) (f' := (mkF m 100 #[.val (.ref ba), .val (.int ia), .val (.int (0 : Int32))] [])) st86 ?_
  refine Go.step (T' := T86) (f' := (mkF m 101 #[.val (.ref ba), .val (.int ia), .val (.int (0 : Int32))] [(.ref ba)])) (fun t k => XS.aloadN X86.here hx rfl (hb hby d3_100) rfl rfl k) ?_
  refine Go.step (T' := T86) (f' := (mkF m 102 #[.val (.ref ba), .val (.int ia), .val (.int (0 : Int32))] [(.ref ba), (.ref ba)])) (fun t k => XS.dup X86.here hx rfl (hb hby d3_101) rfl rfl k) ?_
  obtain ⟨T96, X96, e96, st96⟩ := getF X86 hx hZ hown (host := "") (Or.inl (hw _ (List.mem_of_getElem? (i := 18) rfl))) Via.refl e86 f91 (g := (mkF m 102 #[.val (.ref ba), .val (.int ia), .val (.int (0 : Int32))] [(.ref ba), (.ref ba)])) rfl rfl (hb hby d3_102)
  refine Go.step (T' := T96) (f' := (mkF m 105 #[.val (.ref ba), .val (.int ia), .val (.int (0 : Int32))] [(.int (1 : Int32)), (.ref ba)])) st96 ?_
  refine Go.step (T' := T96) (f' := (mkF m 106 #[.val (.ref ba), .val (.int ia), .val (.int (0 : Int32))] [(.int (1 : Int32)), (.ref ba), (.int (1 : Int32))])) (fun t k => XS.dupX1 X96.here hx rfl (hb hby d3_105) rfl rfl rfl k) ?_
  refine Go.step (T' := T96) (f' := (mkF m 107 #[.val (.ref ba), .val (.int ia), .val (.int (0 : Int32))] [(.int (1 : Int32)), (.int (1 : Int32)), (.ref ba), (.int (1 : Int32))])) (fun t k => XS.iconst X96.here hx rfl (hb hby d3_106) k) ?_
  refine Go.step (T' := T96) (f' := (mkF m 108 #[.val (.ref ba), .val (.int ia), .val (.int (0 : Int32))] [(.int ((1 : Int32) + (1 : Int32))), (.ref ba), (.int (1 : Int32))])) (fun t k => XS.iadd X96.here hx rfl (hb hby d3_107) rfl k) ?_
  rw [show ((1 : Int32) + (1 : Int32)) = (2 : Int32) from by decide]
  obtain ⟨T97, h97, X97, e97, W97, st97⟩ := putF X96 hx hZ hown (host := "") (Or.inl (hw _ (List.mem_of_getElem? (i := 18) rfl))) Via.refl e96 f91 f89 (Or.inl (hw _ (List.mem_of_getElem? (i := 19) rfl))) (hw _ (List.mem_of_getElem? (i := 1) rfl)) (ty := .int) (by decide) rfl rfl (g := (mkF m 108 #[.val (.ref ba), .val (.int ia), .val (.int (0 : Int32))] [(.int (2 : Int32)), (.ref ba), (.int (1 : Int32))])) rfl rfl (hb hby d3_108)
  have f98 := f91.same W97
  have f99 := f89.wr W97
  have f100 := f90.other W97 (Or.inr (slot_ne (Or.inl (hw _ (List.mem_of_getElem? (i := 12) rfl))) (Or.inl (hw _ (List.mem_of_getElem? (i := 19) rfl))) (by decide) (t := (.array (.array .int))) (t' := .int) (by decide) (by decide)))
  have f101 := f92.other W97 (Ne.symm P7)
  have f102 := f88.other W97 (Ne.symm P8)
  have O103 := O93.wr W97 P5
  have K104 := K94.wr W97 (Or.inl (List.mem_of_getElem? (i := 0) rfl))
  have N105 := Fr.snoc X97 N95 P5
  refine Go.step (T' := T97) (f' := (mkF m 111 #[.val (.ref ba), .val (.int ia), .val (.int (0 : Int32))] [(.int (1 : Int32))])) st97 ?_
  refine Go.retI X97 hx hlk Bd.returns (hb hby d3_111) e97 ?_ (by decide) (by decide)
  exact ⟨rfl, N105, K104, f99, f100, f98, f102⟩
theorem ef_add2 (m : MethodId) (ba : Addr) (ia : Int32) : entryFrame m #[(.ref ba), (.int ia)] 3 = mkF m 0 #[.val (.ref ba), .val (.int ia), .unset] [] := by first | (simp [entryFrame, mkF, argsToLocals, Value.category]; done) | rfl
def Q_add2 (Z : State) (ba : Addr) (ia : Int32) (bb : Addr) (kb : ClassId) (bc : Addr) (kc : ClassId) (v0 : Int32) (v1 : Int32) (h0 : Heap) (n0 : Nat) (v : Option Value) (h : Heap) (L : List Loc) : Prop := v = some (.int (2 : Int32)) ∧ Fr n0 L ∧ Keep h0 h [ba, bc] ∧ Exa Z h ba "com/example/pin_to_part/pintopart/IntColumn" ∧ Fld Z h ba "com/example/pin_to_part/pintopart/IntColumn" "chunks" "[[I" (.ref bb) ∧ Fld Z h ba "com/example/pin_to_part/pintopart/IntColumn" "size" "I" (.int (3 : Int32)) ∧ Arv Z h bc kc .int (16384 : Int32) [(.int v0), (.int v1), (.int ia)] (.int (0 : Int32))
set_option maxRecDepth 65536 in
set_option maxHeartbeats 40000000 in
theorem rm_add2 (l : Launch) (Z : State) (a0 : Array Value) (hw : ∀ d ∈ tables_1, d.before a0 Z = true) (ws : List Jvm.Cond) (ba : Addr) (ia : Int32) (bb : Addr) (kb : ClassId) (bc : Addr) (kc : ClassId) (v0 : Int32) (v1 : Int32) (h0 : Heap) (n0 : Nat) (O0 : Old Z n0 h0) (P0 : Exa Z h0 ba "com/example/pin_to_part/pintopart/IntColumn") (P1 : Fld Z h0 ba "com/example/pin_to_part/pintopart/IntColumn" "chunks" "[[I" (.ref bb)) (P2 : Fld Z h0 ba "com/example/pin_to_part/pintopart/IntColumn" "size" "I" (.int (2 : Int32))) (P3 : Arv Z h0 bb kb (.array .int) (1 : Int32) [(.ref bc)] .null) (P4 : Arv Z h0 bc kc .int (16384 : Int32) [(.int v0), (.int v1), (.int (0 : Int32))] (.int (0 : Int32))) (P5 : n0 ≤ ba) (P6 : n0 ≤ bc) (P7 : ba ≠ bb) (P8 : ba ≠ bc) (P9 : bb ≠ bc) :
    MetFree l (⟨"com/example/pin_to_part/pintopart/IntColumn", "add", "(I)I"⟩ : MethodName) (head1 (Jvm.Cond.code (⟨"com/example/pin_to_part/pintopart/IntColumn", "add", "(I)I"⟩ : MethodName) prog_19_method_3_code 3 (some .int) :: ws) ({ frames := 0, cells := 0, slots := 0, locals := 0 } : Room)) (fun a U => a = #[(.ref ba), (.int ia)] ∧ Z.Warmed39 U.vm ∧ U.heap = h0) (fun _ _ _ _ _ => True) (fun _ U o U' => ∃ v L, o = .returned v ∧ Q_add2 Z ba ia bb kb bc kc v0 v1 h0 n0 v U'.heap L ∧ FrameEnd U o U' L ({ frames := 0, cells := 0, slots := 0, locals := 0 } : Room).cells ({ frames := 0, cells := 0, slots := 0, locals := 0 } : Room).slots) := by
  refine MetFree.of_bodySF (plainFor_of_name pn_com_example_pin_to_part_pintopart_IntColumn) hisR ?_
  intro p e s m args below meth c s₁ Bd hml0 hP hK
  obtain ⟨rfl, hZ, hh⟩ := hP
  have hx := Bd.exec
  have hby := Bd.bytes
  have hml : c.maxLocals = 3 := hml0
  have hown : s.vm.findClass "com/example/pin_to_part/pintopart/IntColumn" = some m.cls := findClass_of_methodNamed Bd.named
  have hnm := (name_of_methodNamed Bd.named Bd.method).1
  have hlk : meth.locks = false := BodyLoose.notSynchronized Bd
  have X0 : Stand p l e ({ frames := 0, cells := 0, slots := 0, locals := 0 } : Room) s m #[(.ref ba), (.int ia)] below meth c s₁ [] 0 0 := Stand.of_body Bd
  have e0 : s₁.heap = h0 := by rw [← hh, Bd.state]; rfl
  have N0 := Fr.nil n0
  have K0 := Keep.refl h0 [ba, bc]
  rw [ef_add2 m ba ia]
  show Go p e below s (fun v h L => Q_add2 Z ba ia bb kb bc kc v0 v1 h0 n0 v h L) ({ frames := 0, cells := 0, slots := 0, locals := 0 } : Room).cells ({ frames := 0, cells := 0, slots := 0, locals := 0 } : Room).slots s₁ (mkF m 0 #[.val (.ref ba), .val (.int ia), .unset] [])
  refine Go.step (T' := s₁) (f' := (mkF m 1 #[.val (.ref ba), .val (.int ia), .unset] [(.ref ba)])) (fun t k => XS.aloadN X0.here hx rfl (hb hby d3_0) rfl rfl k) ?_
  obtain ⟨T106, X106, e106, st106⟩ := getF X0 hx hZ hown (host := "") (Or.inl (hw _ (List.mem_of_getElem? (i := 18) rfl))) Via.refl e0 P2 (g := (mkF m 1 #[.val (.ref ba), .val (.int ia), .unset] [(.ref ba)])) rfl rfl (hb hby d3_1)
  refine Go.step (T' := T106) (f' := (mkF m 4 #[.val (.ref ba), .val (.int ia), .unset] [(.int (2 : Int32))])) st106 ?_
  refine Go.step (T' := T106) (f' := (mkF m 6 #[.val (.ref ba), .val (.int ia), .unset] [(.int (2147483647 : Int32)), (.int (2 : Int32))])) (fun t k => X106.ldcInt hx hown (mvT hZ (hw _ (List.mem_of_getElem? (i := 20) rfl))) (g := (mkF m 4 #[.val (.ref ba), .val (.int ia), .unset] [(.int (2 : Int32))])) rfl (hb hby d3_4) t k) ?_
  refine Go.step (T' := T106) (f' := (mkF m 26 #[.val (.ref ba), .val (.int ia), .unset] [])) (fun t k => XS.icmpYes X106.here hx rfl (pc0 := 6) (pc' := 26) rfl (hb hby d3_6) rfl (feq (by decide : ¬ ((2 : Int32) = (2147483647 : Int32)))).2 (by decide) (by decide) k) ?_
  refine Go.step (T' := T106) (f' := (mkF m 27 #[.val (.ref ba), .val (.int ia), .unset] [(.ref ba)])) (fun t k => XS.aloadN X106.here hx rfl (hb hby d3_26) rfl rfl k) ?_
  obtain ⟨T107, X107, e107, st107⟩ := getF X106 hx hZ hown (host := "") (Or.inl (hw _ (List.mem_of_getElem? (i := 18) rfl))) Via.refl e106 P2 (g := (mkF m 27 #[.val (.ref ba), .val (.int ia), .unset] [(.ref ba)])) rfl rfl (hb hby d3_27)
  refine Go.step (T' := T107) (f' := (mkF m 30 #[.val (.ref ba), .val (.int ia), .unset] [(.int (2 : Int32))])) st107 ?_
  refine Go.step (T' := T107) (f' := (mkF m 32 #[.val (.ref ba), .val (.int ia), .unset] [(.int (14 : Int32)), (.int (2 : Int32))])) (fun t k => XS.bipush X107.here hx rfl (hb hby d3_30) k) ?_
  refine Go.step (T' := T107) (f' := (mkF m 33 #[.val (.ref ba), .val (.int ia), .unset] [(.int (((2 : Int32).toUInt32 >>> ((14 : Int32) &&& 31).toUInt32).toInt32))])) (fun t k => XS.iushr X107.here hx rfl (hb hby d3_32) rfl k) ?_
  rw [show (((2 : Int32).toUInt32 >>> ((14 : Int32) &&& 31).toUInt32).toInt32) = (0 : Int32) from by decide]
  refine Go.step (T' := T107) (f' := (mkF m 34 #[.val (.ref ba), .val (.int ia), .val (.int (0 : Int32))] [])) (fun t k => XS.istoreN X107.here hx rfl (hb hby d3_33) rfl (l' := #[.val (.ref ba), .val (.int ia), .val (.int (0 : Int32))]) rfl k) ?_
  refine Go.step (T' := T107) (f' := (mkF m 35 #[.val (.ref ba), .val (.int ia), .val (.int (0 : Int32))] [(.int (0 : Int32))])) (fun t k => XS.iloadN X107.here hx rfl (hb hby d3_34) rfl k) ?_
  refine Go.step (T' := T107) (f' := (mkF m 36 #[.val (.ref ba), .val (.int ia), .val (.int (0 : Int32))] [(.ref ba), (.int (0 : Int32))])) (fun t k => XS.aloadN X107.here hx rfl (hb hby d3_35) rfl rfl k) ?_
  obtain ⟨T108, X108, e108, st108⟩ := getF X107 hx hZ hown (host := "") (Or.inl (hw _ (List.mem_of_getElem? (i := 11) rfl))) Via.refl e107 P1 (g := (mkF m 36 #[.val (.ref ba), .val (.int ia), .val (.int (0 : Int32))] [(.ref ba), (.int (0 : Int32))])) rfl rfl (hb hby d3_36)
  refine Go.step (T' := T108) (f' := (mkF m 39 #[.val (.ref ba), .val (.int ia), .val (.int (0 : Int32))] [(.ref bb), (.int (0 : Int32))])) st108 ?_
  obtain ⟨ca109, Aa109, qa109, Sa109, Na109, Ha109, Ga109⟩ := id P3
  refine Go.step (T' := T108) (f' := (mkF m 40 #[.val (.ref ba), .val (.int ia), .val (.int (0 : Int32))] [(.int (1 : Int32)), (.int (0 : Int32))])) (fun t k => own_alen X108 hx hZ e108 Aa109 Sa109 Na109 (g := (mkF m 39 #[.val (.ref ba), .val (.int ia), .val (.int (0 : Int32))] [(.ref bb), (.int (0 : Int32))])) rfl rfl (hb hby d3_39) k) ?_
  refine Go.step (T' := T108) (f' := (mkF m 64 #[.val (.ref ba), .val (.int ia), .val (.int (0 : Int32))] [])) (fun t k => XS.icmpYes X108.here hx rfl (pc0 := 40) (pc' := 64) rfl (hb hby d3_40) rfl (feq (by decide : ¬ ((0 : Int32) = (1 : Int32)))).2 (by decide) (by decide) k) ?_
  refine Go.step (T' := T108) (f' := (mkF m 65 #[.val (.ref ba), .val (.int ia), .val (.int (0 : Int32))] [(.ref ba)])) (fun t k => XS.aloadN X108.here hx rfl (hb hby d3_64) rfl rfl k) ?_
  obtain ⟨T110, X110, e110, st110⟩ := getF X108 hx hZ hown (host := "") (Or.inl (hw _ (List.mem_of_getElem? (i := 11) rfl))) Via.refl e108 P1 (g := (mkF m 65 #[.val (.ref ba), .val (.int ia), .val (.int (0 : Int32))] [(.ref ba)])) rfl rfl (hb hby d3_65)
  refine Go.step (T' := T110) (f' := (mkF m 68 #[.val (.ref ba), .val (.int ia), .val (.int (0 : Int32))] [(.ref bb)])) st110 ?_
  refine Go.step (T' := T110) (f' := (mkF m 69 #[.val (.ref ba), .val (.int ia), .val (.int (0 : Int32))] [(.int (0 : Int32)), (.ref bb)])) (fun t k => XS.iloadN X110.here hx rfl (hb hby d3_68) rfl k) ?_
  obtain ⟨ca111, Aa111, qa111, Sa111, Na111, Ha111, Ga111⟩ := id P3
  have ia111 : ¬ ((0 : Int32) < 0 ∨ ca111.slots.size ≤ ((0 : Int32)).toNatClampNeg) := inb_of Sa111 ⟨by decide, by decide⟩
  have va111 := Ha111.at (v := (.ref bc)) ia111 rfl
  refine Go.step (T' := T110) (f' := (mkF m 70 #[.val (.ref ba), .val (.int ia), .val (.int (0 : Int32))] [(.ref bc)])) (fun t k => X110.aaload hx (j := (0 : Int32)) (v := (.ref bc)) (by rw [e110]; exact Aa111.1) (State.isArrayOf_alike hZ.alike Aa111.2.1) rfl Aa111.2.2 ia111 va111 (g := (mkF m 69 #[.val (.ref ba), .val (.int ia), .val (.int (0 : Int32))] [(.int (0 : Int32)), (.ref bb)])) rfl rfl (hb hby d3_69) t k) ?_
  refine Go.step (T' := T110) (f' := (mkF m 84 #[.val (.ref ba), .val (.int ia), .val (.int (0 : Int32))] [])) (fun t k => XS.ifnonnullYes X110.here hx rfl (pc0 := 70) (pc' := 84) rfl (hb hby d3_70) rfl (by decide) (by decide) k) ?_
  refine Go.step (T' := T110) (f' := (mkF m 85 #[.val (.ref ba), .val (.int ia), .val (.int (0 : Int32))] [(.ref ba)])) (fun t k => XS.aloadN X110.here hx rfl (hb hby d3_84) rfl rfl k) ?_
  obtain ⟨T112, X112, e112, st112⟩ := getF X110 hx hZ hown (host := "") (Or.inl (hw _ (List.mem_of_getElem? (i := 11) rfl))) Via.refl e110 P1 (g := (mkF m 85 #[.val (.ref ba), .val (.int ia), .val (.int (0 : Int32))] [(.ref ba)])) rfl rfl (hb hby d3_85)
  refine Go.step (T' := T112) (f' := (mkF m 88 #[.val (.ref ba), .val (.int ia), .val (.int (0 : Int32))] [(.ref bb)])) st112 ?_
  refine Go.step (T' := T112) (f' := (mkF m 89 #[.val (.ref ba), .val (.int ia), .val (.int (0 : Int32))] [(.int (0 : Int32)), (.ref bb)])) (fun t k => XS.iloadN X112.here hx rfl (hb hby d3_88) rfl k) ?_
  obtain ⟨ca113, Aa113, qa113, Sa113, Na113, Ha113, Ga113⟩ := id P3
  have ia113 : ¬ ((0 : Int32) < 0 ∨ ca113.slots.size ≤ ((0 : Int32)).toNatClampNeg) := inb_of Sa113 ⟨by decide, by decide⟩
  have va113 := Ha113.at (v := (.ref bc)) ia113 rfl
  refine Go.step (T' := T112) (f' := (mkF m 90 #[.val (.ref ba), .val (.int ia), .val (.int (0 : Int32))] [(.ref bc)])) (fun t k => X112.aaload hx (j := (0 : Int32)) (v := (.ref bc)) (by rw [e112]; exact Aa113.1) (State.isArrayOf_alike hZ.alike Aa113.2.1) rfl Aa113.2.2 ia113 va113 (g := (mkF m 89 #[.val (.ref ba), .val (.int ia), .val (.int (0 : Int32))] [(.int (0 : Int32)), (.ref bb)])) rfl rfl (hb hby d3_89) t k) ?_
  refine Go.step (T' := T112) (f' := (mkF m 91 #[.val (.ref ba), .val (.int ia), .val (.int (0 : Int32))] [(.ref ba), (.ref bc)])) (fun t k => XS.aloadN X112.here hx rfl (hb hby d3_90) rfl rfl k) ?_
  obtain ⟨T114, X114, e114, st114⟩ := getF X112 hx hZ hown (host := "") (Or.inl (hw _ (List.mem_of_getElem? (i := 18) rfl))) Via.refl e112 P2 (g := (mkF m 91 #[.val (.ref ba), .val (.int ia), .val (.int (0 : Int32))] [(.ref ba), (.ref bc)])) rfl rfl (hb hby d3_91)
  refine Go.step (T' := T114) (f' := (mkF m 94 #[.val (.ref ba), .val (.int ia), .val (.int (0 : Int32))] [(.int (2 : Int32)), (.ref bc)])) st114 ?_
  refine Go.step (T' := T114) (f' := (mkF m 97 #[.val (.ref ba), .val (.int ia), .val (.int (0 : Int32))] [(.int (16383 : Int32)), (.int (2 : Int32)), (.ref bc)])) (fun t k => XS.sipush X114.here hx rfl (hb hby d3_94) k) ?_
  refine Go.step (T' := T114) (f' := (mkF m 98 #[.val (.ref ba), .val (.int ia), .val (.int (0 : Int32))] [(.int ((2 : Int32) &&& (16383 : Int32))), (.ref bc)])) (fun t k => XS.iand X114.here hx rfl (hb hby d3_97) rfl k) ?_
  rw [show ((2 : Int32) &&& (16383 : Int32)) = (2 : Int32) from by decide]
  refine Go.step (T' := T114) (f' := (mkF m 99 #[.val (.ref ba), .val (.int ia), .val (.int (0 : Int32))] [(.int ia), (.int (2 : Int32)), (.ref bc)])) (fun t k => XS.iloadN X114.here hx rfl (hb hby d3_98) rfl k) ?_
  obtain ⟨ca115, Aa115, qa115, Sa115, Na115, Ha115, Ga115⟩ := id P4
  have ia115 : ¬ ((2 : Int32) < 0 ∨ ca115.slots.size ≤ ((2 : Int32)).toNatClampNeg) := inb_of Sa115 ⟨by decide, by decide⟩
  obtain ⟨T116, h116, X116, e116, W116, st116⟩ := stI X114 hx hZ e114 Aa115 (j := (2 : Int32)) ia115 (g := (mkF m 99 #[.val (.ref ba), .val (.int ia), .val (.int (0 : Int32))] [(.int ia), (.int (2 : Int32)), (.ref bc)])) rfl rfl (hb hby d3_99)
  have f117 := Arv.set Aa115 qa115 Sa115 Na115 Ha115 Ga115 rfl W116 2 rfl (Nat.le_of_ble_eq_true rfl)
  have f118 : Arv Z h116 bc kc .int (16384 : Int32) [(.int v0), (.int v1), (.int ia)] (.int (0 : Int32)) := f117
  have f119 := P0.wr W116
  have f120 := P1.other W116 (Or.inl P8)
  have f121 := P2.other W116 (Or.inl P8)
  have f122 := P3.other W116 P9
  have O123 := O0.wr W116 P6
  have K124 := K0.wr W116 (Or.inl (List.mem_of_getElem? (i := 1) rfl))
  have N125 := Fr.snoc X116 N0 P6
  refine Go.step (T' := T116) (f' := (mkF m 100 #[.val (.ref ba), .val (.int ia), .val (.int (0 : Int32))] [])) st116 ?_
  refine Go.step (T' := T116) (f' := (mkF m 101 #[.val (.ref ba), .val (.int ia), .val (.int (0 : Int32))] [(.ref ba)])) (fun t k => XS.aloadN X116.here hx rfl (hb hby d3_100) rfl rfl k) ?_
  refine Go.step (T' := T116) (f' := (mkF m 102 #[.val (.ref ba), .val (.int ia), .val (.int (0 : Int32))] [(.ref ba), (.ref ba)])) (fun t k => XS.dup X116.here hx rfl (hb hby d3_101) rfl rfl k) ?_
  obtain ⟨T126, X126, e126, st126⟩ := getF X116 hx hZ hown (host := "") (Or.inl (hw _ (List.mem_of_getElem? (i := 18) rfl))) Via.refl e116 f121 (g := (mkF m 102 #[.val (.ref ba), .val (.int ia), .val (.int (0 : Int32))] [(.ref ba), (.ref ba)])) rfl rfl (hb hby d3_102)
  refine Go.step (T' := T126) (f' := (mkF m 105 #[.val (.ref ba), .val (.int ia), .val (.int (0 : Int32))] [(.int (2 : Int32)), (.ref ba)])) st126 ?_
  refine Go.step (T' := T126) (f' := (mkF m 106 #[.val (.ref ba), .val (.int ia), .val (.int (0 : Int32))] [(.int (2 : Int32)), (.ref ba), (.int (2 : Int32))])) (fun t k => XS.dupX1 X126.here hx rfl (hb hby d3_105) rfl rfl rfl k) ?_
  refine Go.step (T' := T126) (f' := (mkF m 107 #[.val (.ref ba), .val (.int ia), .val (.int (0 : Int32))] [(.int (1 : Int32)), (.int (2 : Int32)), (.ref ba), (.int (2 : Int32))])) (fun t k => XS.iconst X126.here hx rfl (hb hby d3_106) k) ?_
  refine Go.step (T' := T126) (f' := (mkF m 108 #[.val (.ref ba), .val (.int ia), .val (.int (0 : Int32))] [(.int ((2 : Int32) + (1 : Int32))), (.ref ba), (.int (2 : Int32))])) (fun t k => XS.iadd X126.here hx rfl (hb hby d3_107) rfl k) ?_
  rw [show ((2 : Int32) + (1 : Int32)) = (3 : Int32) from by decide]
  obtain ⟨T127, h127, X127, e127, W127, st127⟩ := putF X126 hx hZ hown (host := "") (Or.inl (hw _ (List.mem_of_getElem? (i := 18) rfl))) Via.refl e126 f121 f119 (Or.inl (hw _ (List.mem_of_getElem? (i := 19) rfl))) (hw _ (List.mem_of_getElem? (i := 1) rfl)) (ty := .int) (by decide) rfl rfl (g := (mkF m 108 #[.val (.ref ba), .val (.int ia), .val (.int (0 : Int32))] [(.int (3 : Int32)), (.ref ba), (.int (2 : Int32))])) rfl rfl (hb hby d3_108)
  have f128 := f121.same W127
  have f129 := f119.wr W127
  have f130 := f120.other W127 (Or.inr (slot_ne (Or.inl (hw _ (List.mem_of_getElem? (i := 12) rfl))) (Or.inl (hw _ (List.mem_of_getElem? (i := 19) rfl))) (by decide) (t := (.array (.array .int))) (t' := .int) (by decide) (by decide)))
  have f131 := f122.other W127 (Ne.symm P7)
  have f132 := f118.other W127 (Ne.symm P8)
  have O133 := O123.wr W127 P5
  have K134 := K124.wr W127 (Or.inl (List.mem_of_getElem? (i := 0) rfl))
  have N135 := Fr.snoc X127 N125 P5
  refine Go.step (T' := T127) (f' := (mkF m 111 #[.val (.ref ba), .val (.int ia), .val (.int (0 : Int32))] [(.int (2 : Int32))])) st127 ?_
  refine Go.retI X127 hx hlk Bd.returns (hb hby d3_111) e127 ?_ (by decide) (by decide)
  exact ⟨rfl, N135, K134, f129, f130, f128, f132⟩
theorem d4_0 : decode prog_19_method_5_code 0 = .ok (.aload_n 0, 1) := by decide +kernel
theorem d4_1 : decode prog_19_method_5_code 1 = .ok (.getfield 11, 3) := by decide +kernel
theorem d4_4 : decode prog_19_method_5_code 4 = .ok (.iload_n 1, 1) := by decide +kernel
theorem d4_5 : decode prog_19_method_5_code 5 = .ok (.bipush 14, 2) := by decide +kernel
theorem d4_7 : decode prog_19_method_5_code 7 = .ok (.iushr, 1) := by decide +kernel
theorem d4_8 : decode prog_19_method_5_code 8 = .ok (.aaload, 1) := by decide +kernel
theorem d4_9 : decode prog_19_method_5_code 9 = .ok (.iload_n 1, 1) := by decide +kernel
theorem d4_10 : decode prog_19_method_5_code 10 = .ok (.sipush 16383, 3) := by decide +kernel
theorem d4_13 : decode prog_19_method_5_code 13 = .ok (.iand, 1) := by decide +kernel
theorem d4_14 : decode prog_19_method_5_code 14 = .ok (.iload_n 2, 1) := by decide +kernel
theorem d4_15 : decode prog_19_method_5_code 15 = .ok (.iastore, 1) := by decide +kernel
theorem d4_16 : decode prog_19_method_5_code 16 = .ok (.return_, 1) := by decide +kernel
theorem ef_set0 (m : MethodId) (ba : Addr) (ia : Int32) : entryFrame m #[(.ref ba), (.int (0 : Int32)), (.int ia)] 3 = mkF m 0 #[.val (.ref ba), .val (.int (0 : Int32)), .val (.int ia)] [] := by first | (simp [entryFrame, mkF, argsToLocals, Value.category]; done) | rfl
def Q_set0 (Z : State) (ba : Addr) (ia : Int32) (bb : Addr) (kb : ClassId) (bc : Addr) (kc : ClassId) (v0 : Int32) (v1 : Int32) (v2 : Int32) (h0 : Heap) (n0 : Nat) (v : Option Value) (h : Heap) (L : List Loc) : Prop := v = none ∧ Fr n0 L ∧ Keep h0 h [bc] ∧ Arv Z h bc kc .int (16384 : Int32) [(.int ia), (.int v1), (.int v2)] (.int (0 : Int32))
set_option maxRecDepth 65536 in
set_option maxHeartbeats 40000000 in
theorem rm_set0 (l : Launch) (Z : State) (a0 : Array Value) (hw : ∀ d ∈ tables_1, d.before a0 Z = true) (ws : List Jvm.Cond) (ba : Addr) (ia : Int32) (bb : Addr) (kb : ClassId) (bc : Addr) (kc : ClassId) (v0 : Int32) (v1 : Int32) (v2 : Int32) (h0 : Heap) (n0 : Nat) (O0 : Old Z n0 h0) (P0 : Fld Z h0 ba "com/example/pin_to_part/pintopart/IntColumn" "chunks" "[[I" (.ref bb)) (P1 : Arv Z h0 bb kb (.array .int) (1 : Int32) [(.ref bc)] .null) (P2 : Arv Z h0 bc kc .int (16384 : Int32) [(.int v0), (.int v1), (.int v2)] (.int (0 : Int32))) (P3 : n0 ≤ bc) (P4 : ba ≠ bc) (P5 : bb ≠ bc) :
    MetFree l (⟨"com/example/pin_to_part/pintopart/IntColumn", "set", "(II)V"⟩ : MethodName) (head1 (Jvm.Cond.code (⟨"com/example/pin_to_part/pintopart/IntColumn", "set", "(II)V"⟩ : MethodName) prog_19_method_5_code 3 none :: ws) ({ frames := 0, cells := 0, slots := 0, locals := 0 } : Room)) (fun a U => a = #[(.ref ba), (.int (0 : Int32)), (.int ia)] ∧ Z.Warmed39 U.vm ∧ U.heap = h0) (fun _ _ _ _ _ => True) (fun _ U o U' => ∃ v L, o = .returned v ∧ Q_set0 Z ba ia bb kb bc kc v0 v1 v2 h0 n0 v U'.heap L ∧ FrameEnd U o U' L ({ frames := 0, cells := 0, slots := 0, locals := 0 } : Room).cells ({ frames := 0, cells := 0, slots := 0, locals := 0 } : Room).slots) := by
  refine MetFree.of_bodySF (plainFor_of_name pn_com_example_pin_to_part_pintopart_IntColumn) hisR ?_
  intro p e s m args below meth c s₁ Bd hml0 hP hK
  obtain ⟨rfl, hZ, hh⟩ := hP
  have hx := Bd.exec
  have hby := Bd.bytes
  have hml : c.maxLocals = 3 := hml0
  have hown : s.vm.findClass "com/example/pin_to_part/pintopart/IntColumn" = some m.cls := findClass_of_methodNamed Bd.named
  have hnm := (name_of_methodNamed Bd.named Bd.method).1
  have hlk : meth.locks = false := BodyLoose.notSynchronized Bd
  have X0 : Stand p l e ({ frames := 0, cells := 0, slots := 0, locals := 0 } : Room) s m #[(.ref ba), (.int (0 : Int32)), (.int ia)] below meth c s₁ [] 0 0 := Stand.of_body Bd
  have e0 : s₁.heap = h0 := by rw [← hh, Bd.state]; rfl
  have N0 := Fr.nil n0
  have K0 := Keep.refl h0 [bc]
  rw [ef_set0 m ba ia]
  show Go p e below s (fun v h L => Q_set0 Z ba ia bb kb bc kc v0 v1 v2 h0 n0 v h L) ({ frames := 0, cells := 0, slots := 0, locals := 0 } : Room).cells ({ frames := 0, cells := 0, slots := 0, locals := 0 } : Room).slots s₁ (mkF m 0 #[.val (.ref ba), .val (.int (0 : Int32)), .val (.int ia)] [])
  refine Go.step (T' := s₁) (f' := (mkF m 1 #[.val (.ref ba), .val (.int (0 : Int32)), .val (.int ia)] [(.ref ba)])) (fun t k => XS.aloadN X0.here hx rfl (hb hby d4_0) rfl rfl k) ?_
  obtain ⟨T136, X136, e136, st136⟩ := getF X0 hx hZ hown (host := "") (Or.inl (hw _ (List.mem_of_getElem? (i := 11) rfl))) Via.refl e0 P0 (g := (mkF m 1 #[.val (.ref ba), .val (.int (0 : Int32)), .val (.int ia)] [(.ref ba)])) rfl rfl (hb hby d4_1)
  refine Go.step (T' := T136) (f' := (mkF m 4 #[.val (.ref ba), .val (.int (0 : Int32)), .val (.int ia)] [(.ref bb)])) st136 ?_
  refine Go.step (T' := T136) (f' := (mkF m 5 #[.val (.ref ba), .val (.int (0 : Int32)), .val (.int ia)] [(.int (0 : Int32)), (.ref bb)])) (fun t k => XS.iloadN X136.here hx rfl (hb hby d4_4) rfl k) ?_
  refine Go.step (T' := T136) (f' := (mkF m 7 #[.val (.ref ba), .val (.int (0 : Int32)), .val (.int ia)] [(.int (14 : Int32)), (.int (0 : Int32)), (.ref bb)])) (fun t k => XS.bipush X136.here hx rfl (hb hby d4_5) k) ?_
  refine Go.step (T' := T136) (f' := (mkF m 8 #[.val (.ref ba), .val (.int (0 : Int32)), .val (.int ia)] [(.int (((0 : Int32).toUInt32 >>> ((14 : Int32) &&& 31).toUInt32).toInt32)), (.ref bb)])) (fun t k => XS.iushr X136.here hx rfl (hb hby d4_7) rfl k) ?_
  rw [show (((0 : Int32).toUInt32 >>> ((14 : Int32) &&& 31).toUInt32).toInt32) = (0 : Int32) from by decide]
  obtain ⟨ca137, Aa137, qa137, Sa137, Na137, Ha137, Ga137⟩ := id P1
  have ia137 : ¬ ((0 : Int32) < 0 ∨ ca137.slots.size ≤ ((0 : Int32)).toNatClampNeg) := inb_of Sa137 ⟨by decide, by decide⟩
  have va137 := Ha137.at (v := (.ref bc)) ia137 rfl
  refine Go.step (T' := T136) (f' := (mkF m 9 #[.val (.ref ba), .val (.int (0 : Int32)), .val (.int ia)] [(.ref bc)])) (fun t k => X136.aaload hx (j := (0 : Int32)) (v := (.ref bc)) (by rw [e136]; exact Aa137.1) (State.isArrayOf_alike hZ.alike Aa137.2.1) rfl Aa137.2.2 ia137 va137 (g := (mkF m 8 #[.val (.ref ba), .val (.int (0 : Int32)), .val (.int ia)] [(.int (0 : Int32)), (.ref bb)])) rfl rfl (hb hby d4_8) t k) ?_
  refine Go.step (T' := T136) (f' := (mkF m 10 #[.val (.ref ba), .val (.int (0 : Int32)), .val (.int ia)] [(.int (0 : Int32)), (.ref bc)])) (fun t k => XS.iloadN X136.here hx rfl (hb hby d4_9) rfl k) ?_
  refine Go.step (T' := T136) (f' := (mkF m 13 #[.val (.ref ba), .val (.int (0 : Int32)), .val (.int ia)] [(.int (16383 : Int32)), (.int (0 : Int32)), (.ref bc)])) (fun t k => XS.sipush X136.here hx rfl (hb hby d4_10) k) ?_
  refine Go.step (T' := T136) (f' := (mkF m 14 #[.val (.ref ba), .val (.int (0 : Int32)), .val (.int ia)] [(.int ((0 : Int32) &&& (16383 : Int32))), (.ref bc)])) (fun t k => XS.iand X136.here hx rfl (hb hby d4_13) rfl k) ?_
  rw [show ((0 : Int32) &&& (16383 : Int32)) = (0 : Int32) from by decide]
  refine Go.step (T' := T136) (f' := (mkF m 15 #[.val (.ref ba), .val (.int (0 : Int32)), .val (.int ia)] [(.int ia), (.int (0 : Int32)), (.ref bc)])) (fun t k => XS.iloadN X136.here hx rfl (hb hby d4_14) rfl k) ?_
  obtain ⟨ca138, Aa138, qa138, Sa138, Na138, Ha138, Ga138⟩ := id P2
  have ia138 : ¬ ((0 : Int32) < 0 ∨ ca138.slots.size ≤ ((0 : Int32)).toNatClampNeg) := inb_of Sa138 ⟨by decide, by decide⟩
  obtain ⟨T139, h139, X139, e139, W139, st139⟩ := stI X136 hx hZ e136 Aa138 (j := (0 : Int32)) ia138 (g := (mkF m 15 #[.val (.ref ba), .val (.int (0 : Int32)), .val (.int ia)] [(.int ia), (.int (0 : Int32)), (.ref bc)])) rfl rfl (hb hby d4_15)
  have f140 := Arv.set Aa138 qa138 Sa138 Na138 Ha138 Ga138 rfl W139 0 rfl (Nat.le_of_ble_eq_true rfl)
  have f141 : Arv Z h139 bc kc .int (16384 : Int32) [(.int ia), (.int v1), (.int v2)] (.int (0 : Int32)) := f140
  have f142 := P0.other W139 (Or.inl P4)
  have f143 := P1.other W139 P5
  have O144 := O0.wr W139 P3
  have K145 := K0.wr W139 (Or.inl (List.mem_of_getElem? (i := 0) rfl))
  have N146 := Fr.snoc X139 N0 P3
  refine Go.step (T' := T139) (f' := (mkF m 16 #[.val (.ref ba), .val (.int (0 : Int32)), .val (.int ia)] [])) st139 ?_
  refine Go.retV X139 hx hlk Bd.returns (hb hby d4_16) e139 ?_ (by decide) (by decide)
  exact ⟨rfl, N146, K145, f141⟩
theorem ef_set1 (m : MethodId) (ba : Addr) (ia : Int32) : entryFrame m #[(.ref ba), (.int (1 : Int32)), (.int ia)] 3 = mkF m 0 #[.val (.ref ba), .val (.int (1 : Int32)), .val (.int ia)] [] := by first | (simp [entryFrame, mkF, argsToLocals, Value.category]; done) | rfl
def Q_set1 (Z : State) (ba : Addr) (ia : Int32) (bb : Addr) (kb : ClassId) (bc : Addr) (kc : ClassId) (v0 : Int32) (v1 : Int32) (v2 : Int32) (h0 : Heap) (n0 : Nat) (v : Option Value) (h : Heap) (L : List Loc) : Prop := v = none ∧ Fr n0 L ∧ Keep h0 h [bc] ∧ Arv Z h bc kc .int (16384 : Int32) [(.int v0), (.int ia), (.int v2)] (.int (0 : Int32))
set_option maxRecDepth 65536 in
set_option maxHeartbeats 40000000 in
theorem rm_set1 (l : Launch) (Z : State) (a0 : Array Value) (hw : ∀ d ∈ tables_1, d.before a0 Z = true) (ws : List Jvm.Cond) (ba : Addr) (ia : Int32) (bb : Addr) (kb : ClassId) (bc : Addr) (kc : ClassId) (v0 : Int32) (v1 : Int32) (v2 : Int32) (h0 : Heap) (n0 : Nat) (O0 : Old Z n0 h0) (P0 : Fld Z h0 ba "com/example/pin_to_part/pintopart/IntColumn" "chunks" "[[I" (.ref bb)) (P1 : Arv Z h0 bb kb (.array .int) (1 : Int32) [(.ref bc)] .null) (P2 : Arv Z h0 bc kc .int (16384 : Int32) [(.int v0), (.int v1), (.int v2)] (.int (0 : Int32))) (P3 : n0 ≤ bc) (P4 : ba ≠ bc) (P5 : bb ≠ bc) :
    MetFree l (⟨"com/example/pin_to_part/pintopart/IntColumn", "set", "(II)V"⟩ : MethodName) (head1 (Jvm.Cond.code (⟨"com/example/pin_to_part/pintopart/IntColumn", "set", "(II)V"⟩ : MethodName) prog_19_method_5_code 3 none :: ws) ({ frames := 0, cells := 0, slots := 0, locals := 0 } : Room)) (fun a U => a = #[(.ref ba), (.int (1 : Int32)), (.int ia)] ∧ Z.Warmed39 U.vm ∧ U.heap = h0) (fun _ _ _ _ _ => True) (fun _ U o U' => ∃ v L, o = .returned v ∧ Q_set1 Z ba ia bb kb bc kc v0 v1 v2 h0 n0 v U'.heap L ∧ FrameEnd U o U' L ({ frames := 0, cells := 0, slots := 0, locals := 0 } : Room).cells ({ frames := 0, cells := 0, slots := 0, locals := 0 } : Room).slots) := by
  refine MetFree.of_bodySF (plainFor_of_name pn_com_example_pin_to_part_pintopart_IntColumn) hisR ?_
  intro p e s m args below meth c s₁ Bd hml0 hP hK
  obtain ⟨rfl, hZ, hh⟩ := hP
  have hx := Bd.exec
  have hby := Bd.bytes
  have hml : c.maxLocals = 3 := hml0
  have hown : s.vm.findClass "com/example/pin_to_part/pintopart/IntColumn" = some m.cls := findClass_of_methodNamed Bd.named
  have hnm := (name_of_methodNamed Bd.named Bd.method).1
  have hlk : meth.locks = false := BodyLoose.notSynchronized Bd
  have X0 : Stand p l e ({ frames := 0, cells := 0, slots := 0, locals := 0 } : Room) s m #[(.ref ba), (.int (1 : Int32)), (.int ia)] below meth c s₁ [] 0 0 := Stand.of_body Bd
  have e0 : s₁.heap = h0 := by rw [← hh, Bd.state]; rfl
  have N0 := Fr.nil n0
  have K0 := Keep.refl h0 [bc]
  rw [ef_set1 m ba ia]
  show Go p e below s (fun v h L => Q_set1 Z ba ia bb kb bc kc v0 v1 v2 h0 n0 v h L) ({ frames := 0, cells := 0, slots := 0, locals := 0 } : Room).cells ({ frames := 0, cells := 0, slots := 0, locals := 0 } : Room).slots s₁ (mkF m 0 #[.val (.ref ba), .val (.int (1 : Int32)), .val (.int ia)] [])
  refine Go.step (T' := s₁) (f' := (mkF m 1 #[.val (.ref ba), .val (.int (1 : Int32)), .val (.int ia)] [(.ref ba)])) (fun t k => XS.aloadN X0.here hx rfl (hb hby d4_0) rfl rfl k) ?_
  obtain ⟨T147, X147, e147, st147⟩ := getF X0 hx hZ hown (host := "") (Or.inl (hw _ (List.mem_of_getElem? (i := 11) rfl))) Via.refl e0 P0 (g := (mkF m 1 #[.val (.ref ba), .val (.int (1 : Int32)), .val (.int ia)] [(.ref ba)])) rfl rfl (hb hby d4_1)
  refine Go.step (T' := T147) (f' := (mkF m 4 #[.val (.ref ba), .val (.int (1 : Int32)), .val (.int ia)] [(.ref bb)])) st147 ?_
  refine Go.step (T' := T147) (f' := (mkF m 5 #[.val (.ref ba), .val (.int (1 : Int32)), .val (.int ia)] [(.int (1 : Int32)), (.ref bb)])) (fun t k => XS.iloadN X147.here hx rfl (hb hby d4_4) rfl k) ?_
  refine Go.step (T' := T147) (f' := (mkF m 7 #[.val (.ref ba), .val (.int (1 : Int32)), .val (.int ia)] [(.int (14 : Int32)), (.int (1 : Int32)), (.ref bb)])) (fun t k => XS.bipush X147.here hx rfl (hb hby d4_5) k) ?_
  refine Go.step (T' := T147) (f' := (mkF m 8 #[.val (.ref ba), .val (.int (1 : Int32)), .val (.int ia)] [(.int (((1 : Int32).toUInt32 >>> ((14 : Int32) &&& 31).toUInt32).toInt32)), (.ref bb)])) (fun t k => XS.iushr X147.here hx rfl (hb hby d4_7) rfl k) ?_
  rw [show (((1 : Int32).toUInt32 >>> ((14 : Int32) &&& 31).toUInt32).toInt32) = (0 : Int32) from by decide]
  obtain ⟨ca148, Aa148, qa148, Sa148, Na148, Ha148, Ga148⟩ := id P1
  have ia148 : ¬ ((0 : Int32) < 0 ∨ ca148.slots.size ≤ ((0 : Int32)).toNatClampNeg) := inb_of Sa148 ⟨by decide, by decide⟩
  have va148 := Ha148.at (v := (.ref bc)) ia148 rfl
  refine Go.step (T' := T147) (f' := (mkF m 9 #[.val (.ref ba), .val (.int (1 : Int32)), .val (.int ia)] [(.ref bc)])) (fun t k => X147.aaload hx (j := (0 : Int32)) (v := (.ref bc)) (by rw [e147]; exact Aa148.1) (State.isArrayOf_alike hZ.alike Aa148.2.1) rfl Aa148.2.2 ia148 va148 (g := (mkF m 8 #[.val (.ref ba), .val (.int (1 : Int32)), .val (.int ia)] [(.int (0 : Int32)), (.ref bb)])) rfl rfl (hb hby d4_8) t k) ?_
  refine Go.step (T' := T147) (f' := (mkF m 10 #[.val (.ref ba), .val (.int (1 : Int32)), .val (.int ia)] [(.int (1 : Int32)), (.ref bc)])) (fun t k => XS.iloadN X147.here hx rfl (hb hby d4_9) rfl k) ?_
  refine Go.step (T' := T147) (f' := (mkF m 13 #[.val (.ref ba), .val (.int (1 : Int32)), .val (.int ia)] [(.int (16383 : Int32)), (.int (1 : Int32)), (.ref bc)])) (fun t k => XS.sipush X147.here hx rfl (hb hby d4_10) k) ?_
  refine Go.step (T' := T147) (f' := (mkF m 14 #[.val (.ref ba), .val (.int (1 : Int32)), .val (.int ia)] [(.int ((1 : Int32) &&& (16383 : Int32))), (.ref bc)])) (fun t k => XS.iand X147.here hx rfl (hb hby d4_13) rfl k) ?_
  rw [show ((1 : Int32) &&& (16383 : Int32)) = (1 : Int32) from by decide]
  refine Go.step (T' := T147) (f' := (mkF m 15 #[.val (.ref ba), .val (.int (1 : Int32)), .val (.int ia)] [(.int ia), (.int (1 : Int32)), (.ref bc)])) (fun t k => XS.iloadN X147.here hx rfl (hb hby d4_14) rfl k) ?_
  obtain ⟨ca149, Aa149, qa149, Sa149, Na149, Ha149, Ga149⟩ := id P2
  have ia149 : ¬ ((1 : Int32) < 0 ∨ ca149.slots.size ≤ ((1 : Int32)).toNatClampNeg) := inb_of Sa149 ⟨by decide, by decide⟩
  obtain ⟨T150, h150, X150, e150, W150, st150⟩ := stI X147 hx hZ e147 Aa149 (j := (1 : Int32)) ia149 (g := (mkF m 15 #[.val (.ref ba), .val (.int (1 : Int32)), .val (.int ia)] [(.int ia), (.int (1 : Int32)), (.ref bc)])) rfl rfl (hb hby d4_15)
  have f151 := Arv.set Aa149 qa149 Sa149 Na149 Ha149 Ga149 rfl W150 1 rfl (Nat.le_of_ble_eq_true rfl)
  have f152 : Arv Z h150 bc kc .int (16384 : Int32) [(.int v0), (.int ia), (.int v2)] (.int (0 : Int32)) := f151
  have f153 := P0.other W150 (Or.inl P4)
  have f154 := P1.other W150 P5
  have O155 := O0.wr W150 P3
  have K156 := K0.wr W150 (Or.inl (List.mem_of_getElem? (i := 0) rfl))
  have N157 := Fr.snoc X150 N0 P3
  refine Go.step (T' := T150) (f' := (mkF m 16 #[.val (.ref ba), .val (.int (1 : Int32)), .val (.int ia)] [])) st150 ?_
  refine Go.retV X150 hx hlk Bd.returns (hb hby d4_16) e150 ?_ (by decide) (by decide)
  exact ⟨rfl, N157, K156, f152⟩
theorem ef_set2 (m : MethodId) (ba : Addr) (ia : Int32) : entryFrame m #[(.ref ba), (.int (2 : Int32)), (.int ia)] 3 = mkF m 0 #[.val (.ref ba), .val (.int (2 : Int32)), .val (.int ia)] [] := by first | (simp [entryFrame, mkF, argsToLocals, Value.category]; done) | rfl
def Q_set2 (Z : State) (ba : Addr) (ia : Int32) (bb : Addr) (kb : ClassId) (bc : Addr) (kc : ClassId) (v0 : Int32) (v1 : Int32) (v2 : Int32) (h0 : Heap) (n0 : Nat) (v : Option Value) (h : Heap) (L : List Loc) : Prop := v = none ∧ Fr n0 L ∧ Keep h0 h [bc] ∧ Arv Z h bc kc .int (16384 : Int32) [(.int v0), (.int v1), (.int ia)] (.int (0 : Int32))
set_option maxRecDepth 65536 in
set_option maxHeartbeats 40000000 in
theorem rm_set2 (l : Launch) (Z : State) (a0 : Array Value) (hw : ∀ d ∈ tables_1, d.before a0 Z = true) (ws : List Jvm.Cond) (ba : Addr) (ia : Int32) (bb : Addr) (kb : ClassId) (bc : Addr) (kc : ClassId) (v0 : Int32) (v1 : Int32) (v2 : Int32) (h0 : Heap) (n0 : Nat) (O0 : Old Z n0 h0) (P0 : Fld Z h0 ba "com/example/pin_to_part/pintopart/IntColumn" "chunks" "[[I" (.ref bb)) (P1 : Arv Z h0 bb kb (.array .int) (1 : Int32) [(.ref bc)] .null) (P2 : Arv Z h0 bc kc .int (16384 : Int32) [(.int v0), (.int v1), (.int v2)] (.int (0 : Int32))) (P3 : n0 ≤ bc) (P4 : ba ≠ bc) (P5 : bb ≠ bc) :
    MetFree l (⟨"com/example/pin_to_part/pintopart/IntColumn", "set", "(II)V"⟩ : MethodName) (head1 (Jvm.Cond.code (⟨"com/example/pin_to_part/pintopart/IntColumn", "set", "(II)V"⟩ : MethodName) prog_19_method_5_code 3 none :: ws) ({ frames := 0, cells := 0, slots := 0, locals := 0 } : Room)) (fun a U => a = #[(.ref ba), (.int (2 : Int32)), (.int ia)] ∧ Z.Warmed39 U.vm ∧ U.heap = h0) (fun _ _ _ _ _ => True) (fun _ U o U' => ∃ v L, o = .returned v ∧ Q_set2 Z ba ia bb kb bc kc v0 v1 v2 h0 n0 v U'.heap L ∧ FrameEnd U o U' L ({ frames := 0, cells := 0, slots := 0, locals := 0 } : Room).cells ({ frames := 0, cells := 0, slots := 0, locals := 0 } : Room).slots) := by
  refine MetFree.of_bodySF (plainFor_of_name pn_com_example_pin_to_part_pintopart_IntColumn) hisR ?_
  intro p e s m args below meth c s₁ Bd hml0 hP hK
  obtain ⟨rfl, hZ, hh⟩ := hP
  have hx := Bd.exec
  have hby := Bd.bytes
  have hml : c.maxLocals = 3 := hml0
  have hown : s.vm.findClass "com/example/pin_to_part/pintopart/IntColumn" = some m.cls := findClass_of_methodNamed Bd.named
  have hnm := (name_of_methodNamed Bd.named Bd.method).1
  have hlk : meth.locks = false := BodyLoose.notSynchronized Bd
  have X0 : Stand p l e ({ frames := 0, cells := 0, slots := 0, locals := 0 } : Room) s m #[(.ref ba), (.int (2 : Int32)), (.int ia)] below meth c s₁ [] 0 0 := Stand.of_body Bd
  have e0 : s₁.heap = h0 := by rw [← hh, Bd.state]; rfl
  have N0 := Fr.nil n0
  have K0 := Keep.refl h0 [bc]
  rw [ef_set2 m ba ia]
  show Go p e below s (fun v h L => Q_set2 Z ba ia bb kb bc kc v0 v1 v2 h0 n0 v h L) ({ frames := 0, cells := 0, slots := 0, locals := 0 } : Room).cells ({ frames := 0, cells := 0, slots := 0, locals := 0 } : Room).slots s₁ (mkF m 0 #[.val (.ref ba), .val (.int (2 : Int32)), .val (.int ia)] [])
  refine Go.step (T' := s₁) (f' := (mkF m 1 #[.val (.ref ba), .val (.int (2 : Int32)), .val (.int ia)] [(.ref ba)])) (fun t k => XS.aloadN X0.here hx rfl (hb hby d4_0) rfl rfl k) ?_
  obtain ⟨T158, X158, e158, st158⟩ := getF X0 hx hZ hown (host := "") (Or.inl (hw _ (List.mem_of_getElem? (i := 11) rfl))) Via.refl e0 P0 (g := (mkF m 1 #[.val (.ref ba), .val (.int (2 : Int32)), .val (.int ia)] [(.ref ba)])) rfl rfl (hb hby d4_1)
  refine Go.step (T' := T158) (f' := (mkF m 4 #[.val (.ref ba), .val (.int (2 : Int32)), .val (.int ia)] [(.ref bb)])) st158 ?_
  refine Go.step (T' := T158) (f' := (mkF m 5 #[.val (.ref ba), .val (.int (2 : Int32)), .val (.int ia)] [(.int (2 : Int32)), (.ref bb)])) (fun t k => XS.iloadN X158.here hx rfl (hb hby d4_4) rfl k) ?_
  refine Go.step (T' := T158) (f' := (mkF m 7 #[.val (.ref ba), .val (.int (2 : Int32)), .val (.int ia)] [(.int (14 : Int32)), (.int (2 : Int32)), (.ref bb)])) (fun t k => XS.bipush X158.here hx rfl (hb hby d4_5) k) ?_
  refine Go.step (T' := T158) (f' := (mkF m 8 #[.val (.ref ba), .val (.int (2 : Int32)), .val (.int ia)] [(.int (((2 : Int32).toUInt32 >>> ((14 : Int32) &&& 31).toUInt32).toInt32)), (.ref bb)])) (fun t k => XS.iushr X158.here hx rfl (hb hby d4_7) rfl k) ?_
  rw [show (((2 : Int32).toUInt32 >>> ((14 : Int32) &&& 31).toUInt32).toInt32) = (0 : Int32) from by decide]
  obtain ⟨ca159, Aa159, qa159, Sa159, Na159, Ha159, Ga159⟩ := id P1
  have ia159 : ¬ ((0 : Int32) < 0 ∨ ca159.slots.size ≤ ((0 : Int32)).toNatClampNeg) := inb_of Sa159 ⟨by decide, by decide⟩
  have va159 := Ha159.at (v := (.ref bc)) ia159 rfl
  refine Go.step (T' := T158) (f' := (mkF m 9 #[.val (.ref ba), .val (.int (2 : Int32)), .val (.int ia)] [(.ref bc)])) (fun t k => X158.aaload hx (j := (0 : Int32)) (v := (.ref bc)) (by rw [e158]; exact Aa159.1) (State.isArrayOf_alike hZ.alike Aa159.2.1) rfl Aa159.2.2 ia159 va159 (g := (mkF m 8 #[.val (.ref ba), .val (.int (2 : Int32)), .val (.int ia)] [(.int (0 : Int32)), (.ref bb)])) rfl rfl (hb hby d4_8) t k) ?_
  refine Go.step (T' := T158) (f' := (mkF m 10 #[.val (.ref ba), .val (.int (2 : Int32)), .val (.int ia)] [(.int (2 : Int32)), (.ref bc)])) (fun t k => XS.iloadN X158.here hx rfl (hb hby d4_9) rfl k) ?_
  refine Go.step (T' := T158) (f' := (mkF m 13 #[.val (.ref ba), .val (.int (2 : Int32)), .val (.int ia)] [(.int (16383 : Int32)), (.int (2 : Int32)), (.ref bc)])) (fun t k => XS.sipush X158.here hx rfl (hb hby d4_10) k) ?_
  refine Go.step (T' := T158) (f' := (mkF m 14 #[.val (.ref ba), .val (.int (2 : Int32)), .val (.int ia)] [(.int ((2 : Int32) &&& (16383 : Int32))), (.ref bc)])) (fun t k => XS.iand X158.here hx rfl (hb hby d4_13) rfl k) ?_
  rw [show ((2 : Int32) &&& (16383 : Int32)) = (2 : Int32) from by decide]
  refine Go.step (T' := T158) (f' := (mkF m 15 #[.val (.ref ba), .val (.int (2 : Int32)), .val (.int ia)] [(.int ia), (.int (2 : Int32)), (.ref bc)])) (fun t k => XS.iloadN X158.here hx rfl (hb hby d4_14) rfl k) ?_
  obtain ⟨ca160, Aa160, qa160, Sa160, Na160, Ha160, Ga160⟩ := id P2
  have ia160 : ¬ ((2 : Int32) < 0 ∨ ca160.slots.size ≤ ((2 : Int32)).toNatClampNeg) := inb_of Sa160 ⟨by decide, by decide⟩
  obtain ⟨T161, h161, X161, e161, W161, st161⟩ := stI X158 hx hZ e158 Aa160 (j := (2 : Int32)) ia160 (g := (mkF m 15 #[.val (.ref ba), .val (.int (2 : Int32)), .val (.int ia)] [(.int ia), (.int (2 : Int32)), (.ref bc)])) rfl rfl (hb hby d4_15)
  have f162 := Arv.set Aa160 qa160 Sa160 Na160 Ha160 Ga160 rfl W161 2 rfl (Nat.le_of_ble_eq_true rfl)
  have f163 : Arv Z h161 bc kc .int (16384 : Int32) [(.int v0), (.int v1), (.int ia)] (.int (0 : Int32)) := f162
  have f164 := P0.other W161 (Or.inl P4)
  have f165 := P1.other W161 P5
  have O166 := O0.wr W161 P3
  have K167 := K0.wr W161 (Or.inl (List.mem_of_getElem? (i := 0) rfl))
  have N168 := Fr.snoc X161 N0 P3
  refine Go.step (T' := T161) (f' := (mkF m 16 #[.val (.ref ba), .val (.int (2 : Int32)), .val (.int ia)] [])) st161 ?_
  refine Go.retV X161 hx hlk Bd.returns (hb hby d4_16) e161 ?_ (by decide) (by decide)
  exact ⟨rfl, N168, K167, f163⟩
theorem d5_0 : decode prog_19_method_4_code 0 = .ok (.aload_n 0, 1) := by decide +kernel
theorem d5_1 : decode prog_19_method_4_code 1 = .ok (.getfield 11, 3) := by decide +kernel
theorem d5_4 : decode prog_19_method_4_code 4 = .ok (.iload_n 1, 1) := by decide +kernel
theorem d5_5 : decode prog_19_method_4_code 5 = .ok (.bipush 14, 2) := by decide +kernel
theorem d5_7 : decode prog_19_method_4_code 7 = .ok (.iushr, 1) := by decide +kernel
theorem d5_8 : decode prog_19_method_4_code 8 = .ok (.aaload, 1) := by decide +kernel
theorem d5_9 : decode prog_19_method_4_code 9 = .ok (.iload_n 1, 1) := by decide +kernel
theorem d5_10 : decode prog_19_method_4_code 10 = .ok (.sipush 16383, 3) := by decide +kernel
theorem d5_13 : decode prog_19_method_4_code 13 = .ok (.iand, 1) := by decide +kernel
theorem d5_14 : decode prog_19_method_4_code 14 = .ok (.iaload, 1) := by decide +kernel
theorem d5_15 : decode prog_19_method_4_code 15 = .ok (.ireturn, 1) := by decide +kernel
theorem ef_get0 (m : MethodId) (ba : Addr) : entryFrame m #[(.ref ba), (.int (0 : Int32))] 2 = mkF m 0 #[.val (.ref ba), .val (.int (0 : Int32))] [] := by first | (simp [entryFrame, mkF, argsToLocals, Value.category]; done) | rfl
def Q_get0 (Z : State) (ba : Addr) (bb : Addr) (kb : ClassId) (bc : Addr) (kc : ClassId) (v0 : Int32) (v1 : Int32) (v2 : Int32) (h0 : Heap) (n0 : Nat) (v : Option Value) (h : Heap) (L : List Loc) : Prop := v = some (.int v0) ∧ Fr n0 L ∧ h = h0
set_option maxRecDepth 65536 in
set_option maxHeartbeats 40000000 in
theorem rm_get0 (l : Launch) (Z : State) (a0 : Array Value) (hw : ∀ d ∈ tables_1, d.before a0 Z = true) (ws : List Jvm.Cond) (ba : Addr) (bb : Addr) (kb : ClassId) (bc : Addr) (kc : ClassId) (v0 : Int32) (v1 : Int32) (v2 : Int32) (h0 : Heap) (n0 : Nat) (O0 : Old Z n0 h0) (P0 : Fld Z h0 ba "com/example/pin_to_part/pintopart/IntColumn" "chunks" "[[I" (.ref bb)) (P1 : Arv Z h0 bb kb (.array .int) (1 : Int32) [(.ref bc)] .null) (P2 : Arv Z h0 bc kc .int (16384 : Int32) [(.int v0), (.int v1), (.int v2)] (.int (0 : Int32))) :
    MetFree l (⟨"com/example/pin_to_part/pintopart/IntColumn", "get", "(I)I"⟩ : MethodName) (head1 (Jvm.Cond.code (⟨"com/example/pin_to_part/pintopart/IntColumn", "get", "(I)I"⟩ : MethodName) prog_19_method_4_code 2 (some .int) :: ws) ({ frames := 0, cells := 0, slots := 0, locals := 0 } : Room)) (fun a U => a = #[(.ref ba), (.int (0 : Int32))] ∧ Z.Warmed39 U.vm ∧ U.heap = h0) (fun _ _ _ _ _ => True) (fun _ U o U' => ∃ v L, o = .returned v ∧ Q_get0 Z ba bb kb bc kc v0 v1 v2 h0 n0 v U'.heap L ∧ FrameEnd U o U' L ({ frames := 0, cells := 0, slots := 0, locals := 0 } : Room).cells ({ frames := 0, cells := 0, slots := 0, locals := 0 } : Room).slots) := by
  refine MetFree.of_bodySF (plainFor_of_name pn_com_example_pin_to_part_pintopart_IntColumn) hisR ?_
  intro p e s m args below meth c s₁ Bd hml0 hP hK
  obtain ⟨rfl, hZ, hh⟩ := hP
  have hx := Bd.exec
  have hby := Bd.bytes
  have hml : c.maxLocals = 2 := hml0
  have hown : s.vm.findClass "com/example/pin_to_part/pintopart/IntColumn" = some m.cls := findClass_of_methodNamed Bd.named
  have hnm := (name_of_methodNamed Bd.named Bd.method).1
  have hlk : meth.locks = false := BodyLoose.notSynchronized Bd
  have X0 : Stand p l e ({ frames := 0, cells := 0, slots := 0, locals := 0 } : Room) s m #[(.ref ba), (.int (0 : Int32))] below meth c s₁ [] 0 0 := Stand.of_body Bd
  have e0 : s₁.heap = h0 := by rw [← hh, Bd.state]; rfl
  have N0 := Fr.nil n0
  rw [ef_get0 m ba]
  show Go p e below s (fun v h L => Q_get0 Z ba bb kb bc kc v0 v1 v2 h0 n0 v h L) ({ frames := 0, cells := 0, slots := 0, locals := 0 } : Room).cells ({ frames := 0, cells := 0, slots := 0, locals := 0 } : Room).slots s₁ (mkF m 0 #[.val (.ref ba), .val (.int (0 : Int32))] [])
  refine Go.step (T' := s₁) (f' := (mkF m 1 #[.val (.ref ba), .val (.int (0 : Int32))] [(.ref ba)])) (fun t k => XS.aloadN X0.here hx rfl (hb hby d5_0) rfl rfl k) ?_
  obtain ⟨T169, X169, e169, st169⟩ := getF X0 hx hZ hown (host := "") (Or.inl (hw _ (List.mem_of_getElem? (i := 11) rfl))) Via.refl e0 P0 (g := (mkF m 1 #[.val (.ref ba), .val (.int (0 : Int32))] [(.ref ba)])) rfl rfl (hb hby d5_1)
  refine Go.step (T' := T169) (f' := (mkF m 4 #[.val (.ref ba), .val (.int (0 : Int32))] [(.ref bb)])) st169 ?_
  refine Go.step (T' := T169) (f' := (mkF m 5 #[.val (.ref ba), .val (.int (0 : Int32))] [(.int (0 : Int32)), (.ref bb)])) (fun t k => XS.iloadN X169.here hx rfl (hb hby d5_4) rfl k) ?_
  refine Go.step (T' := T169) (f' := (mkF m 7 #[.val (.ref ba), .val (.int (0 : Int32))] [(.int (14 : Int32)), (.int (0 : Int32)), (.ref bb)])) (fun t k => XS.bipush X169.here hx rfl (hb hby d5_5) k) ?_
  refine Go.step (T' := T169) (f' := (mkF m 8 #[.val (.ref ba), .val (.int (0 : Int32))] [(.int (((0 : Int32).toUInt32 >>> ((14 : Int32) &&& 31).toUInt32).toInt32)), (.ref bb)])) (fun t k => XS.iushr X169.here hx rfl (hb hby d5_7) rfl k) ?_
  rw [show (((0 : Int32).toUInt32 >>> ((14 : Int32) &&& 31).toUInt32).toInt32) = (0 : Int32) from by decide]
  obtain ⟨ca170, Aa170, qa170, Sa170, Na170, Ha170, Ga170⟩ := id P1
  have ia170 : ¬ ((0 : Int32) < 0 ∨ ca170.slots.size ≤ ((0 : Int32)).toNatClampNeg) := inb_of Sa170 ⟨by decide, by decide⟩
  have va170 := Ha170.at (v := (.ref bc)) ia170 rfl
  refine Go.step (T' := T169) (f' := (mkF m 9 #[.val (.ref ba), .val (.int (0 : Int32))] [(.ref bc)])) (fun t k => X169.aaload hx (j := (0 : Int32)) (v := (.ref bc)) (by rw [e169]; exact Aa170.1) (State.isArrayOf_alike hZ.alike Aa170.2.1) rfl Aa170.2.2 ia170 va170 (g := (mkF m 8 #[.val (.ref ba), .val (.int (0 : Int32))] [(.int (0 : Int32)), (.ref bb)])) rfl rfl (hb hby d5_8) t k) ?_
  refine Go.step (T' := T169) (f' := (mkF m 10 #[.val (.ref ba), .val (.int (0 : Int32))] [(.int (0 : Int32)), (.ref bc)])) (fun t k => XS.iloadN X169.here hx rfl (hb hby d5_9) rfl k) ?_
  refine Go.step (T' := T169) (f' := (mkF m 13 #[.val (.ref ba), .val (.int (0 : Int32))] [(.int (16383 : Int32)), (.int (0 : Int32)), (.ref bc)])) (fun t k => XS.sipush X169.here hx rfl (hb hby d5_10) k) ?_
  refine Go.step (T' := T169) (f' := (mkF m 14 #[.val (.ref ba), .val (.int (0 : Int32))] [(.int ((0 : Int32) &&& (16383 : Int32))), (.ref bc)])) (fun t k => XS.iand X169.here hx rfl (hb hby d5_13) rfl k) ?_
  rw [show ((0 : Int32) &&& (16383 : Int32)) = (0 : Int32) from by decide]
  obtain ⟨ca171, Aa171, qa171, Sa171, Na171, Ha171, Ga171⟩ := id P2
  have ia171 : ¬ ((0 : Int32) < 0 ∨ ca171.slots.size ≤ ((0 : Int32)).toNatClampNeg) := inb_of Sa171 ⟨by decide, by decide⟩
  have va171 := Ha171.at (v := (.int v0)) ia171 rfl
  refine Go.step (T' := T169) (f' := (mkF m 15 #[.val (.ref ba), .val (.int (0 : Int32))] [(.int v0)])) (fun t k => X169.iaload hx (j := (0 : Int32)) (v := (.int v0)) (by rw [e169]; exact Aa171.1) (State.isArrayOf_alike hZ.alike Aa171.2.1) Aa171.2.2 ia171 va171 (g := (mkF m 14 #[.val (.ref ba), .val (.int (0 : Int32))] [(.int (0 : Int32)), (.ref bc)])) rfl rfl (hb hby d5_14) t k) ?_
  refine Go.retI X169 hx hlk Bd.returns (hb hby d5_15) e169 ?_ (by decide) (by decide)
  exact ⟨rfl, N0, rfl⟩
theorem ef_get1 (m : MethodId) (ba : Addr) : entryFrame m #[(.ref ba), (.int (1 : Int32))] 2 = mkF m 0 #[.val (.ref ba), .val (.int (1 : Int32))] [] := by first | (simp [entryFrame, mkF, argsToLocals, Value.category]; done) | rfl
def Q_get1 (Z : State) (ba : Addr) (bb : Addr) (kb : ClassId) (bc : Addr) (kc : ClassId) (v0 : Int32) (v1 : Int32) (v2 : Int32) (h0 : Heap) (n0 : Nat) (v : Option Value) (h : Heap) (L : List Loc) : Prop := v = some (.int v1) ∧ Fr n0 L ∧ h = h0
set_option maxRecDepth 65536 in
set_option maxHeartbeats 40000000 in
theorem rm_get1 (l : Launch) (Z : State) (a0 : Array Value) (hw : ∀ d ∈ tables_1, d.before a0 Z = true) (ws : List Jvm.Cond) (ba : Addr) (bb : Addr) (kb : ClassId) (bc : Addr) (kc : ClassId) (v0 : Int32) (v1 : Int32) (v2 : Int32) (h0 : Heap) (n0 : Nat) (O0 : Old Z n0 h0) (P0 : Fld Z h0 ba "com/example/pin_to_part/pintopart/IntColumn" "chunks" "[[I" (.ref bb)) (P1 : Arv Z h0 bb kb (.array .int) (1 : Int32) [(.ref bc)] .null) (P2 : Arv Z h0 bc kc .int (16384 : Int32) [(.int v0), (.int v1), (.int v2)] (.int (0 : Int32))) :
    MetFree l (⟨"com/example/pin_to_part/pintopart/IntColumn", "get", "(I)I"⟩ : MethodName) (head1 (Jvm.Cond.code (⟨"com/example/pin_to_part/pintopart/IntColumn", "get", "(I)I"⟩ : MethodName) prog_19_method_4_code 2 (some .int) :: ws) ({ frames := 0, cells := 0, slots := 0, locals := 0 } : Room)) (fun a U => a = #[(.ref ba), (.int (1 : Int32))] ∧ Z.Warmed39 U.vm ∧ U.heap = h0) (fun _ _ _ _ _ => True) (fun _ U o U' => ∃ v L, o = .returned v ∧ Q_get1 Z ba bb kb bc kc v0 v1 v2 h0 n0 v U'.heap L ∧ FrameEnd U o U' L ({ frames := 0, cells := 0, slots := 0, locals := 0 } : Room).cells ({ frames := 0, cells := 0, slots := 0, locals := 0 } : Room).slots) := by
  refine MetFree.of_bodySF (plainFor_of_name pn_com_example_pin_to_part_pintopart_IntColumn) hisR ?_
  intro p e s m args below meth c s₁ Bd hml0 hP hK
  obtain ⟨rfl, hZ, hh⟩ := hP
  have hx := Bd.exec
  have hby := Bd.bytes
  have hml : c.maxLocals = 2 := hml0
  have hown : s.vm.findClass "com/example/pin_to_part/pintopart/IntColumn" = some m.cls := findClass_of_methodNamed Bd.named
  have hnm := (name_of_methodNamed Bd.named Bd.method).1
  have hlk : meth.locks = false := BodyLoose.notSynchronized Bd
  have X0 : Stand p l e ({ frames := 0, cells := 0, slots := 0, locals := 0 } : Room) s m #[(.ref ba), (.int (1 : Int32))] below meth c s₁ [] 0 0 := Stand.of_body Bd
  have e0 : s₁.heap = h0 := by rw [← hh, Bd.state]; rfl
  have N0 := Fr.nil n0
  rw [ef_get1 m ba]
  show Go p e below s (fun v h L => Q_get1 Z ba bb kb bc kc v0 v1 v2 h0 n0 v h L) ({ frames := 0, cells := 0, slots := 0, locals := 0 } : Room).cells ({ frames := 0, cells := 0, slots := 0, locals := 0 } : Room).slots s₁ (mkF m 0 #[.val (.ref ba), .val (.int (1 : Int32))] [])
  refine Go.step (T' := s₁) (f' := (mkF m 1 #[.val (.ref ba), .val (.int (1 : Int32))] [(.ref ba)])) (fun t k => XS.aloadN X0.here hx rfl (hb hby d5_0) rfl rfl k) ?_
  obtain ⟨T172, X172, e172, st172⟩ := getF X0 hx hZ hown (host := "") (Or.inl (hw _ (List.mem_of_getElem? (i := 11) rfl))) Via.refl e0 P0 (g := (mkF m 1 #[.val (.ref ba), .val (.int (1 : Int32))] [(.ref ba)])) rfl rfl (hb hby d5_1)
  refine Go.step (T' := T172) (f' := (mkF m 4 #[.val (.ref ba), .val (.int (1 : Int32))] [(.ref bb)])) st172 ?_
  refine Go.step (T' := T172) (f' := (mkF m 5 #[.val (.ref ba), .val (.int (1 : Int32))] [(.int (1 : Int32)), (.ref bb)])) (fun t k => XS.iloadN X172.here hx rfl (hb hby d5_4) rfl k) ?_
  refine Go.step (T' := T172) (f' := (mkF m 7 #[.val (.ref ba), .val (.int (1 : Int32))] [(.int (14 : Int32)), (.int (1 : Int32)), (.ref bb)])) (fun t k => XS.bipush X172.here hx rfl (hb hby d5_5) k) ?_
  refine Go.step (T' := T172) (f' := (mkF m 8 #[.val (.ref ba), .val (.int (1 : Int32))] [(.int (((1 : Int32).toUInt32 >>> ((14 : Int32) &&& 31).toUInt32).toInt32)), (.ref bb)])) (fun t k => XS.iushr X172.here hx rfl (hb hby d5_7) rfl k) ?_
  rw [show (((1 : Int32).toUInt32 >>> ((14 : Int32) &&& 31).toUInt32).toInt32) = (0 : Int32) from by decide]
  obtain ⟨ca173, Aa173, qa173, Sa173, Na173, Ha173, Ga173⟩ := id P1
  have ia173 : ¬ ((0 : Int32) < 0 ∨ ca173.slots.size ≤ ((0 : Int32)).toNatClampNeg) := inb_of Sa173 ⟨by decide, by decide⟩
  have va173 := Ha173.at (v := (.ref bc)) ia173 rfl
  refine Go.step (T' := T172) (f' := (mkF m 9 #[.val (.ref ba), .val (.int (1 : Int32))] [(.ref bc)])) (fun t k => X172.aaload hx (j := (0 : Int32)) (v := (.ref bc)) (by rw [e172]; exact Aa173.1) (State.isArrayOf_alike hZ.alike Aa173.2.1) rfl Aa173.2.2 ia173 va173 (g := (mkF m 8 #[.val (.ref ba), .val (.int (1 : Int32))] [(.int (0 : Int32)), (.ref bb)])) rfl rfl (hb hby d5_8) t k) ?_
  refine Go.step (T' := T172) (f' := (mkF m 10 #[.val (.ref ba), .val (.int (1 : Int32))] [(.int (1 : Int32)), (.ref bc)])) (fun t k => XS.iloadN X172.here hx rfl (hb hby d5_9) rfl k) ?_
  refine Go.step (T' := T172) (f' := (mkF m 13 #[.val (.ref ba), .val (.int (1 : Int32))] [(.int (16383 : Int32)), (.int (1 : Int32)), (.ref bc)])) (fun t k => XS.sipush X172.here hx rfl (hb hby d5_10) k) ?_
  refine Go.step (T' := T172) (f' := (mkF m 14 #[.val (.ref ba), .val (.int (1 : Int32))] [(.int ((1 : Int32) &&& (16383 : Int32))), (.ref bc)])) (fun t k => XS.iand X172.here hx rfl (hb hby d5_13) rfl k) ?_
  rw [show ((1 : Int32) &&& (16383 : Int32)) = (1 : Int32) from by decide]
  obtain ⟨ca174, Aa174, qa174, Sa174, Na174, Ha174, Ga174⟩ := id P2
  have ia174 : ¬ ((1 : Int32) < 0 ∨ ca174.slots.size ≤ ((1 : Int32)).toNatClampNeg) := inb_of Sa174 ⟨by decide, by decide⟩
  have va174 := Ha174.at (v := (.int v1)) ia174 rfl
  refine Go.step (T' := T172) (f' := (mkF m 15 #[.val (.ref ba), .val (.int (1 : Int32))] [(.int v1)])) (fun t k => X172.iaload hx (j := (1 : Int32)) (v := (.int v1)) (by rw [e172]; exact Aa174.1) (State.isArrayOf_alike hZ.alike Aa174.2.1) Aa174.2.2 ia174 va174 (g := (mkF m 14 #[.val (.ref ba), .val (.int (1 : Int32))] [(.int (1 : Int32)), (.ref bc)])) rfl rfl (hb hby d5_14) t k) ?_
  refine Go.retI X172 hx hlk Bd.returns (hb hby d5_15) e172 ?_ (by decide) (by decide)
  exact ⟨rfl, N0, rfl⟩
theorem ef_get2 (m : MethodId) (ba : Addr) : entryFrame m #[(.ref ba), (.int (2 : Int32))] 2 = mkF m 0 #[.val (.ref ba), .val (.int (2 : Int32))] [] := by first | (simp [entryFrame, mkF, argsToLocals, Value.category]; done) | rfl
def Q_get2 (Z : State) (ba : Addr) (bb : Addr) (kb : ClassId) (bc : Addr) (kc : ClassId) (v0 : Int32) (v1 : Int32) (v2 : Int32) (h0 : Heap) (n0 : Nat) (v : Option Value) (h : Heap) (L : List Loc) : Prop := v = some (.int v2) ∧ Fr n0 L ∧ h = h0
set_option maxRecDepth 65536 in
set_option maxHeartbeats 40000000 in
theorem rm_get2 (l : Launch) (Z : State) (a0 : Array Value) (hw : ∀ d ∈ tables_1, d.before a0 Z = true) (ws : List Jvm.Cond) (ba : Addr) (bb : Addr) (kb : ClassId) (bc : Addr) (kc : ClassId) (v0 : Int32) (v1 : Int32) (v2 : Int32) (h0 : Heap) (n0 : Nat) (O0 : Old Z n0 h0) (P0 : Fld Z h0 ba "com/example/pin_to_part/pintopart/IntColumn" "chunks" "[[I" (.ref bb)) (P1 : Arv Z h0 bb kb (.array .int) (1 : Int32) [(.ref bc)] .null) (P2 : Arv Z h0 bc kc .int (16384 : Int32) [(.int v0), (.int v1), (.int v2)] (.int (0 : Int32))) :
    MetFree l (⟨"com/example/pin_to_part/pintopart/IntColumn", "get", "(I)I"⟩ : MethodName) (head1 (Jvm.Cond.code (⟨"com/example/pin_to_part/pintopart/IntColumn", "get", "(I)I"⟩ : MethodName) prog_19_method_4_code 2 (some .int) :: ws) ({ frames := 0, cells := 0, slots := 0, locals := 0 } : Room)) (fun a U => a = #[(.ref ba), (.int (2 : Int32))] ∧ Z.Warmed39 U.vm ∧ U.heap = h0) (fun _ _ _ _ _ => True) (fun _ U o U' => ∃ v L, o = .returned v ∧ Q_get2 Z ba bb kb bc kc v0 v1 v2 h0 n0 v U'.heap L ∧ FrameEnd U o U' L ({ frames := 0, cells := 0, slots := 0, locals := 0 } : Room).cells ({ frames := 0, cells := 0, slots := 0, locals := 0 } : Room).slots) := by
  refine MetFree.of_bodySF (plainFor_of_name pn_com_example_pin_to_part_pintopart_IntColumn) hisR ?_
  intro p e s m args below meth c s₁ Bd hml0 hP hK
  obtain ⟨rfl, hZ, hh⟩ := hP
  have hx := Bd.exec
  have hby := Bd.bytes
  have hml : c.maxLocals = 2 := hml0
  have hown : s.vm.findClass "com/example/pin_to_part/pintopart/IntColumn" = some m.cls := findClass_of_methodNamed Bd.named
  have hnm := (name_of_methodNamed Bd.named Bd.method).1
  have hlk : meth.locks = false := BodyLoose.notSynchronized Bd
  have X0 : Stand p l e ({ frames := 0, cells := 0, slots := 0, locals := 0 } : Room) s m #[(.ref ba), (.int (2 : Int32))] below meth c s₁ [] 0 0 := Stand.of_body Bd
  have e0 : s₁.heap = h0 := by rw [← hh, Bd.state]; rfl
  have N0 := Fr.nil n0
  rw [ef_get2 m ba]
  show Go p e below s (fun v h L => Q_get2 Z ba bb kb bc kc v0 v1 v2 h0 n0 v h L) ({ frames := 0, cells := 0, slots := 0, locals := 0 } : Room).cells ({ frames := 0, cells := 0, slots := 0, locals := 0 } : Room).slots s₁ (mkF m 0 #[.val (.ref ba), .val (.int (2 : Int32))] [])
  refine Go.step (T' := s₁) (f' := (mkF m 1 #[.val (.ref ba), .val (.int (2 : Int32))] [(.ref ba)])) (fun t k => XS.aloadN X0.here hx rfl (hb hby d5_0) rfl rfl k) ?_
  obtain ⟨T175, X175, e175, st175⟩ := getF X0 hx hZ hown (host := "") (Or.inl (hw _ (List.mem_of_getElem? (i := 11) rfl))) Via.refl e0 P0 (g := (mkF m 1 #[.val (.ref ba), .val (.int (2 : Int32))] [(.ref ba)])) rfl rfl (hb hby d5_1)
  refine Go.step (T' := T175) (f' := (mkF m 4 #[.val (.ref ba), .val (.int (2 : Int32))] [(.ref bb)])) st175 ?_
  refine Go.step (T' := T175) (f' := (mkF m 5 #[.val (.ref ba), .val (.int (2 : Int32))] [(.int (2 : Int32)), (.ref bb)])) (fun t k => XS.iloadN X175.here hx rfl (hb hby d5_4) rfl k) ?_
  refine Go.step (T' := T175) (f' := (mkF m 7 #[.val (.ref ba), .val (.int (2 : Int32))] [(.int (14 : Int32)), (.int (2 : Int32)), (.ref bb)])) (fun t k => XS.bipush X175.here hx rfl (hb hby d5_5) k) ?_
  refine Go.step (T' := T175) (f' := (mkF m 8 #[.val (.ref ba), .val (.int (2 : Int32))] [(.int (((2 : Int32).toUInt32 >>> ((14 : Int32) &&& 31).toUInt32).toInt32)), (.ref bb)])) (fun t k => XS.iushr X175.here hx rfl (hb hby d5_7) rfl k) ?_
  rw [show (((2 : Int32).toUInt32 >>> ((14 : Int32) &&& 31).toUInt32).toInt32) = (0 : Int32) from by decide]
  obtain ⟨ca176, Aa176, qa176, Sa176, Na176, Ha176, Ga176⟩ := id P1
  have ia176 : ¬ ((0 : Int32) < 0 ∨ ca176.slots.size ≤ ((0 : Int32)).toNatClampNeg) := inb_of Sa176 ⟨by decide, by decide⟩
  have va176 := Ha176.at (v := (.ref bc)) ia176 rfl
  refine Go.step (T' := T175) (f' := (mkF m 9 #[.val (.ref ba), .val (.int (2 : Int32))] [(.ref bc)])) (fun t k => X175.aaload hx (j := (0 : Int32)) (v := (.ref bc)) (by rw [e175]; exact Aa176.1) (State.isArrayOf_alike hZ.alike Aa176.2.1) rfl Aa176.2.2 ia176 va176 (g := (mkF m 8 #[.val (.ref ba), .val (.int (2 : Int32))] [(.int (0 : Int32)), (.ref bb)])) rfl rfl (hb hby d5_8) t k) ?_
  refine Go.step (T' := T175) (f' := (mkF m 10 #[.val (.ref ba), .val (.int (2 : Int32))] [(.int (2 : Int32)), (.ref bc)])) (fun t k => XS.iloadN X175.here hx rfl (hb hby d5_9) rfl k) ?_
  refine Go.step (T' := T175) (f' := (mkF m 13 #[.val (.ref ba), .val (.int (2 : Int32))] [(.int (16383 : Int32)), (.int (2 : Int32)), (.ref bc)])) (fun t k => XS.sipush X175.here hx rfl (hb hby d5_10) k) ?_
  refine Go.step (T' := T175) (f' := (mkF m 14 #[.val (.ref ba), .val (.int (2 : Int32))] [(.int ((2 : Int32) &&& (16383 : Int32))), (.ref bc)])) (fun t k => XS.iand X175.here hx rfl (hb hby d5_13) rfl k) ?_
  rw [show ((2 : Int32) &&& (16383 : Int32)) = (2 : Int32) from by decide]
  obtain ⟨ca177, Aa177, qa177, Sa177, Na177, Ha177, Ga177⟩ := id P2
  have ia177 : ¬ ((2 : Int32) < 0 ∨ ca177.slots.size ≤ ((2 : Int32)).toNatClampNeg) := inb_of Sa177 ⟨by decide, by decide⟩
  have va177 := Ha177.at (v := (.int v2)) ia177 rfl
  refine Go.step (T' := T175) (f' := (mkF m 15 #[.val (.ref ba), .val (.int (2 : Int32))] [(.int v2)])) (fun t k => X175.iaload hx (j := (2 : Int32)) (v := (.int v2)) (by rw [e175]; exact Aa177.1) (State.isArrayOf_alike hZ.alike Aa177.2.1) Aa177.2.2 ia177 va177 (g := (mkF m 14 #[.val (.ref ba), .val (.int (2 : Int32))] [(.int (2 : Int32)), (.ref bc)])) rfl rfl (hb hby d5_14) t k) ?_
  refine Go.retI X175 hx hlk Bd.returns (hb hby d5_15) e175 ?_ (by decide) (by decide)
  exact ⟨rfl, N0, rfl⟩
theorem pn_com_example_pin_to_part_pintopart_IntColumnGetPinLaw : plainName "com/example/pin_to_part/pintopart/IntColumnGetPinLaw" = true := by first | (simp [plainName, overriddenIn]; done) | decide +kernel
theorem pd0 : parseMethodDescriptor "()V" = some ⟨[], none⟩ := by decide +kernel
theorem pd1 : parseMethodDescriptor "(I)I" = some ⟨[.int], some .int⟩ := by decide +kernel
theorem pd2 : parseMethodDescriptor "(II)V" = some ⟨[.int, .int], none⟩ := by decide +kernel
theorem ef_law (m : MethodId) (ia : Int32) (ib : Int32) (ic : Int32) (ie : Int32) (ig : Int32) : entryFrame m #[(.int ia), (.int ib), (.int ic), (.int ie), (.int ig)] maxLocals = mkF m 0 #[.val (.int ia), .val (.int ib), .val (.int ic), .val (.int ie), .val (.int ig), .unset, .unset, .unset, .unset, .unset] [] := by first | (simp [entryFrame, mkF, argsToLocals, Value.category, maxLocals]; done) | rfl
def Q_law (Z : State) (ia : Int32) (ib : Int32) (ic : Int32) (ie : Int32) (ig : Int32) (h0 : Heap) (n0 : Nat) (v : Option Value) (h : Heap) (L : List Loc) : Prop := v = some (.int (1 : Int32)) ∧ Fr n0 L ∧ Keep h0 h []
set_option maxRecDepth 65536 in
set_option maxHeartbeats 40000000 in
theorem rm_law (l : Launch) (Z : State) (a0 : Array Value) (hw : ∀ d ∈ tables_1, d.before a0 Z = true) (ws : List Jvm.Cond) (ia : Int32) (ib : Int32) (ic : Int32) (ie : Int32) (ig : Int32) (h0 : Heap) (n0 : Nat) (O0 : Old Z n0 h0) :
    MetFree l x (head1 (Jvm.Cond.code x code maxLocals ret :: ws) room_1) (fun a U => a = #[(.int ia), (.int ib), (.int ic), (.int ie), (.int ig)] ∧ Z.Warmed39 U.vm ∧ U.heap = h0) (fun _ _ _ _ _ => True) (fun _ U o U' => ∃ v L, o = .returned v ∧ Q_law Z ia ib ic ie ig h0 n0 v U'.heap L ∧ FrameEnd U o U' L room_1.cells room_1.slots) := by
  refine MetFree.of_bodySF (plainFor_of_name pn_com_example_pin_to_part_pintopart_IntColumnGetPinLaw) hisR ?_
  intro p e s m args below meth c s₁ Bd hml0 hP hK
  obtain ⟨rfl, hZ, hh⟩ := hP
  have hx := Bd.exec
  have hby := Bd.bytes
  have hml : c.maxLocals = 10 := hml0
  have hown : s.vm.findClass "com/example/pin_to_part/pintopart/IntColumnGetPinLaw" = some m.cls := findClass_of_methodNamed Bd.named
  have hnm := (name_of_methodNamed Bd.named Bd.method).1
  have hlk : meth.locks = false := BodyLoose.notSynchronized Bd
  have X0 : Stand p l e room_1 s m #[(.int ia), (.int ib), (.int ic), (.int ie), (.int ig)] below meth c s₁ [] 0 0 := Stand.of_body Bd
  have e0 : s₁.heap = h0 := by rw [← hh, Bd.state]; rfl
  have N0 := Fr.nil n0
  have K0 := Keep.refl h0 []
  rw [ef_law m ia ib ic ie ig]
  show Go p e below s (fun v h L => Q_law Z ia ib ic ie ig h0 n0 v h L) room_1.cells room_1.slots s₁ (mkF m 0 #[.val (.int ia), .val (.int ib), .val (.int ic), .val (.int ie), .val (.int ig), .unset, .unset, .unset, .unset, .unset] [])
  obtain ⟨T178, h178, X178, e178, E178, A178, D178, -, st178⟩ := newO X0 hx hZ hown (hw _ (List.mem_of_getElem? (i := 0) rfl)) (hw _ (List.mem_of_getElem? (i := 1) rfl)) (hw _ (List.mem_of_getElem? (i := 2) rfl)) e0 (g := (mkF m 0 #[.val (.int ia), .val (.int ib), .val (.int ic), .val (.int ie), .val (.int ig), .unset, .unset, .unset, .unset, .unset] [])) rfl (hb hby at_0) (by decide) (by decide)
  obtain ⟨b178, g178⟩ : ∃ z, z = h0.size := ⟨_, rfl⟩
  rw [← g178] at A178 D178 st178
  have g179 : n0 ≤ b178 := Nat.le_trans (own_old_le O0) (Nat.le_of_eq g178.symm)
  have g180 : h0.size ≤ b178 := Nat.le_trans K0.1 (Nat.le_of_eq g178.symm)
  have O181 := O0.ext E178
  have K182 := K0.ext E178
  have f183 : Fld Z h178 b178 "com/example/pin_to_part/pintopart/IntColumn" "chunks" "[[I" .null := D178 (Or.inl (hw _ (List.mem_of_getElem? (i := 12) rfl))) (ty := (.array (.array .int))) (by decide)
  have f184 : Fld Z h178 b178 "com/example/pin_to_part/pintopart/IntColumn" "size" "I" (.int (0 : Int32)) := D178 (Or.inl (hw _ (List.mem_of_getElem? (i := 19) rfl))) (ty := .int) (by decide)
  refine Go.step (T' := T178) (f' := (mkF m 3 #[.val (.int ia), .val (.int ib), .val (.int ic), .val (.int ie), .val (.int ig), .unset, .unset, .unset, .unset, .unset] [(.ref b178)])) st178 ?_
  refine Go.step (T' := T178) (f' := (mkF m 4 #[.val (.int ia), .val (.int ib), .val (.int ic), .val (.int ie), .val (.int ig), .unset, .unset, .unset, .unset, .unset] [(.ref b178), (.ref b178)])) (fun t k => XS.dup X178.here hx rfl (hb hby at_3) rfl rfl k) ?_
  obtain ⟨_, _, ⟨T185, L185, k185, n185⟩, -, X185, ⟨Lc185, hQ185, l185, y185, z185⟩, st185⟩ := X178.specialBack hx (y := (⟨"com/example/pin_to_part/pintopart/IntColumn", "<init>", "()V"⟩ : MethodName)) rfl hown (mvT hZ (hw _ (List.mem_of_getElem? (i := 3) rfl))) (mvT hZ (hw _ (List.mem_of_getElem? (i := 4) rfl))) (mvT hZ (hw _ (List.mem_of_getElem? (i := 5) rfl))) (by decide) (backOf (W := 1) (rm_init l Z a0 hw [] b178 .null (.int (0 : Int32)) h178 n0 O181 A178 f183 f184 g179) hZ (hw _ (List.mem_of_getElem? (i := 5) rfl)) (hw _ (List.mem_of_getElem? (i := 2) rfl)) (by decide) (by decide)) (g := (mkF m 4 #[.val (.int ia), .val (.int ib), .val (.int ic), .val (.int ie), .val (.int ig), .unset, .unset, .unset, .unset, .unset] [(.ref b178), (.ref b178)])) rfl (by rw [hml]; rfl) (Steps.refl _) (a := b178) (argsL := []) (rest := [(.ref b178)]) (lenOf pd0 rfl) rfl (by show 2 * 0 + _ ≤ _; exact Nat.le_of_eq rfl) (hb hby at_4) (fun _ _ => ⟨rfl, e178, (by decide : 1 + 1 ≤ _), (by decide : 2 + 1 ≤ _)⟩)
  dsimp only [Pt.U, Pt.locs, Pt.cells, Pt.slots] at X185 l185 y185 z185 st185 hQ185
  subst l185 y185 z185
  obtain ⟨u186, u187, rfl, Nq185, hh185, p188, p189, p190, p191, p192, p193⟩ := hQ185
  have N194 := Fr.app N0 Nq185
  have f195 := A178.keep hh185
  have O196 := O181.keep hh185 (allS g179 all0)
  have K197 := K182.trans hh185 (allS (Or.inr g180) all0)
  have g198 : n0 ≤ u186 := Nat.le_trans (own_old_le O181) p191
  have g199 : h0.size ≤ u186 := Nat.le_trans K182.1 p191
  have ne200 : b178 ≠ u186 := Nat.ne_of_lt (Nat.lt_of_lt_of_le A178.lt p191)
  refine Go.via (T' := T185) (f' := (mkF m 7 #[.val (.int ia), .val (.int ib), .val (.int ic), .val (.int ie), .val (.int ig), .unset, .unset, .unset, .unset, .unset] [(.ref b178)])) st185 ?_
  refine Go.step (T' := T185) (f' := (mkF m 9 #[.val (.int ia), .val (.int ib), .val (.int ic), .val (.int ie), .val (.int ig), .val (.ref b178), .unset, .unset, .unset, .unset] [])) (fun t k => XS.astore X185.here hx rfl (hb hby at_7) rfl rfl (l' := #[.val (.int ia), .val (.int ib), .val (.int ic), .val (.int ie), .val (.int ig), .val (.ref b178), .unset, .unset, .unset, .unset]) rfl k) ?_
  refine Go.step (T' := T185) (f' := (mkF m 11 #[.val (.int ia), .val (.int ib), .val (.int ic), .val (.int ie), .val (.int ig), .val (.ref b178), .unset, .unset, .unset, .unset] [(.ref b178)])) (fun t k => XS.aload X185.here hx rfl (hb hby at_9) rfl rfl k) ?_
  refine Go.step (T' := T185) (f' := (mkF m 12 #[.val (.int ia), .val (.int ib), .val (.int ic), .val (.int ie), .val (.int ig), .val (.ref b178), .unset, .unset, .unset, .unset] [(.int ia), (.ref b178)])) (fun t k => XS.iloadN X185.here hx rfl (hb hby at_11) rfl k) ?_
  obtain ⟨cq201, kq201, q201a, q201b, q201c⟩ := isOf hZ rfl p188
  obtain ⟨_, _, ⟨T201, L201, k201, n201⟩, -, X201, ⟨Lc201, hQ201, l201, y201, z201⟩, st201⟩ := X185.virtualBack hx (y := (⟨"com/example/pin_to_part/pintopart/IntColumn", "add", "(I)I"⟩ : MethodName)) (z := (⟨"com/example/pin_to_part/pintopart/IntColumn", "add", "(I)I"⟩ : MethodName)) hown (mvT hZ (hw _ (List.mem_of_getElem? (i := 13) rfl))) (mvT hZ (hw _ (List.mem_of_getElem? (i := 14) rfl))) (notFace_of_selects (args := #[]) (mvT hZ (hw _ (List.mem_of_getElem? (i := 16) rfl)))) (mvT hZ (hw _ (List.mem_of_getElem? (i := 16) rfl))) (mvT hZ (hw _ (List.mem_of_getElem? (i := 15) rfl))) (by decide) (backOf (W := 0) (rm_add0 l Z a0 hw [] b178 ia u186 u187 T185.heap n0 O196 p188 p189 p190 p192 (by first | assumption | decide) g179 g198 ne200) hZ (hw _ (List.mem_of_getElem? (i := 17) rfl)) (hw _ (List.mem_of_getElem? (i := 2) rfl)) (by decide) (by decide)) q201a q201c (g := (mkF m 12 #[.val (.int ia), .val (.int ib), .val (.int ic), .val (.int ie), .val (.int ig), .val (.ref b178), .unset, .unset, .unset, .unset] [(.int ia), (.ref b178)])) rfl (by rw [hml]; rfl) (Steps.refl _) (argsL := [(.int ia)]) (rest := []) (lenOf pd1 rfl) rfl (by show 2 * 0 + _ ≤ _; exact Nat.le_of_eq rfl) (hb hby at_12) (fun _ _ => ⟨rfl, rfl, (by decide : 2 + 1 ≤ _), (by decide : 3 + 16384 ≤ _)⟩)
  dsimp only [Pt.U, Pt.locs, Pt.cells, Pt.slots] at X201 l201 y201 z201 st201 hQ201
  subst l201 y201 z201
  obtain ⟨u202, u203, rfl, Nq201, hh201, p204, p205, p206, p207, p208, p209⟩ := hQ201
  have N210 := Fr.app N194 Nq201
  have f211 := p188.keep hh201
  have O212 := O196.keep hh201 (allS g179 (allS g198 all0))
  have K213 := K197.trans hh201 (allS (Or.inr g180) (allS (Or.inr g199) all0))
  have g214 : n0 ≤ u202 := Nat.le_trans (own_old_le O196) p208
  have g215 : h0.size ≤ u202 := Nat.le_trans K197.1 p208
  have ne216 : b178 ≠ u202 := Nat.ne_of_lt (Nat.lt_of_lt_of_le p188.lt p208)
  have ne217 : u186 ≠ u202 := Nat.ne_of_lt (Nat.lt_of_lt_of_le p192.lt p208)
  refine Go.via (T' := T201) (f' := (mkF m 15 #[.val (.int ia), .val (.int ib), .val (.int ic), .val (.int ie), .val (.int ig), .val (.ref b178), .unset, .unset, .unset, .unset] [(.int (0 : Int32))])) st201 ?_
  refine Go.step (T' := T201) (f' := (mkF m 16 #[.val (.int ia), .val (.int ib), .val (.int ic), .val (.int ie), .val (.int ig), .val (.ref b178), .unset, .unset, .unset, .unset] [])) (fun t k => XS.pop X201.here hx rfl (hb hby at_15) rfl rfl k) ?_
  refine Go.step (T' := T201) (f' := (mkF m 18 #[.val (.int ia), .val (.int ib), .val (.int ic), .val (.int ie), .val (.int ig), .val (.ref b178), .unset, .unset, .unset, .unset] [(.ref b178)])) (fun t k => XS.aload X201.here hx rfl (hb hby at_16) rfl rfl k) ?_
  refine Go.step (T' := T201) (f' := (mkF m 19 #[.val (.int ia), .val (.int ib), .val (.int ic), .val (.int ie), .val (.int ig), .val (.ref b178), .unset, .unset, .unset, .unset] [(.int ib), (.ref b178)])) (fun t k => XS.iloadN X201.here hx rfl (hb hby at_18) rfl k) ?_
  obtain ⟨cq218, kq218, q218a, q218b, q218c⟩ := isOf hZ rfl p204
  obtain ⟨_, _, ⟨T218, L218, k218, n218⟩, -, X218, ⟨Lc218, hQ218, l218, y218, z218⟩, st218⟩ := X201.virtualBack hx (y := (⟨"com/example/pin_to_part/pintopart/IntColumn", "add", "(I)I"⟩ : MethodName)) (z := (⟨"com/example/pin_to_part/pintopart/IntColumn", "add", "(I)I"⟩ : MethodName)) hown (mvT hZ (hw _ (List.mem_of_getElem? (i := 13) rfl))) (mvT hZ (hw _ (List.mem_of_getElem? (i := 14) rfl))) (notFace_of_selects (args := #[]) (mvT hZ (hw _ (List.mem_of_getElem? (i := 16) rfl)))) (mvT hZ (hw _ (List.mem_of_getElem? (i := 16) rfl))) (mvT hZ (hw _ (List.mem_of_getElem? (i := 15) rfl))) (by decide) (backOf (W := 0) (rm_add1 l Z a0 hw [] b178 ib u186 u187 u202 u203 ia T201.heap n0 O212 p204 p205 p206 p207 p209 g179 g214 ne200 ne216 ne217) hZ (hw _ (List.mem_of_getElem? (i := 17) rfl)) (hw _ (List.mem_of_getElem? (i := 2) rfl)) (by decide) (by decide)) q218a q218c (g := (mkF m 19 #[.val (.int ia), .val (.int ib), .val (.int ic), .val (.int ie), .val (.int ig), .val (.ref b178), .unset, .unset, .unset, .unset] [(.int ib), (.ref b178)])) rfl (by rw [hml]; rfl) (Steps.refl _) (argsL := [(.int ib)]) (rest := []) (lenOf pd1 rfl) rfl (by show 2 * 0 + _ ≤ _; exact Nat.le_of_eq rfl) (hb hby at_19) (fun _ _ => ⟨rfl, rfl, (by decide : 3 + 0 ≤ _), (by decide : 16387 + 0 ≤ _)⟩)
  dsimp only [Pt.U, Pt.locs, Pt.cells, Pt.slots] at X218 l218 y218 z218 st218 hQ218
  subst l218 y218 z218
  obtain ⟨rfl, Nq218, hh218, p219, p220, p221, p222⟩ := hQ218
  have N223 := Fr.app N210 Nq218
  have f224 := p204.keep hh218
  have f225 := p207.keep hh218 (ninS (Ne.symm ne200) (ninS ne217 nin0))
  have O226 := O212.keep hh218 (allS g179 (allS g214 all0))
  have K227 := K213.trans hh218 (allS (Or.inr g180) (allS (Or.inr g215) all0))
  refine Go.via (T' := T218) (f' := (mkF m 22 #[.val (.int ia), .val (.int ib), .val (.int ic), .val (.int ie), .val (.int ig), .val (.ref b178), .unset, .unset, .unset, .unset] [(.int (1 : Int32))])) st218 ?_
  refine Go.step (T' := T218) (f' := (mkF m 23 #[.val (.int ia), .val (.int ib), .val (.int ic), .val (.int ie), .val (.int ig), .val (.ref b178), .unset, .unset, .unset, .unset] [])) (fun t k => XS.pop X218.here hx rfl (hb hby at_22) rfl rfl k) ?_
  refine Go.step (T' := T218) (f' := (mkF m 25 #[.val (.int ia), .val (.int ib), .val (.int ic), .val (.int ie), .val (.int ig), .val (.ref b178), .unset, .unset, .unset, .unset] [(.ref b178)])) (fun t k => XS.aload X218.here hx rfl (hb hby at_23) rfl rfl k) ?_
  refine Go.step (T' := T218) (f' := (mkF m 26 #[.val (.int ia), .val (.int ib), .val (.int ic), .val (.int ie), .val (.int ig), .val (.ref b178), .unset, .unset, .unset, .unset] [(.int ic), (.ref b178)])) (fun t k => XS.iloadN X218.here hx rfl (hb hby at_25) rfl k) ?_
  obtain ⟨cq228, kq228, q228a, q228b, q228c⟩ := isOf hZ rfl p219
  obtain ⟨_, _, ⟨T228, L228, k228, n228⟩, -, X228, ⟨Lc228, hQ228, l228, y228, z228⟩, st228⟩ := X218.virtualBack hx (y := (⟨"com/example/pin_to_part/pintopart/IntColumn", "add", "(I)I"⟩ : MethodName)) (z := (⟨"com/example/pin_to_part/pintopart/IntColumn", "add", "(I)I"⟩ : MethodName)) hown (mvT hZ (hw _ (List.mem_of_getElem? (i := 13) rfl))) (mvT hZ (hw _ (List.mem_of_getElem? (i := 14) rfl))) (notFace_of_selects (args := #[]) (mvT hZ (hw _ (List.mem_of_getElem? (i := 16) rfl)))) (mvT hZ (hw _ (List.mem_of_getElem? (i := 16) rfl))) (mvT hZ (hw _ (List.mem_of_getElem? (i := 15) rfl))) (by decide) (backOf (W := 0) (rm_add2 l Z a0 hw [] b178 ic u186 u187 u202 u203 ia ib T218.heap n0 O226 p219 p220 p221 f225 p222 g179 g214 ne200 ne216 ne217) hZ (hw _ (List.mem_of_getElem? (i := 17) rfl)) (hw _ (List.mem_of_getElem? (i := 2) rfl)) (by decide) (by decide)) q228a q228c (g := (mkF m 26 #[.val (.int ia), .val (.int ib), .val (.int ic), .val (.int ie), .val (.int ig), .val (.ref b178), .unset, .unset, .unset, .unset] [(.int ic), (.ref b178)])) rfl (by rw [hml]; rfl) (Steps.refl _) (argsL := [(.int ic)]) (rest := []) (lenOf pd1 rfl) rfl (by show 2 * 0 + _ ≤ _; exact Nat.le_of_eq rfl) (hb hby at_26) (fun _ _ => ⟨rfl, rfl, (by decide : 3 + 0 ≤ _), (by decide : 16387 + 0 ≤ _)⟩)
  dsimp only [Pt.U, Pt.locs, Pt.cells, Pt.slots] at X228 l228 y228 z228 st228 hQ228
  subst l228 y228 z228
  obtain ⟨rfl, Nq228, hh228, p229, p230, p231, p232⟩ := hQ228
  have N233 := Fr.app N223 Nq228
  have f234 := p219.keep hh228
  have f235 := f225.keep hh228 (ninS (Ne.symm ne200) (ninS ne217 nin0))
  have O236 := O226.keep hh228 (allS g179 (allS g214 all0))
  have K237 := K227.trans hh228 (allS (Or.inr g180) (allS (Or.inr g215) all0))
  refine Go.via (T' := T228) (f' := (mkF m 29 #[.val (.int ia), .val (.int ib), .val (.int ic), .val (.int ie), .val (.int ig), .val (.ref b178), .unset, .unset, .unset, .unset] [(.int (2 : Int32))])) st228 ?_
  refine Go.step (T' := T228) (f' := (mkF m 30 #[.val (.int ia), .val (.int ib), .val (.int ic), .val (.int ie), .val (.int ig), .val (.ref b178), .unset, .unset, .unset, .unset] [])) (fun t k => XS.pop X228.here hx rfl (hb hby at_29) rfl rfl k) ?_
  refine Go.step (T' := T228) (f' := (mkF m 32 #[.val (.int ia), .val (.int ib), .val (.int ic), .val (.int ie), .val (.int ig), .val (.ref b178), .unset, .unset, .unset, .unset] [(.int ig)])) (fun t k => XS.iload X228.here hx rfl (hb hby at_30) rfl k) ?_
  refine Go.step (T' := T228) (f' := (mkF m 34 #[.val (.int ia), .val (.int ib), .val (.int ic), .val (.int ie), .val (.int ig), .val (.ref b178), .unset, .unset, .unset, .unset] [(.int (2147483647 : Int32)), (.int ig)])) (fun t k => X228.ldcInt hx hown (mvT hZ (hw _ (List.mem_of_getElem? (i := 23) rfl))) (g := (mkF m 32 #[.val (.int ia), .val (.int ib), .val (.int ic), .val (.int ie), .val (.int ig), .val (.ref b178), .unset, .unset, .unset, .unset] [(.int ig)])) rfl (hb hby at_32) t k) ?_
  refine Go.step (T' := T228) (f' := (mkF m 35 #[.val (.int ia), .val (.int ib), .val (.int ic), .val (.int ie), .val (.int ig), .val (.ref b178), .unset, .unset, .unset, .unset] [(.int (ig &&& (2147483647 : Int32)))])) (fun t k => XS.iand X228.here hx rfl (hb hby at_34) rfl k) ?_
  refine Go.step (T' := T228) (f' := (mkF m 36 #[.val (.int ia), .val (.int ib), .val (.int ic), .val (.int ie), .val (.int ig), .val (.ref b178), .unset, .unset, .unset, .unset] [(.int (4 : Int32)), (.int (ig &&& (2147483647 : Int32)))])) (fun t k => XS.iconst X228.here hx rfl (hb hby at_35) k) ?_
  refine Go.step (T' := T228) (f' := (mkF m 37 #[.val (.int ia), .val (.int ib), .val (.int ic), .val (.int ie), .val (.int ig), .val (.ref b178), .unset, .unset, .unset, .unset] [(.int ((ig &&& (2147483647 : Int32)) % (4 : Int32)))])) (fun t k => iremM X228 hx rfl (hb hby at_36) rfl (by decide) k) ?_
  refine Go.step (T' := T228) (f' := (mkF m 39 #[.val (.int ia), .val (.int ib), .val (.int ic), .val (.int ie), .val (.int ig), .val (.ref b178), .val (.int ((ig &&& (2147483647 : Int32)) % (4 : Int32))), .unset, .unset, .unset] [])) (fun t k => XS.istore X228.here hx rfl (hb hby at_37) rfl (l' := #[.val (.int ia), .val (.int ib), .val (.int ic), .val (.int ie), .val (.int ig), .val (.ref b178), .val (.int ((ig &&& (2147483647 : Int32)) % (4 : Int32))), .unset, .unset, .unset]) rfl k) ?_
  rcases own_m4 ig with hs238 | hs238 | hs238 | hs238
  ·
    rw [hs238]
    refine Go.step (T' := T228) (f' := (mkF m 41 #[.val (.int ia), .val (.int ib), .val (.int ic), .val (.int ie), .val (.int ig), .val (.ref b178), .val (.int (0 : Int32)), .unset, .unset, .unset] [(.int (0 : Int32))])) (fun t k => XS.iload X228.here hx rfl (hb hby at_39) rfl k) ?_
    refine Go.step (T' := T228) (f' := (mkF m 42 #[.val (.int ia), .val (.int ib), .val (.int ic), .val (.int ie), .val (.int ig), .val (.ref b178), .val (.int (0 : Int32)), .unset, .unset, .unset] [(.int (3 : Int32)), (.int (0 : Int32))])) (fun t k => XS.iconst X228.here hx rfl (hb hby at_41) k) ?_
    refine Go.step (T' := T228) (f' := (mkF m 45 #[.val (.int ia), .val (.int ib), .val (.int ic), .val (.int ie), .val (.int ig), .val (.ref b178), .val (.int (0 : Int32)), .unset, .unset, .unset] [])) (fun t k => XS.icmpNo X228.here hx rfl (hb hby at_42) rfl (tlt (by decide : (0 : Int32) < (3 : Int32))).2.1 k) ?_
    refine Go.step (T' := T228) (f' := (mkF m 47 #[.val (.int ia), .val (.int ib), .val (.int ic), .val (.int ie), .val (.int ig), .val (.ref b178), .val (.int (0 : Int32)), .unset, .unset, .unset] [(.ref b178)])) (fun t k => XS.aload X228.here hx rfl (hb hby at_45) rfl rfl k) ?_
    refine Go.step (T' := T228) (f' := (mkF m 49 #[.val (.int ia), .val (.int ib), .val (.int ic), .val (.int ie), .val (.int ig), .val (.ref b178), .val (.int (0 : Int32)), .unset, .unset, .unset] [(.int (0 : Int32)), (.ref b178)])) (fun t k => XS.iload X228.here hx rfl (hb hby at_47) rfl k) ?_
    refine Go.step (T' := T228) (f' := (mkF m 50 #[.val (.int ia), .val (.int ib), .val (.int ic), .val (.int ie), .val (.int ig), .val (.ref b178), .val (.int (0 : Int32)), .unset, .unset, .unset] [(.int ie), (.int (0 : Int32)), (.ref b178)])) (fun t k => XS.iloadN X228.here hx rfl (hb hby at_49) rfl k) ?_
    obtain ⟨cq239, kq239, q239a, q239b, q239c⟩ := isOf hZ rfl p229
    obtain ⟨_, _, ⟨T239, L239, k239, n239⟩, -, X239, ⟨Lc239, hQ239, l239, y239, z239⟩, st239⟩ := X228.virtualBack hx (y := (⟨"com/example/pin_to_part/pintopart/IntColumn", "set", "(II)V"⟩ : MethodName)) (z := (⟨"com/example/pin_to_part/pintopart/IntColumn", "set", "(II)V"⟩ : MethodName)) hown (mvT hZ (hw _ (List.mem_of_getElem? (i := 24) rfl))) (mvT hZ (hw _ (List.mem_of_getElem? (i := 25) rfl))) (notFace_of_selects (args := #[]) (mvT hZ (hw _ (List.mem_of_getElem? (i := 27) rfl)))) (mvT hZ (hw _ (List.mem_of_getElem? (i := 27) rfl))) (mvT hZ (hw _ (List.mem_of_getElem? (i := 26) rfl))) (by decide) (backOf (W := 0) (rm_set0 l Z a0 hw [] b178 ie u186 u187 u202 u203 ia ib ic T228.heap n0 O236 p230 f235 p232 g214 ne216 ne217) hZ (hw _ (List.mem_of_getElem? (i := 28) rfl)) (hw _ (List.mem_of_getElem? (i := 2) rfl)) (by decide) (by decide)) q239a q239c (g := (mkF m 50 #[.val (.int ia), .val (.int ib), .val (.int ic), .val (.int ie), .val (.int ig), .val (.ref b178), .val (.int (0 : Int32)), .unset, .unset, .unset] [(.int ie), (.int (0 : Int32)), (.ref b178)])) rfl (by rw [hml]; rfl) (Steps.refl _) (argsL := [(.int (0 : Int32)), (.int ie)]) (rest := []) (lenOf pd2 rfl) rfl (by show 2 * 0 + _ ≤ _; exact Nat.le_of_eq rfl) (hb hby at_50) (fun _ _ => ⟨rfl, rfl, (by decide : 3 + 0 ≤ _), (by decide : 16387 + 0 ≤ _)⟩)
    dsimp only [Pt.U, Pt.locs, Pt.cells, Pt.slots] at X239 l239 y239 z239 st239 hQ239
    subst l239 y239 z239
    obtain ⟨rfl, Nq239, hh239, p240⟩ := hQ239
    have N241 := Fr.app N233 Nq239
    have f242 := p229.keep hh239
    have f243 := f235.keep hh239 (ninS ne217 nin0)
    have f244 := p230.keep hh239 (ninS ne216 nin0)
    have f245 := p231.keep hh239 (ninS ne216 nin0)
    have O246 := O236.keep hh239 (allS g214 all0)
    have K247 := K237.trans hh239 (allS (Or.inr g215) all0)
    refine Go.via (T' := T239) (f' := (mkF m 53 #[.val (.int ia), .val (.int ib), .val (.int ic), .val (.int ie), .val (.int ig), .val (.ref b178), .val (.int (0 : Int32)), .unset, .unset, .unset] [])) st239 ?_
    refine Go.step (T' := T239) (f' := (mkF m 55 #[.val (.int ia), .val (.int ib), .val (.int ic), .val (.int ie), .val (.int ig), .val (.ref b178), .val (.int (0 : Int32)), .unset, .unset, .unset] [(.int (0 : Int32))])) (fun t k => XS.iload X239.here hx rfl (hb hby at_53) rfl k) ?_
    refine Go.step (T' := T239) (f' := (mkF m 58 #[.val (.int ia), .val (.int ib), .val (.int ic), .val (.int ie), .val (.int ig), .val (.ref b178), .val (.int (0 : Int32)), .unset, .unset, .unset] [])) (fun t k => XS.ifNo X239.here hx rfl (hb hby at_55) rfl ((if0 _ _).trans (teq (by decide : (0 : Int32) = (0 : Int32))).2) k) ?_
    refine Go.step (T' := T239) (f' := (mkF m 59 #[.val (.int ia), .val (.int ib), .val (.int ic), .val (.int ie), .val (.int ig), .val (.ref b178), .val (.int (0 : Int32)), .unset, .unset, .unset] [(.int ie)])) (fun t k => XS.iloadN X239.here hx rfl (hb hby at_58) rfl k) ?_
    refine Go.step (T' := T239) (f' := (mkF m 63 #[.val (.int ia), .val (.int ib), .val (.int ic), .val (.int ie), .val (.int ig), .val (.ref b178), .val (.int (0 : Int32)), .unset, .unset, .unset] [(.int ie)])) (fun t k => XS.goto X239.here hx rfl (pc0 := 59) (pc' := 63) rfl (hb hby at_59) (by decide) (by decide) k) ?_
    refine Go.step (T' := T239) (f' := (mkF m 65 #[.val (.int ia), .val (.int ib), .val (.int ic), .val (.int ie), .val (.int ig), .val (.ref b178), .val (.int (0 : Int32)), .val (.int ie), .unset, .unset] [])) (fun t k => XS.istore X239.here hx rfl (hb hby at_63) rfl (l' := #[.val (.int ia), .val (.int ib), .val (.int ic), .val (.int ie), .val (.int ig), .val (.ref b178), .val (.int (0 : Int32)), .val (.int ie), .unset, .unset]) rfl k) ?_
    refine Go.step (T' := T239) (f' := (mkF m 67 #[.val (.int ia), .val (.int ib), .val (.int ic), .val (.int ie), .val (.int ig), .val (.ref b178), .val (.int (0 : Int32)), .val (.int ie), .unset, .unset] [(.int (0 : Int32))])) (fun t k => XS.iload X239.here hx rfl (hb hby at_65) rfl k) ?_
    refine Go.step (T' := T239) (f' := (mkF m 68 #[.val (.int ia), .val (.int ib), .val (.int ic), .val (.int ie), .val (.int ig), .val (.ref b178), .val (.int (0 : Int32)), .val (.int ie), .unset, .unset] [(.int (1 : Int32)), (.int (0 : Int32))])) (fun t k => XS.iconst X239.here hx rfl (hb hby at_67) k) ?_
    refine Go.step (T' := T239) (f' := (mkF m 75 #[.val (.int ia), .val (.int ib), .val (.int ic), .val (.int ie), .val (.int ig), .val (.ref b178), .val (.int (0 : Int32)), .val (.int ie), .unset, .unset] [])) (fun t k => XS.icmpYes X239.here hx rfl (pc0 := 68) (pc' := 75) rfl (hb hby at_68) rfl (feq (by decide : ¬ ((0 : Int32) = (1 : Int32)))).2 (by decide) (by decide) k) ?_
    refine Go.step (T' := T239) (f' := (mkF m 76 #[.val (.int ia), .val (.int ib), .val (.int ic), .val (.int ie), .val (.int ig), .val (.ref b178), .val (.int (0 : Int32)), .val (.int ie), .unset, .unset] [(.int ib)])) (fun t k => XS.iloadN X239.here hx rfl (hb hby at_75) rfl k) ?_
    refine Go.step (T' := T239) (f' := (mkF m 78 #[.val (.int ia), .val (.int ib), .val (.int ic), .val (.int ie), .val (.int ig), .val (.ref b178), .val (.int (0 : Int32)), .val (.int ie), .val (.int ib), .unset] [])) (fun t k => XS.istore X239.here hx rfl (hb hby at_76) rfl (l' := #[.val (.int ia), .val (.int ib), .val (.int ic), .val (.int ie), .val (.int ig), .val (.ref b178), .val (.int (0 : Int32)), .val (.int ie), .val (.int ib), .unset]) rfl k) ?_
    refine Go.step (T' := T239) (f' := (mkF m 80 #[.val (.int ia), .val (.int ib), .val (.int ic), .val (.int ie), .val (.int ig), .val (.ref b178), .val (.int (0 : Int32)), .val (.int ie), .val (.int ib), .unset] [(.int (0 : Int32))])) (fun t k => XS.iload X239.here hx rfl (hb hby at_78) rfl k) ?_
    refine Go.step (T' := T239) (f' := (mkF m 81 #[.val (.int ia), .val (.int ib), .val (.int ic), .val (.int ie), .val (.int ig), .val (.ref b178), .val (.int (0 : Int32)), .val (.int ie), .val (.int ib), .unset] [(.int (2 : Int32)), (.int (0 : Int32))])) (fun t k => XS.iconst X239.here hx rfl (hb hby at_80) k) ?_
    refine Go.step (T' := T239) (f' := (mkF m 88 #[.val (.int ia), .val (.int ib), .val (.int ic), .val (.int ie), .val (.int ig), .val (.ref b178), .val (.int (0 : Int32)), .val (.int ie), .val (.int ib), .unset] [])) (fun t k => XS.icmpYes X239.here hx rfl (pc0 := 81) (pc' := 88) rfl (hb hby at_81) rfl (feq (by decide : ¬ ((0 : Int32) = (2 : Int32)))).2 (by decide) (by decide) k) ?_
    refine Go.step (T' := T239) (f' := (mkF m 89 #[.val (.int ia), .val (.int ib), .val (.int ic), .val (.int ie), .val (.int ig), .val (.ref b178), .val (.int (0 : Int32)), .val (.int ie), .val (.int ib), .unset] [(.int ic)])) (fun t k => XS.iloadN X239.here hx rfl (hb hby at_88) rfl k) ?_
    refine Go.step (T' := T239) (f' := (mkF m 91 #[.val (.int ia), .val (.int ib), .val (.int ic), .val (.int ie), .val (.int ig), .val (.ref b178), .val (.int (0 : Int32)), .val (.int ie), .val (.int ib), .val (.int ic)] [])) (fun t k => XS.istore X239.here hx rfl (hb hby at_89) rfl (l' := #[.val (.int ia), .val (.int ib), .val (.int ic), .val (.int ie), .val (.int ig), .val (.ref b178), .val (.int (0 : Int32)), .val (.int ie), .val (.int ib), .val (.int ic)]) rfl k) ?_
    refine Go.step (T' := T239) (f' := (mkF m 93 #[.val (.int ia), .val (.int ib), .val (.int ic), .val (.int ie), .val (.int ig), .val (.ref b178), .val (.int (0 : Int32)), .val (.int ie), .val (.int ib), .val (.int ic)] [(.ref b178)])) (fun t k => XS.aload X239.here hx rfl (hb hby at_91) rfl rfl k) ?_
    refine Go.step (T' := T239) (f' := (mkF m 94 #[.val (.int ia), .val (.int ib), .val (.int ic), .val (.int ie), .val (.int ig), .val (.ref b178), .val (.int (0 : Int32)), .val (.int ie), .val (.int ib), .val (.int ic)] [(.int (0 : Int32)), (.ref b178)])) (fun t k => XS.iconst X239.here hx rfl (hb hby at_93) k) ?_
    obtain ⟨cq248, kq248, q248a, q248b, q248c⟩ := isOf hZ rfl f242
    obtain ⟨_, _, ⟨T248, L248, k248, n248⟩, -, X248, ⟨Lc248, hQ248, l248, y248, z248⟩, st248⟩ := X239.virtualBack hx (y := (⟨"com/example/pin_to_part/pintopart/IntColumn", "get", "(I)I"⟩ : MethodName)) (z := (⟨"com/example/pin_to_part/pintopart/IntColumn", "get", "(I)I"⟩ : MethodName)) hown (mvT hZ (hw _ (List.mem_of_getElem? (i := 29) rfl))) (mvT hZ (hw _ (List.mem_of_getElem? (i := 30) rfl))) (notFace_of_selects (args := #[]) (mvT hZ (hw _ (List.mem_of_getElem? (i := 32) rfl)))) (mvT hZ (hw _ (List.mem_of_getElem? (i := 32) rfl))) (mvT hZ (hw _ (List.mem_of_getElem? (i := 31) rfl))) (by decide) (backOf (W := 0) (rm_get0 l Z a0 hw [] b178 u186 u187 u202 u203 ie ib ic T239.heap n0 O246 f244 f243 p240) hZ (hw _ (List.mem_of_getElem? (i := 33) rfl)) (hw _ (List.mem_of_getElem? (i := 2) rfl)) (by decide) (by decide)) q248a q248c (g := (mkF m 94 #[.val (.int ia), .val (.int ib), .val (.int ic), .val (.int ie), .val (.int ig), .val (.ref b178), .val (.int (0 : Int32)), .val (.int ie), .val (.int ib), .val (.int ic)] [(.int (0 : Int32)), (.ref b178)])) rfl (by rw [hml]; rfl) (Steps.refl _) (argsL := [(.int (0 : Int32))]) (rest := []) (lenOf pd1 rfl) rfl (by show 2 * 0 + _ ≤ _; exact Nat.le_of_eq rfl) (hb hby at_94) (fun _ _ => ⟨rfl, rfl, (by decide : 3 + 0 ≤ _), (by decide : 16387 + 0 ≤ _)⟩)
    dsimp only [Pt.U, Pt.locs, Pt.cells, Pt.slots] at X248 l248 y248 z248 st248 hQ248
    subst l248 y248 z248
    obtain ⟨rfl, Nq248, hh248⟩ := hQ248
    have N249 := Fr.app N241 Nq248
    refine Go.via (T' := T248) (f' := (mkF m 97 #[.val (.int ia), .val (.int ib), .val (.int ic), .val (.int ie), .val (.int ig), .val (.ref b178), .val (.int (0 : Int32)), .val (.int ie), .val (.int ib), .val (.int ic)] [(.int ie)])) st248 ?_
    refine Go.step (T' := T248) (f' := (mkF m 99 #[.val (.int ia), .val (.int ib), .val (.int ic), .val (.int ie), .val (.int ig), .val (.ref b178), .val (.int (0 : Int32)), .val (.int ie), .val (.int ib), .val (.int ic)] [(.int ie), (.int ie)])) (fun t k => XS.iload X248.here hx rfl (hb hby at_97) rfl k) ?_
    refine Go.step (T' := T248) (f' := (mkF m 102 #[.val (.int ia), .val (.int ib), .val (.int ic), .val (.int ie), .val (.int ig), .val (.ref b178), .val (.int (0 : Int32)), .val (.int ie), .val (.int ib), .val (.int ic)] [])) (fun t k => XS.icmpNo X248.here hx rfl (hb hby at_99) rfl (teq (rfl : ie = ie)).2 k) ?_
    refine Go.step (T' := T248) (f' := (mkF m 104 #[.val (.int ia), .val (.int ib), .val (.int ic), .val (.int ie), .val (.int ig), .val (.ref b178), .val (.int (0 : Int32)), .val (.int ie), .val (.int ib), .val (.int ic)] [(.ref b178)])) (fun t k => XS.aload X248.here hx rfl (hb hby at_102) rfl rfl k) ?_
    refine Go.step (T' := T248) (f' := (mkF m 105 #[.val (.int ia), .val (.int ib), .val (.int ic), .val (.int ie), .val (.int ig), .val (.ref b178), .val (.int (0 : Int32)), .val (.int ie), .val (.int ib), .val (.int ic)] [(.int (1 : Int32)), (.ref b178)])) (fun t k => XS.iconst X248.here hx rfl (hb hby at_104) k) ?_
    obtain ⟨cq250, kq250, q250a, q250b, q250c⟩ := isOf hZ hh248 f242
    obtain ⟨_, _, ⟨T250, L250, k250, n250⟩, -, X250, ⟨Lc250, hQ250, l250, y250, z250⟩, st250⟩ := X248.virtualBack hx (y := (⟨"com/example/pin_to_part/pintopart/IntColumn", "get", "(I)I"⟩ : MethodName)) (z := (⟨"com/example/pin_to_part/pintopart/IntColumn", "get", "(I)I"⟩ : MethodName)) hown (mvT hZ (hw _ (List.mem_of_getElem? (i := 29) rfl))) (mvT hZ (hw _ (List.mem_of_getElem? (i := 30) rfl))) (notFace_of_selects (args := #[]) (mvT hZ (hw _ (List.mem_of_getElem? (i := 32) rfl)))) (mvT hZ (hw _ (List.mem_of_getElem? (i := 32) rfl))) (mvT hZ (hw _ (List.mem_of_getElem? (i := 31) rfl))) (by decide) (backOf (W := 0) (rm_get1 l Z a0 hw [] b178 u186 u187 u202 u203 ie ib ic T239.heap n0 O246 f244 f243 p240) hZ (hw _ (List.mem_of_getElem? (i := 33) rfl)) (hw _ (List.mem_of_getElem? (i := 2) rfl)) (by decide) (by decide)) q250a q250c (g := (mkF m 105 #[.val (.int ia), .val (.int ib), .val (.int ic), .val (.int ie), .val (.int ig), .val (.ref b178), .val (.int (0 : Int32)), .val (.int ie), .val (.int ib), .val (.int ic)] [(.int (1 : Int32)), (.ref b178)])) rfl (by rw [hml]; rfl) (Steps.refl _) (argsL := [(.int (1 : Int32))]) (rest := []) (lenOf pd1 rfl) rfl (by show 2 * 0 + _ ≤ _; exact Nat.le_of_eq rfl) (hb hby at_105) (fun _ _ => ⟨rfl, hh248, (by decide : 3 + 0 ≤ _), (by decide : 16387 + 0 ≤ _)⟩)
    dsimp only [Pt.U, Pt.locs, Pt.cells, Pt.slots] at X250 l250 y250 z250 st250 hQ250
    subst l250 y250 z250
    obtain ⟨rfl, Nq250, hh250⟩ := hQ250
    have N251 := Fr.app N249 Nq250
    refine Go.via (T' := T250) (f' := (mkF m 108 #[.val (.int ia), .val (.int ib), .val (.int ic), .val (.int ie), .val (.int ig), .val (.ref b178), .val (.int (0 : Int32)), .val (.int ie), .val (.int ib), .val (.int ic)] [(.int ib)])) st250 ?_
    refine Go.step (T' := T250) (f' := (mkF m 110 #[.val (.int ia), .val (.int ib), .val (.int ic), .val (.int ie), .val (.int ig), .val (.ref b178), .val (.int (0 : Int32)), .val (.int ie), .val (.int ib), .val (.int ic)] [(.int ib), (.int ib)])) (fun t k => XS.iload X250.here hx rfl (hb hby at_108) rfl k) ?_
    refine Go.step (T' := T250) (f' := (mkF m 113 #[.val (.int ia), .val (.int ib), .val (.int ic), .val (.int ie), .val (.int ig), .val (.ref b178), .val (.int (0 : Int32)), .val (.int ie), .val (.int ib), .val (.int ic)] [])) (fun t k => XS.icmpNo X250.here hx rfl (hb hby at_110) rfl (teq (rfl : ib = ib)).2 k) ?_
    refine Go.step (T' := T250) (f' := (mkF m 115 #[.val (.int ia), .val (.int ib), .val (.int ic), .val (.int ie), .val (.int ig), .val (.ref b178), .val (.int (0 : Int32)), .val (.int ie), .val (.int ib), .val (.int ic)] [(.ref b178)])) (fun t k => XS.aload X250.here hx rfl (hb hby at_113) rfl rfl k) ?_
    refine Go.step (T' := T250) (f' := (mkF m 116 #[.val (.int ia), .val (.int ib), .val (.int ic), .val (.int ie), .val (.int ig), .val (.ref b178), .val (.int (0 : Int32)), .val (.int ie), .val (.int ib), .val (.int ic)] [(.int (2 : Int32)), (.ref b178)])) (fun t k => XS.iconst X250.here hx rfl (hb hby at_115) k) ?_
    obtain ⟨cq252, kq252, q252a, q252b, q252c⟩ := isOf hZ hh250 f242
    obtain ⟨_, _, ⟨T252, L252, k252, n252⟩, -, X252, ⟨Lc252, hQ252, l252, y252, z252⟩, st252⟩ := X250.virtualBack hx (y := (⟨"com/example/pin_to_part/pintopart/IntColumn", "get", "(I)I"⟩ : MethodName)) (z := (⟨"com/example/pin_to_part/pintopart/IntColumn", "get", "(I)I"⟩ : MethodName)) hown (mvT hZ (hw _ (List.mem_of_getElem? (i := 29) rfl))) (mvT hZ (hw _ (List.mem_of_getElem? (i := 30) rfl))) (notFace_of_selects (args := #[]) (mvT hZ (hw _ (List.mem_of_getElem? (i := 32) rfl)))) (mvT hZ (hw _ (List.mem_of_getElem? (i := 32) rfl))) (mvT hZ (hw _ (List.mem_of_getElem? (i := 31) rfl))) (by decide) (backOf (W := 0) (rm_get2 l Z a0 hw [] b178 u186 u187 u202 u203 ie ib ic T239.heap n0 O246 f244 f243 p240) hZ (hw _ (List.mem_of_getElem? (i := 33) rfl)) (hw _ (List.mem_of_getElem? (i := 2) rfl)) (by decide) (by decide)) q252a q252c (g := (mkF m 116 #[.val (.int ia), .val (.int ib), .val (.int ic), .val (.int ie), .val (.int ig), .val (.ref b178), .val (.int (0 : Int32)), .val (.int ie), .val (.int ib), .val (.int ic)] [(.int (2 : Int32)), (.ref b178)])) rfl (by rw [hml]; rfl) (Steps.refl _) (argsL := [(.int (2 : Int32))]) (rest := []) (lenOf pd1 rfl) rfl (by show 2 * 0 + _ ≤ _; exact Nat.le_of_eq rfl) (hb hby at_116) (fun _ _ => ⟨rfl, hh250, (by decide : 3 + 0 ≤ _), (by decide : 16387 + 0 ≤ _)⟩)
    dsimp only [Pt.U, Pt.locs, Pt.cells, Pt.slots] at X252 l252 y252 z252 st252 hQ252
    subst l252 y252 z252
    obtain ⟨rfl, Nq252, hh252⟩ := hQ252
    have N253 := Fr.app N251 Nq252
    refine Go.via (T' := T252) (f' := (mkF m 119 #[.val (.int ia), .val (.int ib), .val (.int ic), .val (.int ie), .val (.int ig), .val (.ref b178), .val (.int (0 : Int32)), .val (.int ie), .val (.int ib), .val (.int ic)] [(.int ic)])) st252 ?_
    refine Go.step (T' := T252) (f' := (mkF m 121 #[.val (.int ia), .val (.int ib), .val (.int ic), .val (.int ie), .val (.int ig), .val (.ref b178), .val (.int (0 : Int32)), .val (.int ie), .val (.int ib), .val (.int ic)] [(.int ic), (.int ic)])) (fun t k => XS.iload X252.here hx rfl (hb hby at_119) rfl k) ?_
    refine Go.step (T' := T252) (f' := (mkF m 124 #[.val (.int ia), .val (.int ib), .val (.int ic), .val (.int ie), .val (.int ig), .val (.ref b178), .val (.int (0 : Int32)), .val (.int ie), .val (.int ib), .val (.int ic)] [])) (fun t k => XS.icmpNo X252.here hx rfl (hb hby at_121) rfl (teq (rfl : ic = ic)).2 k) ?_
    refine Go.step (T' := T252) (f' := (mkF m 125 #[.val (.int ia), .val (.int ib), .val (.int ic), .val (.int ie), .val (.int ig), .val (.ref b178), .val (.int (0 : Int32)), .val (.int ie), .val (.int ib), .val (.int ic)] [(.int (1 : Int32))])) (fun t k => XS.iconst X252.here hx rfl (hb hby at_124) k) ?_
    refine Go.step (T' := T252) (f' := (mkF m 129 #[.val (.int ia), .val (.int ib), .val (.int ic), .val (.int ie), .val (.int ig), .val (.ref b178), .val (.int (0 : Int32)), .val (.int ie), .val (.int ib), .val (.int ic)] [(.int (1 : Int32))])) (fun t k => XS.goto X252.here hx rfl (pc0 := 125) (pc' := 129) rfl (hb hby at_125) (by decide) (by decide) k) ?_
    refine Go.retZ X252 hx hlk (t := .boolean) Bd.returns (by simp) (hb hby at_129) hh252 ?_ (by decide) (by decide)
    exact ⟨rfl, N253, K247⟩
  ·
    rw [hs238]
    refine Go.step (T' := T228) (f' := (mkF m 41 #[.val (.int ia), .val (.int ib), .val (.int ic), .val (.int ie), .val (.int ig), .val (.ref b178), .val (.int (1 : Int32)), .unset, .unset, .unset] [(.int (1 : Int32))])) (fun t k => XS.iload X228.here hx rfl (hb hby at_39) rfl k) ?_
    refine Go.step (T' := T228) (f' := (mkF m 42 #[.val (.int ia), .val (.int ib), .val (.int ic), .val (.int ie), .val (.int ig), .val (.ref b178), .val (.int (1 : Int32)), .unset, .unset, .unset] [(.int (3 : Int32)), (.int (1 : Int32))])) (fun t k => XS.iconst X228.here hx rfl (hb hby at_41) k) ?_
    refine Go.step (T' := T228) (f' := (mkF m 45 #[.val (.int ia), .val (.int ib), .val (.int ic), .val (.int ie), .val (.int ig), .val (.ref b178), .val (.int (1 : Int32)), .unset, .unset, .unset] [])) (fun t k => XS.icmpNo X228.here hx rfl (hb hby at_42) rfl (tlt (by decide : (1 : Int32) < (3 : Int32))).2.1 k) ?_
    refine Go.step (T' := T228) (f' := (mkF m 47 #[.val (.int ia), .val (.int ib), .val (.int ic), .val (.int ie), .val (.int ig), .val (.ref b178), .val (.int (1 : Int32)), .unset, .unset, .unset] [(.ref b178)])) (fun t k => XS.aload X228.here hx rfl (hb hby at_45) rfl rfl k) ?_
    refine Go.step (T' := T228) (f' := (mkF m 49 #[.val (.int ia), .val (.int ib), .val (.int ic), .val (.int ie), .val (.int ig), .val (.ref b178), .val (.int (1 : Int32)), .unset, .unset, .unset] [(.int (1 : Int32)), (.ref b178)])) (fun t k => XS.iload X228.here hx rfl (hb hby at_47) rfl k) ?_
    refine Go.step (T' := T228) (f' := (mkF m 50 #[.val (.int ia), .val (.int ib), .val (.int ic), .val (.int ie), .val (.int ig), .val (.ref b178), .val (.int (1 : Int32)), .unset, .unset, .unset] [(.int ie), (.int (1 : Int32)), (.ref b178)])) (fun t k => XS.iloadN X228.here hx rfl (hb hby at_49) rfl k) ?_
    obtain ⟨cq254, kq254, q254a, q254b, q254c⟩ := isOf hZ rfl p229
    obtain ⟨_, _, ⟨T254, L254, k254, n254⟩, -, X254, ⟨Lc254, hQ254, l254, y254, z254⟩, st254⟩ := X228.virtualBack hx (y := (⟨"com/example/pin_to_part/pintopart/IntColumn", "set", "(II)V"⟩ : MethodName)) (z := (⟨"com/example/pin_to_part/pintopart/IntColumn", "set", "(II)V"⟩ : MethodName)) hown (mvT hZ (hw _ (List.mem_of_getElem? (i := 24) rfl))) (mvT hZ (hw _ (List.mem_of_getElem? (i := 25) rfl))) (notFace_of_selects (args := #[]) (mvT hZ (hw _ (List.mem_of_getElem? (i := 27) rfl)))) (mvT hZ (hw _ (List.mem_of_getElem? (i := 27) rfl))) (mvT hZ (hw _ (List.mem_of_getElem? (i := 26) rfl))) (by decide) (backOf (W := 0) (rm_set1 l Z a0 hw [] b178 ie u186 u187 u202 u203 ia ib ic T228.heap n0 O236 p230 f235 p232 g214 ne216 ne217) hZ (hw _ (List.mem_of_getElem? (i := 28) rfl)) (hw _ (List.mem_of_getElem? (i := 2) rfl)) (by decide) (by decide)) q254a q254c (g := (mkF m 50 #[.val (.int ia), .val (.int ib), .val (.int ic), .val (.int ie), .val (.int ig), .val (.ref b178), .val (.int (1 : Int32)), .unset, .unset, .unset] [(.int ie), (.int (1 : Int32)), (.ref b178)])) rfl (by rw [hml]; rfl) (Steps.refl _) (argsL := [(.int (1 : Int32)), (.int ie)]) (rest := []) (lenOf pd2 rfl) rfl (by show 2 * 0 + _ ≤ _; exact Nat.le_of_eq rfl) (hb hby at_50) (fun _ _ => ⟨rfl, rfl, (by decide : 3 + 0 ≤ _), (by decide : 16387 + 0 ≤ _)⟩)
    dsimp only [Pt.U, Pt.locs, Pt.cells, Pt.slots] at X254 l254 y254 z254 st254 hQ254
    subst l254 y254 z254
    obtain ⟨rfl, Nq254, hh254, p255⟩ := hQ254
    have N256 := Fr.app N233 Nq254
    have f257 := p229.keep hh254
    have f258 := f235.keep hh254 (ninS ne217 nin0)
    have f259 := p230.keep hh254 (ninS ne216 nin0)
    have f260 := p231.keep hh254 (ninS ne216 nin0)
    have O261 := O236.keep hh254 (allS g214 all0)
    have K262 := K237.trans hh254 (allS (Or.inr g215) all0)
    refine Go.via (T' := T254) (f' := (mkF m 53 #[.val (.int ia), .val (.int ib), .val (.int ic), .val (.int ie), .val (.int ig), .val (.ref b178), .val (.int (1 : Int32)), .unset, .unset, .unset] [])) st254 ?_
    refine Go.step (T' := T254) (f' := (mkF m 55 #[.val (.int ia), .val (.int ib), .val (.int ic), .val (.int ie), .val (.int ig), .val (.ref b178), .val (.int (1 : Int32)), .unset, .unset, .unset] [(.int (1 : Int32))])) (fun t k => XS.iload X254.here hx rfl (hb hby at_53) rfl k) ?_
    refine Go.step (T' := T254) (f' := (mkF m 62 #[.val (.int ia), .val (.int ib), .val (.int ic), .val (.int ie), .val (.int ig), .val (.ref b178), .val (.int (1 : Int32)), .unset, .unset, .unset] [])) (fun t k => XS.ifYes X254.here hx rfl (pc0 := 55) (pc' := 62) rfl (hb hby at_55) rfl ((if0 _ _).trans (feq (by decide : ¬ ((1 : Int32) = (0 : Int32)))).2) (by decide) (by decide) k) ?_
    refine Go.step (T' := T254) (f' := (mkF m 63 #[.val (.int ia), .val (.int ib), .val (.int ic), .val (.int ie), .val (.int ig), .val (.ref b178), .val (.int (1 : Int32)), .unset, .unset, .unset] [(.int ia)])) (fun t k => XS.iloadN X254.here hx rfl (hb hby at_62) rfl k) ?_
    refine Go.step (T' := T254) (f' := (mkF m 65 #[.val (.int ia), .val (.int ib), .val (.int ic), .val (.int ie), .val (.int ig), .val (.ref b178), .val (.int (1 : Int32)), .val (.int ia), .unset, .unset] [])) (fun t k => XS.istore X254.here hx rfl (hb hby at_63) rfl (l' := #[.val (.int ia), .val (.int ib), .val (.int ic), .val (.int ie), .val (.int ig), .val (.ref b178), .val (.int (1 : Int32)), .val (.int ia), .unset, .unset]) rfl k) ?_
    refine Go.step (T' := T254) (f' := (mkF m 67 #[.val (.int ia), .val (.int ib), .val (.int ic), .val (.int ie), .val (.int ig), .val (.ref b178), .val (.int (1 : Int32)), .val (.int ia), .unset, .unset] [(.int (1 : Int32))])) (fun t k => XS.iload X254.here hx rfl (hb hby at_65) rfl k) ?_
    refine Go.step (T' := T254) (f' := (mkF m 68 #[.val (.int ia), .val (.int ib), .val (.int ic), .val (.int ie), .val (.int ig), .val (.ref b178), .val (.int (1 : Int32)), .val (.int ia), .unset, .unset] [(.int (1 : Int32)), (.int (1 : Int32))])) (fun t k => XS.iconst X254.here hx rfl (hb hby at_67) k) ?_
    refine Go.step (T' := T254) (f' := (mkF m 71 #[.val (.int ia), .val (.int ib), .val (.int ic), .val (.int ie), .val (.int ig), .val (.ref b178), .val (.int (1 : Int32)), .val (.int ia), .unset, .unset] [])) (fun t k => XS.icmpNo X254.here hx rfl (hb hby at_68) rfl (teq (by decide : (1 : Int32) = (1 : Int32))).2 k) ?_
    refine Go.step (T' := T254) (f' := (mkF m 72 #[.val (.int ia), .val (.int ib), .val (.int ic), .val (.int ie), .val (.int ig), .val (.ref b178), .val (.int (1 : Int32)), .val (.int ia), .unset, .unset] [(.int ie)])) (fun t k => XS.iloadN X254.here hx rfl (hb hby at_71) rfl k) ?_
    refine Go.step (T' := T254) (f' := (mkF m 76 #[.val (.int ia), .val (.int ib), .val (.int ic), .val (.int ie), .val (.int ig), .val (.ref b178), .val (.int (1 : Int32)), .val (.int ia), .unset, .unset] [(.int ie)])) (fun t k => XS.goto X254.here hx rfl (pc0 := 72) (pc' := 76) rfl (hb hby at_72) (by decide) (by decide) k) ?_
    refine Go.step (T' := T254) (f' := (mkF m 78 #[.val (.int ia), .val (.int ib), .val (.int ic), .val (.int ie), .val (.int ig), .val (.ref b178), .val (.int (1 : Int32)), .val (.int ia), .val (.int ie), .unset] [])) (fun t k => XS.istore X254.here hx rfl (hb hby at_76) rfl (l' := #[.val (.int ia), .val (.int ib), .val (.int ic), .val (.int ie), .val (.int ig), .val (.ref b178), .val (.int (1 : Int32)), .val (.int ia), .val (.int ie), .unset]) rfl k) ?_
    refine Go.step (T' := T254) (f' := (mkF m 80 #[.val (.int ia), .val (.int ib), .val (.int ic), .val (.int ie), .val (.int ig), .val (.ref b178), .val (.int (1 : Int32)), .val (.int ia), .val (.int ie), .unset] [(.int (1 : Int32))])) (fun t k => XS.iload X254.here hx rfl (hb hby at_78) rfl k) ?_
    refine Go.step (T' := T254) (f' := (mkF m 81 #[.val (.int ia), .val (.int ib), .val (.int ic), .val (.int ie), .val (.int ig), .val (.ref b178), .val (.int (1 : Int32)), .val (.int ia), .val (.int ie), .unset] [(.int (2 : Int32)), (.int (1 : Int32))])) (fun t k => XS.iconst X254.here hx rfl (hb hby at_80) k) ?_
    refine Go.step (T' := T254) (f' := (mkF m 88 #[.val (.int ia), .val (.int ib), .val (.int ic), .val (.int ie), .val (.int ig), .val (.ref b178), .val (.int (1 : Int32)), .val (.int ia), .val (.int ie), .unset] [])) (fun t k => XS.icmpYes X254.here hx rfl (pc0 := 81) (pc' := 88) rfl (hb hby at_81) rfl (feq (by decide : ¬ ((1 : Int32) = (2 : Int32)))).2 (by decide) (by decide) k) ?_
    refine Go.step (T' := T254) (f' := (mkF m 89 #[.val (.int ia), .val (.int ib), .val (.int ic), .val (.int ie), .val (.int ig), .val (.ref b178), .val (.int (1 : Int32)), .val (.int ia), .val (.int ie), .unset] [(.int ic)])) (fun t k => XS.iloadN X254.here hx rfl (hb hby at_88) rfl k) ?_
    refine Go.step (T' := T254) (f' := (mkF m 91 #[.val (.int ia), .val (.int ib), .val (.int ic), .val (.int ie), .val (.int ig), .val (.ref b178), .val (.int (1 : Int32)), .val (.int ia), .val (.int ie), .val (.int ic)] [])) (fun t k => XS.istore X254.here hx rfl (hb hby at_89) rfl (l' := #[.val (.int ia), .val (.int ib), .val (.int ic), .val (.int ie), .val (.int ig), .val (.ref b178), .val (.int (1 : Int32)), .val (.int ia), .val (.int ie), .val (.int ic)]) rfl k) ?_
    refine Go.step (T' := T254) (f' := (mkF m 93 #[.val (.int ia), .val (.int ib), .val (.int ic), .val (.int ie), .val (.int ig), .val (.ref b178), .val (.int (1 : Int32)), .val (.int ia), .val (.int ie), .val (.int ic)] [(.ref b178)])) (fun t k => XS.aload X254.here hx rfl (hb hby at_91) rfl rfl k) ?_
    refine Go.step (T' := T254) (f' := (mkF m 94 #[.val (.int ia), .val (.int ib), .val (.int ic), .val (.int ie), .val (.int ig), .val (.ref b178), .val (.int (1 : Int32)), .val (.int ia), .val (.int ie), .val (.int ic)] [(.int (0 : Int32)), (.ref b178)])) (fun t k => XS.iconst X254.here hx rfl (hb hby at_93) k) ?_
    obtain ⟨cq263, kq263, q263a, q263b, q263c⟩ := isOf hZ rfl f257
    obtain ⟨_, _, ⟨T263, L263, k263, n263⟩, -, X263, ⟨Lc263, hQ263, l263, y263, z263⟩, st263⟩ := X254.virtualBack hx (y := (⟨"com/example/pin_to_part/pintopart/IntColumn", "get", "(I)I"⟩ : MethodName)) (z := (⟨"com/example/pin_to_part/pintopart/IntColumn", "get", "(I)I"⟩ : MethodName)) hown (mvT hZ (hw _ (List.mem_of_getElem? (i := 29) rfl))) (mvT hZ (hw _ (List.mem_of_getElem? (i := 30) rfl))) (notFace_of_selects (args := #[]) (mvT hZ (hw _ (List.mem_of_getElem? (i := 32) rfl)))) (mvT hZ (hw _ (List.mem_of_getElem? (i := 32) rfl))) (mvT hZ (hw _ (List.mem_of_getElem? (i := 31) rfl))) (by decide) (backOf (W := 0) (rm_get0 l Z a0 hw [] b178 u186 u187 u202 u203 ia ie ic T254.heap n0 O261 f259 f258 p255) hZ (hw _ (List.mem_of_getElem? (i := 33) rfl)) (hw _ (List.mem_of_getElem? (i := 2) rfl)) (by decide) (by decide)) q263a q263c (g := (mkF m 94 #[.val (.int ia), .val (.int ib), .val (.int ic), .val (.int ie), .val (.int ig), .val (.ref b178), .val (.int (1 : Int32)), .val (.int ia), .val (.int ie), .val (.int ic)] [(.int (0 : Int32)), (.ref b178)])) rfl (by rw [hml]; rfl) (Steps.refl _) (argsL := [(.int (0 : Int32))]) (rest := []) (lenOf pd1 rfl) rfl (by show 2 * 0 + _ ≤ _; exact Nat.le_of_eq rfl) (hb hby at_94) (fun _ _ => ⟨rfl, rfl, (by decide : 3 + 0 ≤ _), (by decide : 16387 + 0 ≤ _)⟩)
    dsimp only [Pt.U, Pt.locs, Pt.cells, Pt.slots] at X263 l263 y263 z263 st263 hQ263
    subst l263 y263 z263
    obtain ⟨rfl, Nq263, hh263⟩ := hQ263
    have N264 := Fr.app N256 Nq263
    refine Go.via (T' := T263) (f' := (mkF m 97 #[.val (.int ia), .val (.int ib), .val (.int ic), .val (.int ie), .val (.int ig), .val (.ref b178), .val (.int (1 : Int32)), .val (.int ia), .val (.int ie), .val (.int ic)] [(.int ia)])) st263 ?_
    refine Go.step (T' := T263) (f' := (mkF m 99 #[.val (.int ia), .val (.int ib), .val (.int ic), .val (.int ie), .val (.int ig), .val (.ref b178), .val (.int (1 : Int32)), .val (.int ia), .val (.int ie), .val (.int ic)] [(.int ia), (.int ia)])) (fun t k => XS.iload X263.here hx rfl (hb hby at_97) rfl k) ?_
    refine Go.step (T' := T263) (f' := (mkF m 102 #[.val (.int ia), .val (.int ib), .val (.int ic), .val (.int ie), .val (.int ig), .val (.ref b178), .val (.int (1 : Int32)), .val (.int ia), .val (.int ie), .val (.int ic)] [])) (fun t k => XS.icmpNo X263.here hx rfl (hb hby at_99) rfl (teq (rfl : ia = ia)).2 k) ?_
    refine Go.step (T' := T263) (f' := (mkF m 104 #[.val (.int ia), .val (.int ib), .val (.int ic), .val (.int ie), .val (.int ig), .val (.ref b178), .val (.int (1 : Int32)), .val (.int ia), .val (.int ie), .val (.int ic)] [(.ref b178)])) (fun t k => XS.aload X263.here hx rfl (hb hby at_102) rfl rfl k) ?_
    refine Go.step (T' := T263) (f' := (mkF m 105 #[.val (.int ia), .val (.int ib), .val (.int ic), .val (.int ie), .val (.int ig), .val (.ref b178), .val (.int (1 : Int32)), .val (.int ia), .val (.int ie), .val (.int ic)] [(.int (1 : Int32)), (.ref b178)])) (fun t k => XS.iconst X263.here hx rfl (hb hby at_104) k) ?_
    obtain ⟨cq265, kq265, q265a, q265b, q265c⟩ := isOf hZ hh263 f257
    obtain ⟨_, _, ⟨T265, L265, k265, n265⟩, -, X265, ⟨Lc265, hQ265, l265, y265, z265⟩, st265⟩ := X263.virtualBack hx (y := (⟨"com/example/pin_to_part/pintopart/IntColumn", "get", "(I)I"⟩ : MethodName)) (z := (⟨"com/example/pin_to_part/pintopart/IntColumn", "get", "(I)I"⟩ : MethodName)) hown (mvT hZ (hw _ (List.mem_of_getElem? (i := 29) rfl))) (mvT hZ (hw _ (List.mem_of_getElem? (i := 30) rfl))) (notFace_of_selects (args := #[]) (mvT hZ (hw _ (List.mem_of_getElem? (i := 32) rfl)))) (mvT hZ (hw _ (List.mem_of_getElem? (i := 32) rfl))) (mvT hZ (hw _ (List.mem_of_getElem? (i := 31) rfl))) (by decide) (backOf (W := 0) (rm_get1 l Z a0 hw [] b178 u186 u187 u202 u203 ia ie ic T254.heap n0 O261 f259 f258 p255) hZ (hw _ (List.mem_of_getElem? (i := 33) rfl)) (hw _ (List.mem_of_getElem? (i := 2) rfl)) (by decide) (by decide)) q265a q265c (g := (mkF m 105 #[.val (.int ia), .val (.int ib), .val (.int ic), .val (.int ie), .val (.int ig), .val (.ref b178), .val (.int (1 : Int32)), .val (.int ia), .val (.int ie), .val (.int ic)] [(.int (1 : Int32)), (.ref b178)])) rfl (by rw [hml]; rfl) (Steps.refl _) (argsL := [(.int (1 : Int32))]) (rest := []) (lenOf pd1 rfl) rfl (by show 2 * 0 + _ ≤ _; exact Nat.le_of_eq rfl) (hb hby at_105) (fun _ _ => ⟨rfl, hh263, (by decide : 3 + 0 ≤ _), (by decide : 16387 + 0 ≤ _)⟩)
    dsimp only [Pt.U, Pt.locs, Pt.cells, Pt.slots] at X265 l265 y265 z265 st265 hQ265
    subst l265 y265 z265
    obtain ⟨rfl, Nq265, hh265⟩ := hQ265
    have N266 := Fr.app N264 Nq265
    refine Go.via (T' := T265) (f' := (mkF m 108 #[.val (.int ia), .val (.int ib), .val (.int ic), .val (.int ie), .val (.int ig), .val (.ref b178), .val (.int (1 : Int32)), .val (.int ia), .val (.int ie), .val (.int ic)] [(.int ie)])) st265 ?_
    refine Go.step (T' := T265) (f' := (mkF m 110 #[.val (.int ia), .val (.int ib), .val (.int ic), .val (.int ie), .val (.int ig), .val (.ref b178), .val (.int (1 : Int32)), .val (.int ia), .val (.int ie), .val (.int ic)] [(.int ie), (.int ie)])) (fun t k => XS.iload X265.here hx rfl (hb hby at_108) rfl k) ?_
    refine Go.step (T' := T265) (f' := (mkF m 113 #[.val (.int ia), .val (.int ib), .val (.int ic), .val (.int ie), .val (.int ig), .val (.ref b178), .val (.int (1 : Int32)), .val (.int ia), .val (.int ie), .val (.int ic)] [])) (fun t k => XS.icmpNo X265.here hx rfl (hb hby at_110) rfl (teq (rfl : ie = ie)).2 k) ?_
    refine Go.step (T' := T265) (f' := (mkF m 115 #[.val (.int ia), .val (.int ib), .val (.int ic), .val (.int ie), .val (.int ig), .val (.ref b178), .val (.int (1 : Int32)), .val (.int ia), .val (.int ie), .val (.int ic)] [(.ref b178)])) (fun t k => XS.aload X265.here hx rfl (hb hby at_113) rfl rfl k) ?_
    refine Go.step (T' := T265) (f' := (mkF m 116 #[.val (.int ia), .val (.int ib), .val (.int ic), .val (.int ie), .val (.int ig), .val (.ref b178), .val (.int (1 : Int32)), .val (.int ia), .val (.int ie), .val (.int ic)] [(.int (2 : Int32)), (.ref b178)])) (fun t k => XS.iconst X265.here hx rfl (hb hby at_115) k) ?_
    obtain ⟨cq267, kq267, q267a, q267b, q267c⟩ := isOf hZ hh265 f257
    obtain ⟨_, _, ⟨T267, L267, k267, n267⟩, -, X267, ⟨Lc267, hQ267, l267, y267, z267⟩, st267⟩ := X265.virtualBack hx (y := (⟨"com/example/pin_to_part/pintopart/IntColumn", "get", "(I)I"⟩ : MethodName)) (z := (⟨"com/example/pin_to_part/pintopart/IntColumn", "get", "(I)I"⟩ : MethodName)) hown (mvT hZ (hw _ (List.mem_of_getElem? (i := 29) rfl))) (mvT hZ (hw _ (List.mem_of_getElem? (i := 30) rfl))) (notFace_of_selects (args := #[]) (mvT hZ (hw _ (List.mem_of_getElem? (i := 32) rfl)))) (mvT hZ (hw _ (List.mem_of_getElem? (i := 32) rfl))) (mvT hZ (hw _ (List.mem_of_getElem? (i := 31) rfl))) (by decide) (backOf (W := 0) (rm_get2 l Z a0 hw [] b178 u186 u187 u202 u203 ia ie ic T254.heap n0 O261 f259 f258 p255) hZ (hw _ (List.mem_of_getElem? (i := 33) rfl)) (hw _ (List.mem_of_getElem? (i := 2) rfl)) (by decide) (by decide)) q267a q267c (g := (mkF m 116 #[.val (.int ia), .val (.int ib), .val (.int ic), .val (.int ie), .val (.int ig), .val (.ref b178), .val (.int (1 : Int32)), .val (.int ia), .val (.int ie), .val (.int ic)] [(.int (2 : Int32)), (.ref b178)])) rfl (by rw [hml]; rfl) (Steps.refl _) (argsL := [(.int (2 : Int32))]) (rest := []) (lenOf pd1 rfl) rfl (by show 2 * 0 + _ ≤ _; exact Nat.le_of_eq rfl) (hb hby at_116) (fun _ _ => ⟨rfl, hh265, (by decide : 3 + 0 ≤ _), (by decide : 16387 + 0 ≤ _)⟩)
    dsimp only [Pt.U, Pt.locs, Pt.cells, Pt.slots] at X267 l267 y267 z267 st267 hQ267
    subst l267 y267 z267
    obtain ⟨rfl, Nq267, hh267⟩ := hQ267
    have N268 := Fr.app N266 Nq267
    refine Go.via (T' := T267) (f' := (mkF m 119 #[.val (.int ia), .val (.int ib), .val (.int ic), .val (.int ie), .val (.int ig), .val (.ref b178), .val (.int (1 : Int32)), .val (.int ia), .val (.int ie), .val (.int ic)] [(.int ic)])) st267 ?_
    refine Go.step (T' := T267) (f' := (mkF m 121 #[.val (.int ia), .val (.int ib), .val (.int ic), .val (.int ie), .val (.int ig), .val (.ref b178), .val (.int (1 : Int32)), .val (.int ia), .val (.int ie), .val (.int ic)] [(.int ic), (.int ic)])) (fun t k => XS.iload X267.here hx rfl (hb hby at_119) rfl k) ?_
    refine Go.step (T' := T267) (f' := (mkF m 124 #[.val (.int ia), .val (.int ib), .val (.int ic), .val (.int ie), .val (.int ig), .val (.ref b178), .val (.int (1 : Int32)), .val (.int ia), .val (.int ie), .val (.int ic)] [])) (fun t k => XS.icmpNo X267.here hx rfl (hb hby at_121) rfl (teq (rfl : ic = ic)).2 k) ?_
    refine Go.step (T' := T267) (f' := (mkF m 125 #[.val (.int ia), .val (.int ib), .val (.int ic), .val (.int ie), .val (.int ig), .val (.ref b178), .val (.int (1 : Int32)), .val (.int ia), .val (.int ie), .val (.int ic)] [(.int (1 : Int32))])) (fun t k => XS.iconst X267.here hx rfl (hb hby at_124) k) ?_
    refine Go.step (T' := T267) (f' := (mkF m 129 #[.val (.int ia), .val (.int ib), .val (.int ic), .val (.int ie), .val (.int ig), .val (.ref b178), .val (.int (1 : Int32)), .val (.int ia), .val (.int ie), .val (.int ic)] [(.int (1 : Int32))])) (fun t k => XS.goto X267.here hx rfl (pc0 := 125) (pc' := 129) rfl (hb hby at_125) (by decide) (by decide) k) ?_
    refine Go.retZ X267 hx hlk (t := .boolean) Bd.returns (by simp) (hb hby at_129) hh267 ?_ (by decide) (by decide)
    exact ⟨rfl, N268, K262⟩
  ·
    rw [hs238]
    refine Go.step (T' := T228) (f' := (mkF m 41 #[.val (.int ia), .val (.int ib), .val (.int ic), .val (.int ie), .val (.int ig), .val (.ref b178), .val (.int (2 : Int32)), .unset, .unset, .unset] [(.int (2 : Int32))])) (fun t k => XS.iload X228.here hx rfl (hb hby at_39) rfl k) ?_
    refine Go.step (T' := T228) (f' := (mkF m 42 #[.val (.int ia), .val (.int ib), .val (.int ic), .val (.int ie), .val (.int ig), .val (.ref b178), .val (.int (2 : Int32)), .unset, .unset, .unset] [(.int (3 : Int32)), (.int (2 : Int32))])) (fun t k => XS.iconst X228.here hx rfl (hb hby at_41) k) ?_
    refine Go.step (T' := T228) (f' := (mkF m 45 #[.val (.int ia), .val (.int ib), .val (.int ic), .val (.int ie), .val (.int ig), .val (.ref b178), .val (.int (2 : Int32)), .unset, .unset, .unset] [])) (fun t k => XS.icmpNo X228.here hx rfl (hb hby at_42) rfl (tlt (by decide : (2 : Int32) < (3 : Int32))).2.1 k) ?_
    refine Go.step (T' := T228) (f' := (mkF m 47 #[.val (.int ia), .val (.int ib), .val (.int ic), .val (.int ie), .val (.int ig), .val (.ref b178), .val (.int (2 : Int32)), .unset, .unset, .unset] [(.ref b178)])) (fun t k => XS.aload X228.here hx rfl (hb hby at_45) rfl rfl k) ?_
    refine Go.step (T' := T228) (f' := (mkF m 49 #[.val (.int ia), .val (.int ib), .val (.int ic), .val (.int ie), .val (.int ig), .val (.ref b178), .val (.int (2 : Int32)), .unset, .unset, .unset] [(.int (2 : Int32)), (.ref b178)])) (fun t k => XS.iload X228.here hx rfl (hb hby at_47) rfl k) ?_
    refine Go.step (T' := T228) (f' := (mkF m 50 #[.val (.int ia), .val (.int ib), .val (.int ic), .val (.int ie), .val (.int ig), .val (.ref b178), .val (.int (2 : Int32)), .unset, .unset, .unset] [(.int ie), (.int (2 : Int32)), (.ref b178)])) (fun t k => XS.iloadN X228.here hx rfl (hb hby at_49) rfl k) ?_
    obtain ⟨cq269, kq269, q269a, q269b, q269c⟩ := isOf hZ rfl p229
    obtain ⟨_, _, ⟨T269, L269, k269, n269⟩, -, X269, ⟨Lc269, hQ269, l269, y269, z269⟩, st269⟩ := X228.virtualBack hx (y := (⟨"com/example/pin_to_part/pintopart/IntColumn", "set", "(II)V"⟩ : MethodName)) (z := (⟨"com/example/pin_to_part/pintopart/IntColumn", "set", "(II)V"⟩ : MethodName)) hown (mvT hZ (hw _ (List.mem_of_getElem? (i := 24) rfl))) (mvT hZ (hw _ (List.mem_of_getElem? (i := 25) rfl))) (notFace_of_selects (args := #[]) (mvT hZ (hw _ (List.mem_of_getElem? (i := 27) rfl)))) (mvT hZ (hw _ (List.mem_of_getElem? (i := 27) rfl))) (mvT hZ (hw _ (List.mem_of_getElem? (i := 26) rfl))) (by decide) (backOf (W := 0) (rm_set2 l Z a0 hw [] b178 ie u186 u187 u202 u203 ia ib ic T228.heap n0 O236 p230 f235 p232 g214 ne216 ne217) hZ (hw _ (List.mem_of_getElem? (i := 28) rfl)) (hw _ (List.mem_of_getElem? (i := 2) rfl)) (by decide) (by decide)) q269a q269c (g := (mkF m 50 #[.val (.int ia), .val (.int ib), .val (.int ic), .val (.int ie), .val (.int ig), .val (.ref b178), .val (.int (2 : Int32)), .unset, .unset, .unset] [(.int ie), (.int (2 : Int32)), (.ref b178)])) rfl (by rw [hml]; rfl) (Steps.refl _) (argsL := [(.int (2 : Int32)), (.int ie)]) (rest := []) (lenOf pd2 rfl) rfl (by show 2 * 0 + _ ≤ _; exact Nat.le_of_eq rfl) (hb hby at_50) (fun _ _ => ⟨rfl, rfl, (by decide : 3 + 0 ≤ _), (by decide : 16387 + 0 ≤ _)⟩)
    dsimp only [Pt.U, Pt.locs, Pt.cells, Pt.slots] at X269 l269 y269 z269 st269 hQ269
    subst l269 y269 z269
    obtain ⟨rfl, Nq269, hh269, p270⟩ := hQ269
    have N271 := Fr.app N233 Nq269
    have f272 := p229.keep hh269
    have f273 := f235.keep hh269 (ninS ne217 nin0)
    have f274 := p230.keep hh269 (ninS ne216 nin0)
    have f275 := p231.keep hh269 (ninS ne216 nin0)
    have O276 := O236.keep hh269 (allS g214 all0)
    have K277 := K237.trans hh269 (allS (Or.inr g215) all0)
    refine Go.via (T' := T269) (f' := (mkF m 53 #[.val (.int ia), .val (.int ib), .val (.int ic), .val (.int ie), .val (.int ig), .val (.ref b178), .val (.int (2 : Int32)), .unset, .unset, .unset] [])) st269 ?_
    refine Go.step (T' := T269) (f' := (mkF m 55 #[.val (.int ia), .val (.int ib), .val (.int ic), .val (.int ie), .val (.int ig), .val (.ref b178), .val (.int (2 : Int32)), .unset, .unset, .unset] [(.int (2 : Int32))])) (fun t k => XS.iload X269.here hx rfl (hb hby at_53) rfl k) ?_
    refine Go.step (T' := T269) (f' := (mkF m 62 #[.val (.int ia), .val (.int ib), .val (.int ic), .val (.int ie), .val (.int ig), .val (.ref b178), .val (.int (2 : Int32)), .unset, .unset, .unset] [])) (fun t k => XS.ifYes X269.here hx rfl (pc0 := 55) (pc' := 62) rfl (hb hby at_55) rfl ((if0 _ _).trans (feq (by decide : ¬ ((2 : Int32) = (0 : Int32)))).2) (by decide) (by decide) k) ?_
    refine Go.step (T' := T269) (f' := (mkF m 63 #[.val (.int ia), .val (.int ib), .val (.int ic), .val (.int ie), .val (.int ig), .val (.ref b178), .val (.int (2 : Int32)), .unset, .unset, .unset] [(.int ia)])) (fun t k => XS.iloadN X269.here hx rfl (hb hby at_62) rfl k) ?_
    refine Go.step (T' := T269) (f' := (mkF m 65 #[.val (.int ia), .val (.int ib), .val (.int ic), .val (.int ie), .val (.int ig), .val (.ref b178), .val (.int (2 : Int32)), .val (.int ia), .unset, .unset] [])) (fun t k => XS.istore X269.here hx rfl (hb hby at_63) rfl (l' := #[.val (.int ia), .val (.int ib), .val (.int ic), .val (.int ie), .val (.int ig), .val (.ref b178), .val (.int (2 : Int32)), .val (.int ia), .unset, .unset]) rfl k) ?_
    refine Go.step (T' := T269) (f' := (mkF m 67 #[.val (.int ia), .val (.int ib), .val (.int ic), .val (.int ie), .val (.int ig), .val (.ref b178), .val (.int (2 : Int32)), .val (.int ia), .unset, .unset] [(.int (2 : Int32))])) (fun t k => XS.iload X269.here hx rfl (hb hby at_65) rfl k) ?_
    refine Go.step (T' := T269) (f' := (mkF m 68 #[.val (.int ia), .val (.int ib), .val (.int ic), .val (.int ie), .val (.int ig), .val (.ref b178), .val (.int (2 : Int32)), .val (.int ia), .unset, .unset] [(.int (1 : Int32)), (.int (2 : Int32))])) (fun t k => XS.iconst X269.here hx rfl (hb hby at_67) k) ?_
    refine Go.step (T' := T269) (f' := (mkF m 75 #[.val (.int ia), .val (.int ib), .val (.int ic), .val (.int ie), .val (.int ig), .val (.ref b178), .val (.int (2 : Int32)), .val (.int ia), .unset, .unset] [])) (fun t k => XS.icmpYes X269.here hx rfl (pc0 := 68) (pc' := 75) rfl (hb hby at_68) rfl (feq (by decide : ¬ ((2 : Int32) = (1 : Int32)))).2 (by decide) (by decide) k) ?_
    refine Go.step (T' := T269) (f' := (mkF m 76 #[.val (.int ia), .val (.int ib), .val (.int ic), .val (.int ie), .val (.int ig), .val (.ref b178), .val (.int (2 : Int32)), .val (.int ia), .unset, .unset] [(.int ib)])) (fun t k => XS.iloadN X269.here hx rfl (hb hby at_75) rfl k) ?_
    refine Go.step (T' := T269) (f' := (mkF m 78 #[.val (.int ia), .val (.int ib), .val (.int ic), .val (.int ie), .val (.int ig), .val (.ref b178), .val (.int (2 : Int32)), .val (.int ia), .val (.int ib), .unset] [])) (fun t k => XS.istore X269.here hx rfl (hb hby at_76) rfl (l' := #[.val (.int ia), .val (.int ib), .val (.int ic), .val (.int ie), .val (.int ig), .val (.ref b178), .val (.int (2 : Int32)), .val (.int ia), .val (.int ib), .unset]) rfl k) ?_
    refine Go.step (T' := T269) (f' := (mkF m 80 #[.val (.int ia), .val (.int ib), .val (.int ic), .val (.int ie), .val (.int ig), .val (.ref b178), .val (.int (2 : Int32)), .val (.int ia), .val (.int ib), .unset] [(.int (2 : Int32))])) (fun t k => XS.iload X269.here hx rfl (hb hby at_78) rfl k) ?_
    refine Go.step (T' := T269) (f' := (mkF m 81 #[.val (.int ia), .val (.int ib), .val (.int ic), .val (.int ie), .val (.int ig), .val (.ref b178), .val (.int (2 : Int32)), .val (.int ia), .val (.int ib), .unset] [(.int (2 : Int32)), (.int (2 : Int32))])) (fun t k => XS.iconst X269.here hx rfl (hb hby at_80) k) ?_
    refine Go.step (T' := T269) (f' := (mkF m 84 #[.val (.int ia), .val (.int ib), .val (.int ic), .val (.int ie), .val (.int ig), .val (.ref b178), .val (.int (2 : Int32)), .val (.int ia), .val (.int ib), .unset] [])) (fun t k => XS.icmpNo X269.here hx rfl (hb hby at_81) rfl (teq (by decide : (2 : Int32) = (2 : Int32))).2 k) ?_
    refine Go.step (T' := T269) (f' := (mkF m 85 #[.val (.int ia), .val (.int ib), .val (.int ic), .val (.int ie), .val (.int ig), .val (.ref b178), .val (.int (2 : Int32)), .val (.int ia), .val (.int ib), .unset] [(.int ie)])) (fun t k => XS.iloadN X269.here hx rfl (hb hby at_84) rfl k) ?_
    refine Go.step (T' := T269) (f' := (mkF m 89 #[.val (.int ia), .val (.int ib), .val (.int ic), .val (.int ie), .val (.int ig), .val (.ref b178), .val (.int (2 : Int32)), .val (.int ia), .val (.int ib), .unset] [(.int ie)])) (fun t k => XS.goto X269.here hx rfl (pc0 := 85) (pc' := 89) rfl (hb hby at_85) (by decide) (by decide) k) ?_
    refine Go.step (T' := T269) (f' := (mkF m 91 #[.val (.int ia), .val (.int ib), .val (.int ic), .val (.int ie), .val (.int ig), .val (.ref b178), .val (.int (2 : Int32)), .val (.int ia), .val (.int ib), .val (.int ie)] [])) (fun t k => XS.istore X269.here hx rfl (hb hby at_89) rfl (l' := #[.val (.int ia), .val (.int ib), .val (.int ic), .val (.int ie), .val (.int ig), .val (.ref b178), .val (.int (2 : Int32)), .val (.int ia), .val (.int ib), .val (.int ie)]) rfl k) ?_
    refine Go.step (T' := T269) (f' := (mkF m 93 #[.val (.int ia), .val (.int ib), .val (.int ic), .val (.int ie), .val (.int ig), .val (.ref b178), .val (.int (2 : Int32)), .val (.int ia), .val (.int ib), .val (.int ie)] [(.ref b178)])) (fun t k => XS.aload X269.here hx rfl (hb hby at_91) rfl rfl k) ?_
    refine Go.step (T' := T269) (f' := (mkF m 94 #[.val (.int ia), .val (.int ib), .val (.int ic), .val (.int ie), .val (.int ig), .val (.ref b178), .val (.int (2 : Int32)), .val (.int ia), .val (.int ib), .val (.int ie)] [(.int (0 : Int32)), (.ref b178)])) (fun t k => XS.iconst X269.here hx rfl (hb hby at_93) k) ?_
    obtain ⟨cq278, kq278, q278a, q278b, q278c⟩ := isOf hZ rfl f272
    obtain ⟨_, _, ⟨T278, L278, k278, n278⟩, -, X278, ⟨Lc278, hQ278, l278, y278, z278⟩, st278⟩ := X269.virtualBack hx (y := (⟨"com/example/pin_to_part/pintopart/IntColumn", "get", "(I)I"⟩ : MethodName)) (z := (⟨"com/example/pin_to_part/pintopart/IntColumn", "get", "(I)I"⟩ : MethodName)) hown (mvT hZ (hw _ (List.mem_of_getElem? (i := 29) rfl))) (mvT hZ (hw _ (List.mem_of_getElem? (i := 30) rfl))) (notFace_of_selects (args := #[]) (mvT hZ (hw _ (List.mem_of_getElem? (i := 32) rfl)))) (mvT hZ (hw _ (List.mem_of_getElem? (i := 32) rfl))) (mvT hZ (hw _ (List.mem_of_getElem? (i := 31) rfl))) (by decide) (backOf (W := 0) (rm_get0 l Z a0 hw [] b178 u186 u187 u202 u203 ia ib ie T269.heap n0 O276 f274 f273 p270) hZ (hw _ (List.mem_of_getElem? (i := 33) rfl)) (hw _ (List.mem_of_getElem? (i := 2) rfl)) (by decide) (by decide)) q278a q278c (g := (mkF m 94 #[.val (.int ia), .val (.int ib), .val (.int ic), .val (.int ie), .val (.int ig), .val (.ref b178), .val (.int (2 : Int32)), .val (.int ia), .val (.int ib), .val (.int ie)] [(.int (0 : Int32)), (.ref b178)])) rfl (by rw [hml]; rfl) (Steps.refl _) (argsL := [(.int (0 : Int32))]) (rest := []) (lenOf pd1 rfl) rfl (by show 2 * 0 + _ ≤ _; exact Nat.le_of_eq rfl) (hb hby at_94) (fun _ _ => ⟨rfl, rfl, (by decide : 3 + 0 ≤ _), (by decide : 16387 + 0 ≤ _)⟩)
    dsimp only [Pt.U, Pt.locs, Pt.cells, Pt.slots] at X278 l278 y278 z278 st278 hQ278
    subst l278 y278 z278
    obtain ⟨rfl, Nq278, hh278⟩ := hQ278
    have N279 := Fr.app N271 Nq278
    refine Go.via (T' := T278) (f' := (mkF m 97 #[.val (.int ia), .val (.int ib), .val (.int ic), .val (.int ie), .val (.int ig), .val (.ref b178), .val (.int (2 : Int32)), .val (.int ia), .val (.int ib), .val (.int ie)] [(.int ia)])) st278 ?_
    refine Go.step (T' := T278) (f' := (mkF m 99 #[.val (.int ia), .val (.int ib), .val (.int ic), .val (.int ie), .val (.int ig), .val (.ref b178), .val (.int (2 : Int32)), .val (.int ia), .val (.int ib), .val (.int ie)] [(.int ia), (.int ia)])) (fun t k => XS.iload X278.here hx rfl (hb hby at_97) rfl k) ?_
    refine Go.step (T' := T278) (f' := (mkF m 102 #[.val (.int ia), .val (.int ib), .val (.int ic), .val (.int ie), .val (.int ig), .val (.ref b178), .val (.int (2 : Int32)), .val (.int ia), .val (.int ib), .val (.int ie)] [])) (fun t k => XS.icmpNo X278.here hx rfl (hb hby at_99) rfl (teq (rfl : ia = ia)).2 k) ?_
    refine Go.step (T' := T278) (f' := (mkF m 104 #[.val (.int ia), .val (.int ib), .val (.int ic), .val (.int ie), .val (.int ig), .val (.ref b178), .val (.int (2 : Int32)), .val (.int ia), .val (.int ib), .val (.int ie)] [(.ref b178)])) (fun t k => XS.aload X278.here hx rfl (hb hby at_102) rfl rfl k) ?_
    refine Go.step (T' := T278) (f' := (mkF m 105 #[.val (.int ia), .val (.int ib), .val (.int ic), .val (.int ie), .val (.int ig), .val (.ref b178), .val (.int (2 : Int32)), .val (.int ia), .val (.int ib), .val (.int ie)] [(.int (1 : Int32)), (.ref b178)])) (fun t k => XS.iconst X278.here hx rfl (hb hby at_104) k) ?_
    obtain ⟨cq280, kq280, q280a, q280b, q280c⟩ := isOf hZ hh278 f272
    obtain ⟨_, _, ⟨T280, L280, k280, n280⟩, -, X280, ⟨Lc280, hQ280, l280, y280, z280⟩, st280⟩ := X278.virtualBack hx (y := (⟨"com/example/pin_to_part/pintopart/IntColumn", "get", "(I)I"⟩ : MethodName)) (z := (⟨"com/example/pin_to_part/pintopart/IntColumn", "get", "(I)I"⟩ : MethodName)) hown (mvT hZ (hw _ (List.mem_of_getElem? (i := 29) rfl))) (mvT hZ (hw _ (List.mem_of_getElem? (i := 30) rfl))) (notFace_of_selects (args := #[]) (mvT hZ (hw _ (List.mem_of_getElem? (i := 32) rfl)))) (mvT hZ (hw _ (List.mem_of_getElem? (i := 32) rfl))) (mvT hZ (hw _ (List.mem_of_getElem? (i := 31) rfl))) (by decide) (backOf (W := 0) (rm_get1 l Z a0 hw [] b178 u186 u187 u202 u203 ia ib ie T269.heap n0 O276 f274 f273 p270) hZ (hw _ (List.mem_of_getElem? (i := 33) rfl)) (hw _ (List.mem_of_getElem? (i := 2) rfl)) (by decide) (by decide)) q280a q280c (g := (mkF m 105 #[.val (.int ia), .val (.int ib), .val (.int ic), .val (.int ie), .val (.int ig), .val (.ref b178), .val (.int (2 : Int32)), .val (.int ia), .val (.int ib), .val (.int ie)] [(.int (1 : Int32)), (.ref b178)])) rfl (by rw [hml]; rfl) (Steps.refl _) (argsL := [(.int (1 : Int32))]) (rest := []) (lenOf pd1 rfl) rfl (by show 2 * 0 + _ ≤ _; exact Nat.le_of_eq rfl) (hb hby at_105) (fun _ _ => ⟨rfl, hh278, (by decide : 3 + 0 ≤ _), (by decide : 16387 + 0 ≤ _)⟩)
    dsimp only [Pt.U, Pt.locs, Pt.cells, Pt.slots] at X280 l280 y280 z280 st280 hQ280
    subst l280 y280 z280
    obtain ⟨rfl, Nq280, hh280⟩ := hQ280
    have N281 := Fr.app N279 Nq280
    refine Go.via (T' := T280) (f' := (mkF m 108 #[.val (.int ia), .val (.int ib), .val (.int ic), .val (.int ie), .val (.int ig), .val (.ref b178), .val (.int (2 : Int32)), .val (.int ia), .val (.int ib), .val (.int ie)] [(.int ib)])) st280 ?_
    refine Go.step (T' := T280) (f' := (mkF m 110 #[.val (.int ia), .val (.int ib), .val (.int ic), .val (.int ie), .val (.int ig), .val (.ref b178), .val (.int (2 : Int32)), .val (.int ia), .val (.int ib), .val (.int ie)] [(.int ib), (.int ib)])) (fun t k => XS.iload X280.here hx rfl (hb hby at_108) rfl k) ?_
    refine Go.step (T' := T280) (f' := (mkF m 113 #[.val (.int ia), .val (.int ib), .val (.int ic), .val (.int ie), .val (.int ig), .val (.ref b178), .val (.int (2 : Int32)), .val (.int ia), .val (.int ib), .val (.int ie)] [])) (fun t k => XS.icmpNo X280.here hx rfl (hb hby at_110) rfl (teq (rfl : ib = ib)).2 k) ?_
    refine Go.step (T' := T280) (f' := (mkF m 115 #[.val (.int ia), .val (.int ib), .val (.int ic), .val (.int ie), .val (.int ig), .val (.ref b178), .val (.int (2 : Int32)), .val (.int ia), .val (.int ib), .val (.int ie)] [(.ref b178)])) (fun t k => XS.aload X280.here hx rfl (hb hby at_113) rfl rfl k) ?_
    refine Go.step (T' := T280) (f' := (mkF m 116 #[.val (.int ia), .val (.int ib), .val (.int ic), .val (.int ie), .val (.int ig), .val (.ref b178), .val (.int (2 : Int32)), .val (.int ia), .val (.int ib), .val (.int ie)] [(.int (2 : Int32)), (.ref b178)])) (fun t k => XS.iconst X280.here hx rfl (hb hby at_115) k) ?_
    obtain ⟨cq282, kq282, q282a, q282b, q282c⟩ := isOf hZ hh280 f272
    obtain ⟨_, _, ⟨T282, L282, k282, n282⟩, -, X282, ⟨Lc282, hQ282, l282, y282, z282⟩, st282⟩ := X280.virtualBack hx (y := (⟨"com/example/pin_to_part/pintopart/IntColumn", "get", "(I)I"⟩ : MethodName)) (z := (⟨"com/example/pin_to_part/pintopart/IntColumn", "get", "(I)I"⟩ : MethodName)) hown (mvT hZ (hw _ (List.mem_of_getElem? (i := 29) rfl))) (mvT hZ (hw _ (List.mem_of_getElem? (i := 30) rfl))) (notFace_of_selects (args := #[]) (mvT hZ (hw _ (List.mem_of_getElem? (i := 32) rfl)))) (mvT hZ (hw _ (List.mem_of_getElem? (i := 32) rfl))) (mvT hZ (hw _ (List.mem_of_getElem? (i := 31) rfl))) (by decide) (backOf (W := 0) (rm_get2 l Z a0 hw [] b178 u186 u187 u202 u203 ia ib ie T269.heap n0 O276 f274 f273 p270) hZ (hw _ (List.mem_of_getElem? (i := 33) rfl)) (hw _ (List.mem_of_getElem? (i := 2) rfl)) (by decide) (by decide)) q282a q282c (g := (mkF m 116 #[.val (.int ia), .val (.int ib), .val (.int ic), .val (.int ie), .val (.int ig), .val (.ref b178), .val (.int (2 : Int32)), .val (.int ia), .val (.int ib), .val (.int ie)] [(.int (2 : Int32)), (.ref b178)])) rfl (by rw [hml]; rfl) (Steps.refl _) (argsL := [(.int (2 : Int32))]) (rest := []) (lenOf pd1 rfl) rfl (by show 2 * 0 + _ ≤ _; exact Nat.le_of_eq rfl) (hb hby at_116) (fun _ _ => ⟨rfl, hh280, (by decide : 3 + 0 ≤ _), (by decide : 16387 + 0 ≤ _)⟩)
    dsimp only [Pt.U, Pt.locs, Pt.cells, Pt.slots] at X282 l282 y282 z282 st282 hQ282
    subst l282 y282 z282
    obtain ⟨rfl, Nq282, hh282⟩ := hQ282
    have N283 := Fr.app N281 Nq282
    refine Go.via (T' := T282) (f' := (mkF m 119 #[.val (.int ia), .val (.int ib), .val (.int ic), .val (.int ie), .val (.int ig), .val (.ref b178), .val (.int (2 : Int32)), .val (.int ia), .val (.int ib), .val (.int ie)] [(.int ie)])) st282 ?_
    refine Go.step (T' := T282) (f' := (mkF m 121 #[.val (.int ia), .val (.int ib), .val (.int ic), .val (.int ie), .val (.int ig), .val (.ref b178), .val (.int (2 : Int32)), .val (.int ia), .val (.int ib), .val (.int ie)] [(.int ie), (.int ie)])) (fun t k => XS.iload X282.here hx rfl (hb hby at_119) rfl k) ?_
    refine Go.step (T' := T282) (f' := (mkF m 124 #[.val (.int ia), .val (.int ib), .val (.int ic), .val (.int ie), .val (.int ig), .val (.ref b178), .val (.int (2 : Int32)), .val (.int ia), .val (.int ib), .val (.int ie)] [])) (fun t k => XS.icmpNo X282.here hx rfl (hb hby at_121) rfl (teq (rfl : ie = ie)).2 k) ?_
    refine Go.step (T' := T282) (f' := (mkF m 125 #[.val (.int ia), .val (.int ib), .val (.int ic), .val (.int ie), .val (.int ig), .val (.ref b178), .val (.int (2 : Int32)), .val (.int ia), .val (.int ib), .val (.int ie)] [(.int (1 : Int32))])) (fun t k => XS.iconst X282.here hx rfl (hb hby at_124) k) ?_
    refine Go.step (T' := T282) (f' := (mkF m 129 #[.val (.int ia), .val (.int ib), .val (.int ic), .val (.int ie), .val (.int ig), .val (.ref b178), .val (.int (2 : Int32)), .val (.int ia), .val (.int ib), .val (.int ie)] [(.int (1 : Int32))])) (fun t k => XS.goto X282.here hx rfl (pc0 := 125) (pc' := 129) rfl (hb hby at_125) (by decide) (by decide) k) ?_
    refine Go.retZ X282 hx hlk (t := .boolean) Bd.returns (by simp) (hb hby at_129) hh282 ?_ (by decide) (by decide)
    exact ⟨rfl, N283, K277⟩
  ·
    rw [hs238]
    refine Go.step (T' := T228) (f' := (mkF m 41 #[.val (.int ia), .val (.int ib), .val (.int ic), .val (.int ie), .val (.int ig), .val (.ref b178), .val (.int (3 : Int32)), .unset, .unset, .unset] [(.int (3 : Int32))])) (fun t k => XS.iload X228.here hx rfl (hb hby at_39) rfl k) ?_
    refine Go.step (T' := T228) (f' := (mkF m 42 #[.val (.int ia), .val (.int ib), .val (.int ic), .val (.int ie), .val (.int ig), .val (.ref b178), .val (.int (3 : Int32)), .unset, .unset, .unset] [(.int (3 : Int32)), (.int (3 : Int32))])) (fun t k => XS.iconst X228.here hx rfl (hb hby at_41) k) ?_
    refine Go.step (T' := T228) (f' := (mkF m 53 #[.val (.int ia), .val (.int ib), .val (.int ic), .val (.int ie), .val (.int ig), .val (.ref b178), .val (.int (3 : Int32)), .unset, .unset, .unset] [])) (fun t k => XS.icmpYes X228.here hx rfl (pc0 := 42) (pc' := 53) rfl (hb hby at_42) rfl (flt (by decide : ¬ ((3 : Int32) < (3 : Int32)))).2.1 (by decide) (by decide) k) ?_
    refine Go.step (T' := T228) (f' := (mkF m 55 #[.val (.int ia), .val (.int ib), .val (.int ic), .val (.int ie), .val (.int ig), .val (.ref b178), .val (.int (3 : Int32)), .unset, .unset, .unset] [(.int (3 : Int32))])) (fun t k => XS.iload X228.here hx rfl (hb hby at_53) rfl k) ?_
    refine Go.step (T' := T228) (f' := (mkF m 62 #[.val (.int ia), .val (.int ib), .val (.int ic), .val (.int ie), .val (.int ig), .val (.ref b178), .val (.int (3 : Int32)), .unset, .unset, .unset] [])) (fun t k => XS.ifYes X228.here hx rfl (pc0 := 55) (pc' := 62) rfl (hb hby at_55) rfl ((if0 _ _).trans (feq (by decide : ¬ ((3 : Int32) = (0 : Int32)))).2) (by decide) (by decide) k) ?_
    refine Go.step (T' := T228) (f' := (mkF m 63 #[.val (.int ia), .val (.int ib), .val (.int ic), .val (.int ie), .val (.int ig), .val (.ref b178), .val (.int (3 : Int32)), .unset, .unset, .unset] [(.int ia)])) (fun t k => XS.iloadN X228.here hx rfl (hb hby at_62) rfl k) ?_
    refine Go.step (T' := T228) (f' := (mkF m 65 #[.val (.int ia), .val (.int ib), .val (.int ic), .val (.int ie), .val (.int ig), .val (.ref b178), .val (.int (3 : Int32)), .val (.int ia), .unset, .unset] [])) (fun t k => XS.istore X228.here hx rfl (hb hby at_63) rfl (l' := #[.val (.int ia), .val (.int ib), .val (.int ic), .val (.int ie), .val (.int ig), .val (.ref b178), .val (.int (3 : Int32)), .val (.int ia), .unset, .unset]) rfl k) ?_
    refine Go.step (T' := T228) (f' := (mkF m 67 #[.val (.int ia), .val (.int ib), .val (.int ic), .val (.int ie), .val (.int ig), .val (.ref b178), .val (.int (3 : Int32)), .val (.int ia), .unset, .unset] [(.int (3 : Int32))])) (fun t k => XS.iload X228.here hx rfl (hb hby at_65) rfl k) ?_
    refine Go.step (T' := T228) (f' := (mkF m 68 #[.val (.int ia), .val (.int ib), .val (.int ic), .val (.int ie), .val (.int ig), .val (.ref b178), .val (.int (3 : Int32)), .val (.int ia), .unset, .unset] [(.int (1 : Int32)), (.int (3 : Int32))])) (fun t k => XS.iconst X228.here hx rfl (hb hby at_67) k) ?_
    refine Go.step (T' := T228) (f' := (mkF m 75 #[.val (.int ia), .val (.int ib), .val (.int ic), .val (.int ie), .val (.int ig), .val (.ref b178), .val (.int (3 : Int32)), .val (.int ia), .unset, .unset] [])) (fun t k => XS.icmpYes X228.here hx rfl (pc0 := 68) (pc' := 75) rfl (hb hby at_68) rfl (feq (by decide : ¬ ((3 : Int32) = (1 : Int32)))).2 (by decide) (by decide) k) ?_
    refine Go.step (T' := T228) (f' := (mkF m 76 #[.val (.int ia), .val (.int ib), .val (.int ic), .val (.int ie), .val (.int ig), .val (.ref b178), .val (.int (3 : Int32)), .val (.int ia), .unset, .unset] [(.int ib)])) (fun t k => XS.iloadN X228.here hx rfl (hb hby at_75) rfl k) ?_
    refine Go.step (T' := T228) (f' := (mkF m 78 #[.val (.int ia), .val (.int ib), .val (.int ic), .val (.int ie), .val (.int ig), .val (.ref b178), .val (.int (3 : Int32)), .val (.int ia), .val (.int ib), .unset] [])) (fun t k => XS.istore X228.here hx rfl (hb hby at_76) rfl (l' := #[.val (.int ia), .val (.int ib), .val (.int ic), .val (.int ie), .val (.int ig), .val (.ref b178), .val (.int (3 : Int32)), .val (.int ia), .val (.int ib), .unset]) rfl k) ?_
    refine Go.step (T' := T228) (f' := (mkF m 80 #[.val (.int ia), .val (.int ib), .val (.int ic), .val (.int ie), .val (.int ig), .val (.ref b178), .val (.int (3 : Int32)), .val (.int ia), .val (.int ib), .unset] [(.int (3 : Int32))])) (fun t k => XS.iload X228.here hx rfl (hb hby at_78) rfl k) ?_
    refine Go.step (T' := T228) (f' := (mkF m 81 #[.val (.int ia), .val (.int ib), .val (.int ic), .val (.int ie), .val (.int ig), .val (.ref b178), .val (.int (3 : Int32)), .val (.int ia), .val (.int ib), .unset] [(.int (2 : Int32)), (.int (3 : Int32))])) (fun t k => XS.iconst X228.here hx rfl (hb hby at_80) k) ?_
    refine Go.step (T' := T228) (f' := (mkF m 88 #[.val (.int ia), .val (.int ib), .val (.int ic), .val (.int ie), .val (.int ig), .val (.ref b178), .val (.int (3 : Int32)), .val (.int ia), .val (.int ib), .unset] [])) (fun t k => XS.icmpYes X228.here hx rfl (pc0 := 81) (pc' := 88) rfl (hb hby at_81) rfl (feq (by decide : ¬ ((3 : Int32) = (2 : Int32)))).2 (by decide) (by decide) k) ?_
    refine Go.step (T' := T228) (f' := (mkF m 89 #[.val (.int ia), .val (.int ib), .val (.int ic), .val (.int ie), .val (.int ig), .val (.ref b178), .val (.int (3 : Int32)), .val (.int ia), .val (.int ib), .unset] [(.int ic)])) (fun t k => XS.iloadN X228.here hx rfl (hb hby at_88) rfl k) ?_
    refine Go.step (T' := T228) (f' := (mkF m 91 #[.val (.int ia), .val (.int ib), .val (.int ic), .val (.int ie), .val (.int ig), .val (.ref b178), .val (.int (3 : Int32)), .val (.int ia), .val (.int ib), .val (.int ic)] [])) (fun t k => XS.istore X228.here hx rfl (hb hby at_89) rfl (l' := #[.val (.int ia), .val (.int ib), .val (.int ic), .val (.int ie), .val (.int ig), .val (.ref b178), .val (.int (3 : Int32)), .val (.int ia), .val (.int ib), .val (.int ic)]) rfl k) ?_
    refine Go.step (T' := T228) (f' := (mkF m 93 #[.val (.int ia), .val (.int ib), .val (.int ic), .val (.int ie), .val (.int ig), .val (.ref b178), .val (.int (3 : Int32)), .val (.int ia), .val (.int ib), .val (.int ic)] [(.ref b178)])) (fun t k => XS.aload X228.here hx rfl (hb hby at_91) rfl rfl k) ?_
    refine Go.step (T' := T228) (f' := (mkF m 94 #[.val (.int ia), .val (.int ib), .val (.int ic), .val (.int ie), .val (.int ig), .val (.ref b178), .val (.int (3 : Int32)), .val (.int ia), .val (.int ib), .val (.int ic)] [(.int (0 : Int32)), (.ref b178)])) (fun t k => XS.iconst X228.here hx rfl (hb hby at_93) k) ?_
    obtain ⟨cq284, kq284, q284a, q284b, q284c⟩ := isOf hZ rfl p229
    obtain ⟨_, _, ⟨T284, L284, k284, n284⟩, -, X284, ⟨Lc284, hQ284, l284, y284, z284⟩, st284⟩ := X228.virtualBack hx (y := (⟨"com/example/pin_to_part/pintopart/IntColumn", "get", "(I)I"⟩ : MethodName)) (z := (⟨"com/example/pin_to_part/pintopart/IntColumn", "get", "(I)I"⟩ : MethodName)) hown (mvT hZ (hw _ (List.mem_of_getElem? (i := 29) rfl))) (mvT hZ (hw _ (List.mem_of_getElem? (i := 30) rfl))) (notFace_of_selects (args := #[]) (mvT hZ (hw _ (List.mem_of_getElem? (i := 32) rfl)))) (mvT hZ (hw _ (List.mem_of_getElem? (i := 32) rfl))) (mvT hZ (hw _ (List.mem_of_getElem? (i := 31) rfl))) (by decide) (backOf (W := 0) (rm_get0 l Z a0 hw [] b178 u186 u187 u202 u203 ia ib ic T228.heap n0 O236 p230 f235 p232) hZ (hw _ (List.mem_of_getElem? (i := 33) rfl)) (hw _ (List.mem_of_getElem? (i := 2) rfl)) (by decide) (by decide)) q284a q284c (g := (mkF m 94 #[.val (.int ia), .val (.int ib), .val (.int ic), .val (.int ie), .val (.int ig), .val (.ref b178), .val (.int (3 : Int32)), .val (.int ia), .val (.int ib), .val (.int ic)] [(.int (0 : Int32)), (.ref b178)])) rfl (by rw [hml]; rfl) (Steps.refl _) (argsL := [(.int (0 : Int32))]) (rest := []) (lenOf pd1 rfl) rfl (by show 2 * 0 + _ ≤ _; exact Nat.le_of_eq rfl) (hb hby at_94) (fun _ _ => ⟨rfl, rfl, (by decide : 3 + 0 ≤ _), (by decide : 16387 + 0 ≤ _)⟩)
    dsimp only [Pt.U, Pt.locs, Pt.cells, Pt.slots] at X284 l284 y284 z284 st284 hQ284
    subst l284 y284 z284
    obtain ⟨rfl, Nq284, hh284⟩ := hQ284
    have N285 := Fr.app N233 Nq284
    refine Go.via (T' := T284) (f' := (mkF m 97 #[.val (.int ia), .val (.int ib), .val (.int ic), .val (.int ie), .val (.int ig), .val (.ref b178), .val (.int (3 : Int32)), .val (.int ia), .val (.int ib), .val (.int ic)] [(.int ia)])) st284 ?_
    refine Go.step (T' := T284) (f' := (mkF m 99 #[.val (.int ia), .val (.int ib), .val (.int ic), .val (.int ie), .val (.int ig), .val (.ref b178), .val (.int (3 : Int32)), .val (.int ia), .val (.int ib), .val (.int ic)] [(.int ia), (.int ia)])) (fun t k => XS.iload X284.here hx rfl (hb hby at_97) rfl k) ?_
    refine Go.step (T' := T284) (f' := (mkF m 102 #[.val (.int ia), .val (.int ib), .val (.int ic), .val (.int ie), .val (.int ig), .val (.ref b178), .val (.int (3 : Int32)), .val (.int ia), .val (.int ib), .val (.int ic)] [])) (fun t k => XS.icmpNo X284.here hx rfl (hb hby at_99) rfl (teq (rfl : ia = ia)).2 k) ?_
    refine Go.step (T' := T284) (f' := (mkF m 104 #[.val (.int ia), .val (.int ib), .val (.int ic), .val (.int ie), .val (.int ig), .val (.ref b178), .val (.int (3 : Int32)), .val (.int ia), .val (.int ib), .val (.int ic)] [(.ref b178)])) (fun t k => XS.aload X284.here hx rfl (hb hby at_102) rfl rfl k) ?_
    refine Go.step (T' := T284) (f' := (mkF m 105 #[.val (.int ia), .val (.int ib), .val (.int ic), .val (.int ie), .val (.int ig), .val (.ref b178), .val (.int (3 : Int32)), .val (.int ia), .val (.int ib), .val (.int ic)] [(.int (1 : Int32)), (.ref b178)])) (fun t k => XS.iconst X284.here hx rfl (hb hby at_104) k) ?_
    obtain ⟨cq286, kq286, q286a, q286b, q286c⟩ := isOf hZ hh284 p229
    obtain ⟨_, _, ⟨T286, L286, k286, n286⟩, -, X286, ⟨Lc286, hQ286, l286, y286, z286⟩, st286⟩ := X284.virtualBack hx (y := (⟨"com/example/pin_to_part/pintopart/IntColumn", "get", "(I)I"⟩ : MethodName)) (z := (⟨"com/example/pin_to_part/pintopart/IntColumn", "get", "(I)I"⟩ : MethodName)) hown (mvT hZ (hw _ (List.mem_of_getElem? (i := 29) rfl))) (mvT hZ (hw _ (List.mem_of_getElem? (i := 30) rfl))) (notFace_of_selects (args := #[]) (mvT hZ (hw _ (List.mem_of_getElem? (i := 32) rfl)))) (mvT hZ (hw _ (List.mem_of_getElem? (i := 32) rfl))) (mvT hZ (hw _ (List.mem_of_getElem? (i := 31) rfl))) (by decide) (backOf (W := 0) (rm_get1 l Z a0 hw [] b178 u186 u187 u202 u203 ia ib ic T228.heap n0 O236 p230 f235 p232) hZ (hw _ (List.mem_of_getElem? (i := 33) rfl)) (hw _ (List.mem_of_getElem? (i := 2) rfl)) (by decide) (by decide)) q286a q286c (g := (mkF m 105 #[.val (.int ia), .val (.int ib), .val (.int ic), .val (.int ie), .val (.int ig), .val (.ref b178), .val (.int (3 : Int32)), .val (.int ia), .val (.int ib), .val (.int ic)] [(.int (1 : Int32)), (.ref b178)])) rfl (by rw [hml]; rfl) (Steps.refl _) (argsL := [(.int (1 : Int32))]) (rest := []) (lenOf pd1 rfl) rfl (by show 2 * 0 + _ ≤ _; exact Nat.le_of_eq rfl) (hb hby at_105) (fun _ _ => ⟨rfl, hh284, (by decide : 3 + 0 ≤ _), (by decide : 16387 + 0 ≤ _)⟩)
    dsimp only [Pt.U, Pt.locs, Pt.cells, Pt.slots] at X286 l286 y286 z286 st286 hQ286
    subst l286 y286 z286
    obtain ⟨rfl, Nq286, hh286⟩ := hQ286
    have N287 := Fr.app N285 Nq286
    refine Go.via (T' := T286) (f' := (mkF m 108 #[.val (.int ia), .val (.int ib), .val (.int ic), .val (.int ie), .val (.int ig), .val (.ref b178), .val (.int (3 : Int32)), .val (.int ia), .val (.int ib), .val (.int ic)] [(.int ib)])) st286 ?_
    refine Go.step (T' := T286) (f' := (mkF m 110 #[.val (.int ia), .val (.int ib), .val (.int ic), .val (.int ie), .val (.int ig), .val (.ref b178), .val (.int (3 : Int32)), .val (.int ia), .val (.int ib), .val (.int ic)] [(.int ib), (.int ib)])) (fun t k => XS.iload X286.here hx rfl (hb hby at_108) rfl k) ?_
    refine Go.step (T' := T286) (f' := (mkF m 113 #[.val (.int ia), .val (.int ib), .val (.int ic), .val (.int ie), .val (.int ig), .val (.ref b178), .val (.int (3 : Int32)), .val (.int ia), .val (.int ib), .val (.int ic)] [])) (fun t k => XS.icmpNo X286.here hx rfl (hb hby at_110) rfl (teq (rfl : ib = ib)).2 k) ?_
    refine Go.step (T' := T286) (f' := (mkF m 115 #[.val (.int ia), .val (.int ib), .val (.int ic), .val (.int ie), .val (.int ig), .val (.ref b178), .val (.int (3 : Int32)), .val (.int ia), .val (.int ib), .val (.int ic)] [(.ref b178)])) (fun t k => XS.aload X286.here hx rfl (hb hby at_113) rfl rfl k) ?_
    refine Go.step (T' := T286) (f' := (mkF m 116 #[.val (.int ia), .val (.int ib), .val (.int ic), .val (.int ie), .val (.int ig), .val (.ref b178), .val (.int (3 : Int32)), .val (.int ia), .val (.int ib), .val (.int ic)] [(.int (2 : Int32)), (.ref b178)])) (fun t k => XS.iconst X286.here hx rfl (hb hby at_115) k) ?_
    obtain ⟨cq288, kq288, q288a, q288b, q288c⟩ := isOf hZ hh286 p229
    obtain ⟨_, _, ⟨T288, L288, k288, n288⟩, -, X288, ⟨Lc288, hQ288, l288, y288, z288⟩, st288⟩ := X286.virtualBack hx (y := (⟨"com/example/pin_to_part/pintopart/IntColumn", "get", "(I)I"⟩ : MethodName)) (z := (⟨"com/example/pin_to_part/pintopart/IntColumn", "get", "(I)I"⟩ : MethodName)) hown (mvT hZ (hw _ (List.mem_of_getElem? (i := 29) rfl))) (mvT hZ (hw _ (List.mem_of_getElem? (i := 30) rfl))) (notFace_of_selects (args := #[]) (mvT hZ (hw _ (List.mem_of_getElem? (i := 32) rfl)))) (mvT hZ (hw _ (List.mem_of_getElem? (i := 32) rfl))) (mvT hZ (hw _ (List.mem_of_getElem? (i := 31) rfl))) (by decide) (backOf (W := 0) (rm_get2 l Z a0 hw [] b178 u186 u187 u202 u203 ia ib ic T228.heap n0 O236 p230 f235 p232) hZ (hw _ (List.mem_of_getElem? (i := 33) rfl)) (hw _ (List.mem_of_getElem? (i := 2) rfl)) (by decide) (by decide)) q288a q288c (g := (mkF m 116 #[.val (.int ia), .val (.int ib), .val (.int ic), .val (.int ie), .val (.int ig), .val (.ref b178), .val (.int (3 : Int32)), .val (.int ia), .val (.int ib), .val (.int ic)] [(.int (2 : Int32)), (.ref b178)])) rfl (by rw [hml]; rfl) (Steps.refl _) (argsL := [(.int (2 : Int32))]) (rest := []) (lenOf pd1 rfl) rfl (by show 2 * 0 + _ ≤ _; exact Nat.le_of_eq rfl) (hb hby at_116) (fun _ _ => ⟨rfl, hh286, (by decide : 3 + 0 ≤ _), (by decide : 16387 + 0 ≤ _)⟩)
    dsimp only [Pt.U, Pt.locs, Pt.cells, Pt.slots] at X288 l288 y288 z288 st288 hQ288
    subst l288 y288 z288
    obtain ⟨rfl, Nq288, hh288⟩ := hQ288
    have N289 := Fr.app N287 Nq288
    refine Go.via (T' := T288) (f' := (mkF m 119 #[.val (.int ia), .val (.int ib), .val (.int ic), .val (.int ie), .val (.int ig), .val (.ref b178), .val (.int (3 : Int32)), .val (.int ia), .val (.int ib), .val (.int ic)] [(.int ic)])) st288 ?_
    refine Go.step (T' := T288) (f' := (mkF m 121 #[.val (.int ia), .val (.int ib), .val (.int ic), .val (.int ie), .val (.int ig), .val (.ref b178), .val (.int (3 : Int32)), .val (.int ia), .val (.int ib), .val (.int ic)] [(.int ic), (.int ic)])) (fun t k => XS.iload X288.here hx rfl (hb hby at_119) rfl k) ?_
    refine Go.step (T' := T288) (f' := (mkF m 124 #[.val (.int ia), .val (.int ib), .val (.int ic), .val (.int ie), .val (.int ig), .val (.ref b178), .val (.int (3 : Int32)), .val (.int ia), .val (.int ib), .val (.int ic)] [])) (fun t k => XS.icmpNo X288.here hx rfl (hb hby at_121) rfl (teq (rfl : ic = ic)).2 k) ?_
    refine Go.step (T' := T288) (f' := (mkF m 125 #[.val (.int ia), .val (.int ib), .val (.int ic), .val (.int ie), .val (.int ig), .val (.ref b178), .val (.int (3 : Int32)), .val (.int ia), .val (.int ib), .val (.int ic)] [(.int (1 : Int32))])) (fun t k => XS.iconst X288.here hx rfl (hb hby at_124) k) ?_
    refine Go.step (T' := T288) (f' := (mkF m 129 #[.val (.int ia), .val (.int ib), .val (.int ic), .val (.int ie), .val (.int ig), .val (.ref b178), .val (.int (3 : Int32)), .val (.int ia), .val (.int ib), .val (.int ic)] [(.int (1 : Int32))])) (fun t k => XS.goto X288.here hx rfl (pc0 := 125) (pc' := 129) rfl (hb hby at_125) (by decide) (by decide) k) ?_
    refine Go.retZ X288 hx hlk (t := .boolean) Bd.returns (by simp) (hb hby at_129) hh288 ?_ (by decide) (by decide)
    exact ⟨rfl, N289, K237⟩
set_option maxRecDepth 65536 in
set_option maxHeartbeats 40000000 in
theorem comes_1 {Post : Tables → Env → Array Value → State → Outcome → State → Prop} (hpost : ∀ tb e args s v u, (limb_1_1.after args s (.returned v) u = true ∧ limb_1_2.after args s (.returned v) u = true ∧ True) → FrameEnd s (.returned v) u (Jvm.fieldLocs frame_1_writes args s ++ Jvm.arrayLocs frame_1_arrays args s ++ Jvm.staticLocs frame_1_statics s) 16 32896 → Post tb e args s (.returned v) u) :
    ArmFor flags0 classFile x code maxLocals ret World_1 tables_1 room_1 Calls_1 rest_1 Pre_1 Post := by
  intro l hfl _ _ p e ha hc hk s m args below hf hA hF happ hP
  obtain ⟨hcalls, hrest, hpre⟩ := hP
  obtain ⟨-, -, -, hnamed, -, -, -, hat⟩ := (Spec.applies_iff hf).mp happ
  obtain ⟨hg, hn⟩ := and_e (Cond.before_iff.mp (show (Jvm.Cond.and given_1 narrow_1).before args s = true from hpre))
  obtain ⟨c1, c2⟩ := and_e hg
  obtain ⟨c3, c4⟩ := and_e c2
  obtain ⟨c5, c6⟩ := and_e c4
  obtain ⟨c7, c8⟩ := and_e c6
  obtain ⟨c9, c10⟩ := and_e c8
  obtain ⟨w0, w1, w2, w3, w4, rfl⟩ : ∃ w0 w1 w2 w3 w4 : Value, args = #[w0, w1, w2, w3, w4] := by
    have hs : args.size = 5 := by simpa [Cond.value, given_1] using c1
    obtain ⟨L⟩ := args
    match L, hs with
    | [w0, w1, w2, w3, w4], _ => exact ⟨w0, w1, w2, w3, w4, rfl⟩
  have hw := fun d (hd : d ∈ tables_1) => atoms_spec (ws := Jvm.Cond.code x code maxLocals ret :: tables_1) hat d (List.mem_cons_of_mem _ hd)
  have hfit : Fit s := fun {y c} hc i hi => by
    obtain ⟨ha, rfl⟩ := Array.getElem?_eq_some_iff.mp hc
    have q := List.all_eq_true.mp ((Array.all_eq_true_iff_forall_mem.mp hF) _ (Array.getElem_mem ha)) i (List.mem_range.mpr hi)
    simpa [Array.getElem?_eq_getElem hi] using q
  obtain ⟨i0, ei0⟩ := is_v c3
  obtain rfl : w0 = (.int i0) := Option.some.inj ei0
  obtain ⟨i1, ei1⟩ := is_v c5
  obtain rfl : w1 = (.int i1) := Option.some.inj ei1
  obtain ⟨i2, ei2⟩ := is_v c7
  obtain rfl : w2 = (.int i2) := Option.some.inj ei2
  obtain ⟨i3, ei3⟩ := is_v c9
  obtain rfl : w3 = (.int i3) := Option.some.inj ei3
  obtain ⟨i4, ei4⟩ := is_v c10
  obtain rfl : w4 = (.int i4) := Option.some.inj ei4
  obtain ⟨n, o, h1, h2, h3, _, L, rfl, ⟨rfl, N, -⟩, hq⟩ := rm_law l s _ hw tables_1 i0 i1 i2 i3 i4 s.heap s.heap.size (Old.start s)  p e ha hc hk s m _ below hf ((Spec.applies_iff_loose hf).mp happ).1 ⟨rfl, State.Warmed39.refl s, rfl⟩ trivial
  refine ⟨n, _, h1, h2, h3, hpost _ _ _ _ _ _ ⟨Cond.after_iff.mpr rfl, Cond.after_iff.mpr (eq_i res_at (Term.int_eval (1)) rfl), trivial⟩ ⟨hq.1, hq.2.1, (hq.2.2.sift fun y hy => Or.inr (N y hy)).mono (by decide) (by decide)⟩⟩
theorem main_1_1 : Claimed_1_1 := comes_1 fun _ _ _ _ _ _ h hF => ⟨h.1, hF⟩
theorem main_1_2 : Claimed_1_2 := comes_1 fun _ _ _ _ _ _ h hF => ⟨h.2.1, hF⟩
end Jvm.Pilot.@@N@@
namespace Jvm.Pilot.@@N@@
open Jvm Jvm.ClassFile Sem Op Lib Jvm.Free Jvm.Stand Jvm.Pilot.@@N@@.Jvm.D
/-! MADE BY PROGRAM (witnessworld.py) out of the Statement's table words and the real class files: 9 classes; the members and pool entries that the words name. The judged class is class 1, her method 1. -/
namespace start1
open Jvm.ClassFile
def u (s : String) : CpInfo := .utf8 (stringToUtf16 s)
/-- a pool by its gaps: so many unusable entries, then the entry; so many at the end -/
def gap : Nat → List CpInfo → List CpInfo
  | 0, r => r
  | n + 1, r => .unusable :: gap n r
def poolList (es : List (Nat × CpInfo)) (last : Nat) : List CpInfo := es.foldr (fun e r => gap e.1 (e.2 :: r)) (gap last [])
def pool (es : List (Nat × CpInfo)) (last : Nat) : Array CpInfo := ⟨poolList es last⟩
def fileOf (pool : Array CpInfo) (this : Nat) (attrs : Array Attribute := #[]) (ms : Array MethodInfo := #[]) (fl : Nat := 33) (sup : Nat := 0) (ifs : Array Nat := #[]) (fds : Array FieldInfo := #[]) : ClassFile where
  minorVersion := 0
  majorVersion := 65
  constantPool := pool
  accessFlags := fl
  thisClass := this
  superClass := sup
  interfaces := ifs
  fields := fds
  methods := ms
  attributes := attrs
def plain (name : String) (sup : Option ClassId) : Class where
  name := name
  kind := .ordinary
  loader := none
  accessFlags := 33
  super := sup
  interfaces := #[]
  cf := none
  fields := #[]
  methods := #[]
  instanceTypes := #[]
  staticTypes := #[]
  resolved := #[]
  callSites := []
  init := .initialized
  statics := none
  mirror := none

def pool0 : Array CpInfo := pool [(5, u "<init>"), (0, u "()V"), (1, .class_ 10), (1, u "java/lang/Object")] 113

def k0c0 : Code := { maxStack := 0, maxLocals := 1, code := object_method_1_code, exceptionTable := #[], attributes := #[] }
def k0m0 : Method := { name := "<init>", desc := "()V", sig := { parameters := [], returnType := none }, accessFlags := 1, code := some k0c0 }
/-- java/lang/Object -/
def k0 : Class := { plain "java/lang/Object" none with
  accessFlags := 33
  interfaces := #[]
  cf := some (fileOf pool0 8 #[] #[{ accessFlags := 1, nameIndex := 5, descriptorIndex := 6, attributes := #[] }] 33 0 #[] #[])
  fields := #[]
  methods := #[k0m0]
  instanceTypes := #[]
  staticTypes := #[]
  resolved := Array.replicate 124 none
  statics := none }

def pool1 : Array CpInfo := pool [(2, .class_ 4), (0, .nameAndType 5 6), (0, u "java/lang/Object"), (0, u "<init>"), (0, u "()V"), (0, .class_ 8), (0, u "com/example/pin_to_part/pintopart/IntColumn"), (0, .methodref 7 3), (0, .methodref 7 11), (0, .nameAndType 12 13), (0, u "add"), (0, u "(I)I"), (0, .integer 2147483647), (0, .methodref 7 16), (0, .nameAndType 17 18), (0, u "set"), (0, u "(II)V"), (0, .methodref 7 20), (0, .nameAndType 21 13), (0, u "get"), (0, .class_ 23), (0, u "com/example/pin_to_part/pintopart/IntColumnGetPinLaw"), (2, u "law"), (0, u "(IIIII)Z")] 3

def k1m0 : Method := { name := "<init>", desc := "()V", sig := { parameters := [], returnType := none }, accessFlags := 1, code := none }
def k1c1 : Code := { maxStack := 3, maxLocals := 10, code := code, exceptionTable := #[], attributes := #[] }
def k1m1 : Method := { name := "law", desc := "(IIIII)Z", sig := { parameters := [.int, .int, .int, .int, .int], returnType := some .boolean }, accessFlags := 9, code := some k1c1 }
/-- com/example/pin_to_part/pintopart/IntColumnGetPinLaw -/
def k1 : Class := { plain "com/example/pin_to_part/pintopart/IntColumnGetPinLaw" (some 0) with
  accessFlags := 49
  interfaces := #[]
  cf := some (fileOf pool1 22 #[] #[{ accessFlags := 1, nameIndex := 5, descriptorIndex := 6, attributes := #[] }, { accessFlags := 9, nameIndex := 26, descriptorIndex := 27, attributes := #[] }] 49 2 #[] #[])
  fields := #[]
  methods := #[k1m0, k1m1]
  instanceTypes := #[]
  staticTypes := #[]
  resolved := Array.replicate 31 none
  statics := none }

def pool2 : Array CpInfo := pool [(1, .class_ 2), (0, u "com/example/pin_to_part/pintopart/IntColumn"), (0, .methodref 4 5), (0, .class_ 6), (0, .nameAndType 7 8), (0, u "java/lang/Object"), (0, u "<init>"), (0, u "()V"), (0, .class_ 10), (0, u "[I"), (0, .fieldref 1 12), (0, .nameAndType 13 14), (0, u "chunks"), (0, u "[[I"), (0, .fieldref 1 16), (0, .nameAndType 17 18), (0, u "size"), (0, u "I"), (2, .integer 2147483647), (16, u "CHUNK_BITS"), (2, u "CHUNK_SIZE"), (1, u "IN_CHUNK"), (4, u "add"), (0, u "(I)I"), (1, u "get"), (0, u "set"), (0, u "(II)V")] 19

def k2c0 : Code := { maxStack := 2, maxLocals := 1, code := prog_19_method_1_code, exceptionTable := #[], attributes := #[] }
def k2m0 : Method := { name := "<init>", desc := "()V", sig := { parameters := [], returnType := none }, accessFlags := 0, code := some k2c0 }
def k2c1 : Code := { maxStack := 4, maxLocals := 3, code := prog_19_method_3_code, exceptionTable := #[], attributes := #[] }
def k2m1 : Method := { name := "add", desc := "(I)I", sig := { parameters := [.int], returnType := some .int }, accessFlags := 0, code := some k2c1 }
def k2c2 : Code := { maxStack := 3, maxLocals := 2, code := prog_19_method_4_code, exceptionTable := #[], attributes := #[] }
def k2m2 : Method := { name := "get", desc := "(I)I", sig := { parameters := [.int], returnType := some .int }, accessFlags := 0, code := some k2c2 }
def k2c3 : Code := { maxStack := 3, maxLocals := 3, code := prog_19_method_5_code, exceptionTable := #[], attributes := #[] }
def k2m3 : Method := { name := "set", desc := "(II)V", sig := { parameters := [.int, .int], returnType := none }, accessFlags := 0, code := some k2c3 }
/-- com/example/pin_to_part/pintopart/IntColumn -/
def k2 : Class := { plain "com/example/pin_to_part/pintopart/IntColumn" (some 0) with
  accessFlags := 48
  interfaces := #[]
  cf := some (fileOf pool2 1 #[] #[{ accessFlags := 0, nameIndex := 7, descriptorIndex := 8, attributes := #[] }, { accessFlags := 0, nameIndex := 48, descriptorIndex := 49, attributes := #[] }, { accessFlags := 0, nameIndex := 51, descriptorIndex := 49, attributes := #[] }, { accessFlags := 0, nameIndex := 52, descriptorIndex := 53, attributes := #[] }] 48 4 #[] #[{ accessFlags := 26, nameIndex := 38, descriptorIndex := 18, attributes := #[] }, { accessFlags := 26, nameIndex := 41, descriptorIndex := 18, attributes := #[] }, { accessFlags := 26, nameIndex := 43, descriptorIndex := 18, attributes := #[] }, { accessFlags := 2, nameIndex := 13, descriptorIndex := 14, attributes := #[] }, { accessFlags := 2, nameIndex := 17, descriptorIndex := 18, attributes := #[] }])
  fields := #[{ name := "CHUNK_BITS", type := .int, accessFlags := 26, slot := 0, constantValue := 0 }, { name := "CHUNK_SIZE", type := .int, accessFlags := 26, slot := 1, constantValue := 0 }, { name := "IN_CHUNK", type := .int, accessFlags := 26, slot := 2, constantValue := 0 }, { name := "chunks", type := (.array (.array .int)), accessFlags := 2, slot := 0, constantValue := 0 }, { name := "size", type := .int, accessFlags := 2, slot := 1, constantValue := 0 }]
  methods := #[k2m0, k2m1, k2m2, k2m3]
  instanceTypes := #[(.array (.array .int)), .int]
  staticTypes := #[.int, .int, .int]
  resolved := Array.replicate 73 none
  statics := none }

def pool3 : Array CpInfo := pool [(1, u "java/lang/Cloneable"), (0, .class_ 1), (0, u "java/lang/Object"), (0, .class_ 3)] 3

/-- java/lang/Cloneable -/
def k3 : Class := { plain "java/lang/Cloneable" (some 0) with
  accessFlags := 1537
  interfaces := #[]
  cf := some (fileOf pool3 2 #[] #[] 1537 4 #[] #[])
  fields := #[]
  methods := #[]
  instanceTypes := #[]
  staticTypes := #[]
  resolved := Array.replicate 8 none
  statics := none }

def pool4 : Array CpInfo := pool [(1, u "java/io/Serializable"), (0, .class_ 1), (0, u "java/lang/Object"), (0, .class_ 3)] 3

/-- java/io/Serializable -/
def k4 : Class := { plain "java/io/Serializable" (some 0) with
  accessFlags := 1537
  interfaces := #[]
  cf := some (fileOf pool4 2 #[] #[] 1537 4 #[] #[])
  fields := #[]
  methods := #[]
  instanceTypes := #[]
  staticTypes := #[]
  resolved := Array.replicate 8 none
  statics := none }

/-- the primitive byte -/
def k5 : Class := { plain "byte" none with kind := .primitive 'B', accessFlags := 0x411 }
/-- [B -/
def k6 : Class := { plain "[B" (some 0) with kind := .array 5 .byte, interfaces := #[3, 4], accessFlags := 1041 }

/-- the primitive int -/
def k7 : Class := { plain "int" none with kind := .primitive 'I', accessFlags := 0x411 }
/-- [I -/
def k8 : Class := { plain "[I" (some 0) with kind := .array 7 .int, interfaces := #[3, 4], accessFlags := 1041 }

def k9 : Class := { plain "[[I" (some 0) with kind := .array 8 (.array .int), interfaces := #[3, 4], accessFlags := 1041 }
def heap : Heap := #[]
def classes : Array Class := #[k0, k1, k2, k3, k4, k5, k6, k7, k8, k9]
def interned : List (Array UInt16 × Addr) := []
def slotsUsed : Nat := 0
def theMethod : MethodId := ⟨1, 1⟩
def args0 : Array Value := #[.int 5, .int 5, .int 5, .int 5, .int 5]
def aboutOver (below : List Frame) : State where
  vm := { classes := classes, interned := interned.toArray }
  heap := heap
  slotsUsed := slotsUsed
  threads := #[{ frames := .invoking theMethod args0 :: below }]
def below0 : List Frame := [.native { method := ⟨0, 0⟩, args := #[] }]
def about1 : State := aboutOver below0
def p0 : Program := .bare "" "" ""
def e0 : Env := launch0.env 0 0 0
theorem w_frames : about1.frames = Frame.invoking theMethod args0 :: below0 := rfl
set_option maxRecDepth 65536 in
theorem w_args : argsFit about1.vm theMethod args0 = true := by decide +kernel
set_option maxRecDepth 65536 in
theorem w_heap : heapFits about1 = true := by decide +kernel
set_option maxRecDepth 65536 in
theorem w_runnable : about1.curStatus? = some .runnable := by decide +kernel
set_option maxRecDepth 65536 in
theorem w_alone : about1.alone = true := by decide +kernel
set_option maxRecDepth 65536 in
theorem w_named : about1.methodNamed? x = some theMethod := by decide +kernel
set_option maxRecDepth 65536 in
theorem w_hears : about1.hears theMethod below0 = true := by decide +kernel
set_option maxRecDepth 65536 in
theorem w_ripe : about1.ripe theMethod args0 below0 = true := by decide +kernel
theorem w_running : about1.status = .running := rfl
set_option maxRecDepth 65536 in
theorem w_room : about1.hasRoom e0.platform room_1 = true :=
  launch0.hasRoom_least _ room_1 (by decide +kernel) (by decide +kernel) (by decide +kernel) (by decide +kernel) (by decide +kernel) (by decide +kernel)
theorem allAtoms_all (ts : List Jvm.Cond) (a : Array Jvm.Value) (st : Jvm.State) : (allAtoms ts).before a st = ts.all (fun c => c.before a st) := by
  induction ts with
  | nil => rfl
  | cons c t ih =>
    show (Jvm.Cond.and c (allAtoms t)).before a st = _
    rw [Jvm.Cond.before_and, ih, List.all_cons]
def words1 : List Jvm.Cond := Jvm.Cond.code x code maxLocals ret :: tables_1
/-- a 'code' word, met by the world's own term for the bytes: nothing is compared byte by byte -/
theorem code_word {y : MethodName} {bytes : ByteArray} {mx : Nat} {rt : Option FieldType} {a : Array Value} {s : State} {m : MethodId} {meth : Method} {c : Code} (h1 : s.methodNamed? y = some m) (h2 : s.vm.method? m = some meth) (h3 : meth.code = some c) (h4 : c.code = bytes)
    (h5 : (c.maxLocals == mx && c.exceptionTable.isEmpty && decide (c.maxStack ≤ mostOperands) && decide (meth.sig.returnType = rt) && !meth.locks && decide (parseMethodDescriptor y.desc = some meth.sig)) = true) : (Jvm.Cond.code y bytes mx rt).before a s = true := by
  simp only [Bool.and_eq_true, beq_iff_eq, Bool.not_eq_true', decide_eq_true_eq] at h5
  obtain ⟨⟨⟨⟨⟨g1, g2⟩, g3⟩, g4⟩, g5⟩, g6⟩ := h5
  simp [Cond.before, Cond.holds, Cond.value, h1, h2, h3, h4, g1, g2, g3, g4, g5, g6]
def isCode : Jvm.Cond → Bool
  | .code _ _ _ _ => true
  | _ => false
theorem all_split {L : List Jvm.Cond} {P : Jvm.Cond → Bool} (h1 : L.all (fun c => isCode c || P c) = true) (h2 : ∀ c ∈ L.filter isCode, P c = true) : L.all P = true := by
  refine List.all_eq_true.mpr fun c hc => ?_
  have h := List.all_eq_true.mp h1 c hc
  rcases Bool.eq_false_or_eq_true (isCode c) with hi | hi
  · exact h2 c (List.mem_filter.mpr ⟨hc, hi⟩)
  · simpa [hi] using h
set_option maxRecDepth 65536 in
theorem w_c0 : (Jvm.Cond.code x code maxLocals ret).before args0 about1 = true := code_word (m := ⟨1, 1⟩) (meth := k1m1) (c := k1c1) (by decide +kernel) rfl rfl rfl (by decide +kernel)
set_option maxRecDepth 65536 in
theorem w_c1 : (Jvm.Cond.code ({ cls := "com/example/pin_to_part/pintopart/IntColumn", name := "<init>", desc := "()V" } : Jvm.MethodName) prog_19_method_1_code (1 : Nat) (Option.none : Option Jvm.ClassFile.FieldType)).before args0 about1 = true := code_word (m := ⟨2, 0⟩) (meth := k2m0) (c := k2c0) (by decide +kernel) rfl rfl rfl (by decide +kernel)
set_option maxRecDepth 65536 in
theorem w_c2 : (Jvm.Cond.code ({ cls := "java/lang/Object", name := "<init>", desc := "()V" } : Jvm.MethodName) object_method_1_code (1 : Nat) (Option.none : Option Jvm.ClassFile.FieldType)).before args0 about1 = true := code_word (m := ⟨0, 0⟩) (meth := k0m0) (c := k0c0) (by decide +kernel) rfl rfl rfl (by decide +kernel)
set_option maxRecDepth 65536 in
theorem w_c3 : (Jvm.Cond.code ({ cls := "com/example/pin_to_part/pintopart/IntColumn", name := "add", desc := "(I)I" } : Jvm.MethodName) prog_19_method_3_code (3 : Nat) (Option.some Jvm.ClassFile.FieldType.int)).before args0 about1 = true := code_word (m := ⟨2, 1⟩) (meth := k2m1) (c := k2c1) (by decide +kernel) rfl rfl rfl (by decide +kernel)
set_option maxRecDepth 65536 in
theorem w_c4 : (Jvm.Cond.code ({ cls := "com/example/pin_to_part/pintopart/IntColumn", name := "set", desc := "(II)V" } : Jvm.MethodName) prog_19_method_5_code (3 : Nat) (Option.none : Option Jvm.ClassFile.FieldType)).before args0 about1 = true := code_word (m := ⟨2, 3⟩) (meth := k2m3) (c := k2c3) (by decide +kernel) rfl rfl rfl (by decide +kernel)
set_option maxRecDepth 65536 in
theorem w_c5 : (Jvm.Cond.code ({ cls := "com/example/pin_to_part/pintopart/IntColumn", name := "get", desc := "(I)I" } : Jvm.MethodName) prog_19_method_4_code (2 : Nat) (Option.some Jvm.ClassFile.FieldType.int)).before args0 about1 = true := code_word (m := ⟨2, 2⟩) (meth := k2m2) (c := k2c2) (by decide +kernel) rfl rfl rfl (by decide +kernel)
def codes1 : List Jvm.Cond := [Jvm.Cond.code x code maxLocals ret, Jvm.Cond.code ({ cls := "com/example/pin_to_part/pintopart/IntColumn", name := "<init>", desc := "()V" } : Jvm.MethodName) prog_19_method_1_code (1 : Nat) (Option.none : Option Jvm.ClassFile.FieldType), Jvm.Cond.code ({ cls := "java/lang/Object", name := "<init>", desc := "()V" } : Jvm.MethodName) object_method_1_code (1 : Nat) (Option.none : Option Jvm.ClassFile.FieldType), Jvm.Cond.code ({ cls := "com/example/pin_to_part/pintopart/IntColumn", name := "add", desc := "(I)I" } : Jvm.MethodName) prog_19_method_3_code (3 : Nat) (Option.some Jvm.ClassFile.FieldType.int), Jvm.Cond.code ({ cls := "com/example/pin_to_part/pintopart/IntColumn", name := "set", desc := "(II)V" } : Jvm.MethodName) prog_19_method_5_code (3 : Nat) (Option.none : Option Jvm.ClassFile.FieldType), Jvm.Cond.code ({ cls := "com/example/pin_to_part/pintopart/IntColumn", name := "get", desc := "(I)I" } : Jvm.MethodName) prog_19_method_4_code (2 : Nat) (Option.some Jvm.ClassFile.FieldType.int)]
set_option maxRecDepth 65536 in
theorem codes_eq : words1.filter isCode = codes1 := rfl
theorem w_codes : ∀ c ∈ words1.filter isCode, c.before args0 about1 = true := by
  rw [codes_eq]
  intro c hc
  simp only [codes1, List.mem_cons, List.not_mem_nil, or_false] at hc
  rcases hc with rfl | rfl | rfl | rfl | rfl | rfl
  · exact w_c0
  · exact w_c1
  · exact w_c2
  · exact w_c3
  · exact w_c4
  · exact w_c5
set_option maxRecDepth 65536 in
theorem w_t1 : (words1.take 24).all (fun c => isCode c || c.before args0 about1) = true := by decide +kernel
set_option maxRecDepth 65536 in
theorem w_t2 : (words1.drop 24).all (fun c => isCode c || c.before args0 about1) = true := by decide +kernel
theorem w_tables : (allAtoms (Jvm.Cond.code x code maxLocals ret :: tables_1)).before args0 about1 = true := by
  rw [allAtoms_all]
  show words1.all (fun c => c.before args0 about1) = true
  refine all_split ?_ w_codes
  rw [← List.take_append_drop 24 words1, List.all_append, w_t1, w_t2]
  rfl
set_option maxRecDepth 65536 in
theorem w_case : (Jvm.Cond.and given_1 narrow_1).before args0 about1 = true := by decide +kernel
theorem w_applies : (headSpec (Jvm.Cond.code x code maxLocals ret :: tables_1) room_1).applies x e0.platform about1 = true :=
  (Spec.applies_iff w_frames).mpr ⟨w_running, w_runnable, w_alone, w_named, w_hears, w_ripe, w_room, w_tables⟩
theorem atStart : AtStart classFile x code maxLocals ret World_1 tables_1 room_1 Calls_1 rest_1 Pre_1 launch0 p0 e0 about1 theMethod args0 below0 :=
  ⟨lists_1, trivial, launch0.admits_env _ _ _, launch0.least_env, fairChoices_fair.cas, fairChoices_fair.clock, w_frames, w_args, w_heap, w_applies, trivial, trivial, w_case⟩
end start1
theorem witness_1 : WitnessClaimed_1 := ⟨start1.p0, start1.e0, start1.about1, start1.theMethod, start1.args0, start1.below0, start1.atStart⟩
end Jvm.Pilot.@@N@@
