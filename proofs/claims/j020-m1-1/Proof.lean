import JvmDerived
import JvmDerived.Pilot.@@N@@Statement
import JvmDerived.Pilot.@@N@@Code
set_option linter.unusedVariables false
set_option linter.unusedSimpArgs false
namespace Jvm.RoadKit
open Sem ClassFile Op Lib Jvm.Stand Jvm.Free Jvm.LawKit
section New
variable {p : Program} {l : Launch} {e : Env} {R : Room} {s : State} {m : MethodId} {args : Array Value} {below : List Frame} {meth : Method} {c : Code} {T : State} {locs : List Loc} {cells slots : Nat}
theorem retI (X : Stand p l e R s m args below meth c T locs cells slots) (hx : p.tables.exec = Jvm.exec) {pc : Nat} {Ls : Array Slot} {z : Int32} {rest : List Value} (hret : meth.sig.returnType = some .int) (hd : decode c.code pc = .ok (.ireturn, 1)) {fs : List Frame}
    (hl : ∀ (f : JFrame) (acts : List Action), f.method = m → f.locked = none → f.entered = [] → (doReturn e (T.setTop f) acts (some (.int z))).1 = T.setFrames fs) : Steps p.tables e below (T.setTop (mkF m pc Ls (.int z :: rest))) (T.setFrames fs) := by
  have hm' : T.vm.method? m = some meth := X.method'
  have hn : narrow .int (.int z) = .int z := rfl
  show Steps p.tables e below (T.setTop { method := m, pc := pc, locals := Ls, stack := _ :: rest, locked := none }) _
  jvm_step X.here [X.here.top, hx, hd, hm', hret, hn]
  first | (intro acts; rw [hl _ acts rfl rfl rfl]) | rw [hl _ _ rfl rfl rfl]
  exact Steps.refl _
end New
end Jvm.RoadKit
namespace Jvm.Pilot.@@N@@
open Jvm Jvm.ClassFile Sem Op Lib Jvm.Free Jvm.Stand Jvm.LawKit Jvm.RoadKit Bundle Jvm.Pilot.@@N@@.Jvm.D
section Own
variable {p : Program} {l : Launch} {e : Env} {R : Room} {s : State} {m : MethodId} {args : Array Value} {below : List Frame} {meth : Method} {c : Code} {T T' : State} {locs : List Loc} {cells slots : Nat} {f f' : JFrame} {Q : Option Value → Heap → List Loc → Prop} {ck sk : Nat} {h : Heap} {Z : State}
/-- from here the run comes to its end, and leaves what Q says -/
def Go (p : Program) (e : Env) (below : List Frame) (s : State) (Q : Option Value → Heap → List Loc → Prop) (ck sk : Nat) (T : State) (f : JFrame) : Prop :=
  ∃ s₂ o, Steps p.tables e below (T.setTop f) s₂ ∧ s₂.status = .running ∧ Ended s₂ below o ∧ ∃ v L, o = .returned v ∧ Q v s₂.heap L ∧ FrameEnd s o s₂ L ck sk
theorem Go.step (st : ∀ t, Steps p.tables e below (T'.setTop f') t → Steps p.tables e below (T.setTop f) t) (k : Go p e below s Q ck sk T' f') : Go p e below s Q ck sk T f := by
  obtain ⟨s₂, o, h1, r⟩ := k; exact ⟨s₂, o, st _ h1, r⟩
theorem Go.via (st : Steps p.tables e below (T.setTop f) (T'.setTop f')) (k : Go p e below s Q ck sk T' f') : Go p e below s Q ck sk T f := by
  obtain ⟨s₂, o, h1, r⟩ := k; exact ⟨s₂, o, st.trans h1, r⟩
theorem Go.retI (X : Stand p l e R s m args below meth c T locs cells slots) (hx : p.tables.exec = Jvm.exec) (hlk : meth.locks = false) {pc : Nat} {Ls : Array Slot} {z : Int32} {rest : List Value} (hret : meth.sig.returnType = some .int) (hd : decode c.code pc = .ok (.ireturn, 1)) (eT : T.heap = h) (hq : Q (some (.int z)) h locs) (hck : cells ≤ ck) (hsk : slots ≤ sk) : Go p e below s Q ck sk T (mkF m pc Ls (.int z :: rest)) := by
  subst eT
  obtain ⟨fs, hr, hrun, hended, hW, hsame⟩ := X.leave (v := some (.int z)) (fun h => by rw [hret] at h; cases h) hlk
  exact ⟨_, _, Jvm.RoadKit.retI X hx hret hd hr, hrun, hended, _, _, rfl, hq, ⟨_, rfl⟩, hW, hsame.mono hck hsk⟩
theorem Go.retZ (X : Stand p l e R s m args below meth c T locs cells slots) (hx : p.tables.exec = Jvm.exec) (hlk : meth.locks = false) {pc : Nat} {Ls : Array Slot} {z : Int32} {rest : List Value} {t : FieldType} (hret : meth.sig.returnType = some t) (ht : t = .boolean ∨ t = .byte ∨ t = .char ∨ t = .short) (hd : decode c.code pc = .ok (.ireturn, 1)) (eT : T.heap = h) (hq : Q (some (.int (nar t z))) h locs) (hck : cells ≤ ck) (hsk : slots ≤ sk) : Go p e below s Q ck sk T (mkF m pc Ls (.int z :: rest)) := by
  subst eT
  obtain ⟨fs, hr, hrun, hended, hW, hsame⟩ := X.leave (v := some (.int (nar t z))) (fun h => by rw [hret] at h; cases h) hlk
  exact ⟨_, _, retN X hx hret ht hd hr, hrun, hended, _, _, rfl, hq, ⟨_, rfl⟩, hW, hsame.mono hck hsk⟩
theorem Go.retV (X : Stand p l e R s m args below meth c T locs cells slots) (hx : p.tables.exec = Jvm.exec) (hlk : meth.locks = false) {pc : Nat} {Ls : Array Slot} (hret : meth.sig.returnType = none) (hd : decode c.code pc = .ok (.return_, 1)) (eT : T.heap = h) (hq : Q none h locs) (hck : cells ≤ ck) (hsk : slots ≤ sk) : Go p e below s Q ck sk T (mkF m pc Ls []) := by
  subst eT
  obtain ⟨fs, hr, hrun, hended, hW, hsame⟩ := X.leave (v := none) (fun _ => rfl) hlk
  exact ⟨_, _, X.returnOut hx hret hd hr, hrun, hended, _, _, rfl, hq, ⟨_, rfl⟩, hW, hsame.mono hck hsk⟩
theorem Go.retJ (X : Stand p l e R s m args below meth c T locs cells slots) (hx : p.tables.exec = Jvm.exec) (hlk : meth.locks = false) {pc : Nat} {Ls : Array Slot} {z : Int64} {rest : List Value} (hret : meth.sig.returnType = some .long) (hd : decode c.code pc = .ok (.lreturn, 1)) (eT : T.heap = h) (hq : Q (some (.long z)) h locs) (hck : cells ≤ ck) (hsk : slots ≤ sk) : Go p e below s Q ck sk T (mkF m pc Ls (.long z :: rest)) := by
  subst eT
  obtain ⟨fs, hr, hrun, hended, hW, hsame⟩ := X.leave (v := some (.long z)) (fun h => by rw [hret] at h; cases h) hlk
  exact ⟨_, _, retOut X hx hret rfl (Or.inr (Or.inl ⟨rfl, rfl, _, rfl⟩)) hd hr, hrun, hended, _, _, rfl, hq, ⟨_, rfl⟩, hW, hsame.mono hck hsk⟩
theorem own_nar_ref {t : FieldType} {w : Value} (h1 : t.isReference = true) (h2 : w.isRef = true) : narrow t w = w := by
  cases t <;> first | (cases h1; done) | (cases w <;> first | rfl | (cases h2; done))
theorem Go.retA (X : Stand p l e R s m args below meth c T locs cells slots) (hx : p.tables.exec = Jvm.exec) (hlk : meth.locks = false) {pc : Nat} {Ls : Array Slot} {w : Value} {rest : List Value} {t : FieldType} (hret : meth.sig.returnType = some t) (ht : t.isReference = true) (hw : w.isRef = true) (hd : decode c.code pc = .ok (.areturn, 1)) (eT : T.heap = h) (hq : Q (some w) h locs) (hck : cells ≤ ck) (hsk : slots ≤ sk) : Go p e below s Q ck sk T (mkF m pc Ls (w :: rest)) := by
  subst eT
  obtain ⟨fs, hr, hrun, hended, hW, hsame⟩ := X.leave (v := some w) (fun h => by rw [hret] at h; cases h) hlk
  exact ⟨_, _, retOut X hx hret (own_nar_ref ht hw) (Or.inr (Or.inr (Or.inr (Or.inr ⟨rfl, ht, hw⟩)))) hd hr, hrun, hended, _, _, rfl, hq, ⟨_, rfl⟩, hW, hsame.mono hck hsk⟩
theorem own_old_le {n0 : Nat} (o : Old Z n0 h) : n0 ≤ h.size := o.1 ▸ o.2.1
theorem own_alen (X : Stand p l e R s m args below meth c T locs cells slots) (hx : p.tables.exec = Jvm.exec) (hZ : Z.Warmed39 s.vm) (eT : T.heap = h) {a : Addr} {cl : Cell} {ty : FieldType} (A : Arr Z h a cl ty) {z : Int32} (S : cl.slots.size = z.toNatClampNeg) (N : ¬ z < 0) {g : JFrame} (hg : g.method = m) {rest : List Value} (hs : g.stack = .ref a :: rest) (hd : decode c.code g.pc = .ok (.arraylength, 1)) {t : State}
    (k : Steps p.tables e below (T.setTop { g with pc := g.pc + 1, stack := .int z :: rest }) t) : Steps p.tables e below (T.setTop g) t :=
  X.arraylength hx (by rw [eT]; exact A.1) (State.isArrayOf_alike hZ.alike A.2.1) hg hs hd _ (by rw [len_of S N]; exact k)
theorem own_fld_start {args : Array Value} {s : State} {t : Term} {a : Addr} {C n d : String} {k : Int32} (ev : t.eval args s none [] s = some (.ref a)) (h : (Jvm.Cond.eq (.field t C n d) (.int k)).value args s none s [] = some true) : Fld s s.heap a C n d (.int k) := by
  refine Fld.start ?_
  rw [← fld_at ev]
  obtain ⟨x, y, h1, h2, h3, h4⟩ := cmp_v (Or.inl h)
  have h2' : (Value.int k) = y := Option.some.inj h2
  subst h2'
  obtain ⟨z, rfl⟩ := h4
  have q := gotT (Jvm.Cond.eq_ints h1 h2) h
  rw [h1, q]
theorem own_nar8 (z : Int32) : nar .byte z.toInt8.toInt32 = z.toInt8.toInt32 := by
  show z.toInt8.toInt32.toInt8.toInt32 = _
  simp
end Own
theorem d2_0 : decode prog_14_method_1_code 0 = .ok (.aload_n 0, 1) := by decide +kernel
theorem d2_1 : decode prog_14_method_1_code 1 = .ok (.invokespecial 1, 3) := by decide +kernel
theorem d2_4 : decode prog_14_method_1_code 4 = .ok (.aload_n 0, 1) := by decide +kernel
theorem d2_5 : decode prog_14_method_1_code 5 = .ok (.iload_n 1, 1) := by decide +kernel
theorem d2_6 : decode prog_14_method_1_code 6 = .ok (.putfield 7, 3) := by decide +kernel
theorem d2_9 : decode prog_14_method_1_code 9 = .ok (.aload_n 0, 1) := by decide +kernel
theorem d2_10 : decode prog_14_method_1_code 10 = .ok (.aload_n 2, 1) := by decide +kernel
theorem d2_11 : decode prog_14_method_1_code 11 = .ok (.putfield 13, 3) := by decide +kernel
theorem d2_14 : decode prog_14_method_1_code 14 = .ok (.aload_n 0, 1) := by decide +kernel
theorem d2_15 : decode prog_14_method_1_code 15 = .ok (.aload_n 3, 1) := by decide +kernel
theorem d2_16 : decode prog_14_method_1_code 16 = .ok (.putfield 17, 3) := by decide +kernel
theorem d2_19 : decode prog_14_method_1_code 19 = .ok (.aload_n 0, 1) := by decide +kernel
theorem d2_20 : decode prog_14_method_1_code 20 = .ok (.iload 4, 2) := by decide +kernel
theorem d2_22 : decode prog_14_method_1_code 22 = .ok (.putfield 21, 3) := by decide +kernel
theorem d2_25 : decode prog_14_method_1_code 25 = .ok (.return_, 1) := by decide +kernel
theorem pn_com_example_ferryline_ferryline_client_WorkerOptions : plainName "com/example/ferryline/ferryline/client/WorkerOptions" = true := by first | (simp [plainName, overriddenIn]; done) | decide +kernel
theorem ef_init (m : MethodId) (ba : Addr) (ia : Int32) : entryFrame m #[(.ref ba), (.int ia), .null, .null, (.int (0 : Int32))] 5 = mkF m 0 #[.val (.ref ba), .val (.int ia), .val .null, .val .null, .val (.int (0 : Int32))] [] := by first | (simp [entryFrame, mkF, argsToLocals, Value.category]; done) | rfl
def Q_init (Z : State) (ba : Addr) (ia : Int32) (u0 : Value) (u1 : Value) (u2 : Value) (u3 : Value) (h0 : Heap) (n0 : Nat) (v : Option Value) (h : Heap) (L : List Loc) : Prop := v = none ∧ Fr n0 L ∧ Keep h0 h [ba] ∧ Exa Z h ba "com/example/ferryline/ferryline/client/WorkerOptions" ∧ Fld Z h ba "com/example/ferryline/ferryline/client/WorkerOptions" "slots" "I" (.int ia) ∧ Fld Z h ba "com/example/ferryline/ferryline/client/WorkerOptions" "region" "Ljava/lang/String;" .null ∧ Fld Z h ba "com/example/ferryline/ferryline/client/WorkerOptions" "longCap" "Ljava/lang/Integer;" .null ∧ Fld Z h ba "com/example/ferryline/ferryline/client/WorkerOptions" "prefetch" "I" (.int (0 : Int32))
set_option maxRecDepth 65536 in
set_option maxHeartbeats 40000000 in
theorem rm_init (l : Launch) (Z : State) (a0 : Array Value) (hw : ∀ d ∈ tables_1, d.before a0 Z = true) (ws : List Jvm.Cond) (ba : Addr) (ia : Int32) (u0 : Value) (u1 : Value) (u2 : Value) (u3 : Value) (h0 : Heap) (n0 : Nat) (O0 : Old Z n0 h0) (P0 : Exa Z h0 ba "com/example/ferryline/ferryline/client/WorkerOptions") (P1 : Fld Z h0 ba "com/example/ferryline/ferryline/client/WorkerOptions" "slots" "I" u0) (P2 : Fld Z h0 ba "com/example/ferryline/ferryline/client/WorkerOptions" "region" "Ljava/lang/String;" u1) (P3 : Fld Z h0 ba "com/example/ferryline/ferryline/client/WorkerOptions" "longCap" "Ljava/lang/Integer;" u2) (P4 : Fld Z h0 ba "com/example/ferryline/ferryline/client/WorkerOptions" "prefetch" "I" u3) (P5 : n0 ≤ ba) :
    MetFree l (⟨"com/example/ferryline/ferryline/client/WorkerOptions", "<init>", "(ILjava/lang/String;Ljava/lang/Integer;I)V"⟩ : MethodName) (head1 (Jvm.Cond.code (⟨"com/example/ferryline/ferryline/client/WorkerOptions", "<init>", "(ILjava/lang/String;Ljava/lang/Integer;I)V"⟩ : MethodName) prog_14_method_1_code 5 none :: ws) ({ frames := 1, cells := 0, slots := 0, locals := 12 } : Room)) (fun a U => a = #[(.ref ba), (.int ia), .null, .null, (.int (0 : Int32))] ∧ Z.Warmed39 U.vm ∧ U.heap = h0) (fun _ _ _ _ _ => True) (fun _ U o U' => ∃ v L, o = .returned v ∧ Q_init Z ba ia u0 u1 u2 u3 h0 n0 v U'.heap L ∧ FrameEnd U o U' L ({ frames := 1, cells := 0, slots := 0, locals := 12 } : Room).cells ({ frames := 1, cells := 0, slots := 0, locals := 12 } : Room).slots) := by
  refine MetFree.of_bodySF (plainFor_of_name pn_com_example_ferryline_ferryline_client_WorkerOptions) hisR ?_
  intro p e s m args below meth c s₁ Bd hml0 hP hK
  obtain ⟨rfl, hZ, hh⟩ := hP
  have hx := Bd.exec
  have hby := Bd.bytes
  have hml : c.maxLocals = 5 := hml0
  have hown : s.vm.findClass "com/example/ferryline/ferryline/client/WorkerOptions" = some m.cls := findClass_of_methodNamed Bd.named
  have hnm := (name_of_methodNamed Bd.named Bd.method).1
  have hlk : meth.locks = false := BodyLoose.notSynchronized Bd
  have X0 : Stand p l e ({ frames := 1, cells := 0, slots := 0, locals := 12 } : Room) s m #[(.ref ba), (.int ia), .null, .null, (.int (0 : Int32))] below meth c s₁ [] 0 0 := Stand.of_body Bd
  have e0 : s₁.heap = h0 := by rw [← hh, Bd.state]; rfl
  have N0 := Fr.nil n0
  have K0 := Keep.refl h0 [ba]
  rw [ef_init m ba ia]
  show Go p e below s (fun v h L => Q_init Z ba ia u0 u1 u2 u3 h0 n0 v h L) ({ frames := 1, cells := 0, slots := 0, locals := 12 } : Room).cells ({ frames := 1, cells := 0, slots := 0, locals := 12 } : Room).slots s₁ (mkF m 0 #[.val (.ref ba), .val (.int ia), .val .null, .val .null, .val (.int (0 : Int32))] [])
  refine Go.step (T' := s₁) (f' := (mkF m 1 #[.val (.ref ba), .val (.int ia), .val .null, .val .null, .val (.int (0 : Int32))] [(.ref ba)])) (fun t k => XS.aloadN X0.here hx rfl (hb hby d2_0) rfl rfl k) ?_
  obtain ⟨T1, X1, e1, st1⟩ := initO X0 hx hZ hown (hw _ (List.mem_of_getElem? (i := 9) rfl)) (hw _ (List.mem_of_getElem? (i := 10) rfl)) (hw _ (List.mem_of_getElem? (i := 11) rfl)) e0 (g := (mkF m 1 #[.val (.ref ba), .val (.int ia), .val .null, .val .null, .val (.int (0 : Int32))] [(.ref ba)])) rfl (by rw [hml]; rfl) rfl (hb hby d2_1) (by decide) (W := 0) (by show 2 * 0 + _ ≤ _; exact Nat.le_of_eq rfl) (by decide)
  refine Go.step (T' := T1) (f' := (mkF m 4 #[.val (.ref ba), .val (.int ia), .val .null, .val .null, .val (.int (0 : Int32))] [])) st1 ?_
  refine Go.step (T' := T1) (f' := (mkF m 5 #[.val (.ref ba), .val (.int ia), .val .null, .val .null, .val (.int (0 : Int32))] [(.ref ba)])) (fun t k => XS.aloadN X1.here hx rfl (hb hby d2_4) rfl rfl k) ?_
  refine Go.step (T' := T1) (f' := (mkF m 6 #[.val (.ref ba), .val (.int ia), .val .null, .val .null, .val (.int (0 : Int32))] [(.int ia), (.ref ba)])) (fun t k => XS.iloadN X1.here hx rfl (hb hby d2_5) rfl k) ?_
  obtain ⟨T2, h2, X2, e2, W2, st2⟩ := putF X1 hx hZ hown (host := "") (Or.inl (hw _ (List.mem_of_getElem? (i := 12) rfl))) Via.refl e1 P1 P0 (Or.inr ⟨(hw _ (List.mem_of_getElem? (i := 13) rfl)), rfl, hnm⟩) (hw _ (List.mem_of_getElem? (i := 5) rfl)) (ty := .int) (by decide) rfl rfl (g := (mkF m 6 #[.val (.ref ba), .val (.int ia), .val .null, .val .null, .val (.int (0 : Int32))] [(.int ia), (.ref ba)])) rfl rfl (hb hby d2_6)
  have f3 := P1.same W2
  have f4 := P0.wr W2
  have f5 := P2.other W2 (Or.inr (slot_ne (Or.inr (hw _ (List.mem_of_getElem? (i := 15) rfl))) (Or.inr (hw _ (List.mem_of_getElem? (i := 13) rfl))) (by decide) (t := (.object "java/lang/String")) (t' := .int) (by decide) (by decide)))
  have f6 := P3.other W2 (Or.inr (slot_ne (Or.inr (hw _ (List.mem_of_getElem? (i := 17) rfl))) (Or.inr (hw _ (List.mem_of_getElem? (i := 13) rfl))) (by decide) (t := (.object "java/lang/Integer")) (t' := .int) (by decide) (by decide)))
  have f7 := P4.other W2 (Or.inr (slot_ne (Or.inr (hw _ (List.mem_of_getElem? (i := 19) rfl))) (Or.inr (hw _ (List.mem_of_getElem? (i := 13) rfl))) (by decide) (t := .int) (t' := .int) (by decide) (by decide)))
  have O8 := O0.wr W2 P5
  have K9 := K0.wr W2 (Or.inl (List.mem_of_getElem? (i := 0) rfl))
  have N10 := Fr.snoc X2 N0 P5
  refine Go.step (T' := T2) (f' := (mkF m 9 #[.val (.ref ba), .val (.int ia), .val .null, .val .null, .val (.int (0 : Int32))] [])) st2 ?_
  refine Go.step (T' := T2) (f' := (mkF m 10 #[.val (.ref ba), .val (.int ia), .val .null, .val .null, .val (.int (0 : Int32))] [(.ref ba)])) (fun t k => XS.aloadN X2.here hx rfl (hb hby d2_9) rfl rfl k) ?_
  refine Go.step (T' := T2) (f' := (mkF m 11 #[.val (.ref ba), .val (.int ia), .val .null, .val .null, .val (.int (0 : Int32))] [.null, (.ref ba)])) (fun t k => XS.aloadN X2.here hx rfl (hb hby d2_10) rfl rfl k) ?_
  obtain ⟨T11, h11, X11, e11, W11, st11⟩ := putF X2 hx hZ hown (host := "") (Or.inl (hw _ (List.mem_of_getElem? (i := 14) rfl))) Via.refl e2 f5 f4 (Or.inr ⟨(hw _ (List.mem_of_getElem? (i := 15) rfl)), rfl, hnm⟩) (hw _ (List.mem_of_getElem? (i := 5) rfl)) (ty := (.object "java/lang/String")) (by decide) rfl rfl (g := (mkF m 11 #[.val (.ref ba), .val (.int ia), .val .null, .val .null, .val (.int (0 : Int32))] [.null, (.ref ba)])) rfl rfl (hb hby d2_11)
  have f12 := f5.same W11
  have f13 := f4.wr W11
  have f14 := f6.other W11 (Or.inr (slot_ne (Or.inr (hw _ (List.mem_of_getElem? (i := 17) rfl))) (Or.inr (hw _ (List.mem_of_getElem? (i := 15) rfl))) (by decide) (t := (.object "java/lang/Integer")) (t' := (.object "java/lang/String")) (by decide) (by decide)))
  have f15 := f7.other W11 (Or.inr (slot_ne (Or.inr (hw _ (List.mem_of_getElem? (i := 19) rfl))) (Or.inr (hw _ (List.mem_of_getElem? (i := 15) rfl))) (by decide) (t := .int) (t' := (.object "java/lang/String")) (by decide) (by decide)))
  have f16 := f3.other W11 (Or.inr (slot_ne (Or.inr (hw _ (List.mem_of_getElem? (i := 13) rfl))) (Or.inr (hw _ (List.mem_of_getElem? (i := 15) rfl))) (by decide) (t := .int) (t' := (.object "java/lang/String")) (by decide) (by decide)))
  have O17 := O8.wr W11 P5
  have K18 := K9.wr W11 (Or.inl (List.mem_of_getElem? (i := 0) rfl))
  have N19 := Fr.snoc X11 N10 P5
  refine Go.step (T' := T11) (f' := (mkF m 14 #[.val (.ref ba), .val (.int ia), .val .null, .val .null, .val (.int (0 : Int32))] [])) st11 ?_
  refine Go.step (T' := T11) (f' := (mkF m 15 #[.val (.ref ba), .val (.int ia), .val .null, .val .null, .val (.int (0 : Int32))] [(.ref ba)])) (fun t k => XS.aloadN X11.here hx rfl (hb hby d2_14) rfl rfl k) ?_
  refine Go.step (T' := T11) (f' := (mkF m 16 #[.val (.ref ba), .val (.int ia), .val .null, .val .null, .val (.int (0 : Int32))] [.null, (.ref ba)])) (fun t k => XS.aloadN X11.here hx rfl (hb hby d2_15) rfl rfl k) ?_
  obtain ⟨T20, h20, X20, e20, W20, st20⟩ := putF X11 hx hZ hown (host := "") (Or.inl (hw _ (List.mem_of_getElem? (i := 16) rfl))) Via.refl e11 f14 f13 (Or.inr ⟨(hw _ (List.mem_of_getElem? (i := 17) rfl)), rfl, hnm⟩) (hw _ (List.mem_of_getElem? (i := 5) rfl)) (ty := (.object "java/lang/Integer")) (by decide) rfl rfl (g := (mkF m 16 #[.val (.ref ba), .val (.int ia), .val .null, .val .null, .val (.int (0 : Int32))] [.null, (.ref ba)])) rfl rfl (hb hby d2_16)
  have f21 := f14.same W20
  have f22 := f13.wr W20
  have f23 := f15.other W20 (Or.inr (slot_ne (Or.inr (hw _ (List.mem_of_getElem? (i := 19) rfl))) (Or.inr (hw _ (List.mem_of_getElem? (i := 17) rfl))) (by decide) (t := .int) (t' := (.object "java/lang/Integer")) (by decide) (by decide)))
  have f24 := f16.other W20 (Or.inr (slot_ne (Or.inr (hw _ (List.mem_of_getElem? (i := 13) rfl))) (Or.inr (hw _ (List.mem_of_getElem? (i := 17) rfl))) (by decide) (t := .int) (t' := (.object "java/lang/Integer")) (by decide) (by decide)))
  have f25 := f12.other W20 (Or.inr (slot_ne (Or.inr (hw _ (List.mem_of_getElem? (i := 15) rfl))) (Or.inr (hw _ (List.mem_of_getElem? (i := 17) rfl))) (by decide) (t := (.object "java/lang/String")) (t' := (.object "java/lang/Integer")) (by decide) (by decide)))
  have O26 := O17.wr W20 P5
  have K27 := K18.wr W20 (Or.inl (List.mem_of_getElem? (i := 0) rfl))
  have N28 := Fr.snoc X20 N19 P5
  refine Go.step (T' := T20) (f' := (mkF m 19 #[.val (.ref ba), .val (.int ia), .val .null, .val .null, .val (.int (0 : Int32))] [])) st20 ?_
  refine Go.step (T' := T20) (f' := (mkF m 20 #[.val (.ref ba), .val (.int ia), .val .null, .val .null, .val (.int (0 : Int32))] [(.ref ba)])) (fun t k => XS.aloadN X20.here hx rfl (hb hby d2_19) rfl rfl k) ?_
  refine Go.step (T' := T20) (f' := (mkF m 22 #[.val (.ref ba), .val (.int ia), .val .null, .val .null, .val (.int (0 : Int32))] [(.int (0 : Int32)), (.ref ba)])) (fun t k => XS.iload X20.here hx rfl (hb hby d2_20) rfl k) ?_
  obtain ⟨T29, h29, X29, e29, W29, st29⟩ := putF X20 hx hZ hown (host := "") (Or.inl (hw _ (List.mem_of_getElem? (i := 18) rfl))) Via.refl e20 f23 f22 (Or.inr ⟨(hw _ (List.mem_of_getElem? (i := 19) rfl)), rfl, hnm⟩) (hw _ (List.mem_of_getElem? (i := 5) rfl)) (ty := .int) (by decide) rfl rfl (g := (mkF m 22 #[.val (.ref ba), .val (.int ia), .val .null, .val .null, .val (.int (0 : Int32))] [(.int (0 : Int32)), (.ref ba)])) rfl rfl (hb hby d2_22)
  have f30 := f23.same W29
  have f31 := f22.wr W29
  have f32 := f24.other W29 (Or.inr (slot_ne (Or.inr (hw _ (List.mem_of_getElem? (i := 13) rfl))) (Or.inr (hw _ (List.mem_of_getElem? (i := 19) rfl))) (by decide) (t := .int) (t' := .int) (by decide) (by decide)))
  have f33 := f25.other W29 (Or.inr (slot_ne (Or.inr (hw _ (List.mem_of_getElem? (i := 15) rfl))) (Or.inr (hw _ (List.mem_of_getElem? (i := 19) rfl))) (by decide) (t := (.object "java/lang/String")) (t' := .int) (by decide) (by decide)))
  have f34 := f21.other W29 (Or.inr (slot_ne (Or.inr (hw _ (List.mem_of_getElem? (i := 17) rfl))) (Or.inr (hw _ (List.mem_of_getElem? (i := 19) rfl))) (by decide) (t := (.object "java/lang/Integer")) (t' := .int) (by decide) (by decide)))
  have O35 := O26.wr W29 P5
  have K36 := K27.wr W29 (Or.inl (List.mem_of_getElem? (i := 0) rfl))
  have N37 := Fr.snoc X29 N28 P5
  refine Go.step (T' := T29) (f' := (mkF m 25 #[.val (.ref ba), .val (.int ia), .val .null, .val .null, .val (.int (0 : Int32))] [])) st29 ?_
  refine Go.retV X29 hx hlk Bd.returns (hb hby d2_25) e29 ?_ (by decide) (by decide)
  exact ⟨rfl, N37, K36, f31, f32, f33, f34, f30⟩
theorem d1_0 : decode prog_14_method_2_code 0 = .ok (.new 8, 3) := by decide +kernel
theorem d1_3 : decode prog_14_method_2_code 3 = .ok (.dup, 1) := by decide +kernel
theorem d1_4 : decode prog_14_method_2_code 4 = .ok (.iload_n 0, 1) := by decide +kernel
theorem d1_5 : decode prog_14_method_2_code 5 = .ok (.aconst_null, 1) := by decide +kernel
theorem d1_6 : decode prog_14_method_2_code 6 = .ok (.aconst_null, 1) := by decide +kernel
theorem d1_7 : decode prog_14_method_2_code 7 = .ok (.iconst 0, 1) := by decide +kernel
theorem d1_8 : decode prog_14_method_2_code 8 = .ok (.invokespecial 24, 3) := by decide +kernel
theorem d1_11 : decode prog_14_method_2_code 11 = .ok (.areturn, 1) := by decide +kernel
theorem pd0 : parseMethodDescriptor "(ILjava/lang/String;Ljava/lang/Integer;I)V" = some ⟨[.int, (.object "java/lang/String"), (.object "java/lang/Integer"), .int], none⟩ := by decide +kernel
theorem ef_of (m : MethodId) (ia : Int32) : entryFrame m #[(.int ia)] 1 = mkF m 0 #[.val (.int ia)] [] := by first | (simp [entryFrame, mkF, argsToLocals, Value.category]; done) | rfl
def Q_of (Z : State) (ia : Int32) (h0 : Heap) (n0 : Nat) (v : Option Value) (h : Heap) (L : List Loc) : Prop := ∃ bb : Addr, v = some (.ref bb) ∧ Fr n0 L ∧ Keep h0 h [] ∧ h0.size ≤ bb ∧ Exa Z h bb "com/example/ferryline/ferryline/client/WorkerOptions" ∧ Fld Z h bb "com/example/ferryline/ferryline/client/WorkerOptions" "slots" "I" (.int ia) ∧ Fld Z h bb "com/example/ferryline/ferryline/client/WorkerOptions" "region" "Ljava/lang/String;" .null ∧ Fld Z h bb "com/example/ferryline/ferryline/client/WorkerOptions" "longCap" "Ljava/lang/Integer;" .null ∧ Fld Z h bb "com/example/ferryline/ferryline/client/WorkerOptions" "prefetch" "I" (.int (0 : Int32))
set_option maxRecDepth 65536 in
set_option maxHeartbeats 40000000 in
theorem rm_of (l : Launch) (Z : State) (a0 : Array Value) (hw : ∀ d ∈ tables_1, d.before a0 Z = true) (ws : List Jvm.Cond) (ia : Int32) (h0 : Heap) (n0 : Nat) (O0 : Old Z n0 h0) :
    MetFree l (⟨"com/example/ferryline/ferryline/client/WorkerOptions", "ofSlots", "(I)Lcom/example/ferryline/ferryline/client/WorkerOptions;"⟩ : MethodName) (head1 (Jvm.Cond.code (⟨"com/example/ferryline/ferryline/client/WorkerOptions", "ofSlots", "(I)Lcom/example/ferryline/ferryline/client/WorkerOptions;"⟩ : MethodName) prog_14_method_2_code 1 (some (.object "com/example/ferryline/ferryline/client/WorkerOptions")) :: ws) ({ frames := 2, cells := 1, slots := 4, locals := 29 } : Room)) (fun a U => a = #[(.int ia)] ∧ Z.Warmed39 U.vm ∧ U.heap = h0) (fun _ _ _ _ _ => True) (fun _ U o U' => ∃ v L, o = .returned v ∧ Q_of Z ia h0 n0 v U'.heap L ∧ FrameEnd U o U' L ({ frames := 2, cells := 1, slots := 4, locals := 29 } : Room).cells ({ frames := 2, cells := 1, slots := 4, locals := 29 } : Room).slots) := by
  refine MetFree.of_bodySF (plainFor_of_name pn_com_example_ferryline_ferryline_client_WorkerOptions) hisR ?_
  intro p e s m args below meth c s₁ Bd hml0 hP hK
  obtain ⟨rfl, hZ, hh⟩ := hP
  have hx := Bd.exec
  have hby := Bd.bytes
  have hml : c.maxLocals = 1 := hml0
  have hown : s.vm.findClass "com/example/ferryline/ferryline/client/WorkerOptions" = some m.cls := findClass_of_methodNamed Bd.named
  have hnm := (name_of_methodNamed Bd.named Bd.method).1
  have hlk : meth.locks = false := BodyLoose.notSynchronized Bd
  have X0 : Stand p l e ({ frames := 2, cells := 1, slots := 4, locals := 29 } : Room) s m #[(.int ia)] below meth c s₁ [] 0 0 := Stand.of_body Bd
  have e0 : s₁.heap = h0 := by rw [← hh, Bd.state]; rfl
  have N0 := Fr.nil n0
  have K0 := Keep.refl h0 []
  rw [ef_of m ia]
  show Go p e below s (fun v h L => Q_of Z ia h0 n0 v h L) ({ frames := 2, cells := 1, slots := 4, locals := 29 } : Room).cells ({ frames := 2, cells := 1, slots := 4, locals := 29 } : Room).slots s₁ (mkF m 0 #[.val (.int ia)] [])
  obtain ⟨T38, h38, X38, e38, E38, A38, D38, -, st38⟩ := newO X0 hx hZ hown (hw _ (List.mem_of_getElem? (i := 4) rfl)) (hw _ (List.mem_of_getElem? (i := 5) rfl)) (hw _ (List.mem_of_getElem? (i := 2) rfl)) e0 (g := (mkF m 0 #[.val (.int ia)] [])) rfl (hb hby d1_0) (by decide) (by decide)
  obtain ⟨b38, g38⟩ : ∃ z, z = h0.size := ⟨_, rfl⟩
  rw [← g38] at A38 D38 st38
  have g39 : n0 ≤ b38 := Nat.le_trans (own_old_le O0) (Nat.le_of_eq g38.symm)
  have g40 : h0.size ≤ b38 := Nat.le_trans K0.1 (Nat.le_of_eq g38.symm)
  have O41 := O0.ext E38
  have K42 := K0.ext E38
  have f43 : Fld Z h38 b38 "com/example/ferryline/ferryline/client/WorkerOptions" "slots" "I" (.int (0 : Int32)) := D38 (Or.inr (hw _ (List.mem_of_getElem? (i := 13) rfl))) (ty := .int) (by decide)
  have f44 : Fld Z h38 b38 "com/example/ferryline/ferryline/client/WorkerOptions" "region" "Ljava/lang/String;" .null := D38 (Or.inr (hw _ (List.mem_of_getElem? (i := 15) rfl))) (ty := (.object "java/lang/String")) (by decide)
  have f45 : Fld Z h38 b38 "com/example/ferryline/ferryline/client/WorkerOptions" "longCap" "Ljava/lang/Integer;" .null := D38 (Or.inr (hw _ (List.mem_of_getElem? (i := 17) rfl))) (ty := (.object "java/lang/Integer")) (by decide)
  have f46 : Fld Z h38 b38 "com/example/ferryline/ferryline/client/WorkerOptions" "prefetch" "I" (.int (0 : Int32)) := D38 (Or.inr (hw _ (List.mem_of_getElem? (i := 19) rfl))) (ty := .int) (by decide)
  refine Go.step (T' := T38) (f' := (mkF m 3 #[.val (.int ia)] [(.ref b38)])) st38 ?_
  refine Go.step (T' := T38) (f' := (mkF m 4 #[.val (.int ia)] [(.ref b38), (.ref b38)])) (fun t k => XS.dup X38.here hx rfl (hb hby d1_3) rfl rfl k) ?_
  refine Go.step (T' := T38) (f' := (mkF m 5 #[.val (.int ia)] [(.int ia), (.ref b38), (.ref b38)])) (fun t k => XS.iloadN X38.here hx rfl (hb hby d1_4) rfl k) ?_
  refine Go.step (T' := T38) (f' := (mkF m 6 #[.val (.int ia)] [.null, (.int ia), (.ref b38), (.ref b38)])) (fun t k => XS.aconstNull X38.here hx rfl (hb hby d1_5) k) ?_
  refine Go.step (T' := T38) (f' := (mkF m 7 #[.val (.int ia)] [.null, .null, (.int ia), (.ref b38), (.ref b38)])) (fun t k => XS.aconstNull X38.here hx rfl (hb hby d1_6) k) ?_
  refine Go.step (T' := T38) (f' := (mkF m 8 #[.val (.int ia)] [(.int (0 : Int32)), .null, .null, (.int ia), (.ref b38), (.ref b38)])) (fun t k => XS.iconst X38.here hx rfl (hb hby d1_7) k) ?_
  obtain ⟨_, _, ⟨T47, L47, k47, n47⟩, -, X47, ⟨Lc47, hQ47, l47, y47, z47⟩, st47⟩ := X38.specialBack hx (y := (⟨"com/example/ferryline/ferryline/client/WorkerOptions", "<init>", "(ILjava/lang/String;Ljava/lang/Integer;I)V"⟩ : MethodName)) rfl hown (mvT hZ (hw _ (List.mem_of_getElem? (i := 6) rfl))) (mvT hZ (hw _ (List.mem_of_getElem? (i := 7) rfl))) (mvT hZ (hw _ (List.mem_of_getElem? (i := 8) rfl))) (by decide) (backOf (W := 1) (rm_init l Z a0 hw [] b38 ia (.int (0 : Int32)) .null .null (.int (0 : Int32)) h38 n0 O41 A38 f43 f44 f45 f46 g39) hZ (hw _ (List.mem_of_getElem? (i := 8) rfl)) (hw _ (List.mem_of_getElem? (i := 2) rfl)) (by decide) (by decide)) (g := (mkF m 8 #[.val (.int ia)] [(.int (0 : Int32)), .null, .null, (.int ia), (.ref b38), (.ref b38)])) rfl (by rw [hml]; rfl) (Steps.refl _) (a := b38) (argsL := [(.int ia), .null, .null, (.int (0 : Int32))]) (rest := [(.ref b38)]) (lenOf pd0 rfl) rfl (by show 2 * 0 + _ ≤ _; exact Nat.le_of_eq rfl) (hb hby d1_8) (fun _ _ => ⟨rfl, e38, (by decide : 1 + 0 ≤ _), (by decide : 4 + 0 ≤ _)⟩)
  dsimp only [Pt.U, Pt.locs, Pt.cells, Pt.slots] at X47 l47 y47 z47 st47 hQ47
  subst l47 y47 z47
  obtain ⟨rfl, Nq47, hh47, p48, p49, p50, p51, p52⟩ := hQ47
  have N53 := Fr.app N0 Nq47
  have f54 := A38.keep hh47
  have O55 := O41.keep hh47 (allS g39 all0)
  have K56 := K42.trans hh47 (allS (Or.inr g40) all0)
  refine Go.via (T' := T47) (f' := (mkF m 11 #[.val (.int ia)] [(.ref b38)])) st47 ?_
  refine Go.retA X47 hx hlk Bd.returns rfl rfl (hb hby d1_11) rfl ?_ (by decide) (by decide)
  exact ⟨b38, rfl, N53, K56, g40, p48, p49, p50, p51, p52⟩
theorem d4_0 : decode prog_14_method_6_code 0 = .ok (.aload_n 0, 1) := by decide +kernel
theorem d4_1 : decode prog_14_method_6_code 1 = .ok (.getfield 7, 3) := by decide +kernel
theorem d4_4 : decode prog_14_method_6_code 4 = .ok (.ireturn, 1) := by decide +kernel
theorem ef_slots (m : MethodId) (ba : Addr) : entryFrame m #[(.ref ba)] 1 = mkF m 0 #[.val (.ref ba)] [] := by first | (simp [entryFrame, mkF, argsToLocals, Value.category]; done) | rfl
def Q_slots (Z : State) (ba : Addr) (ia : Int32) (h0 : Heap) (n0 : Nat) (v : Option Value) (h : Heap) (L : List Loc) : Prop := v = some (.int ia) ∧ Fr n0 L ∧ h = h0
set_option maxRecDepth 65536 in
set_option maxHeartbeats 40000000 in
theorem rm_slots (l : Launch) (Z : State) (a0 : Array Value) (hw : ∀ d ∈ tables_1, d.before a0 Z = true) (ws : List Jvm.Cond) (ba : Addr) (ia : Int32) (h0 : Heap) (n0 : Nat) (O0 : Old Z n0 h0) (P0 : Fld Z h0 ba "com/example/ferryline/ferryline/client/WorkerOptions" "slots" "I" (.int ia)) :
    MetFree l (⟨"com/example/ferryline/ferryline/client/WorkerOptions", "slots", "()I"⟩ : MethodName) (head1 (Jvm.Cond.code (⟨"com/example/ferryline/ferryline/client/WorkerOptions", "slots", "()I"⟩ : MethodName) prog_14_method_6_code 1 (some .int) :: ws) ({ frames := 0, cells := 0, slots := 0, locals := 0 } : Room)) (fun a U => a = #[(.ref ba)] ∧ Z.Warmed39 U.vm ∧ U.heap = h0) (fun _ _ _ _ _ => True) (fun _ U o U' => ∃ v L, o = .returned v ∧ Q_slots Z ba ia h0 n0 v U'.heap L ∧ FrameEnd U o U' L ({ frames := 0, cells := 0, slots := 0, locals := 0 } : Room).cells ({ frames := 0, cells := 0, slots := 0, locals := 0 } : Room).slots) := by
  refine MetFree.of_bodySF (plainFor_of_name pn_com_example_ferryline_ferryline_client_WorkerOptions) hisR ?_
  intro p e s m args below meth c s₁ Bd hml0 hP hK
  obtain ⟨rfl, hZ, hh⟩ := hP
  have hx := Bd.exec
  have hby := Bd.bytes
  have hml : c.maxLocals = 1 := hml0
  have hown : s.vm.findClass "com/example/ferryline/ferryline/client/WorkerOptions" = some m.cls := findClass_of_methodNamed Bd.named
  have hnm := (name_of_methodNamed Bd.named Bd.method).1
  have hlk : meth.locks = false := BodyLoose.notSynchronized Bd
  have X0 : Stand p l e ({ frames := 0, cells := 0, slots := 0, locals := 0 } : Room) s m #[(.ref ba)] below meth c s₁ [] 0 0 := Stand.of_body Bd
  have e0 : s₁.heap = h0 := by rw [← hh, Bd.state]; rfl
  have N0 := Fr.nil n0
  rw [ef_slots m ba]
  show Go p e below s (fun v h L => Q_slots Z ba ia h0 n0 v h L) ({ frames := 0, cells := 0, slots := 0, locals := 0 } : Room).cells ({ frames := 0, cells := 0, slots := 0, locals := 0 } : Room).slots s₁ (mkF m 0 #[.val (.ref ba)] [])
  refine Go.step (T' := s₁) (f' := (mkF m 1 #[.val (.ref ba)] [(.ref ba)])) (fun t k => XS.aloadN X0.here hx rfl (hb hby d4_0) rfl rfl k) ?_
  obtain ⟨T57, X57, e57, st57⟩ := getF X0 hx hZ hown (host := "") (Or.inl (hw _ (List.mem_of_getElem? (i := 12) rfl))) Via.refl e0 P0 (g := (mkF m 1 #[.val (.ref ba)] [(.ref ba)])) rfl rfl (hb hby d4_1)
  refine Go.step (T' := T57) (f' := (mkF m 4 #[.val (.ref ba)] [(.int ia)])) st57 ?_
  refine Go.retI X57 hx hlk Bd.returns (hb hby d4_4) e57 ?_ (by decide) (by decide)
  exact ⟨rfl, N0, rfl⟩
theorem d5_0 : decode prog_14_method_7_code 0 = .ok (.aload_n 0, 1) := by decide +kernel
theorem d5_1 : decode prog_14_method_7_code 1 = .ok (.getfield 13, 3) := by decide +kernel
theorem d5_4 : decode prog_14_method_7_code 4 = .ok (.areturn, 1) := by decide +kernel
theorem ef_region (m : MethodId) (ba : Addr) : entryFrame m #[(.ref ba)] 1 = mkF m 0 #[.val (.ref ba)] [] := by first | (simp [entryFrame, mkF, argsToLocals, Value.category]; done) | rfl
def Q_region (Z : State) (ba : Addr) (h0 : Heap) (n0 : Nat) (v : Option Value) (h : Heap) (L : List Loc) : Prop := v = some .null ∧ Fr n0 L ∧ h = h0
set_option maxRecDepth 65536 in
set_option maxHeartbeats 40000000 in
theorem rm_region (l : Launch) (Z : State) (a0 : Array Value) (hw : ∀ d ∈ tables_1, d.before a0 Z = true) (ws : List Jvm.Cond) (ba : Addr) (h0 : Heap) (n0 : Nat) (O0 : Old Z n0 h0) (P0 : Fld Z h0 ba "com/example/ferryline/ferryline/client/WorkerOptions" "region" "Ljava/lang/String;" .null) :
    MetFree l (⟨"com/example/ferryline/ferryline/client/WorkerOptions", "region", "()Ljava/lang/String;"⟩ : MethodName) (head1 (Jvm.Cond.code (⟨"com/example/ferryline/ferryline/client/WorkerOptions", "region", "()Ljava/lang/String;"⟩ : MethodName) prog_14_method_7_code 1 (some (.object "java/lang/String")) :: ws) ({ frames := 0, cells := 0, slots := 0, locals := 0 } : Room)) (fun a U => a = #[(.ref ba)] ∧ Z.Warmed39 U.vm ∧ U.heap = h0) (fun _ _ _ _ _ => True) (fun _ U o U' => ∃ v L, o = .returned v ∧ Q_region Z ba h0 n0 v U'.heap L ∧ FrameEnd U o U' L ({ frames := 0, cells := 0, slots := 0, locals := 0 } : Room).cells ({ frames := 0, cells := 0, slots := 0, locals := 0 } : Room).slots) := by
  refine MetFree.of_bodySF (plainFor_of_name pn_com_example_ferryline_ferryline_client_WorkerOptions) hisR ?_
  intro p e s m args below meth c s₁ Bd hml0 hP hK
  obtain ⟨rfl, hZ, hh⟩ := hP
  have hx := Bd.exec
  have hby := Bd.bytes
  have hml : c.maxLocals = 1 := hml0
  have hown : s.vm.findClass "com/example/ferryline/ferryline/client/WorkerOptions" = some m.cls := findClass_of_methodNamed Bd.named
  have hnm := (name_of_methodNamed Bd.named Bd.method).1
  have hlk : meth.locks = false := BodyLoose.notSynchronized Bd
  have X0 : Stand p l e ({ frames := 0, cells := 0, slots := 0, locals := 0 } : Room) s m #[(.ref ba)] below meth c s₁ [] 0 0 := Stand.of_body Bd
  have e0 : s₁.heap = h0 := by rw [← hh, Bd.state]; rfl
  have N0 := Fr.nil n0
  rw [ef_region m ba]
  show Go p e below s (fun v h L => Q_region Z ba h0 n0 v h L) ({ frames := 0, cells := 0, slots := 0, locals := 0 } : Room).cells ({ frames := 0, cells := 0, slots := 0, locals := 0 } : Room).slots s₁ (mkF m 0 #[.val (.ref ba)] [])
  refine Go.step (T' := s₁) (f' := (mkF m 1 #[.val (.ref ba)] [(.ref ba)])) (fun t k => XS.aloadN X0.here hx rfl (hb hby d5_0) rfl rfl k) ?_
  obtain ⟨T58, X58, e58, st58⟩ := getF X0 hx hZ hown (host := "") (Or.inl (hw _ (List.mem_of_getElem? (i := 14) rfl))) Via.refl e0 P0 (g := (mkF m 1 #[.val (.ref ba)] [(.ref ba)])) rfl rfl (hb hby d5_1)
  refine Go.step (T' := T58) (f' := (mkF m 4 #[.val (.ref ba)] [.null])) st58 ?_
  refine Go.retA X58 hx hlk Bd.returns rfl rfl (hb hby d5_4) e58 ?_ (by decide) (by decide)
  exact ⟨rfl, N0, rfl⟩
theorem d6_0 : decode prog_14_method_8_code 0 = .ok (.aload_n 0, 1) := by decide +kernel
theorem d6_1 : decode prog_14_method_8_code 1 = .ok (.getfield 17, 3) := by decide +kernel
theorem d6_4 : decode prog_14_method_8_code 4 = .ok (.areturn, 1) := by decide +kernel
theorem ef_longCap (m : MethodId) (ba : Addr) : entryFrame m #[(.ref ba)] 1 = mkF m 0 #[.val (.ref ba)] [] := by first | (simp [entryFrame, mkF, argsToLocals, Value.category]; done) | rfl
def Q_longCap (Z : State) (ba : Addr) (h0 : Heap) (n0 : Nat) (v : Option Value) (h : Heap) (L : List Loc) : Prop := v = some .null ∧ Fr n0 L ∧ h = h0
set_option maxRecDepth 65536 in
set_option maxHeartbeats 40000000 in
theorem rm_longCap (l : Launch) (Z : State) (a0 : Array Value) (hw : ∀ d ∈ tables_1, d.before a0 Z = true) (ws : List Jvm.Cond) (ba : Addr) (h0 : Heap) (n0 : Nat) (O0 : Old Z n0 h0) (P0 : Fld Z h0 ba "com/example/ferryline/ferryline/client/WorkerOptions" "longCap" "Ljava/lang/Integer;" .null) :
    MetFree l (⟨"com/example/ferryline/ferryline/client/WorkerOptions", "longCap", "()Ljava/lang/Integer;"⟩ : MethodName) (head1 (Jvm.Cond.code (⟨"com/example/ferryline/ferryline/client/WorkerOptions", "longCap", "()Ljava/lang/Integer;"⟩ : MethodName) prog_14_method_8_code 1 (some (.object "java/lang/Integer")) :: ws) ({ frames := 0, cells := 0, slots := 0, locals := 0 } : Room)) (fun a U => a = #[(.ref ba)] ∧ Z.Warmed39 U.vm ∧ U.heap = h0) (fun _ _ _ _ _ => True) (fun _ U o U' => ∃ v L, o = .returned v ∧ Q_longCap Z ba h0 n0 v U'.heap L ∧ FrameEnd U o U' L ({ frames := 0, cells := 0, slots := 0, locals := 0 } : Room).cells ({ frames := 0, cells := 0, slots := 0, locals := 0 } : Room).slots) := by
  refine MetFree.of_bodySF (plainFor_of_name pn_com_example_ferryline_ferryline_client_WorkerOptions) hisR ?_
  intro p e s m args below meth c s₁ Bd hml0 hP hK
  obtain ⟨rfl, hZ, hh⟩ := hP
  have hx := Bd.exec
  have hby := Bd.bytes
  have hml : c.maxLocals = 1 := hml0
  have hown : s.vm.findClass "com/example/ferryline/ferryline/client/WorkerOptions" = some m.cls := findClass_of_methodNamed Bd.named
  have hnm := (name_of_methodNamed Bd.named Bd.method).1
  have hlk : meth.locks = false := BodyLoose.notSynchronized Bd
  have X0 : Stand p l e ({ frames := 0, cells := 0, slots := 0, locals := 0 } : Room) s m #[(.ref ba)] below meth c s₁ [] 0 0 := Stand.of_body Bd
  have e0 : s₁.heap = h0 := by rw [← hh, Bd.state]; rfl
  have N0 := Fr.nil n0
  rw [ef_longCap m ba]
  show Go p e below s (fun v h L => Q_longCap Z ba h0 n0 v h L) ({ frames := 0, cells := 0, slots := 0, locals := 0 } : Room).cells ({ frames := 0, cells := 0, slots := 0, locals := 0 } : Room).slots s₁ (mkF m 0 #[.val (.ref ba)] [])
  refine Go.step (T' := s₁) (f' := (mkF m 1 #[.val (.ref ba)] [(.ref ba)])) (fun t k => XS.aloadN X0.here hx rfl (hb hby d6_0) rfl rfl k) ?_
  obtain ⟨T59, X59, e59, st59⟩ := getF X0 hx hZ hown (host := "") (Or.inl (hw _ (List.mem_of_getElem? (i := 16) rfl))) Via.refl e0 P0 (g := (mkF m 1 #[.val (.ref ba)] [(.ref ba)])) rfl rfl (hb hby d6_1)
  refine Go.step (T' := T59) (f' := (mkF m 4 #[.val (.ref ba)] [.null])) st59 ?_
  refine Go.retA X59 hx hlk Bd.returns rfl rfl (hb hby d6_4) e59 ?_ (by decide) (by decide)
  exact ⟨rfl, N0, rfl⟩
theorem d7_0 : decode prog_14_method_9_code 0 = .ok (.aload_n 0, 1) := by decide +kernel
theorem d7_1 : decode prog_14_method_9_code 1 = .ok (.getfield 21, 3) := by decide +kernel
theorem d7_4 : decode prog_14_method_9_code 4 = .ok (.ireturn, 1) := by decide +kernel
theorem ef_prefetch (m : MethodId) (ba : Addr) : entryFrame m #[(.ref ba)] 1 = mkF m 0 #[.val (.ref ba)] [] := by first | (simp [entryFrame, mkF, argsToLocals, Value.category]; done) | rfl
def Q_prefetch (Z : State) (ba : Addr) (ia : Int32) (h0 : Heap) (n0 : Nat) (v : Option Value) (h : Heap) (L : List Loc) : Prop := v = some (.int ia) ∧ Fr n0 L ∧ h = h0
set_option maxRecDepth 65536 in
set_option maxHeartbeats 40000000 in
theorem rm_prefetch (l : Launch) (Z : State) (a0 : Array Value) (hw : ∀ d ∈ tables_1, d.before a0 Z = true) (ws : List Jvm.Cond) (ba : Addr) (ia : Int32) (h0 : Heap) (n0 : Nat) (O0 : Old Z n0 h0) (P0 : Fld Z h0 ba "com/example/ferryline/ferryline/client/WorkerOptions" "prefetch" "I" (.int ia)) :
    MetFree l (⟨"com/example/ferryline/ferryline/client/WorkerOptions", "prefetch", "()I"⟩ : MethodName) (head1 (Jvm.Cond.code (⟨"com/example/ferryline/ferryline/client/WorkerOptions", "prefetch", "()I"⟩ : MethodName) prog_14_method_9_code 1 (some .int) :: ws) ({ frames := 0, cells := 0, slots := 0, locals := 0 } : Room)) (fun a U => a = #[(.ref ba)] ∧ Z.Warmed39 U.vm ∧ U.heap = h0) (fun _ _ _ _ _ => True) (fun _ U o U' => ∃ v L, o = .returned v ∧ Q_prefetch Z ba ia h0 n0 v U'.heap L ∧ FrameEnd U o U' L ({ frames := 0, cells := 0, slots := 0, locals := 0 } : Room).cells ({ frames := 0, cells := 0, slots := 0, locals := 0 } : Room).slots) := by
  refine MetFree.of_bodySF (plainFor_of_name pn_com_example_ferryline_ferryline_client_WorkerOptions) hisR ?_
  intro p e s m args below meth c s₁ Bd hml0 hP hK
  obtain ⟨rfl, hZ, hh⟩ := hP
  have hx := Bd.exec
  have hby := Bd.bytes
  have hml : c.maxLocals = 1 := hml0
  have hown : s.vm.findClass "com/example/ferryline/ferryline/client/WorkerOptions" = some m.cls := findClass_of_methodNamed Bd.named
  have hnm := (name_of_methodNamed Bd.named Bd.method).1
  have hlk : meth.locks = false := BodyLoose.notSynchronized Bd
  have X0 : Stand p l e ({ frames := 0, cells := 0, slots := 0, locals := 0 } : Room) s m #[(.ref ba)] below meth c s₁ [] 0 0 := Stand.of_body Bd
  have e0 : s₁.heap = h0 := by rw [← hh, Bd.state]; rfl
  have N0 := Fr.nil n0
  rw [ef_prefetch m ba]
  show Go p e below s (fun v h L => Q_prefetch Z ba ia h0 n0 v h L) ({ frames := 0, cells := 0, slots := 0, locals := 0 } : Room).cells ({ frames := 0, cells := 0, slots := 0, locals := 0 } : Room).slots s₁ (mkF m 0 #[.val (.ref ba)] [])
  refine Go.step (T' := s₁) (f' := (mkF m 1 #[.val (.ref ba)] [(.ref ba)])) (fun t k => XS.aloadN X0.here hx rfl (hb hby d7_0) rfl rfl k) ?_
  obtain ⟨T60, X60, e60, st60⟩ := getF X0 hx hZ hown (host := "") (Or.inl (hw _ (List.mem_of_getElem? (i := 18) rfl))) Via.refl e0 P0 (g := (mkF m 1 #[.val (.ref ba)] [(.ref ba)])) rfl rfl (hb hby d7_1)
  refine Go.step (T' := T60) (f' := (mkF m 4 #[.val (.ref ba)] [(.int ia)])) st60 ?_
  refine Go.retI X60 hx hlk Bd.returns (hb hby d7_4) e60 ?_ (by decide) (by decide)
  exact ⟨rfl, N0, rfl⟩
theorem pn_com_example_ferryline_ferryline_client_WorkerOptionsOfSlotsPinLaw : plainName "com/example/ferryline/ferryline/client/WorkerOptionsOfSlotsPinLaw" = true := by first | (simp [plainName, overriddenIn]; done) | decide +kernel
theorem pd1 : parseMethodDescriptor "(I)Lcom/example/ferryline/ferryline/client/WorkerOptions;" = some ⟨[.int], some (.object "com/example/ferryline/ferryline/client/WorkerOptions")⟩ := by decide +kernel
theorem pd2 : parseMethodDescriptor "()I" = some ⟨[], some .int⟩ := by decide +kernel
theorem pd3 : parseMethodDescriptor "()Ljava/lang/String;" = some ⟨[], some (.object "java/lang/String")⟩ := by decide +kernel
theorem pd4 : parseMethodDescriptor "()Ljava/lang/Integer;" = some ⟨[], some (.object "java/lang/Integer")⟩ := by decide +kernel
theorem ef_law (m : MethodId) (ia : Int32) (ib : Int32) : entryFrame m #[(.int ia), (.int ib)] maxLocals = mkF m 0 #[.val (.int ia), .val (.int ib), .unset, .unset, .unset, .unset] [] := by first | (simp [entryFrame, mkF, argsToLocals, Value.category, maxLocals]; done) | rfl
def Q_law (Z : State) (ia : Int32) (ib : Int32) (h0 : Heap) (n0 : Nat) (v : Option Value) (h : Heap) (L : List Loc) : Prop := v = some (.int (1 : Int32)) ∧ Fr n0 L ∧ Keep h0 h []
set_option maxRecDepth 65536 in
set_option maxHeartbeats 40000000 in
theorem rm_law (l : Launch) (Z : State) (a0 : Array Value) (hw : ∀ d ∈ tables_1, d.before a0 Z = true) (ws : List Jvm.Cond) (ia : Int32) (ib : Int32) (h0 : Heap) (n0 : Nat) (O0 : Old Z n0 h0) :
    MetFree l x (head1 (Jvm.Cond.code x code maxLocals ret :: ws) room_1) (fun a U => a = #[(.int ia), (.int ib)] ∧ Z.Warmed39 U.vm ∧ U.heap = h0) (fun _ _ _ _ _ => True) (fun _ U o U' => ∃ v L, o = .returned v ∧ Q_law Z ia ib h0 n0 v U'.heap L ∧ FrameEnd U o U' L room_1.cells room_1.slots) := by
  refine MetFree.of_bodySF (plainFor_of_name pn_com_example_ferryline_ferryline_client_WorkerOptionsOfSlotsPinLaw) hisR ?_
  intro p e s m args below meth c s₁ Bd hml0 hP hK
  obtain ⟨rfl, hZ, hh⟩ := hP
  have hx := Bd.exec
  have hby := Bd.bytes
  have hml : c.maxLocals = 6 := hml0
  have hown : s.vm.findClass "com/example/ferryline/ferryline/client/WorkerOptionsOfSlotsPinLaw" = some m.cls := findClass_of_methodNamed Bd.named
  have hnm := (name_of_methodNamed Bd.named Bd.method).1
  have hlk : meth.locks = false := BodyLoose.notSynchronized Bd
  have X0 : Stand p l e room_1 s m #[(.int ia), (.int ib)] below meth c s₁ [] 0 0 := Stand.of_body Bd
  have e0 : s₁.heap = h0 := by rw [← hh, Bd.state]; rfl
  have N0 := Fr.nil n0
  have K0 := Keep.refl h0 []
  rw [ef_law m ia ib]
  show Go p e below s (fun v h L => Q_law Z ia ib h0 n0 v h L) room_1.cells room_1.slots s₁ (mkF m 0 #[.val (.int ia), .val (.int ib), .unset, .unset, .unset, .unset] [])
  refine Go.step (T' := s₁) (f' := (mkF m 1 #[.val (.int ia), .val (.int ib), .unset, .unset, .unset, .unset] [(.int ia)])) (fun t k => XS.iloadN X0.here hx rfl (hb hby at_0) rfl k) ?_
  obtain ⟨_, _, ⟨T61, L61, k61, n61⟩, -, X61, ⟨Lc61, hQ61, l61, y61, z61⟩, st61⟩ := Jvm.LawKit.callS X0 hx (y := (⟨"com/example/ferryline/ferryline/client/WorkerOptions", "ofSlots", "(I)Lcom/example/ferryline/ferryline/client/WorkerOptions;"⟩ : MethodName)) hown (mvT hZ (hw _ (List.mem_of_getElem? (i := 0) rfl))) (mvT hZ (hw _ (List.mem_of_getElem? (i := 1) rfl))) (mvT hZ (hw _ (List.mem_of_getElem? (i := 2) rfl))) (mvT hZ (hw _ (List.mem_of_getElem? (i := 3) rfl))) (by decide) (backOf (W := 0) (rm_of l Z a0 hw [] ia h0 n0 O0 ) hZ (hw _ (List.mem_of_getElem? (i := 3) rfl)) (hw _ (List.mem_of_getElem? (i := 2) rfl)) (by decide) (by decide)) (g := (mkF m 1 #[.val (.int ia), .val (.int ib), .unset, .unset, .unset, .unset] [(.int ia)])) rfl (by rw [hml]; rfl) (argsL := [(.int ia)]) (rest := []) (lenOf pd1 rfl) rfl (by show 2 * 0 + _ ≤ _; exact Nat.le_of_eq rfl) (hb hby at_1) (fun _ _ => ⟨rfl, e0, (by decide : 0 + 1 ≤ _), (by decide : 0 + 4 ≤ _)⟩)
  dsimp only [Pt.U, Pt.locs, Pt.cells, Pt.slots] at X61 l61 y61 z61 st61 hQ61
  subst l61 y61 z61
  obtain ⟨u62, rfl, Nq61, hh61, p63, p64, p65, p66, p67, p68⟩ := hQ61
  have N69 := Fr.app N0 Nq61
  have O70 := O0.keep hh61 all0
  have K71 := K0.trans hh61 all0
  have g72 : n0 ≤ u62 := Nat.le_trans (own_old_le O0) p63
  have g73 : h0.size ≤ u62 := Nat.le_trans K0.1 p63
  refine Go.step (T' := T61) (f' := (mkF m 4 #[.val (.int ia), .val (.int ib), .unset, .unset, .unset, .unset] [(.ref u62)])) st61 ?_
  refine Go.step (T' := T61) (f' := (mkF m 5 #[.val (.int ia), .val (.int ib), .val (.ref u62), .unset, .unset, .unset] [])) (fun t k => XS.astoreN X61.here hx rfl (hb hby at_4) rfl rfl (l' := #[.val (.int ia), .val (.int ib), .val (.ref u62), .unset, .unset, .unset]) rfl k) ?_
  refine Go.step (T' := T61) (f' := (mkF m 6 #[.val (.int ia), .val (.int ib), .val (.ref u62), .unset, .unset, .unset] [(.int ib)])) (fun t k => XS.iloadN X61.here hx rfl (hb hby at_5) rfl k) ?_
  obtain ⟨_, _, ⟨T74, L74, k74, n74⟩, -, X74, ⟨Lc74, hQ74, l74, y74, z74⟩, st74⟩ := Jvm.LawKit.callS X61 hx (y := (⟨"com/example/ferryline/ferryline/client/WorkerOptions", "ofSlots", "(I)Lcom/example/ferryline/ferryline/client/WorkerOptions;"⟩ : MethodName)) hown (mvT hZ (hw _ (List.mem_of_getElem? (i := 0) rfl))) (mvT hZ (hw _ (List.mem_of_getElem? (i := 1) rfl))) (mvT hZ (hw _ (List.mem_of_getElem? (i := 2) rfl))) (mvT hZ (hw _ (List.mem_of_getElem? (i := 3) rfl))) (by decide) (backOf (W := 0) (rm_of l Z a0 hw [] ib T61.heap n0 O70 ) hZ (hw _ (List.mem_of_getElem? (i := 3) rfl)) (hw _ (List.mem_of_getElem? (i := 2) rfl)) (by decide) (by decide)) (g := (mkF m 6 #[.val (.int ia), .val (.int ib), .val (.ref u62), .unset, .unset, .unset] [(.int ib)])) rfl (by rw [hml]; rfl) (argsL := [(.int ib)]) (rest := []) (lenOf pd1 rfl) rfl (by show 2 * 0 + _ ≤ _; exact Nat.le_of_eq rfl) (hb hby at_6) (fun _ _ => ⟨rfl, rfl, (by decide : 1 + 1 ≤ _), (by decide : 4 + 4 ≤ _)⟩)
  dsimp only [Pt.U, Pt.locs, Pt.cells, Pt.slots] at X74 l74 y74 z74 st74 hQ74
  subst l74 y74 z74
  obtain ⟨u75, rfl, Nq74, hh74, p76, p77, p78, p79, p80, p81⟩ := hQ74
  have N82 := Fr.app N69 Nq74
  have f83 := p64.keep hh74
  have f84 := p65.keep hh74 nin0
  have f85 := p66.keep hh74 nin0
  have f86 := p67.keep hh74 nin0
  have f87 := p68.keep hh74 nin0
  have O88 := O70.keep hh74 all0
  have K89 := K71.trans hh74 all0
  have g90 : n0 ≤ u75 := Nat.le_trans (own_old_le O70) p76
  have g91 : h0.size ≤ u75 := Nat.le_trans K71.1 p76
  have ne92 : u62 ≠ u75 := Nat.ne_of_lt (Nat.lt_of_lt_of_le p64.lt p76)
  refine Go.step (T' := T74) (f' := (mkF m 9 #[.val (.int ia), .val (.int ib), .val (.ref u62), .unset, .unset, .unset] [(.ref u75)])) st74 ?_
  refine Go.step (T' := T74) (f' := (mkF m 10 #[.val (.int ia), .val (.int ib), .val (.ref u62), .val (.ref u75), .unset, .unset] [])) (fun t k => XS.astoreN X74.here hx rfl (hb hby at_9) rfl rfl (l' := #[.val (.int ia), .val (.int ib), .val (.ref u62), .val (.ref u75), .unset, .unset]) rfl k) ?_
  refine Go.step (T' := T74) (f' := (mkF m 11 #[.val (.int ia), .val (.int ib), .val (.ref u62), .val (.ref u75), .unset, .unset] [(.ref u62)])) (fun t k => XS.aloadN X74.here hx rfl (hb hby at_10) rfl rfl k) ?_
  refine Go.step (T' := T74) (f' := (mkF m 14 #[.val (.int ia), .val (.int ib), .val (.ref u62), .val (.ref u75), .unset, .unset] [])) (fun t k => XS.ifnullNo X74.here hx rfl (hb hby at_11) rfl k) ?_
  refine Go.step (T' := T74) (f' := (mkF m 15 #[.val (.int ia), .val (.int ib), .val (.ref u62), .val (.ref u75), .unset, .unset] [(.ref u75)])) (fun t k => XS.aloadN X74.here hx rfl (hb hby at_14) rfl rfl k) ?_
  refine Go.step (T' := T74) (f' := (mkF m 20 #[.val (.int ia), .val (.int ib), .val (.ref u62), .val (.ref u75), .unset, .unset] [])) (fun t k => XS.ifnonnullYes X74.here hx rfl (pc0 := 15) (pc' := 20) rfl (hb hby at_15) rfl (by decide) (by decide) k) ?_
  refine Go.step (T' := T74) (f' := (mkF m 21 #[.val (.int ia), .val (.int ib), .val (.ref u62), .val (.ref u75), .unset, .unset] [(.ref u62)])) (fun t k => XS.aloadN X74.here hx rfl (hb hby at_20) rfl rfl k) ?_
  obtain ⟨cq93, kq93, q93a, q93b, q93c⟩ := isOf hZ rfl f83
  obtain ⟨_, _, ⟨T93, L93, k93, n93⟩, -, X93, ⟨Lc93, hQ93, l93, y93, z93⟩, st93⟩ := X74.virtualBack hx (y := (⟨"com/example/ferryline/ferryline/client/WorkerOptions", "slots", "()I"⟩ : MethodName)) (z := (⟨"com/example/ferryline/ferryline/client/WorkerOptions", "slots", "()I"⟩ : MethodName)) hown (mvT hZ (hw _ (List.mem_of_getElem? (i := 20) rfl))) (mvT hZ (hw _ (List.mem_of_getElem? (i := 21) rfl))) (notFace_of_selects (args := #[]) (mvT hZ (hw _ (List.mem_of_getElem? (i := 23) rfl)))) (mvT hZ (hw _ (List.mem_of_getElem? (i := 23) rfl))) (mvT hZ (hw _ (List.mem_of_getElem? (i := 22) rfl))) (by decide) (backOf (W := 0) (rm_slots l Z a0 hw [] u62 ia T74.heap n0 O88 f84) hZ (hw _ (List.mem_of_getElem? (i := 24) rfl)) (hw _ (List.mem_of_getElem? (i := 2) rfl)) (by decide) (by decide)) q93a q93c (g := (mkF m 21 #[.val (.int ia), .val (.int ib), .val (.ref u62), .val (.ref u75), .unset, .unset] [(.ref u62)])) rfl (by rw [hml]; rfl) (Steps.refl _) (argsL := []) (rest := []) (lenOf pd2 rfl) rfl (by show 2 * 0 + _ ≤ _; exact Nat.le_of_eq rfl) (hb hby at_21) (fun _ _ => ⟨rfl, rfl, (by decide : 2 + 0 ≤ _), (by decide : 8 + 0 ≤ _)⟩)
  dsimp only [Pt.U, Pt.locs, Pt.cells, Pt.slots] at X93 l93 y93 z93 st93 hQ93
  subst l93 y93 z93
  obtain ⟨rfl, Nq93, hh93⟩ := hQ93
  have N94 := Fr.app N82 Nq93
  refine Go.via (T' := T93) (f' := (mkF m 24 #[.val (.int ia), .val (.int ib), .val (.ref u62), .val (.ref u75), .unset, .unset] [(.int ia)])) st93 ?_
  refine Go.step (T' := T93) (f' := (mkF m 25 #[.val (.int ia), .val (.int ib), .val (.ref u62), .val (.ref u75), .unset, .unset] [(.int ia), (.int ia)])) (fun t k => XS.iloadN X93.here hx rfl (hb hby at_24) rfl k) ?_
  refine Go.step (T' := T93) (f' := (mkF m 28 #[.val (.int ia), .val (.int ib), .val (.ref u62), .val (.ref u75), .unset, .unset] [])) (fun t k => XS.icmpNo X93.here hx rfl (hb hby at_25) rfl (teq (rfl : ia = ia)).2 k) ?_
  refine Go.step (T' := T93) (f' := (mkF m 29 #[.val (.int ia), .val (.int ib), .val (.ref u62), .val (.ref u75), .unset, .unset] [(.ref u62)])) (fun t k => XS.aloadN X93.here hx rfl (hb hby at_28) rfl rfl k) ?_
  obtain ⟨cq95, kq95, q95a, q95b, q95c⟩ := isOf hZ hh93 f83
  obtain ⟨_, _, ⟨T95, L95, k95, n95⟩, -, X95, ⟨Lc95, hQ95, l95, y95, z95⟩, st95⟩ := X93.virtualBack hx (y := (⟨"com/example/ferryline/ferryline/client/WorkerOptions", "region", "()Ljava/lang/String;"⟩ : MethodName)) (z := (⟨"com/example/ferryline/ferryline/client/WorkerOptions", "region", "()Ljava/lang/String;"⟩ : MethodName)) hown (mvT hZ (hw _ (List.mem_of_getElem? (i := 25) rfl))) (mvT hZ (hw _ (List.mem_of_getElem? (i := 26) rfl))) (notFace_of_selects (args := #[]) (mvT hZ (hw _ (List.mem_of_getElem? (i := 28) rfl)))) (mvT hZ (hw _ (List.mem_of_getElem? (i := 28) rfl))) (mvT hZ (hw _ (List.mem_of_getElem? (i := 27) rfl))) (by decide) (backOf (W := 0) (rm_region l Z a0 hw [] u62 T74.heap n0 O88 f85) hZ (hw _ (List.mem_of_getElem? (i := 29) rfl)) (hw _ (List.mem_of_getElem? (i := 2) rfl)) (by decide) (by decide)) q95a q95c (g := (mkF m 29 #[.val (.int ia), .val (.int ib), .val (.ref u62), .val (.ref u75), .unset, .unset] [(.ref u62)])) rfl (by rw [hml]; rfl) (Steps.refl _) (argsL := []) (rest := []) (lenOf pd3 rfl) rfl (by show 2 * 0 + _ ≤ _; exact Nat.le_of_eq rfl) (hb hby at_29) (fun _ _ => ⟨rfl, hh93, (by decide : 2 + 0 ≤ _), (by decide : 8 + 0 ≤ _)⟩)
  dsimp only [Pt.U, Pt.locs, Pt.cells, Pt.slots] at X95 l95 y95 z95 st95 hQ95
  subst l95 y95 z95
  obtain ⟨rfl, Nq95, hh95⟩ := hQ95
  have N96 := Fr.app N94 Nq95
  refine Go.via (T' := T95) (f' := (mkF m 32 #[.val (.int ia), .val (.int ib), .val (.ref u62), .val (.ref u75), .unset, .unset] [.null])) st95 ?_
  refine Go.step (T' := T95) (f' := (mkF m 35 #[.val (.int ia), .val (.int ib), .val (.ref u62), .val (.ref u75), .unset, .unset] [])) (fun t k => XS.ifnonnullNo X95.here hx rfl (hb hby at_32) rfl k) ?_
  refine Go.step (T' := T95) (f' := (mkF m 36 #[.val (.int ia), .val (.int ib), .val (.ref u62), .val (.ref u75), .unset, .unset] [(.ref u62)])) (fun t k => XS.aloadN X95.here hx rfl (hb hby at_35) rfl rfl k) ?_
  obtain ⟨cq97, kq97, q97a, q97b, q97c⟩ := isOf hZ hh95 f83
  obtain ⟨_, _, ⟨T97, L97, k97, n97⟩, -, X97, ⟨Lc97, hQ97, l97, y97, z97⟩, st97⟩ := X95.virtualBack hx (y := (⟨"com/example/ferryline/ferryline/client/WorkerOptions", "longCap", "()Ljava/lang/Integer;"⟩ : MethodName)) (z := (⟨"com/example/ferryline/ferryline/client/WorkerOptions", "longCap", "()Ljava/lang/Integer;"⟩ : MethodName)) hown (mvT hZ (hw _ (List.mem_of_getElem? (i := 30) rfl))) (mvT hZ (hw _ (List.mem_of_getElem? (i := 31) rfl))) (notFace_of_selects (args := #[]) (mvT hZ (hw _ (List.mem_of_getElem? (i := 33) rfl)))) (mvT hZ (hw _ (List.mem_of_getElem? (i := 33) rfl))) (mvT hZ (hw _ (List.mem_of_getElem? (i := 32) rfl))) (by decide) (backOf (W := 0) (rm_longCap l Z a0 hw [] u62 T74.heap n0 O88 f86) hZ (hw _ (List.mem_of_getElem? (i := 34) rfl)) (hw _ (List.mem_of_getElem? (i := 2) rfl)) (by decide) (by decide)) q97a q97c (g := (mkF m 36 #[.val (.int ia), .val (.int ib), .val (.ref u62), .val (.ref u75), .unset, .unset] [(.ref u62)])) rfl (by rw [hml]; rfl) (Steps.refl _) (argsL := []) (rest := []) (lenOf pd4 rfl) rfl (by show 2 * 0 + _ ≤ _; exact Nat.le_of_eq rfl) (hb hby at_36) (fun _ _ => ⟨rfl, hh95, (by decide : 2 + 0 ≤ _), (by decide : 8 + 0 ≤ _)⟩)
  dsimp only [Pt.U, Pt.locs, Pt.cells, Pt.slots] at X97 l97 y97 z97 st97 hQ97
  subst l97 y97 z97
  obtain ⟨rfl, Nq97, hh97⟩ := hQ97
  have N98 := Fr.app N96 Nq97
  refine Go.via (T' := T97) (f' := (mkF m 39 #[.val (.int ia), .val (.int ib), .val (.ref u62), .val (.ref u75), .unset, .unset] [.null])) st97 ?_
  refine Go.step (T' := T97) (f' := (mkF m 42 #[.val (.int ia), .val (.int ib), .val (.ref u62), .val (.ref u75), .unset, .unset] [])) (fun t k => XS.ifnonnullNo X97.here hx rfl (hb hby at_39) rfl k) ?_
  refine Go.step (T' := T97) (f' := (mkF m 43 #[.val (.int ia), .val (.int ib), .val (.ref u62), .val (.ref u75), .unset, .unset] [(.ref u62)])) (fun t k => XS.aloadN X97.here hx rfl (hb hby at_42) rfl rfl k) ?_
  obtain ⟨cq99, kq99, q99a, q99b, q99c⟩ := isOf hZ hh97 f83
  obtain ⟨_, _, ⟨T99, L99, k99, n99⟩, -, X99, ⟨Lc99, hQ99, l99, y99, z99⟩, st99⟩ := X97.virtualBack hx (y := (⟨"com/example/ferryline/ferryline/client/WorkerOptions", "prefetch", "()I"⟩ : MethodName)) (z := (⟨"com/example/ferryline/ferryline/client/WorkerOptions", "prefetch", "()I"⟩ : MethodName)) hown (mvT hZ (hw _ (List.mem_of_getElem? (i := 35) rfl))) (mvT hZ (hw _ (List.mem_of_getElem? (i := 36) rfl))) (notFace_of_selects (args := #[]) (mvT hZ (hw _ (List.mem_of_getElem? (i := 38) rfl)))) (mvT hZ (hw _ (List.mem_of_getElem? (i := 38) rfl))) (mvT hZ (hw _ (List.mem_of_getElem? (i := 37) rfl))) (by decide) (backOf (W := 0) (rm_prefetch l Z a0 hw [] u62 (0 : Int32) T74.heap n0 O88 f87) hZ (hw _ (List.mem_of_getElem? (i := 39) rfl)) (hw _ (List.mem_of_getElem? (i := 2) rfl)) (by decide) (by decide)) q99a q99c (g := (mkF m 43 #[.val (.int ia), .val (.int ib), .val (.ref u62), .val (.ref u75), .unset, .unset] [(.ref u62)])) rfl (by rw [hml]; rfl) (Steps.refl _) (argsL := []) (rest := []) (lenOf pd2 rfl) rfl (by show 2 * 0 + _ ≤ _; exact Nat.le_of_eq rfl) (hb hby at_43) (fun _ _ => ⟨rfl, hh97, (by decide : 2 + 0 ≤ _), (by decide : 8 + 0 ≤ _)⟩)
  dsimp only [Pt.U, Pt.locs, Pt.cells, Pt.slots] at X99 l99 y99 z99 st99 hQ99
  subst l99 y99 z99
  obtain ⟨rfl, Nq99, hh99⟩ := hQ99
  have N100 := Fr.app N98 Nq99
  refine Go.via (T' := T99) (f' := (mkF m 46 #[.val (.int ia), .val (.int ib), .val (.ref u62), .val (.ref u75), .unset, .unset] [(.int (0 : Int32))])) st99 ?_
  refine Go.step (T' := T99) (f' := (mkF m 49 #[.val (.int ia), .val (.int ib), .val (.ref u62), .val (.ref u75), .unset, .unset] [])) (fun t k => XS.ifNo X99.here hx rfl (hb hby at_46) rfl ((if0 _ _).trans (teq (by decide : (0 : Int32) = (0 : Int32))).2) k) ?_
  refine Go.step (T' := T99) (f' := (mkF m 50 #[.val (.int ia), .val (.int ib), .val (.ref u62), .val (.ref u75), .unset, .unset] [(.int (1 : Int32))])) (fun t k => XS.iconst X99.here hx rfl (hb hby at_49) k) ?_
  refine Go.step (T' := T99) (f' := (mkF m 54 #[.val (.int ia), .val (.int ib), .val (.ref u62), .val (.ref u75), .unset, .unset] [(.int (1 : Int32))])) (fun t k => XS.goto X99.here hx rfl (pc0 := 50) (pc' := 54) rfl (hb hby at_50) (by decide) (by decide) k) ?_
  refine Go.step (T' := T99) (f' := (mkF m 56 #[.val (.int ia), .val (.int ib), .val (.ref u62), .val (.ref u75), .val (.int (1 : Int32)), .unset] [])) (fun t k => XS.istore X99.here hx rfl (hb hby at_54) rfl (l' := #[.val (.int ia), .val (.int ib), .val (.ref u62), .val (.ref u75), .val (.int (1 : Int32)), .unset]) rfl k) ?_
  refine Go.step (T' := T99) (f' := (mkF m 57 #[.val (.int ia), .val (.int ib), .val (.ref u62), .val (.ref u75), .val (.int (1 : Int32)), .unset] [(.ref u75)])) (fun t k => XS.aloadN X99.here hx rfl (hb hby at_56) rfl rfl k) ?_
  obtain ⟨cq101, kq101, q101a, q101b, q101c⟩ := isOf hZ hh99 p77
  obtain ⟨_, _, ⟨T101, L101, k101, n101⟩, -, X101, ⟨Lc101, hQ101, l101, y101, z101⟩, st101⟩ := X99.virtualBack hx (y := (⟨"com/example/ferryline/ferryline/client/WorkerOptions", "slots", "()I"⟩ : MethodName)) (z := (⟨"com/example/ferryline/ferryline/client/WorkerOptions", "slots", "()I"⟩ : MethodName)) hown (mvT hZ (hw _ (List.mem_of_getElem? (i := 20) rfl))) (mvT hZ (hw _ (List.mem_of_getElem? (i := 21) rfl))) (notFace_of_selects (args := #[]) (mvT hZ (hw _ (List.mem_of_getElem? (i := 23) rfl)))) (mvT hZ (hw _ (List.mem_of_getElem? (i := 23) rfl))) (mvT hZ (hw _ (List.mem_of_getElem? (i := 22) rfl))) (by decide) (backOf (W := 0) (rm_slots l Z a0 hw [] u75 ib T74.heap n0 O88 p78) hZ (hw _ (List.mem_of_getElem? (i := 24) rfl)) (hw _ (List.mem_of_getElem? (i := 2) rfl)) (by decide) (by decide)) q101a q101c (g := (mkF m 57 #[.val (.int ia), .val (.int ib), .val (.ref u62), .val (.ref u75), .val (.int (1 : Int32)), .unset] [(.ref u75)])) rfl (by rw [hml]; rfl) (Steps.refl _) (argsL := []) (rest := []) (lenOf pd2 rfl) rfl (by show 2 * 0 + _ ≤ _; exact Nat.le_of_eq rfl) (hb hby at_57) (fun _ _ => ⟨rfl, hh99, (by decide : 2 + 0 ≤ _), (by decide : 8 + 0 ≤ _)⟩)
  dsimp only [Pt.U, Pt.locs, Pt.cells, Pt.slots] at X101 l101 y101 z101 st101 hQ101
  subst l101 y101 z101
  obtain ⟨rfl, Nq101, hh101⟩ := hQ101
  have N102 := Fr.app N100 Nq101
  refine Go.via (T' := T101) (f' := (mkF m 60 #[.val (.int ia), .val (.int ib), .val (.ref u62), .val (.ref u75), .val (.int (1 : Int32)), .unset] [(.int ib)])) st101 ?_
  refine Go.step (T' := T101) (f' := (mkF m 61 #[.val (.int ia), .val (.int ib), .val (.ref u62), .val (.ref u75), .val (.int (1 : Int32)), .unset] [(.int ib), (.int ib)])) (fun t k => XS.iloadN X101.here hx rfl (hb hby at_60) rfl k) ?_
  refine Go.step (T' := T101) (f' := (mkF m 64 #[.val (.int ia), .val (.int ib), .val (.ref u62), .val (.ref u75), .val (.int (1 : Int32)), .unset] [])) (fun t k => XS.icmpNo X101.here hx rfl (hb hby at_61) rfl (teq (rfl : ib = ib)).2 k) ?_
  refine Go.step (T' := T101) (f' := (mkF m 65 #[.val (.int ia), .val (.int ib), .val (.ref u62), .val (.ref u75), .val (.int (1 : Int32)), .unset] [(.ref u75)])) (fun t k => XS.aloadN X101.here hx rfl (hb hby at_64) rfl rfl k) ?_
  obtain ⟨cq103, kq103, q103a, q103b, q103c⟩ := isOf hZ hh101 p77
  obtain ⟨_, _, ⟨T103, L103, k103, n103⟩, -, X103, ⟨Lc103, hQ103, l103, y103, z103⟩, st103⟩ := X101.virtualBack hx (y := (⟨"com/example/ferryline/ferryline/client/WorkerOptions", "region", "()Ljava/lang/String;"⟩ : MethodName)) (z := (⟨"com/example/ferryline/ferryline/client/WorkerOptions", "region", "()Ljava/lang/String;"⟩ : MethodName)) hown (mvT hZ (hw _ (List.mem_of_getElem? (i := 25) rfl))) (mvT hZ (hw _ (List.mem_of_getElem? (i := 26) rfl))) (notFace_of_selects (args := #[]) (mvT hZ (hw _ (List.mem_of_getElem? (i := 28) rfl)))) (mvT hZ (hw _ (List.mem_of_getElem? (i := 28) rfl))) (mvT hZ (hw _ (List.mem_of_getElem? (i := 27) rfl))) (by decide) (backOf (W := 0) (rm_region l Z a0 hw [] u75 T74.heap n0 O88 p79) hZ (hw _ (List.mem_of_getElem? (i := 29) rfl)) (hw _ (List.mem_of_getElem? (i := 2) rfl)) (by decide) (by decide)) q103a q103c (g := (mkF m 65 #[.val (.int ia), .val (.int ib), .val (.ref u62), .val (.ref u75), .val (.int (1 : Int32)), .unset] [(.ref u75)])) rfl (by rw [hml]; rfl) (Steps.refl _) (argsL := []) (rest := []) (lenOf pd3 rfl) rfl (by show 2 * 0 + _ ≤ _; exact Nat.le_of_eq rfl) (hb hby at_65) (fun _ _ => ⟨rfl, hh101, (by decide : 2 + 0 ≤ _), (by decide : 8 + 0 ≤ _)⟩)
  dsimp only [Pt.U, Pt.locs, Pt.cells, Pt.slots] at X103 l103 y103 z103 st103 hQ103
  subst l103 y103 z103
  obtain ⟨rfl, Nq103, hh103⟩ := hQ103
  have N104 := Fr.app N102 Nq103
  refine Go.via (T' := T103) (f' := (mkF m 68 #[.val (.int ia), .val (.int ib), .val (.ref u62), .val (.ref u75), .val (.int (1 : Int32)), .unset] [.null])) st103 ?_
  refine Go.step (T' := T103) (f' := (mkF m 71 #[.val (.int ia), .val (.int ib), .val (.ref u62), .val (.ref u75), .val (.int (1 : Int32)), .unset] [])) (fun t k => XS.ifnonnullNo X103.here hx rfl (hb hby at_68) rfl k) ?_
  refine Go.step (T' := T103) (f' := (mkF m 72 #[.val (.int ia), .val (.int ib), .val (.ref u62), .val (.ref u75), .val (.int (1 : Int32)), .unset] [(.ref u75)])) (fun t k => XS.aloadN X103.here hx rfl (hb hby at_71) rfl rfl k) ?_
  obtain ⟨cq105, kq105, q105a, q105b, q105c⟩ := isOf hZ hh103 p77
  obtain ⟨_, _, ⟨T105, L105, k105, n105⟩, -, X105, ⟨Lc105, hQ105, l105, y105, z105⟩, st105⟩ := X103.virtualBack hx (y := (⟨"com/example/ferryline/ferryline/client/WorkerOptions", "longCap", "()Ljava/lang/Integer;"⟩ : MethodName)) (z := (⟨"com/example/ferryline/ferryline/client/WorkerOptions", "longCap", "()Ljava/lang/Integer;"⟩ : MethodName)) hown (mvT hZ (hw _ (List.mem_of_getElem? (i := 30) rfl))) (mvT hZ (hw _ (List.mem_of_getElem? (i := 31) rfl))) (notFace_of_selects (args := #[]) (mvT hZ (hw _ (List.mem_of_getElem? (i := 33) rfl)))) (mvT hZ (hw _ (List.mem_of_getElem? (i := 33) rfl))) (mvT hZ (hw _ (List.mem_of_getElem? (i := 32) rfl))) (by decide) (backOf (W := 0) (rm_longCap l Z a0 hw [] u75 T74.heap n0 O88 p80) hZ (hw _ (List.mem_of_getElem? (i := 34) rfl)) (hw _ (List.mem_of_getElem? (i := 2) rfl)) (by decide) (by decide)) q105a q105c (g := (mkF m 72 #[.val (.int ia), .val (.int ib), .val (.ref u62), .val (.ref u75), .val (.int (1 : Int32)), .unset] [(.ref u75)])) rfl (by rw [hml]; rfl) (Steps.refl _) (argsL := []) (rest := []) (lenOf pd4 rfl) rfl (by show 2 * 0 + _ ≤ _; exact Nat.le_of_eq rfl) (hb hby at_72) (fun _ _ => ⟨rfl, hh103, (by decide : 2 + 0 ≤ _), (by decide : 8 + 0 ≤ _)⟩)
  dsimp only [Pt.U, Pt.locs, Pt.cells, Pt.slots] at X105 l105 y105 z105 st105 hQ105
  subst l105 y105 z105
  obtain ⟨rfl, Nq105, hh105⟩ := hQ105
  have N106 := Fr.app N104 Nq105
  refine Go.via (T' := T105) (f' := (mkF m 75 #[.val (.int ia), .val (.int ib), .val (.ref u62), .val (.ref u75), .val (.int (1 : Int32)), .unset] [.null])) st105 ?_
  refine Go.step (T' := T105) (f' := (mkF m 78 #[.val (.int ia), .val (.int ib), .val (.ref u62), .val (.ref u75), .val (.int (1 : Int32)), .unset] [])) (fun t k => XS.ifnonnullNo X105.here hx rfl (hb hby at_75) rfl k) ?_
  refine Go.step (T' := T105) (f' := (mkF m 79 #[.val (.int ia), .val (.int ib), .val (.ref u62), .val (.ref u75), .val (.int (1 : Int32)), .unset] [(.ref u75)])) (fun t k => XS.aloadN X105.here hx rfl (hb hby at_78) rfl rfl k) ?_
  obtain ⟨cq107, kq107, q107a, q107b, q107c⟩ := isOf hZ hh105 p77
  obtain ⟨_, _, ⟨T107, L107, k107, n107⟩, -, X107, ⟨Lc107, hQ107, l107, y107, z107⟩, st107⟩ := X105.virtualBack hx (y := (⟨"com/example/ferryline/ferryline/client/WorkerOptions", "prefetch", "()I"⟩ : MethodName)) (z := (⟨"com/example/ferryline/ferryline/client/WorkerOptions", "prefetch", "()I"⟩ : MethodName)) hown (mvT hZ (hw _ (List.mem_of_getElem? (i := 35) rfl))) (mvT hZ (hw _ (List.mem_of_getElem? (i := 36) rfl))) (notFace_of_selects (args := #[]) (mvT hZ (hw _ (List.mem_of_getElem? (i := 38) rfl)))) (mvT hZ (hw _ (List.mem_of_getElem? (i := 38) rfl))) (mvT hZ (hw _ (List.mem_of_getElem? (i := 37) rfl))) (by decide) (backOf (W := 0) (rm_prefetch l Z a0 hw [] u75 (0 : Int32) T74.heap n0 O88 p81) hZ (hw _ (List.mem_of_getElem? (i := 39) rfl)) (hw _ (List.mem_of_getElem? (i := 2) rfl)) (by decide) (by decide)) q107a q107c (g := (mkF m 79 #[.val (.int ia), .val (.int ib), .val (.ref u62), .val (.ref u75), .val (.int (1 : Int32)), .unset] [(.ref u75)])) rfl (by rw [hml]; rfl) (Steps.refl _) (argsL := []) (rest := []) (lenOf pd2 rfl) rfl (by show 2 * 0 + _ ≤ _; exact Nat.le_of_eq rfl) (hb hby at_79) (fun _ _ => ⟨rfl, hh105, (by decide : 2 + 0 ≤ _), (by decide : 8 + 0 ≤ _)⟩)
  dsimp only [Pt.U, Pt.locs, Pt.cells, Pt.slots] at X107 l107 y107 z107 st107 hQ107
  subst l107 y107 z107
  obtain ⟨rfl, Nq107, hh107⟩ := hQ107
  have N108 := Fr.app N106 Nq107
  refine Go.via (T' := T107) (f' := (mkF m 82 #[.val (.int ia), .val (.int ib), .val (.ref u62), .val (.ref u75), .val (.int (1 : Int32)), .unset] [(.int (0 : Int32))])) st107 ?_
  refine Go.step (T' := T107) (f' := (mkF m 85 #[.val (.int ia), .val (.int ib), .val (.ref u62), .val (.ref u75), .val (.int (1 : Int32)), .unset] [])) (fun t k => XS.ifNo X107.here hx rfl (hb hby at_82) rfl ((if0 _ _).trans (teq (by decide : (0 : Int32) = (0 : Int32))).2) k) ?_
  refine Go.step (T' := T107) (f' := (mkF m 86 #[.val (.int ia), .val (.int ib), .val (.ref u62), .val (.ref u75), .val (.int (1 : Int32)), .unset] [(.int (1 : Int32))])) (fun t k => XS.iconst X107.here hx rfl (hb hby at_85) k) ?_
  refine Go.step (T' := T107) (f' := (mkF m 90 #[.val (.int ia), .val (.int ib), .val (.ref u62), .val (.ref u75), .val (.int (1 : Int32)), .unset] [(.int (1 : Int32))])) (fun t k => XS.goto X107.here hx rfl (pc0 := 86) (pc' := 90) rfl (hb hby at_86) (by decide) (by decide) k) ?_
  refine Go.step (T' := T107) (f' := (mkF m 92 #[.val (.int ia), .val (.int ib), .val (.ref u62), .val (.ref u75), .val (.int (1 : Int32)), .val (.int (1 : Int32))] [])) (fun t k => XS.istore X107.here hx rfl (hb hby at_90) rfl (l' := #[.val (.int ia), .val (.int ib), .val (.ref u62), .val (.ref u75), .val (.int (1 : Int32)), .val (.int (1 : Int32))]) rfl k) ?_
  refine Go.step (T' := T107) (f' := (mkF m 94 #[.val (.int ia), .val (.int ib), .val (.ref u62), .val (.ref u75), .val (.int (1 : Int32)), .val (.int (1 : Int32))] [(.int (1 : Int32))])) (fun t k => XS.iload X107.here hx rfl (hb hby at_92) rfl k) ?_
  refine Go.step (T' := T107) (f' := (mkF m 97 #[.val (.int ia), .val (.int ib), .val (.ref u62), .val (.ref u75), .val (.int (1 : Int32)), .val (.int (1 : Int32))] [])) (fun t k => XS.ifNo X107.here hx rfl (hb hby at_94) rfl ((if0 _ _).trans (feq (by decide : ¬ ((1 : Int32) = (0 : Int32)))).1) k) ?_
  refine Go.step (T' := T107) (f' := (mkF m 99 #[.val (.int ia), .val (.int ib), .val (.ref u62), .val (.ref u75), .val (.int (1 : Int32)), .val (.int (1 : Int32))] [(.int (1 : Int32))])) (fun t k => XS.iload X107.here hx rfl (hb hby at_97) rfl k) ?_
  refine Go.step (T' := T107) (f' := (mkF m 102 #[.val (.int ia), .val (.int ib), .val (.ref u62), .val (.ref u75), .val (.int (1 : Int32)), .val (.int (1 : Int32))] [])) (fun t k => XS.ifNo X107.here hx rfl (hb hby at_99) rfl ((if0 _ _).trans (feq (by decide : ¬ ((1 : Int32) = (0 : Int32)))).1) k) ?_
  refine Go.step (T' := T107) (f' := (mkF m 103 #[.val (.int ia), .val (.int ib), .val (.ref u62), .val (.ref u75), .val (.int (1 : Int32)), .val (.int (1 : Int32))] [(.int (1 : Int32))])) (fun t k => XS.iconst X107.here hx rfl (hb hby at_102) k) ?_
  refine Go.step (T' := T107) (f' := (mkF m 107 #[.val (.int ia), .val (.int ib), .val (.ref u62), .val (.ref u75), .val (.int (1 : Int32)), .val (.int (1 : Int32))] [(.int (1 : Int32))])) (fun t k => XS.goto X107.here hx rfl (pc0 := 103) (pc' := 107) rfl (hb hby at_103) (by decide) (by decide) k) ?_
  refine Go.retZ X107 hx hlk (t := .boolean) Bd.returns (by simp) (hb hby at_107) hh107 ?_ (by decide) (by decide)
  exact ⟨rfl, N108, K89⟩
set_option maxRecDepth 65536 in
set_option maxHeartbeats 40000000 in
theorem comes_1 {Post : Tables → Env → Array Value → State → Outcome → State → Prop} (hpost : ∀ tb e args s v u, (limb_1_1.after args s (.returned v) u = true ∧ limb_1_2.after args s (.returned v) u = true ∧ True) → FrameEnd s (.returned v) u (Jvm.fieldLocs frame_1_writes args s ++ Jvm.arrayLocs frame_1_arrays args s ++ Jvm.staticLocs frame_1_statics s) 16 128 → Post tb e args s (.returned v) u) :
    ArmFor flags0 classFile x code maxLocals ret World_1 tables_1 room_1 Calls_1 rest_1 Pre_1 Post := by
  intro l hfl _ _ p e ha hc hk s m args below hf hA hF happ hP
  obtain ⟨hcalls, hrest, hpre⟩ := hP
  obtain ⟨-, -, -, hnamed, -, -, -, hat⟩ := (Spec.applies_iff hf).mp happ
  obtain ⟨hg, hn⟩ := and_e (Cond.before_iff.mp (show (Jvm.Cond.and given_1 narrow_1).before args s = true from hpre))
  obtain ⟨c1, c2⟩ := and_e hg
  obtain ⟨c3, c4⟩ := and_e c2
  obtain ⟨w0, w1, rfl⟩ : ∃ w0 w1 : Value, args = #[w0, w1] := by
    have hs : args.size = 2 := by simpa [Cond.value, given_1] using c1
    obtain ⟨L⟩ := args
    match L, hs with
    | [w0, w1], _ => exact ⟨w0, w1, rfl⟩
  have hw := fun d (hd : d ∈ tables_1) => atoms_spec (ws := Jvm.Cond.code x code maxLocals ret :: tables_1) hat d (List.mem_cons_of_mem _ hd)
  have hfit : Fit s := fun {y c} hc i hi => by
    obtain ⟨ha, rfl⟩ := Array.getElem?_eq_some_iff.mp hc
    have q := List.all_eq_true.mp ((Array.all_eq_true_iff_forall_mem.mp hF) _ (Array.getElem_mem ha)) i (List.mem_range.mpr hi)
    simpa [Array.getElem?_eq_getElem hi] using q
  obtain ⟨i0, ei0⟩ := is_v c3
  obtain rfl : w0 = (.int i0) := Option.some.inj ei0
  obtain ⟨i1, ei1⟩ := is_v c4
  obtain rfl : w1 = (.int i1) := Option.some.inj ei1
  obtain ⟨n, o, h1, h2, h3, _, L, rfl, ⟨rfl, N, -⟩, hq⟩ := rm_law l s _ hw tables_1 i0 i1 s.heap s.heap.size (Old.start s)  p e ha hc hk s m _ below hf ((Spec.applies_iff_loose hf).mp happ).1 ⟨rfl, State.Warmed39.refl s, rfl⟩ trivial
  refine ⟨n, _, h1, h2, h3, hpost _ _ _ _ _ _ ⟨Cond.after_iff.mpr rfl, Cond.after_iff.mpr (eq_i res_at (Term.int_eval (1)) rfl), trivial⟩ ⟨hq.1, hq.2.1, (hq.2.2.sift fun y hy => Or.inr (N y hy)).mono (by decide) (by decide)⟩⟩
theorem main_1_1 : Claimed_1_1 := comes_1 fun _ _ _ _ _ _ h hF => ⟨h.1, hF⟩
theorem main_1_2 : Claimed_1_2 := comes_1 fun _ _ _ _ _ _ h hF => ⟨h.2.1, hF⟩
end Jvm.Pilot.@@N@@
namespace Jvm.Pilot.@@N@@
open Jvm Jvm.ClassFile Sem Op Lib Jvm.Free Jvm.Stand Jvm.Pilot.@@N@@.Jvm.D
/-! MADE BY PROGRAM (witnessworld.py) out of the Statement's table words and the real class files: 9 classes; the members and pool entries that the words name. The judged class is class 1, her method 1. -/
namespace start1
open Jvm.ClassFile
def u (s : String) : CpInfo := .utf8 (stringToUtf16 s)
/-- a pool by its gaps: so many unusable entries, then the entry; so many at the end -/
def gap : Nat → List CpInfo → List CpInfo
  | 0, r => r
  | n + 1, r => .unusable :: gap n r
def poolList (es : List (Nat × CpInfo)) (last : Nat) : List CpInfo := es.foldr (fun e r => gap e.1 (e.2 :: r)) (gap last [])
def pool (es : List (Nat × CpInfo)) (last : Nat) : Array CpInfo := ⟨poolList es last⟩
def fileOf (pool : Array CpInfo) (this : Nat) (attrs : Array Attribute := #[]) (ms : Array MethodInfo := #[]) (fl : Nat := 33) (sup : Nat := 0) (ifs : Array Nat := #[]) (fds : Array FieldInfo := #[]) : ClassFile where
  minorVersion := 0
  majorVersion := 65
  constantPool := pool
  accessFlags := fl
  thisClass := this
  superClass := sup
  interfaces := ifs
  fields := fds
  methods := ms
  attributes := attrs
def plain (name : String) (sup : Option ClassId) : Class where
  name := name
  kind := .ordinary
  loader := none
  accessFlags := 33
  super := sup
  interfaces := #[]
  cf := none
  fields := #[]
  methods := #[]
  instanceTypes := #[]
  staticTypes := #[]
  resolved := #[]
  callSites := []
  init := .initialized
  statics := none
  mirror := none

def pool0 : Array CpInfo := pool [(5, u "<init>"), (0, u "()V"), (1, .class_ 10), (1, u "java/lang/Object")] 113

def k0c0 : Code := { maxStack := 0, maxLocals := 1, code := object_method_1_code, exceptionTable := #[], attributes := #[] }
def k0m0 : Method := { name := "<init>", desc := "()V", sig := { parameters := [], returnType := none }, accessFlags := 1, code := some k0c0 }
/-- java/lang/Object -/
def k0 : Class := { plain "java/lang/Object" none with
  accessFlags := 33
  interfaces := #[]
  cf := some (fileOf pool0 8 #[] #[{ accessFlags := 1, nameIndex := 5, descriptorIndex := 6, attributes := #[] }] 33 0 #[] #[])
  fields := #[]
  methods := #[k0m0]
  instanceTypes := #[]
  staticTypes := #[]
  resolved := Array.replicate 124 none
  statics := none }

def pool1 : Array CpInfo := pool [(2, .class_ 4), (1, u "java/lang/Object"), (0, u "<init>"), (0, u "()V"), (0, .methodref 8 9), (0, .class_ 10), (0, .nameAndType 11 12), (0, u "com/example/ferryline/ferryline/client/WorkerOptions"), (0, u "ofSlots"), (0, u "(I)Lcom/example/ferryline/ferryline/client/WorkerOptions;"), (0, .methodref 8 14), (0, .nameAndType 15 16), (0, u "slots"), (0, u "()I"), (0, .methodref 8 18), (0, .nameAndType 19 20), (0, u "region"), (0, u "()Ljava/lang/String;"), (0, .methodref 8 22), (0, .nameAndType 23 24), (0, u "longCap"), (0, u "()Ljava/lang/Integer;"), (0, .methodref 8 26), (0, .nameAndType 27 16), (0, u "prefetch"), (0, .class_ 29), (0, u "com/example/ferryline/ferryline/client/WorkerOptionsOfSlotsPinLaw"), (2, u "law"), (0, u "(II)Z")] 3

def k1m0 : Method := { name := "<init>", desc := "()V", sig := { parameters := [], returnType := none }, accessFlags := 1, code := none }
def k1c1 : Code := { maxStack := 2, maxLocals := 6, code := code, exceptionTable := #[], attributes := #[] }
def k1m1 : Method := { name := "law", desc := "(II)Z", sig := { parameters := [.int, .int], returnType := some .boolean }, accessFlags := 9, code := some k1c1 }
/-- com/example/ferryline/ferryline/client/WorkerOptionsOfSlotsPinLaw -/
def k1 : Class := { plain "com/example/ferryline/ferryline/client/WorkerOptionsOfSlotsPinLaw" (some 0) with
  accessFlags := 49
  interfaces := #[]
  cf := some (fileOf pool1 28 #[] #[{ accessFlags := 1, nameIndex := 5, descriptorIndex := 6, attributes := #[] }, { accessFlags := 9, nameIndex := 32, descriptorIndex := 33, attributes := #[] }] 49 2 #[] #[])
  fields := #[]
  methods := #[k1m0, k1m1]
  instanceTypes := #[]
  staticTypes := #[]
  resolved := Array.replicate 37 none
  statics := none }

def pool2 : Array CpInfo := pool [(1, .methodref 2 3), (0, .class_ 4), (0, .nameAndType 5 6), (0, u "java/lang/Object"), (0, u "<init>"), (0, u "()V"), (0, .fieldref 8 9), (0, .class_ 10), (0, .nameAndType 11 12), (0, u "com/example/ferryline/ferryline/client/WorkerOptions"), (0, u "slots"), (0, u "I"), (0, .fieldref 8 14), (0, .nameAndType 15 16), (0, u "region"), (0, u "Ljava/lang/String;"), (0, .fieldref 8 18), (0, .nameAndType 19 20), (0, u "longCap"), (0, u "Ljava/lang/Integer;"), (0, .fieldref 8 22), (0, .nameAndType 23 12), (0, u "prefetch"), (0, .methodref 8 25), (0, .nameAndType 5 26), (0, u "(ILjava/lang/String;Ljava/lang/Integer;I)V"), (8, u "ofSlots"), (0, u "(I)Lcom/example/ferryline/ferryline/client/WorkerOptions;"), (1, u "()I"), (0, u "()Ljava/lang/String;"), (0, u "()Ljava/lang/Integer;")] 2

def k2c0 : Code := { maxStack := 2, maxLocals := 5, code := prog_14_method_1_code, exceptionTable := #[], attributes := #[] }
def k2m0 : Method := { name := "<init>", desc := "(ILjava/lang/String;Ljava/lang/Integer;I)V", sig := { parameters := [.int, (.object "java/lang/String"), (.object "java/lang/Integer"), .int], returnType := none }, accessFlags := 2, code := some k2c0 }
def k2c1 : Code := { maxStack := 6, maxLocals := 1, code := prog_14_method_2_code, exceptionTable := #[], attributes := #[] }
def k2m1 : Method := { name := "ofSlots", desc := "(I)Lcom/example/ferryline/ferryline/client/WorkerOptions;", sig := { parameters := [.int], returnType := some (.object "com/example/ferryline/ferryline/client/WorkerOptions") }, accessFlags := 9, code := some k2c1 }
def k2c2 : Code := { maxStack := 1, maxLocals := 1, code := prog_14_method_6_code, exceptionTable := #[], attributes := #[] }
def k2m2 : Method := { name := "slots", desc := "()I", sig := { parameters := [], returnType := some .int }, accessFlags := 1, code := some k2c2 }
def k2c3 : Code := { maxStack := 1, maxLocals := 1, code := prog_14_method_7_code, exceptionTable := #[], attributes := #[] }
def k2m3 : Method := { name := "region", desc := "()Ljava/lang/String;", sig := { parameters := [], returnType := some (.object "java/lang/String") }, accessFlags := 1, code := some k2c3 }
def k2c4 : Code := { maxStack := 1, maxLocals := 1, code := prog_14_method_8_code, exceptionTable := #[], attributes := #[] }
def k2m4 : Method := { name := "longCap", desc := "()Ljava/lang/Integer;", sig := { parameters := [], returnType := some (.object "java/lang/Integer") }, accessFlags := 1, code := some k2c4 }
def k2c5 : Code := { maxStack := 1, maxLocals := 1, code := prog_14_method_9_code, exceptionTable := #[], attributes := #[] }
def k2m5 : Method := { name := "prefetch", desc := "()I", sig := { parameters := [], returnType := some .int }, accessFlags := 1, code := some k2c5 }
/-- com/example/ferryline/ferryline/client/WorkerOptions -/
def k2 : Class := { plain "com/example/ferryline/ferryline/client/WorkerOptions" (some 0) with
  accessFlags := 49
  interfaces := #[]
  cf := some (fileOf pool2 8 #[] #[{ accessFlags := 2, nameIndex := 5, descriptorIndex := 26, attributes := #[] }, { accessFlags := 9, nameIndex := 35, descriptorIndex := 36, attributes := #[] }, { accessFlags := 1, nameIndex := 11, descriptorIndex := 38, attributes := #[] }, { accessFlags := 1, nameIndex := 15, descriptorIndex := 39, attributes := #[] }, { accessFlags := 1, nameIndex := 19, descriptorIndex := 40, attributes := #[] }, { accessFlags := 1, nameIndex := 23, descriptorIndex := 38, attributes := #[] }] 49 2 #[] #[{ accessFlags := 18, nameIndex := 11, descriptorIndex := 12, attributes := #[] }, { accessFlags := 18, nameIndex := 15, descriptorIndex := 16, attributes := #[] }, { accessFlags := 18, nameIndex := 19, descriptorIndex := 20, attributes := #[] }, { accessFlags := 18, nameIndex := 23, descriptorIndex := 12, attributes := #[] }])
  fields := #[{ name := "slots", type := .int, accessFlags := 18, slot := 0, constantValue := 0 }, { name := "region", type := (.object "java/lang/String"), accessFlags := 18, slot := 1, constantValue := 0 }, { name := "longCap", type := (.object "java/lang/Integer"), accessFlags := 18, slot := 2, constantValue := 0 }, { name := "prefetch", type := .int, accessFlags := 18, slot := 3, constantValue := 0 }]
  methods := #[k2m0, k2m1, k2m2, k2m3, k2m4, k2m5]
  instanceTypes := #[.int, (.object "java/lang/String"), (.object "java/lang/Integer"), .int]
  staticTypes := #[]
  resolved := Array.replicate 43 none
  statics := none }

def pool3 : Array CpInfo := pool [(1, u "java/lang/Cloneable"), (0, .class_ 1), (0, u "java/lang/Object"), (0, .class_ 3)] 3

/-- java/lang/Cloneable -/
def k3 : Class := { plain "java/lang/Cloneable" (some 0) with
  accessFlags := 1537
  interfaces := #[]
  cf := some (fileOf pool3 2 #[] #[] 1537 4 #[] #[])
  fields := #[]
  methods := #[]
  instanceTypes := #[]
  staticTypes := #[]
  resolved := Array.replicate 8 none
  statics := none }

def pool4 : Array CpInfo := pool [(1, u "java/io/Serializable"), (0, .class_ 1), (0, u "java/lang/Object"), (0, .class_ 3)] 3

/-- java/io/Serializable -/
def k4 : Class := { plain "java/io/Serializable" (some 0) with
  accessFlags := 1537
  interfaces := #[]
  cf := some (fileOf pool4 2 #[] #[] 1537 4 #[] #[])
  fields := #[]
  methods := #[]
  instanceTypes := #[]
  staticTypes := #[]
  resolved := Array.replicate 8 none
  statics := none }

/-- the primitive byte -/
def k5 : Class := { plain "byte" none with kind := .primitive 'B', accessFlags := 0x411 }
/-- [B -/
def k6 : Class := { plain "[B" (some 0) with kind := .array 5 .byte, interfaces := #[3, 4], accessFlags := 1041 }

/-- the primitive int -/
def k7 : Class := { plain "int" none with kind := .primitive 'I', accessFlags := 0x411 }
/-- [I -/
def k8 : Class := { plain "[I" (some 0) with kind := .array 7 .int, interfaces := #[3, 4], accessFlags := 1041 }

def heap : Heap := #[]
def classes : Array Class := #[k0, k1, k2, k3, k4, k5, k6, k7, k8]
def interned : List (Array UInt16 × Addr) := []
def slotsUsed : Nat := 0
def theMethod : MethodId := ⟨1, 1⟩
def args0 : Array Value := #[.int 5, .int 7]
def aboutOver (below : List Frame) : State where
  vm := { classes := classes, interned := interned.toArray }
  heap := heap
  slotsUsed := slotsUsed
  threads := #[{ frames := .invoking theMethod args0 :: below }]
def below0 : List Frame := [.native { method := ⟨0, 0⟩, args := #[] }]
def about1 : State := aboutOver below0
def p0 : Program := .bare "" "" ""
def e0 : Env := launch0.env 0 0 0
theorem w_frames : about1.frames = Frame.invoking theMethod args0 :: below0 := rfl
set_option maxRecDepth 65536 in
theorem w_args : argsFit about1.vm theMethod args0 = true := by decide +kernel
set_option maxRecDepth 65536 in
theorem w_heap : heapFits about1 = true := by decide +kernel
set_option maxRecDepth 65536 in
theorem w_runnable : about1.curStatus? = some .runnable := by decide +kernel
set_option maxRecDepth 65536 in
theorem w_alone : about1.alone = true := by decide +kernel
set_option maxRecDepth 65536 in
theorem w_named : about1.methodNamed? x = some theMethod := by decide +kernel
set_option maxRecDepth 65536 in
theorem w_hears : about1.hears theMethod below0 = true := by decide +kernel
set_option maxRecDepth 65536 in
theorem w_ripe : about1.ripe theMethod args0 below0 = true := by decide +kernel
theorem w_running : about1.status = .running := rfl
set_option maxRecDepth 65536 in
theorem w_room : about1.hasRoom e0.platform room_1 = true :=
  launch0.hasRoom_least _ room_1 (by decide +kernel) (by decide +kernel) (by decide +kernel) (by decide +kernel) (by decide +kernel) (by decide +kernel)
theorem allAtoms_all (ts : List Jvm.Cond) (a : Array Jvm.Value) (st : Jvm.State) : (allAtoms ts).before a st = ts.all (fun c => c.before a st) := by
  induction ts with
  | nil => rfl
  | cons c t ih =>
    show (Jvm.Cond.and c (allAtoms t)).before a st = _
    rw [Jvm.Cond.before_and, ih, List.all_cons]
def words1 : List Jvm.Cond := Jvm.Cond.code x code maxLocals ret :: tables_1
/-- a 'code' word, met by the world's own term for the bytes: nothing is compared byte by byte -/
theorem code_word {y : MethodName} {bytes : ByteArray} {mx : Nat} {rt : Option FieldType} {a : Array Value} {s : State} {m : MethodId} {meth : Method} {c : Code} (h1 : s.methodNamed? y = some m) (h2 : s.vm.method? m = some meth) (h3 : meth.code = some c) (h4 : c.code = bytes)
    (h5 : (c.maxLocals == mx && c.exceptionTable.isEmpty && decide (c.maxStack ≤ mostOperands) && decide (meth.sig.returnType = rt) && !meth.locks && decide (parseMethodDescriptor y.desc = some meth.sig)) = true) : (Jvm.Cond.code y bytes mx rt).before a s = true := by
  simp only [Bool.and_eq_true, beq_iff_eq, Bool.not_eq_true', decide_eq_true_eq] at h5
  obtain ⟨⟨⟨⟨⟨g1, g2⟩, g3⟩, g4⟩, g5⟩, g6⟩ := h5
  simp [Cond.before, Cond.holds, Cond.value, h1, h2, h3, h4, g1, g2, g3, g4, g5, g6]
def isCode : Jvm.Cond → Bool
  | .code _ _ _ _ => true
  | _ => false
theorem all_split {L : List Jvm.Cond} {P : Jvm.Cond → Bool} (h1 : L.all (fun c => isCode c || P c) = true) (h2 : ∀ c ∈ L.filter isCode, P c = true) : L.all P = true := by
  refine List.all_eq_true.mpr fun c hc => ?_
  have h := List.all_eq_true.mp h1 c hc
  rcases Bool.eq_false_or_eq_true (isCode c) with hi | hi
  · exact h2 c (List.mem_filter.mpr ⟨hc, hi⟩)
  · simpa [hi] using h
set_option maxRecDepth 65536 in
theorem w_c0 : (Jvm.Cond.code x code maxLocals ret).before args0 about1 = true := code_word (m := ⟨1, 1⟩) (meth := k1m1) (c := k1c1) (by decide +kernel) rfl rfl rfl (by decide +kernel)
set_option maxRecDepth 65536 in
theorem w_c1 : (Jvm.Cond.code ({ cls := "com/example/ferryline/ferryline/client/WorkerOptions", name := "ofSlots", desc := "(I)Lcom/example/ferryline/ferryline/client/WorkerOptions;" } : Jvm.MethodName) prog_14_method_2_code (1 : Nat) (Option.some (Jvm.ClassFile.FieldType.object "com/example/ferryline/ferryline/client/WorkerOptions"))).before args0 about1 = true := code_word (m := ⟨2, 1⟩) (meth := k2m1) (c := k2c1) (by decide +kernel) rfl rfl rfl (by decide +kernel)
set_option maxRecDepth 65536 in
theorem w_c2 : (Jvm.Cond.code ({ cls := "com/example/ferryline/ferryline/client/WorkerOptions", name := "<init>", desc := "(ILjava/lang/String;Ljava/lang/Integer;I)V" } : Jvm.MethodName) prog_14_method_1_code (5 : Nat) (Option.none : Option Jvm.ClassFile.FieldType)).before args0 about1 = true := code_word (m := ⟨2, 0⟩) (meth := k2m0) (c := k2c0) (by decide +kernel) rfl rfl rfl (by decide +kernel)
set_option maxRecDepth 65536 in
theorem w_c3 : (Jvm.Cond.code ({ cls := "java/lang/Object", name := "<init>", desc := "()V" } : Jvm.MethodName) object_method_1_code (1 : Nat) (Option.none : Option Jvm.ClassFile.FieldType)).before args0 about1 = true := code_word (m := ⟨0, 0⟩) (meth := k0m0) (c := k0c0) (by decide +kernel) rfl rfl rfl (by decide +kernel)
set_option maxRecDepth 65536 in
theorem w_c4 : (Jvm.Cond.code ({ cls := "com/example/ferryline/ferryline/client/WorkerOptions", name := "slots", desc := "()I" } : Jvm.MethodName) prog_14_method_6_code (1 : Nat) (Option.some Jvm.ClassFile.FieldType.int)).before args0 about1 = true := code_word (m := ⟨2, 2⟩) (meth := k2m2) (c := k2c2) (by decide +kernel) rfl rfl rfl (by decide +kernel)
set_option maxRecDepth 65536 in
theorem w_c5 : (Jvm.Cond.code ({ cls := "com/example/ferryline/ferryline/client/WorkerOptions", name := "region", desc := "()Ljava/lang/String;" } : Jvm.MethodName) prog_14_method_7_code (1 : Nat) (Option.some (Jvm.ClassFile.FieldType.object "java/lang/String"))).before args0 about1 = true := code_word (m := ⟨2, 3⟩) (meth := k2m3) (c := k2c3) (by decide +kernel) rfl rfl rfl (by decide +kernel)
set_option maxRecDepth 65536 in
theorem w_c6 : (Jvm.Cond.code ({ cls := "com/example/ferryline/ferryline/client/WorkerOptions", name := "longCap", desc := "()Ljava/lang/Integer;" } : Jvm.MethodName) prog_14_method_8_code (1 : Nat) (Option.some (Jvm.ClassFile.FieldType.object "java/lang/Integer"))).before args0 about1 = true := code_word (m := ⟨2, 4⟩) (meth := k2m4) (c := k2c4) (by decide +kernel) rfl rfl rfl (by decide +kernel)
set_option maxRecDepth 65536 in
theorem w_c7 : (Jvm.Cond.code ({ cls := "com/example/ferryline/ferryline/client/WorkerOptions", name := "prefetch", desc := "()I" } : Jvm.MethodName) prog_14_method_9_code (1 : Nat) (Option.some Jvm.ClassFile.FieldType.int)).before args0 about1 = true := code_word (m := ⟨2, 5⟩) (meth := k2m5) (c := k2c5) (by decide +kernel) rfl rfl rfl (by decide +kernel)
def codes1 : List Jvm.Cond := [Jvm.Cond.code x code maxLocals ret, Jvm.Cond.code ({ cls := "com/example/ferryline/ferryline/client/WorkerOptions", name := "ofSlots", desc := "(I)Lcom/example/ferryline/ferryline/client/WorkerOptions;" } : Jvm.MethodName) prog_14_method_2_code (1 : Nat) (Option.some (Jvm.ClassFile.FieldType.object "com/example/ferryline/ferryline/client/WorkerOptions")), Jvm.Cond.code ({ cls := "com/example/ferryline/ferryline/client/WorkerOptions", name := "<init>", desc := "(ILjava/lang/String;Ljava/lang/Integer;I)V" } : Jvm.MethodName) prog_14_method_1_code (5 : Nat) (Option.none : Option Jvm.ClassFile.FieldType), Jvm.Cond.code ({ cls := "java/lang/Object", name := "<init>", desc := "()V" } : Jvm.MethodName) object_method_1_code (1 : Nat) (Option.none : Option Jvm.ClassFile.FieldType), Jvm.Cond.code ({ cls := "com/example/ferryline/ferryline/client/WorkerOptions", name := "slots", desc := "()I" } : Jvm.MethodName) prog_14_method_6_code (1 : Nat) (Option.some Jvm.ClassFile.FieldType.int), Jvm.Cond.code ({ cls := "com/example/ferryline/ferryline/client/WorkerOptions", name := "region", desc := "()Ljava/lang/String;" } : Jvm.MethodName) prog_14_method_7_code (1 : Nat) (Option.some (Jvm.ClassFile.FieldType.object "java/lang/String")), Jvm.Cond.code ({ cls := "com/example/ferryline/ferryline/client/WorkerOptions", name := "longCap", desc := "()Ljava/lang/Integer;" } : Jvm.MethodName) prog_14_method_8_code (1 : Nat) (Option.some (Jvm.ClassFile.FieldType.object "java/lang/Integer")), Jvm.Cond.code ({ cls := "com/example/ferryline/ferryline/client/WorkerOptions", name := "prefetch", desc := "()I" } : Jvm.MethodName) prog_14_method_9_code (1 : Nat) (Option.some Jvm.ClassFile.FieldType.int)]
set_option maxRecDepth 65536 in
theorem codes_eq : words1.filter isCode = codes1 := rfl
theorem w_codes : ∀ c ∈ words1.filter isCode, c.before args0 about1 = true := by
  rw [codes_eq]
  intro c hc
  simp only [codes1, List.mem_cons, List.not_mem_nil, or_false] at hc
  rcases hc with rfl | rfl | rfl | rfl | rfl | rfl | rfl | rfl
  · exact w_c0
  · exact w_c1
  · exact w_c2
  · exact w_c3
  · exact w_c4
  · exact w_c5
  · exact w_c6
  · exact w_c7
set_option maxRecDepth 65536 in
theorem w_t1 : (words1.take 24).all (fun c => isCode c || c.before args0 about1) = true := by decide +kernel
set_option maxRecDepth 65536 in
theorem w_t2 : (words1.drop 24).all (fun c => isCode c || c.before args0 about1) = true := by decide +kernel
theorem w_tables : (allAtoms (Jvm.Cond.code x code maxLocals ret :: tables_1)).before args0 about1 = true := by
  rw [allAtoms_all]
  show words1.all (fun c => c.before args0 about1) = true
  refine all_split ?_ w_codes
  rw [← List.take_append_drop 24 words1, List.all_append, w_t1, w_t2]
  rfl
set_option maxRecDepth 65536 in
theorem w_case : (Jvm.Cond.and given_1 narrow_1).before args0 about1 = true := by decide +kernel
theorem w_applies : (headSpec (Jvm.Cond.code x code maxLocals ret :: tables_1) room_1).applies x e0.platform about1 = true :=
  (Spec.applies_iff w_frames).mpr ⟨w_running, w_runnable, w_alone, w_named, w_hears, w_ripe, w_room, w_tables⟩
theorem atStart : AtStart classFile x code maxLocals ret World_1 tables_1 room_1 Calls_1 rest_1 Pre_1 launch0 p0 e0 about1 theMethod args0 below0 :=
  ⟨lists_1, trivial, launch0.admits_env _ _ _, launch0.least_env, fairChoices_fair.cas, fairChoices_fair.clock, w_frames, w_args, w_heap, w_applies, trivial, trivial, w_case⟩
end start1
theorem witness_1 : WitnessClaimed_1 := ⟨start1.p0, start1.e0, start1.about1, start1.theMethod, start1.args0, start1.below0, start1.atStart⟩
end Jvm.Pilot.@@N@@
