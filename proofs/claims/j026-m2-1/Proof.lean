import JvmDerived
import JvmDerived.Pilot.@@N@@Statement
import JvmDerived.Pilot.@@N@@Code
set_option linter.unusedVariables false
set_option linter.unusedSimpArgs false
namespace Jvm.RoadKit
open Sem ClassFile Op Lib Jvm.Stand Jvm.Free Jvm.LawKit
section New
variable {p : Program} {l : Launch} {e : Env} {R : Room} {s : State} {m : MethodId} {args : Array Value} {below : List Frame} {meth : Method} {c : Code} {T : State} {locs : List Loc} {cells slots : Nat}
theorem retI (X : Stand p l e R s m args below meth c T locs cells slots) (hx : p.tables.exec = Jvm.exec) {pc : Nat} {Ls : Array Slot} {z : Int32} {rest : List Value} (hret : meth.sig.returnType = some .int) (hd : decode c.code pc = .ok (.ireturn, 1)) {fs : List Frame}
    (hl : ∀ (f : JFrame) (acts : List Action), f.method = m → f.locked = none → f.entered = [] → (doReturn e (T.setTop f) acts (some (.int z))).1 = T.setFrames fs) : Steps p.tables e below (T.setTop (mkF m pc Ls (.int z :: rest))) (T.setFrames fs) := by
  have hm' : T.vm.method? m = some meth := X.method'
  have hn : narrow .int (.int z) = .int z := rfl
  show Steps p.tables e below (T.setTop { method := m, pc := pc, locals := Ls, stack := _ :: rest, locked := none }) _
  jvm_step X.here [X.here.top, hx, hd, hm', hret, hn]
  first | (intro acts; rw [hl _ acts rfl rfl rfl]) | rw [hl _ _ rfl rfl rfl]
  exact Steps.refl _
end New
end Jvm.RoadKit
namespace Jvm.Pilot.@@N@@
open Jvm Jvm.ClassFile Sem Op Lib Jvm.Free Jvm.Stand Jvm.LawKit Jvm.RoadKit Bundle Jvm.Pilot.@@N@@.Jvm.D
section Own
variable {p : Program} {l : Launch} {e : Env} {R : Room} {s : State} {m : MethodId} {args : Array Value} {below : List Frame} {meth : Method} {c : Code} {T T' : State} {locs : List Loc} {cells slots : Nat} {f f' : JFrame} {Q : Option Value → Heap → List Loc → Prop} {ck sk : Nat} {h : Heap} {Z : State}
/-- from here the run comes to its end, and leaves what Q says -/
def Go (p : Program) (e : Env) (below : List Frame) (s : State) (Q : Option Value → Heap → List Loc → Prop) (ck sk : Nat) (T : State) (f : JFrame) : Prop :=
  ∃ s₂ o, Steps p.tables e below (T.setTop f) s₂ ∧ s₂.status = .running ∧ Ended s₂ below o ∧ ∃ v L, o = .returned v ∧ Q v s₂.heap L ∧ FrameEnd s o s₂ L ck sk
theorem Go.step (st : ∀ t, Steps p.tables e below (T'.setTop f') t → Steps p.tables e below (T.setTop f) t) (k : Go p e below s Q ck sk T' f') : Go p e below s Q ck sk T f := by
  obtain ⟨s₂, o, h1, r⟩ := k; exact ⟨s₂, o, st _ h1, r⟩
theorem Go.via (st : Steps p.tables e below (T.setTop f) (T'.setTop f')) (k : Go p e below s Q ck sk T' f') : Go p e below s Q ck sk T f := by
  obtain ⟨s₂, o, h1, r⟩ := k; exact ⟨s₂, o, st.trans h1, r⟩
theorem Go.retI (X : Stand p l e R s m args below meth c T locs cells slots) (hx : p.tables.exec = Jvm.exec) (hlk : meth.locks = false) {pc : Nat} {Ls : Array Slot} {z : Int32} {rest : List Value} (hret : meth.sig.returnType = some .int) (hd : decode c.code pc = .ok (.ireturn, 1)) (eT : T.heap = h) (hq : Q (some (.int z)) h locs) (hck : cells ≤ ck) (hsk : slots ≤ sk) : Go p e below s Q ck sk T (mkF m pc Ls (.int z :: rest)) := by
  subst eT
  obtain ⟨fs, hr, hrun, hended, hW, hsame⟩ := X.leave (v := some (.int z)) (fun h => by rw [hret] at h; cases h) hlk
  exact ⟨_, _, Jvm.RoadKit.retI X hx hret hd hr, hrun, hended, _, _, rfl, hq, ⟨_, rfl⟩, hW, hsame.mono hck hsk⟩
theorem Go.retZ (X : Stand p l e R s m args below meth c T locs cells slots) (hx : p.tables.exec = Jvm.exec) (hlk : meth.locks = false) {pc : Nat} {Ls : Array Slot} {z : Int32} {rest : List Value} {t : FieldType} (hret : meth.sig.returnType = some t) (ht : t = .boolean ∨ t = .byte ∨ t = .char ∨ t = .short) (hd : decode c.code pc = .ok (.ireturn, 1)) (eT : T.heap = h) (hq : Q (some (.int (nar t z))) h locs) (hck : cells ≤ ck) (hsk : slots ≤ sk) : Go p e below s Q ck sk T (mkF m pc Ls (.int z :: rest)) := by
  subst eT
  obtain ⟨fs, hr, hrun, hended, hW, hsame⟩ := X.leave (v := some (.int (nar t z))) (fun h => by rw [hret] at h; cases h) hlk
  exact ⟨_, _, retN X hx hret ht hd hr, hrun, hended, _, _, rfl, hq, ⟨_, rfl⟩, hW, hsame.mono hck hsk⟩
theorem Go.retV (X : Stand p l e R s m args below meth c T locs cells slots) (hx : p.tables.exec = Jvm.exec) (hlk : meth.locks = false) {pc : Nat} {Ls : Array Slot} (hret : meth.sig.returnType = none) (hd : decode c.code pc = .ok (.return_, 1)) (eT : T.heap = h) (hq : Q none h locs) (hck : cells ≤ ck) (hsk : slots ≤ sk) : Go p e below s Q ck sk T (mkF m pc Ls []) := by
  subst eT
  obtain ⟨fs, hr, hrun, hended, hW, hsame⟩ := X.leave (v := none) (fun _ => rfl) hlk
  exact ⟨_, _, X.returnOut hx hret hd hr, hrun, hended, _, _, rfl, hq, ⟨_, rfl⟩, hW, hsame.mono hck hsk⟩
theorem Go.retJ (X : Stand p l e R s m args below meth c T locs cells slots) (hx : p.tables.exec = Jvm.exec) (hlk : meth.locks = false) {pc : Nat} {Ls : Array Slot} {z : Int64} {rest : List Value} (hret : meth.sig.returnType = some .long) (hd : decode c.code pc = .ok (.lreturn, 1)) (eT : T.heap = h) (hq : Q (some (.long z)) h locs) (hck : cells ≤ ck) (hsk : slots ≤ sk) : Go p e below s Q ck sk T (mkF m pc Ls (.long z :: rest)) := by
  subst eT
  obtain ⟨fs, hr, hrun, hended, hW, hsame⟩ := X.leave (v := some (.long z)) (fun h => by rw [hret] at h; cases h) hlk
  exact ⟨_, _, retOut X hx hret rfl (Or.inr (Or.inl ⟨rfl, rfl, _, rfl⟩)) hd hr, hrun, hended, _, _, rfl, hq, ⟨_, rfl⟩, hW, hsame.mono hck hsk⟩
theorem own_nar_ref {t : FieldType} {w : Value} (h1 : t.isReference = true) (h2 : w.isRef = true) : narrow t w = w := by
  cases t <;> first | (cases h1; done) | (cases w <;> first | rfl | (cases h2; done))
theorem Go.retA (X : Stand p l e R s m args below meth c T locs cells slots) (hx : p.tables.exec = Jvm.exec) (hlk : meth.locks = false) {pc : Nat} {Ls : Array Slot} {w : Value} {rest : List Value} {t : FieldType} (hret : meth.sig.returnType = some t) (ht : t.isReference = true) (hw : w.isRef = true) (hd : decode c.code pc = .ok (.areturn, 1)) (eT : T.heap = h) (hq : Q (some w) h locs) (hck : cells ≤ ck) (hsk : slots ≤ sk) : Go p e below s Q ck sk T (mkF m pc Ls (w :: rest)) := by
  subst eT
  obtain ⟨fs, hr, hrun, hended, hW, hsame⟩ := X.leave (v := some w) (fun h => by rw [hret] at h; cases h) hlk
  exact ⟨_, _, retOut X hx hret (own_nar_ref ht hw) (Or.inr (Or.inr (Or.inr (Or.inr ⟨rfl, ht, hw⟩)))) hd hr, hrun, hended, _, _, rfl, hq, ⟨_, rfl⟩, hW, hsame.mono hck hsk⟩
theorem own_old_le {n0 : Nat} (o : Old Z n0 h) : n0 ≤ h.size := o.1 ▸ o.2.1
theorem own_alen (X : Stand p l e R s m args below meth c T locs cells slots) (hx : p.tables.exec = Jvm.exec) (hZ : Z.Warmed39 s.vm) (eT : T.heap = h) {a : Addr} {cl : Cell} {ty : FieldType} (A : Arr Z h a cl ty) {z : Int32} (S : cl.slots.size = z.toNatClampNeg) (N : ¬ z < 0) {g : JFrame} (hg : g.method = m) {rest : List Value} (hs : g.stack = .ref a :: rest) (hd : decode c.code g.pc = .ok (.arraylength, 1)) {t : State}
    (k : Steps p.tables e below (T.setTop { g with pc := g.pc + 1, stack := .int z :: rest }) t) : Steps p.tables e below (T.setTop g) t :=
  X.arraylength hx (by rw [eT]; exact A.1) (State.isArrayOf_alike hZ.alike A.2.1) hg hs hd _ (by rw [len_of S N]; exact k)
theorem own_fld_start {args : Array Value} {s : State} {t : Term} {a : Addr} {C n d : String} {k : Int32} (ev : t.eval args s none [] s = some (.ref a)) (h : (Jvm.Cond.eq (.field t C n d) (.int k)).value args s none s [] = some true) : Fld s s.heap a C n d (.int k) := by
  refine Fld.start ?_
  rw [← fld_at ev]
  obtain ⟨x, y, h1, h2, h3, h4⟩ := cmp_v (Or.inl h)
  have h2' : (Value.int k) = y := Option.some.inj h2
  subst h2'
  obtain ⟨z, rfl⟩ := h4
  have q := gotT (Jvm.Cond.eq_ints h1 h2) h
  rw [h1, q]
theorem own_nar8 (z : Int32) : nar .byte z.toInt8.toInt32 = z.toInt8.toInt32 := by
  show z.toInt8.toInt32.toInt8.toInt32 = _
  simp
end Own
theorem own_eq (x y z : Int64) : lcmpW ((((x - y) - z) + y) + z) x = (0 : Int32) := by
  rw [lw_eq]
  have e : ((x - y - z) + y) + z = x := by
    apply Int64.toBitVec_inj.mp
    simp only [Int64.toBitVec_add, Int64.toBitVec_sub]
    generalize x.toBitVec = a; generalize y.toBitVec = b; generalize z.toBitVec = c
    apply BitVec.eq_of_toNat_eq
    simp only [BitVec.toNat_add, BitVec.toNat_sub]
    have := a.isLt; have := b.isLt; have := c.isLt
    omega
  exact e
theorem d1_0 : decode prog_2_method_1_code 0 = .ok (.aload_n 0, 1) := by decide +kernel
theorem d1_1 : decode prog_2_method_1_code 1 = .ok (.invokespecial 1, 3) := by decide +kernel
theorem d1_4 : decode prog_2_method_1_code 4 = .ok (.aload_n 0, 1) := by decide +kernel
theorem d1_5 : decode prog_2_method_1_code 5 = .ok (.lload_n 1, 1) := by decide +kernel
theorem d1_6 : decode prog_2_method_1_code 6 = .ok (.putfield 7, 3) := by decide +kernel
theorem d1_9 : decode prog_2_method_1_code 9 = .ok (.aload_n 0, 1) := by decide +kernel
theorem d1_10 : decode prog_2_method_1_code 10 = .ok (.lload_n 3, 1) := by decide +kernel
theorem d1_11 : decode prog_2_method_1_code 11 = .ok (.putfield 13, 3) := by decide +kernel
theorem d1_14 : decode prog_2_method_1_code 14 = .ok (.aload_n 0, 1) := by decide +kernel
theorem d1_15 : decode prog_2_method_1_code 15 = .ok (.lload 5, 2) := by decide +kernel
theorem d1_17 : decode prog_2_method_1_code 17 = .ok (.putfield 16, 3) := by decide +kernel
theorem d1_20 : decode prog_2_method_1_code 20 = .ok (.return_, 1) := by decide +kernel
theorem pn_com_example_unwind_unwind_bench_OrderCounts : plainName "com/example/unwind/unwind/bench/OrderCounts" = true := by first | (simp [plainName, overriddenIn]; done) | decide +kernel
theorem ef_init (m : MethodId) (ba : Addr) (ja : Int64) (jb : Int64) (jc : Int64) : entryFrame m #[(.ref ba), (.long ja), (.long jb), (.long jc)] 7 = mkF m 0 #[.val (.ref ba), .val (.long ja), .second, .val (.long jb), .second, .val (.long jc), .second] [] := by first | (simp [entryFrame, mkF, argsToLocals, Value.category]; done) | rfl
def Q_init (Z : State) (ba : Addr) (ja : Int64) (jb : Int64) (jc : Int64) (u0 : Value) (u1 : Value) (u2 : Value) (h0 : Heap) (n0 : Nat) (v : Option Value) (h : Heap) (L : List Loc) : Prop := v = none ∧ Fr n0 L ∧ Keep h0 h [ba] ∧ Exa Z h ba "com/example/unwind/unwind/bench/OrderCounts" ∧ Fld Z h ba "com/example/unwind/unwind/bench/OrderCounts" "orders" "J" (.long ja) ∧ Fld Z h ba "com/example/unwind/unwind/bench/OrderCounts" "confirmed" "J" (.long jb) ∧ Fld Z h ba "com/example/unwind/unwind/bench/OrderCounts" "failed" "J" (.long jc)
set_option maxRecDepth 65536 in
set_option maxHeartbeats 40000000 in
theorem rm_init (l : Launch) (Z : State) (a0 : Array Value) (hw : ∀ d ∈ tables_1, d.before a0 Z = true) (ws : List Jvm.Cond) (ba : Addr) (ja : Int64) (jb : Int64) (jc : Int64) (u0 : Value) (u1 : Value) (u2 : Value) (h0 : Heap) (n0 : Nat) (O0 : Old Z n0 h0) (P0 : Exa Z h0 ba "com/example/unwind/unwind/bench/OrderCounts") (P1 : Fld Z h0 ba "com/example/unwind/unwind/bench/OrderCounts" "orders" "J" u0) (P2 : Fld Z h0 ba "com/example/unwind/unwind/bench/OrderCounts" "confirmed" "J" u1) (P3 : Fld Z h0 ba "com/example/unwind/unwind/bench/OrderCounts" "failed" "J" u2) (P4 : n0 ≤ ba) :
    MetFree l (⟨"com/example/unwind/unwind/bench/OrderCounts", "<init>", "(JJJ)V"⟩ : MethodName) (head1 (Jvm.Cond.code (⟨"com/example/unwind/unwind/bench/OrderCounts", "<init>", "(JJJ)V"⟩ : MethodName) prog_2_method_1_code 7 none :: ws) ({ frames := 1, cells := 0, slots := 0, locals := 12 } : Room)) (fun a U => a = #[(.ref ba), (.long ja), (.long jb), (.long jc)] ∧ Z.Warmed39 U.vm ∧ U.heap = h0) (fun _ _ _ _ _ => True) (fun _ U o U' => ∃ v L, o = .returned v ∧ Q_init Z ba ja jb jc u0 u1 u2 h0 n0 v U'.heap L ∧ FrameEnd U o U' L ({ frames := 1, cells := 0, slots := 0, locals := 12 } : Room).cells ({ frames := 1, cells := 0, slots := 0, locals := 12 } : Room).slots) := by
  refine MetFree.of_bodySF (plainFor_of_name pn_com_example_unwind_unwind_bench_OrderCounts) hisR ?_
  intro p e s m args below meth c s₁ Bd hml0 hP hK
  obtain ⟨rfl, hZ, hh⟩ := hP
  have hx := Bd.exec
  have hby := Bd.bytes
  have hml : c.maxLocals = 7 := hml0
  have hown : s.vm.findClass "com/example/unwind/unwind/bench/OrderCounts" = some m.cls := findClass_of_methodNamed Bd.named
  have hnm := (name_of_methodNamed Bd.named Bd.method).1
  have hlk : meth.locks = false := BodyLoose.notSynchronized Bd
  have X0 : Stand p l e ({ frames := 1, cells := 0, slots := 0, locals := 12 } : Room) s m #[(.ref ba), (.long ja), (.long jb), (.long jc)] below meth c s₁ [] 0 0 := Stand.of_body Bd
  have e0 : s₁.heap = h0 := by rw [← hh, Bd.state]; rfl
  have N0 := Fr.nil n0
  have K0 := Keep.refl h0 [ba]
  rw [ef_init m ba ja jb jc]
  show Go p e below s (fun v h L => Q_init Z ba ja jb jc u0 u1 u2 h0 n0 v h L) ({ frames := 1, cells := 0, slots := 0, locals := 12 } : Room).cells ({ frames := 1, cells := 0, slots := 0, locals := 12 } : Room).slots s₁ (mkF m 0 #[.val (.ref ba), .val (.long ja), .second, .val (.long jb), .second, .val (.long jc), .second] [])
  refine Go.step (T' := s₁) (f' := (mkF m 1 #[.val (.ref ba), .val (.long ja), .second, .val (.long jb), .second, .val (.long jc), .second] [(.ref ba)])) (fun t k => XS.aloadN X0.here hx rfl (hb hby d1_0) rfl rfl k) ?_
  obtain ⟨T1, X1, e1, st1⟩ := initO X0 hx hZ hown (hw _ (List.mem_of_getElem? (i := 6) rfl)) (hw _ (List.mem_of_getElem? (i := 7) rfl)) (hw _ (List.mem_of_getElem? (i := 8) rfl)) e0 (g := (mkF m 1 #[.val (.ref ba), .val (.long ja), .second, .val (.long jb), .second, .val (.long jc), .second] [(.ref ba)])) rfl (by rw [hml]; rfl) rfl (hb hby d1_1) (by decide) (W := 0) (by show 2 * 0 + _ ≤ _; exact Nat.le_of_eq rfl) (by decide)
  refine Go.step (T' := T1) (f' := (mkF m 4 #[.val (.ref ba), .val (.long ja), .second, .val (.long jb), .second, .val (.long jc), .second] [])) st1 ?_
  refine Go.step (T' := T1) (f' := (mkF m 5 #[.val (.ref ba), .val (.long ja), .second, .val (.long jb), .second, .val (.long jc), .second] [(.ref ba)])) (fun t k => XS.aloadN X1.here hx rfl (hb hby d1_4) rfl rfl k) ?_
  refine Go.step (T' := T1) (f' := (mkF m 6 #[.val (.ref ba), .val (.long ja), .second, .val (.long jb), .second, .val (.long jc), .second] [(.long ja), (.ref ba)])) (fun t k => XS.lloadN X1.here hx rfl (hb hby d1_5) rfl k) ?_
  obtain ⟨T2, h2, X2, e2, W2, st2⟩ := putF X1 hx hZ hown (host := "") (Or.inl (hw _ (List.mem_of_getElem? (i := 9) rfl))) Via.refl e1 P1 P0 (Or.inr ⟨(hw _ (List.mem_of_getElem? (i := 10) rfl)), rfl, hnm⟩) (hw _ (List.mem_of_getElem? (i := 1) rfl)) (ty := .long) (by decide) rfl rfl (g := (mkF m 6 #[.val (.ref ba), .val (.long ja), .second, .val (.long jb), .second, .val (.long jc), .second] [(.long ja), (.ref ba)])) rfl rfl (hb hby d1_6)
  have f3 := P1.same W2
  have f4 := P0.wr W2
  have f5 := P2.other W2 (Or.inr (slot_ne (Or.inr (hw _ (List.mem_of_getElem? (i := 12) rfl))) (Or.inr (hw _ (List.mem_of_getElem? (i := 10) rfl))) (by decide) (t := .long) (t' := .long) (by decide) (by decide)))
  have f6 := P3.other W2 (Or.inr (slot_ne (Or.inr (hw _ (List.mem_of_getElem? (i := 14) rfl))) (Or.inr (hw _ (List.mem_of_getElem? (i := 10) rfl))) (by decide) (t := .long) (t' := .long) (by decide) (by decide)))
  have O7 := O0.wr W2 P4
  have K8 := K0.wr W2 (Or.inl (List.mem_of_getElem? (i := 0) rfl))
  have N9 := Fr.snoc X2 N0 P4
  refine Go.step (T' := T2) (f' := (mkF m 9 #[.val (.ref ba), .val (.long ja), .second, .val (.long jb), .second, .val (.long jc), .second] [])) st2 ?_
  refine Go.step (T' := T2) (f' := (mkF m 10 #[.val (.ref ba), .val (.long ja), .second, .val (.long jb), .second, .val (.long jc), .second] [(.ref ba)])) (fun t k => XS.aloadN X2.here hx rfl (hb hby d1_9) rfl rfl k) ?_
  refine Go.step (T' := T2) (f' := (mkF m 11 #[.val (.ref ba), .val (.long ja), .second, .val (.long jb), .second, .val (.long jc), .second] [(.long jb), (.ref ba)])) (fun t k => XS.lloadN X2.here hx rfl (hb hby d1_10) rfl k) ?_
  obtain ⟨T10, h10, X10, e10, W10, st10⟩ := putF X2 hx hZ hown (host := "") (Or.inl (hw _ (List.mem_of_getElem? (i := 11) rfl))) Via.refl e2 f5 f4 (Or.inr ⟨(hw _ (List.mem_of_getElem? (i := 12) rfl)), rfl, hnm⟩) (hw _ (List.mem_of_getElem? (i := 1) rfl)) (ty := .long) (by decide) rfl rfl (g := (mkF m 11 #[.val (.ref ba), .val (.long ja), .second, .val (.long jb), .second, .val (.long jc), .second] [(.long jb), (.ref ba)])) rfl rfl (hb hby d1_11)
  have f11 := f5.same W10
  have f12 := f4.wr W10
  have f13 := f6.other W10 (Or.inr (slot_ne (Or.inr (hw _ (List.mem_of_getElem? (i := 14) rfl))) (Or.inr (hw _ (List.mem_of_getElem? (i := 12) rfl))) (by decide) (t := .long) (t' := .long) (by decide) (by decide)))
  have f14 := f3.other W10 (Or.inr (slot_ne (Or.inr (hw _ (List.mem_of_getElem? (i := 10) rfl))) (Or.inr (hw _ (List.mem_of_getElem? (i := 12) rfl))) (by decide) (t := .long) (t' := .long) (by decide) (by decide)))
  have O15 := O7.wr W10 P4
  have K16 := K8.wr W10 (Or.inl (List.mem_of_getElem? (i := 0) rfl))
  have N17 := Fr.snoc X10 N9 P4
  refine Go.step (T' := T10) (f' := (mkF m 14 #[.val (.ref ba), .val (.long ja), .second, .val (.long jb), .second, .val (.long jc), .second] [])) st10 ?_
  refine Go.step (T' := T10) (f' := (mkF m 15 #[.val (.ref ba), .val (.long ja), .second, .val (.long jb), .second, .val (.long jc), .second] [(.ref ba)])) (fun t k => XS.aloadN X10.here hx rfl (hb hby d1_14) rfl rfl k) ?_
  refine Go.step (T' := T10) (f' := (mkF m 17 #[.val (.ref ba), .val (.long ja), .second, .val (.long jb), .second, .val (.long jc), .second] [(.long jc), (.ref ba)])) (fun t k => XS.lload X10.here hx rfl (hb hby d1_15) rfl k) ?_
  obtain ⟨T18, h18, X18, e18, W18, st18⟩ := putF X10 hx hZ hown (host := "") (Or.inl (hw _ (List.mem_of_getElem? (i := 13) rfl))) Via.refl e10 f13 f12 (Or.inr ⟨(hw _ (List.mem_of_getElem? (i := 14) rfl)), rfl, hnm⟩) (hw _ (List.mem_of_getElem? (i := 1) rfl)) (ty := .long) (by decide) rfl rfl (g := (mkF m 17 #[.val (.ref ba), .val (.long ja), .second, .val (.long jb), .second, .val (.long jc), .second] [(.long jc), (.ref ba)])) rfl rfl (hb hby d1_17)
  have f19 := f13.same W18
  have f20 := f12.wr W18
  have f21 := f14.other W18 (Or.inr (slot_ne (Or.inr (hw _ (List.mem_of_getElem? (i := 10) rfl))) (Or.inr (hw _ (List.mem_of_getElem? (i := 14) rfl))) (by decide) (t := .long) (t' := .long) (by decide) (by decide)))
  have f22 := f11.other W18 (Or.inr (slot_ne (Or.inr (hw _ (List.mem_of_getElem? (i := 12) rfl))) (Or.inr (hw _ (List.mem_of_getElem? (i := 14) rfl))) (by decide) (t := .long) (t' := .long) (by decide) (by decide)))
  have O23 := O15.wr W18 P4
  have K24 := K16.wr W18 (Or.inl (List.mem_of_getElem? (i := 0) rfl))
  have N25 := Fr.snoc X18 N17 P4
  refine Go.step (T' := T18) (f' := (mkF m 20 #[.val (.ref ba), .val (.long ja), .second, .val (.long jb), .second, .val (.long jc), .second] [])) st18 ?_
  refine Go.retV X18 hx hlk Bd.returns (hb hby d1_20) e18 ?_ (by decide) (by decide)
  exact ⟨rfl, N25, K24, f20, f21, f22, f19⟩
theorem d3_0 : decode prog_2_method_5_code 0 = .ok (.aload_n 0, 1) := by decide +kernel
theorem d3_1 : decode prog_2_method_5_code 1 = .ok (.getfield 7, 3) := by decide +kernel
theorem d3_4 : decode prog_2_method_5_code 4 = .ok (.aload_n 0, 1) := by decide +kernel
theorem d3_5 : decode prog_2_method_5_code 5 = .ok (.getfield 13, 3) := by decide +kernel
theorem d3_8 : decode prog_2_method_5_code 8 = .ok (.lsub, 1) := by decide +kernel
theorem d3_9 : decode prog_2_method_5_code 9 = .ok (.aload_n 0, 1) := by decide +kernel
theorem d3_10 : decode prog_2_method_5_code 10 = .ok (.getfield 16, 3) := by decide +kernel
theorem d3_13 : decode prog_2_method_5_code 13 = .ok (.lsub, 1) := by decide +kernel
theorem d3_14 : decode prog_2_method_5_code 14 = .ok (.lreturn, 1) := by decide +kernel
theorem ef_active (m : MethodId) (ba : Addr) : entryFrame m #[(.ref ba)] 1 = mkF m 0 #[.val (.ref ba)] [] := by first | (simp [entryFrame, mkF, argsToLocals, Value.category]; done) | rfl
def Q_active (Z : State) (ba : Addr) (ja : Int64) (jb : Int64) (jc : Int64) (h0 : Heap) (n0 : Nat) (v : Option Value) (h : Heap) (L : List Loc) : Prop := v = some (.long ((ja - jb) - jc)) ∧ Fr n0 L ∧ h = h0
set_option maxRecDepth 65536 in
set_option maxHeartbeats 40000000 in
theorem rm_active (l : Launch) (Z : State) (a0 : Array Value) (hw : ∀ d ∈ tables_1, d.before a0 Z = true) (ws : List Jvm.Cond) (ba : Addr) (ja : Int64) (jb : Int64) (jc : Int64) (h0 : Heap) (n0 : Nat) (O0 : Old Z n0 h0) (P0 : Fld Z h0 ba "com/example/unwind/unwind/bench/OrderCounts" "orders" "J" (.long ja)) (P1 : Fld Z h0 ba "com/example/unwind/unwind/bench/OrderCounts" "confirmed" "J" (.long jb)) (P2 : Fld Z h0 ba "com/example/unwind/unwind/bench/OrderCounts" "failed" "J" (.long jc)) :
    MetFree l (⟨"com/example/unwind/unwind/bench/OrderCounts", "active", "()J"⟩ : MethodName) (head1 (Jvm.Cond.code (⟨"com/example/unwind/unwind/bench/OrderCounts", "active", "()J"⟩ : MethodName) prog_2_method_5_code 1 (some .long) :: ws) ({ frames := 0, cells := 0, slots := 0, locals := 0 } : Room)) (fun a U => a = #[(.ref ba)] ∧ Z.Warmed39 U.vm ∧ U.heap = h0) (fun _ _ _ _ _ => True) (fun _ U o U' => ∃ v L, o = .returned v ∧ Q_active Z ba ja jb jc h0 n0 v U'.heap L ∧ FrameEnd U o U' L ({ frames := 0, cells := 0, slots := 0, locals := 0 } : Room).cells ({ frames := 0, cells := 0, slots := 0, locals := 0 } : Room).slots) := by
  refine MetFree.of_bodySF (plainFor_of_name pn_com_example_unwind_unwind_bench_OrderCounts) hisR ?_
  intro p e s m args below meth c s₁ Bd hml0 hP hK
  obtain ⟨rfl, hZ, hh⟩ := hP
  have hx := Bd.exec
  have hby := Bd.bytes
  have hml : c.maxLocals = 1 := hml0
  have hown : s.vm.findClass "com/example/unwind/unwind/bench/OrderCounts" = some m.cls := findClass_of_methodNamed Bd.named
  have hnm := (name_of_methodNamed Bd.named Bd.method).1
  have hlk : meth.locks = false := BodyLoose.notSynchronized Bd
  have X0 : Stand p l e ({ frames := 0, cells := 0, slots := 0, locals := 0 } : Room) s m #[(.ref ba)] below meth c s₁ [] 0 0 := Stand.of_body Bd
  have e0 : s₁.heap = h0 := by rw [← hh, Bd.state]; rfl
  have N0 := Fr.nil n0
  rw [ef_active m ba]
  show Go p e below s (fun v h L => Q_active Z ba ja jb jc h0 n0 v h L) ({ frames := 0, cells := 0, slots := 0, locals := 0 } : Room).cells ({ frames := 0, cells := 0, slots := 0, locals := 0 } : Room).slots s₁ (mkF m 0 #[.val (.ref ba)] [])
  refine Go.step (T' := s₁) (f' := (mkF m 1 #[.val (.ref ba)] [(.ref ba)])) (fun t k => XS.aloadN X0.here hx rfl (hb hby d3_0) rfl rfl k) ?_
  obtain ⟨T26, X26, e26, st26⟩ := getF X0 hx hZ hown (host := "") (Or.inl (hw _ (List.mem_of_getElem? (i := 9) rfl))) Via.refl e0 P0 (g := (mkF m 1 #[.val (.ref ba)] [(.ref ba)])) rfl rfl (hb hby d3_1)
  refine Go.step (T' := T26) (f' := (mkF m 4 #[.val (.ref ba)] [(.long ja)])) st26 ?_
  refine Go.step (T' := T26) (f' := (mkF m 5 #[.val (.ref ba)] [(.ref ba), (.long ja)])) (fun t k => XS.aloadN X26.here hx rfl (hb hby d3_4) rfl rfl k) ?_
  obtain ⟨T27, X27, e27, st27⟩ := getF X26 hx hZ hown (host := "") (Or.inl (hw _ (List.mem_of_getElem? (i := 11) rfl))) Via.refl e26 P1 (g := (mkF m 5 #[.val (.ref ba)] [(.ref ba), (.long ja)])) rfl rfl (hb hby d3_5)
  refine Go.step (T' := T27) (f' := (mkF m 8 #[.val (.ref ba)] [(.long jb), (.long ja)])) st27 ?_
  refine Go.step (T' := T27) (f' := (mkF m 9 #[.val (.ref ba)] [(.long (ja - jb))])) (fun t k => XS.lsub X27.here hx rfl (hb hby d3_8) rfl k) ?_
  refine Go.step (T' := T27) (f' := (mkF m 10 #[.val (.ref ba)] [(.ref ba), (.long (ja - jb))])) (fun t k => XS.aloadN X27.here hx rfl (hb hby d3_9) rfl rfl k) ?_
  obtain ⟨T28, X28, e28, st28⟩ := getF X27 hx hZ hown (host := "") (Or.inl (hw _ (List.mem_of_getElem? (i := 13) rfl))) Via.refl e27 P2 (g := (mkF m 10 #[.val (.ref ba)] [(.ref ba), (.long (ja - jb))])) rfl rfl (hb hby d3_10)
  refine Go.step (T' := T28) (f' := (mkF m 13 #[.val (.ref ba)] [(.long jc), (.long (ja - jb))])) st28 ?_
  refine Go.step (T' := T28) (f' := (mkF m 14 #[.val (.ref ba)] [(.long ((ja - jb) - jc))])) (fun t k => XS.lsub X28.here hx rfl (hb hby d3_13) rfl k) ?_
  refine Go.retJ X28 hx hlk Bd.returns (hb hby d3_14) e28 ?_ (by decide) (by decide)
  exact ⟨rfl, N0, rfl⟩
theorem pn_com_example_unwind_unwind_bench_OrderCountsActivePinLaw : plainName "com/example/unwind/unwind/bench/OrderCountsActivePinLaw" = true := by first | (simp [plainName, overriddenIn]; done) | decide +kernel
theorem pd0 : parseMethodDescriptor "(JJJ)V" = some ⟨[.long, .long, .long], none⟩ := by decide +kernel
theorem pd1 : parseMethodDescriptor "()J" = some ⟨[], some .long⟩ := by decide +kernel
theorem ef_law (m : MethodId) (ja : Int64) (jb : Int64) (jc : Int64) : entryFrame m #[(.long ja), (.long jb), (.long jc)] maxLocals = mkF m 0 #[.val (.long ja), .second, .val (.long jb), .second, .val (.long jc), .second, .unset, .unset, .unset] [] := by first | (simp [entryFrame, mkF, argsToLocals, Value.category, maxLocals]; done) | rfl
def Q_law (Z : State) (ja : Int64) (jb : Int64) (jc : Int64) (h0 : Heap) (n0 : Nat) (v : Option Value) (h : Heap) (L : List Loc) : Prop := v = some (.int (1 : Int32)) ∧ Fr n0 L ∧ Keep h0 h []
set_option maxRecDepth 65536 in
set_option maxHeartbeats 40000000 in
theorem rm_law (l : Launch) (Z : State) (a0 : Array Value) (hw : ∀ d ∈ tables_1, d.before a0 Z = true) (ws : List Jvm.Cond) (ja : Int64) (jb : Int64) (jc : Int64) (h0 : Heap) (n0 : Nat) (O0 : Old Z n0 h0) :
    MetFree l x (head1 (Jvm.Cond.code x code maxLocals ret :: ws) room_1) (fun a U => a = #[(.long ja), (.long jb), (.long jc)] ∧ Z.Warmed39 U.vm ∧ U.heap = h0) (fun _ _ _ _ _ => True) (fun _ U o U' => ∃ v L, o = .returned v ∧ Q_law Z ja jb jc h0 n0 v U'.heap L ∧ FrameEnd U o U' L room_1.cells room_1.slots) := by
  refine MetFree.of_bodySF (plainFor_of_name pn_com_example_unwind_unwind_bench_OrderCountsActivePinLaw) hisR ?_
  intro p e s m args below meth c s₁ Bd hml0 hP hK
  obtain ⟨rfl, hZ, hh⟩ := hP
  have hx := Bd.exec
  have hby := Bd.bytes
  have hml : c.maxLocals = 9 := hml0
  have hown : s.vm.findClass "com/example/unwind/unwind/bench/OrderCountsActivePinLaw" = some m.cls := findClass_of_methodNamed Bd.named
  have hnm := (name_of_methodNamed Bd.named Bd.method).1
  have hlk : meth.locks = false := BodyLoose.notSynchronized Bd
  have X0 : Stand p l e room_1 s m #[(.long ja), (.long jb), (.long jc)] below meth c s₁ [] 0 0 := Stand.of_body Bd
  have e0 : s₁.heap = h0 := by rw [← hh, Bd.state]; rfl
  have N0 := Fr.nil n0
  have K0 := Keep.refl h0 []
  rw [ef_law m ja jb jc]
  show Go p e below s (fun v h L => Q_law Z ja jb jc h0 n0 v h L) room_1.cells room_1.slots s₁ (mkF m 0 #[.val (.long ja), .second, .val (.long jb), .second, .val (.long jc), .second, .unset, .unset, .unset] [])
  obtain ⟨T29, h29, X29, e29, E29, A29, D29, -, st29⟩ := newO X0 hx hZ hown (hw _ (List.mem_of_getElem? (i := 0) rfl)) (hw _ (List.mem_of_getElem? (i := 1) rfl)) (hw _ (List.mem_of_getElem? (i := 2) rfl)) e0 (g := (mkF m 0 #[.val (.long ja), .second, .val (.long jb), .second, .val (.long jc), .second, .unset, .unset, .unset] [])) rfl (hb hby at_0) (by decide) (by decide)
  obtain ⟨b29, g29⟩ : ∃ z, z = h0.size := ⟨_, rfl⟩
  rw [← g29] at A29 D29 st29
  have g30 : n0 ≤ b29 := Nat.le_trans (own_old_le O0) (Nat.le_of_eq g29.symm)
  have g31 : h0.size ≤ b29 := Nat.le_trans K0.1 (Nat.le_of_eq g29.symm)
  have O32 := O0.ext E29
  have K33 := K0.ext E29
  have f34 : Fld Z h29 b29 "com/example/unwind/unwind/bench/OrderCounts" "orders" "J" (.long (0 : Int64)) := D29 (Or.inr (hw _ (List.mem_of_getElem? (i := 10) rfl))) (ty := .long) (by decide)
  have f35 : Fld Z h29 b29 "com/example/unwind/unwind/bench/OrderCounts" "confirmed" "J" (.long (0 : Int64)) := D29 (Or.inr (hw _ (List.mem_of_getElem? (i := 12) rfl))) (ty := .long) (by decide)
  have f36 : Fld Z h29 b29 "com/example/unwind/unwind/bench/OrderCounts" "failed" "J" (.long (0 : Int64)) := D29 (Or.inr (hw _ (List.mem_of_getElem? (i := 14) rfl))) (ty := .long) (by decide)
  refine Go.step (T' := T29) (f' := (mkF m 3 #[.val (.long ja), .second, .val (.long jb), .second, .val (.long jc), .second, .unset, .unset, .unset] [(.ref b29)])) st29 ?_
  refine Go.step (T' := T29) (f' := (mkF m 4 #[.val (.long ja), .second, .val (.long jb), .second, .val (.long jc), .second, .unset, .unset, .unset] [(.ref b29), (.ref b29)])) (fun t k => XS.dup X29.here hx rfl (hb hby at_3) rfl rfl k) ?_
  refine Go.step (T' := T29) (f' := (mkF m 5 #[.val (.long ja), .second, .val (.long jb), .second, .val (.long jc), .second, .unset, .unset, .unset] [(.long ja), (.ref b29), (.ref b29)])) (fun t k => XS.lloadN X29.here hx rfl (hb hby at_4) rfl k) ?_
  refine Go.step (T' := T29) (f' := (mkF m 6 #[.val (.long ja), .second, .val (.long jb), .second, .val (.long jc), .second, .unset, .unset, .unset] [(.long jb), (.long ja), (.ref b29), (.ref b29)])) (fun t k => XS.lloadN X29.here hx rfl (hb hby at_5) rfl k) ?_
  refine Go.step (T' := T29) (f' := (mkF m 8 #[.val (.long ja), .second, .val (.long jb), .second, .val (.long jc), .second, .unset, .unset, .unset] [(.long jc), (.long jb), (.long ja), (.ref b29), (.ref b29)])) (fun t k => XS.lload X29.here hx rfl (hb hby at_6) rfl k) ?_
  obtain ⟨_, _, ⟨T37, L37, k37, n37⟩, -, X37, ⟨Lc37, hQ37, l37, y37, z37⟩, st37⟩ := X29.specialBack hx (y := (⟨"com/example/unwind/unwind/bench/OrderCounts", "<init>", "(JJJ)V"⟩ : MethodName)) rfl hown (mvT hZ (hw _ (List.mem_of_getElem? (i := 3) rfl))) (mvT hZ (hw _ (List.mem_of_getElem? (i := 4) rfl))) (mvT hZ (hw _ (List.mem_of_getElem? (i := 5) rfl))) (by decide) (backOf (W := 1) (rm_init l Z a0 hw [] b29 ja jb jc (.long (0 : Int64)) (.long (0 : Int64)) (.long (0 : Int64)) h29 n0 O32 A29 f34 f35 f36 g30) hZ (hw _ (List.mem_of_getElem? (i := 5) rfl)) (hw _ (List.mem_of_getElem? (i := 2) rfl)) (by decide) (by decide)) (g := (mkF m 8 #[.val (.long ja), .second, .val (.long jb), .second, .val (.long jc), .second, .unset, .unset, .unset] [(.long jc), (.long jb), (.long ja), (.ref b29), (.ref b29)])) rfl (by rw [hml]; rfl) (Steps.refl _) (a := b29) (argsL := [(.long ja), (.long jb), (.long jc)]) (rest := [(.ref b29)]) (lenOf pd0 rfl) rfl (by show 2 * 0 + _ ≤ _; exact Nat.le_of_eq rfl) (hb hby at_8) (fun _ _ => ⟨rfl, e29, (by decide : 1 + 0 ≤ _), (by decide : 3 + 0 ≤ _)⟩)
  dsimp only [Pt.U, Pt.locs, Pt.cells, Pt.slots] at X37 l37 y37 z37 st37 hQ37
  subst l37 y37 z37
  obtain ⟨rfl, Nq37, hh37, p38, p39, p40, p41⟩ := hQ37
  have N42 := Fr.app N0 Nq37
  have f43 := A29.keep hh37
  have O44 := O32.keep hh37 (allS g30 all0)
  have K45 := K33.trans hh37 (allS (Or.inr g31) all0)
  refine Go.via (T' := T37) (f' := (mkF m 11 #[.val (.long ja), .second, .val (.long jb), .second, .val (.long jc), .second, .unset, .unset, .unset] [(.ref b29)])) st37 ?_
  refine Go.step (T' := T37) (f' := (mkF m 13 #[.val (.long ja), .second, .val (.long jb), .second, .val (.long jc), .second, .val (.ref b29), .unset, .unset] [])) (fun t k => XS.astore X37.here hx rfl (hb hby at_11) rfl rfl (l' := #[.val (.long ja), .second, .val (.long jb), .second, .val (.long jc), .second, .val (.ref b29), .unset, .unset]) rfl k) ?_
  refine Go.step (T' := T37) (f' := (mkF m 15 #[.val (.long ja), .second, .val (.long jb), .second, .val (.long jc), .second, .val (.ref b29), .unset, .unset] [(.ref b29)])) (fun t k => XS.aload X37.here hx rfl (hb hby at_13) rfl rfl k) ?_
  obtain ⟨cq46, kq46, q46a, q46b, q46c⟩ := isOf hZ rfl p38
  obtain ⟨_, _, ⟨T46, L46, k46, n46⟩, -, X46, ⟨Lc46, hQ46, l46, y46, z46⟩, st46⟩ := X37.virtualBack hx (y := (⟨"com/example/unwind/unwind/bench/OrderCounts", "active", "()J"⟩ : MethodName)) (z := (⟨"com/example/unwind/unwind/bench/OrderCounts", "active", "()J"⟩ : MethodName)) hown (mvT hZ (hw _ (List.mem_of_getElem? (i := 15) rfl))) (mvT hZ (hw _ (List.mem_of_getElem? (i := 16) rfl))) (notFace_of_selects (args := #[]) (mvT hZ (hw _ (List.mem_of_getElem? (i := 18) rfl)))) (mvT hZ (hw _ (List.mem_of_getElem? (i := 18) rfl))) (mvT hZ (hw _ (List.mem_of_getElem? (i := 17) rfl))) (by decide) (backOf (W := 0) (rm_active l Z a0 hw [] b29 ja jb jc T37.heap n0 O44 p39 p40 p41) hZ (hw _ (List.mem_of_getElem? (i := 19) rfl)) (hw _ (List.mem_of_getElem? (i := 2) rfl)) (by decide) (by decide)) q46a q46c (g := (mkF m 15 #[.val (.long ja), .second, .val (.long jb), .second, .val (.long jc), .second, .val (.ref b29), .unset, .unset] [(.ref b29)])) rfl (by rw [hml]; rfl) (Steps.refl _) (argsL := []) (rest := []) (lenOf pd1 rfl) rfl (by show 2 * 0 + _ ≤ _; exact Nat.le_of_eq rfl) (hb hby at_15) (fun _ _ => ⟨rfl, rfl, (by decide : 1 + 0 ≤ _), (by decide : 3 + 0 ≤ _)⟩)
  dsimp only [Pt.U, Pt.locs, Pt.cells, Pt.slots] at X46 l46 y46 z46 st46 hQ46
  subst l46 y46 z46
  obtain ⟨rfl, Nq46, hh46⟩ := hQ46
  have N47 := Fr.app N42 Nq46
  refine Go.via (T' := T46) (f' := (mkF m 18 #[.val (.long ja), .second, .val (.long jb), .second, .val (.long jc), .second, .val (.ref b29), .unset, .unset] [(.long ((ja - jb) - jc))])) st46 ?_
  refine Go.step (T' := T46) (f' := (mkF m 20 #[.val (.long ja), .second, .val (.long jb), .second, .val (.long jc), .second, .val (.ref b29), .val (.long ((ja - jb) - jc)), .second] [])) (fun t k => XS.lstore X46.here hx rfl (hb hby at_18) rfl (l' := #[.val (.long ja), .second, .val (.long jb), .second, .val (.long jc), .second, .val (.ref b29), .val (.long ((ja - jb) - jc)), .second]) rfl k) ?_
  refine Go.step (T' := T46) (f' := (mkF m 22 #[.val (.long ja), .second, .val (.long jb), .second, .val (.long jc), .second, .val (.ref b29), .val (.long ((ja - jb) - jc)), .second] [(.long ((ja - jb) - jc))])) (fun t k => XS.lload X46.here hx rfl (hb hby at_20) rfl k) ?_
  refine Go.step (T' := T46) (f' := (mkF m 23 #[.val (.long ja), .second, .val (.long jb), .second, .val (.long jc), .second, .val (.ref b29), .val (.long ((ja - jb) - jc)), .second] [(.long jb), (.long ((ja - jb) - jc))])) (fun t k => XS.lloadN X46.here hx rfl (hb hby at_22) rfl k) ?_
  refine Go.step (T' := T46) (f' := (mkF m 24 #[.val (.long ja), .second, .val (.long jb), .second, .val (.long jc), .second, .val (.ref b29), .val (.long ((ja - jb) - jc)), .second] [(.long (((ja - jb) - jc) + jb))])) (fun t k => XS.ladd X46.here hx rfl (hb hby at_23) rfl k) ?_
  refine Go.step (T' := T46) (f' := (mkF m 26 #[.val (.long ja), .second, .val (.long jb), .second, .val (.long jc), .second, .val (.ref b29), .val (.long ((ja - jb) - jc)), .second] [(.long jc), (.long (((ja - jb) - jc) + jb))])) (fun t k => XS.lload X46.here hx rfl (hb hby at_24) rfl k) ?_
  refine Go.step (T' := T46) (f' := (mkF m 27 #[.val (.long ja), .second, .val (.long jb), .second, .val (.long jc), .second, .val (.ref b29), .val (.long ((ja - jb) - jc)), .second] [(.long ((((ja - jb) - jc) + jb) + jc))])) (fun t k => XS.ladd X46.here hx rfl (hb hby at_26) rfl k) ?_
  refine Go.step (T' := T46) (f' := (mkF m 28 #[.val (.long ja), .second, .val (.long jb), .second, .val (.long jc), .second, .val (.ref b29), .val (.long ((ja - jb) - jc)), .second] [(.long ja), (.long ((((ja - jb) - jc) + jb) + jc))])) (fun t k => XS.lloadN X46.here hx rfl (hb hby at_27) rfl k) ?_
  refine Go.step (T' := T46) (f' := (mkF m 29 #[.val (.long ja), .second, .val (.long jb), .second, .val (.long jc), .second, .val (.ref b29), .val (.long ((ja - jb) - jc)), .second] [(.int (lcmpW ((((ja - jb) - jc) + jb) + jc) ja))])) (fun t k => XS.lcmp X46.here hx rfl (hb hby at_28) rfl k) ?_
  have hc48 : (lcmpW ((((ja - jb) - jc) + jb) + jc) ja) = (0 : Int32) := by
    exact own_eq ja jb jc
  refine Go.step (T' := T46) (f' := (mkF m 32 #[.val (.long ja), .second, .val (.long jb), .second, .val (.long jc), .second, .val (.ref b29), .val (.long ((ja - jb) - jc)), .second] [])) (fun t k => XS.ifNo X46.here hx rfl (hb hby at_29) rfl ((if0 _ _).trans (teq hc48).2) k) ?_
  refine Go.step (T' := T46) (f' := (mkF m 33 #[.val (.long ja), .second, .val (.long jb), .second, .val (.long jc), .second, .val (.ref b29), .val (.long ((ja - jb) - jc)), .second] [(.int (1 : Int32))])) (fun t k => XS.iconst X46.here hx rfl (hb hby at_32) k) ?_
  refine Go.step (T' := T46) (f' := (mkF m 37 #[.val (.long ja), .second, .val (.long jb), .second, .val (.long jc), .second, .val (.ref b29), .val (.long ((ja - jb) - jc)), .second] [(.int (1 : Int32))])) (fun t k => XS.goto X46.here hx rfl (pc0 := 33) (pc' := 37) rfl (hb hby at_33) (by decide) (by decide) k) ?_
  refine Go.retZ X46 hx hlk (t := .boolean) Bd.returns (by simp) (hb hby at_37) hh46 ?_ (by decide) (by decide)
  exact ⟨rfl, N47, K45⟩
set_option maxRecDepth 65536 in
set_option maxHeartbeats 40000000 in
theorem comes_1 {Post : Tables → Env → Array Value → State → Outcome → State → Prop} (hpost : ∀ tb e args s v u, (limb_1_1.after args s (.returned v) u = true ∧ limb_1_2.after args s (.returned v) u = true ∧ True) → FrameEnd s (.returned v) u (Jvm.fieldLocs frame_1_writes args s ++ Jvm.arrayLocs frame_1_arrays args s ++ Jvm.staticLocs frame_1_statics s) 16 128 → Post tb e args s (.returned v) u) :
    ArmFor flags0 classFile x code maxLocals ret World_1 tables_1 room_1 Calls_1 rest_1 Pre_1 Post := by
  intro l hfl _ _ p e ha hc hk s m args below hf hA hF happ hP
  obtain ⟨hcalls, hrest, hpre⟩ := hP
  obtain ⟨-, -, -, hnamed, -, -, -, hat⟩ := (Spec.applies_iff hf).mp happ
  obtain ⟨hg, hn⟩ := and_e (Cond.before_iff.mp (show (Jvm.Cond.and given_1 narrow_1).before args s = true from hpre))
  obtain ⟨c1, c2⟩ := and_e hg
  obtain ⟨c3, c4⟩ := and_e c2
  obtain ⟨c5, c6⟩ := and_e c4
  obtain ⟨w0, w1, w2, rfl⟩ : ∃ w0 w1 w2 : Value, args = #[w0, w1, w2] := by
    have hs : args.size = 3 := by simpa [Cond.value, given_1] using c1
    obtain ⟨L⟩ := args
    match L, hs with
    | [w0, w1, w2], _ => exact ⟨w0, w1, w2, rfl⟩
  have hw := fun d (hd : d ∈ tables_1) => atoms_spec (ws := Jvm.Cond.code x code maxLocals ret :: tables_1) hat d (List.mem_cons_of_mem _ hd)
  have hfit : Fit s := fun {y c} hc i hi => by
    obtain ⟨ha, rfl⟩ := Array.getElem?_eq_some_iff.mp hc
    have q := List.all_eq_true.mp ((Array.all_eq_true_iff_forall_mem.mp hF) _ (Array.getElem_mem ha)) i (List.mem_range.mpr hi)
    simpa [Array.getElem?_eq_getElem hi] using q
  obtain ⟨i0, ei0⟩ := isL_v c3
  obtain rfl : w0 = (.long i0) := Option.some.inj ei0
  obtain ⟨i1, ei1⟩ := isL_v c5
  obtain rfl : w1 = (.long i1) := Option.some.inj ei1
  obtain ⟨i2, ei2⟩ := isL_v c6
  obtain rfl : w2 = (.long i2) := Option.some.inj ei2
  obtain ⟨n, o, h1, h2, h3, _, L, rfl, ⟨rfl, N, -⟩, hq⟩ := rm_law l s _ hw tables_1 i0 i1 i2 s.heap s.heap.size (Old.start s)  p e ha hc hk s m _ below hf ((Spec.applies_iff_loose hf).mp happ).1 ⟨rfl, State.Warmed39.refl s, rfl⟩ trivial
  refine ⟨n, _, h1, h2, h3, hpost _ _ _ _ _ _ ⟨Cond.after_iff.mpr rfl, Cond.after_iff.mpr (eq_i res_at (Term.int_eval (1)) rfl), trivial⟩ ⟨hq.1, hq.2.1, (hq.2.2.sift fun y hy => Or.inr (N y hy)).mono (by decide) (by decide)⟩⟩
theorem main_1_1 : Claimed_1_1 := comes_1 fun _ _ _ _ _ _ h hF => ⟨h.1, hF⟩
theorem main_1_2 : Claimed_1_2 := comes_1 fun _ _ _ _ _ _ h hF => ⟨h.2.1, hF⟩
end Jvm.Pilot.@@N@@
namespace Jvm.Pilot.@@N@@
open Jvm Jvm.ClassFile Sem Op Lib Jvm.Free Jvm.Stand Jvm.Pilot.@@N@@.Jvm.D
/-! MADE BY PROGRAM (witnessworld.py) out of the Statement's table words and the real class files: 9 classes; the members and pool entries that the words name. The judged class is class 1, her method 1. -/
namespace start1
open Jvm.ClassFile
def u (s : String) : CpInfo := .utf8 (stringToUtf16 s)
/-- a pool by its gaps: so many unusable entries, then the entry; so many at the end -/
def gap : Nat → List CpInfo → List CpInfo
  | 0, r => r
  | n + 1, r => .unusable :: gap n r
def poolList (es : List (Nat × CpInfo)) (last : Nat) : List CpInfo := es.foldr (fun e r => gap e.1 (e.2 :: r)) (gap last [])
def pool (es : List (Nat × CpInfo)) (last : Nat) : Array CpInfo := ⟨poolList es last⟩
def fileOf (pool : Array CpInfo) (this : Nat) (attrs : Array Attribute := #[]) (ms : Array MethodInfo := #[]) (fl : Nat := 33) (sup : Nat := 0) (ifs : Array Nat := #[]) (fds : Array FieldInfo := #[]) : ClassFile where
  minorVersion := 0
  majorVersion := 65
  constantPool := pool
  accessFlags := fl
  thisClass := this
  superClass := sup
  interfaces := ifs
  fields := fds
  methods := ms
  attributes := attrs
def plain (name : String) (sup : Option ClassId) : Class where
  name := name
  kind := .ordinary
  loader := none
  accessFlags := 33
  super := sup
  interfaces := #[]
  cf := none
  fields := #[]
  methods := #[]
  instanceTypes := #[]
  staticTypes := #[]
  resolved := #[]
  callSites := []
  init := .initialized
  statics := none
  mirror := none

def pool0 : Array CpInfo := pool [(5, u "<init>"), (0, u "()V"), (1, .class_ 10), (1, u "java/lang/Object")] 113

def k0c0 : Code := { maxStack := 0, maxLocals := 1, code := object_method_1_code, exceptionTable := #[], attributes := #[] }
def k0m0 : Method := { name := "<init>", desc := "()V", sig := { parameters := [], returnType := none }, accessFlags := 1, code := some k0c0 }
/-- java/lang/Object -/
def k0 : Class := { plain "java/lang/Object" none with
  accessFlags := 33
  interfaces := #[]
  cf := some (fileOf pool0 8 #[] #[{ accessFlags := 1, nameIndex := 5, descriptorIndex := 6, attributes := #[] }] 33 0 #[] #[])
  fields := #[]
  methods := #[k0m0]
  instanceTypes := #[]
  staticTypes := #[]
  resolved := Array.replicate 124 none
  statics := none }

def pool1 : Array CpInfo := pool [(2, .class_ 4), (1, u "java/lang/Object"), (0, u "<init>"), (0, u "()V"), (0, .class_ 8), (0, u "com/example/unwind/unwind/bench/OrderCounts"), (0, .methodref 7 10), (0, .nameAndType 5 11), (0, u "(JJJ)V"), (0, .methodref 7 13), (0, .nameAndType 14 15), (0, u "active"), (0, u "()J"), (0, .class_ 17), (0, u "com/example/unwind/unwind/bench/OrderCountsActivePinLaw"), (2, u "law"), (0, u "(JJJ)Z")] 3

def k1m0 : Method := { name := "<init>", desc := "()V", sig := { parameters := [], returnType := none }, accessFlags := 2, code := none }
def k1c1 : Code := { maxStack := 8, maxLocals := 9, code := code, exceptionTable := #[], attributes := #[] }
def k1m1 : Method := { name := "law", desc := "(JJJ)Z", sig := { parameters := [.long, .long, .long], returnType := some .boolean }, accessFlags := 9, code := some k1c1 }
/-- com/example/unwind/unwind/bench/OrderCountsActivePinLaw -/
def k1 : Class := { plain "com/example/unwind/unwind/bench/OrderCountsActivePinLaw" (some 0) with
  accessFlags := 49
  interfaces := #[]
  cf := some (fileOf pool1 16 #[] #[{ accessFlags := 2, nameIndex := 5, descriptorIndex := 6, attributes := #[] }, { accessFlags := 9, nameIndex := 20, descriptorIndex := 21, attributes := #[] }] 49 2 #[] #[])
  fields := #[]
  methods := #[k1m0, k1m1]
  instanceTypes := #[]
  staticTypes := #[]
  resolved := Array.replicate 25 none
  statics := none }

def pool2 : Array CpInfo := pool [(1, .methodref 2 3), (0, .class_ 4), (0, .nameAndType 5 6), (0, u "java/lang/Object"), (0, u "<init>"), (0, u "()V"), (0, .fieldref 8 9), (0, .class_ 10), (0, .nameAndType 11 12), (0, u "com/example/unwind/unwind/bench/OrderCounts"), (0, u "orders"), (0, u "J"), (0, .fieldref 8 14), (0, .nameAndType 15 12), (0, u "confirmed"), (0, .fieldref 8 17), (0, .nameAndType 18 12), (0, u "failed"), (2, u "active"), (0, u "()J"), (4, u "(JJJ)V")] 21

def k2c0 : Code := { maxStack := 3, maxLocals := 7, code := prog_2_method_1_code, exceptionTable := #[], attributes := #[] }
def k2m0 : Method := { name := "<init>", desc := "(JJJ)V", sig := { parameters := [.long, .long, .long], returnType := none }, accessFlags := 0, code := some k2c0 }
def k2c1 : Code := { maxStack := 4, maxLocals := 1, code := prog_2_method_5_code, exceptionTable := #[], attributes := #[] }
def k2m1 : Method := { name := "active", desc := "()J", sig := { parameters := [], returnType := some .long }, accessFlags := 0, code := some k2c1 }
/-- com/example/unwind/unwind/bench/OrderCounts -/
def k2 : Class := { plain "com/example/unwind/unwind/bench/OrderCounts" (some 0) with
  accessFlags := 32
  interfaces := #[]
  cf := some (fileOf pool2 8 #[] #[{ accessFlags := 0, nameIndex := 5, descriptorIndex := 27, attributes := #[] }, { accessFlags := 0, nameIndex := 21, descriptorIndex := 22, attributes := #[] }] 32 2 #[] #[{ accessFlags := 18, nameIndex := 11, descriptorIndex := 12, attributes := #[] }, { accessFlags := 18, nameIndex := 15, descriptorIndex := 12, attributes := #[] }, { accessFlags := 18, nameIndex := 18, descriptorIndex := 12, attributes := #[] }])
  fields := #[{ name := "orders", type := .long, accessFlags := 18, slot := 0, constantValue := 0 }, { name := "confirmed", type := .long, accessFlags := 18, slot := 1, constantValue := 0 }, { name := "failed", type := .long, accessFlags := 18, slot := 2, constantValue := 0 }]
  methods := #[k2m0, k2m1]
  instanceTypes := #[.long, .long, .long]
  staticTypes := #[]
  resolved := Array.replicate 49 none
  statics := none }

def pool3 : Array CpInfo := pool [(1, u "java/lang/Cloneable"), (0, .class_ 1), (0, u "java/lang/Object"), (0, .class_ 3)] 3

/-- java/lang/Cloneable -/
def k3 : Class := { plain "java/lang/Cloneable" (some 0) with
  accessFlags := 1537
  interfaces := #[]
  cf := some (fileOf pool3 2 #[] #[] 1537 4 #[] #[])
  fields := #[]
  methods := #[]
  instanceTypes := #[]
  staticTypes := #[]
  resolved := Array.replicate 8 none
  statics := none }

def pool4 : Array CpInfo := pool [(1, u "java/io/Serializable"), (0, .class_ 1), (0, u "java/lang/Object"), (0, .class_ 3)] 3

/-- java/io/Serializable -/
def k4 : Class := { plain "java/io/Serializable" (some 0) with
  accessFlags := 1537
  interfaces := #[]
  cf := some (fileOf pool4 2 #[] #[] 1537 4 #[] #[])
  fields := #[]
  methods := #[]
  instanceTypes := #[]
  staticTypes := #[]
  resolved := Array.replicate 8 none
  statics := none }

/-- the primitive byte -/
def k5 : Class := { plain "byte" none with kind := .primitive 'B', accessFlags := 0x411 }
/-- [B -/
def k6 : Class := { plain "[B" (some 0) with kind := .array 5 .byte, interfaces := #[3, 4], accessFlags := 1041 }

/-- the primitive int -/
def k7 : Class := { plain "int" none with kind := .primitive 'I', accessFlags := 0x411 }
/-- [I -/
def k8 : Class := { plain "[I" (some 0) with kind := .array 7 .int, interfaces := #[3, 4], accessFlags := 1041 }

def heap : Heap := #[]
def classes : Array Class := #[k0, k1, k2, k3, k4, k5, k6, k7, k8]
def interned : List (Array UInt16 × Addr) := []
def slotsUsed : Nat := 0
def theMethod : MethodId := ⟨1, 1⟩
def args0 : Array Value := #[.long 5, .long 3, .long 1]
def aboutOver (below : List Frame) : State where
  vm := { classes := classes, interned := interned.toArray }
  heap := heap
  slotsUsed := slotsUsed
  threads := #[{ frames := .invoking theMethod args0 :: below }]
def below0 : List Frame := [.native { method := ⟨0, 0⟩, args := #[] }]
def about1 : State := aboutOver below0
def p0 : Program := .bare "" "" ""
def e0 : Env := launch0.env 0 0 0
theorem w_frames : about1.frames = Frame.invoking theMethod args0 :: below0 := rfl
set_option maxRecDepth 65536 in
theorem w_args : argsFit about1.vm theMethod args0 = true := by decide +kernel
set_option maxRecDepth 65536 in
theorem w_heap : heapFits about1 = true := by decide +kernel
set_option maxRecDepth 65536 in
theorem w_runnable : about1.curStatus? = some .runnable := by decide +kernel
set_option maxRecDepth 65536 in
theorem w_alone : about1.alone = true := by decide +kernel
set_option maxRecDepth 65536 in
theorem w_named : about1.methodNamed? x = some theMethod := by decide +kernel
set_option maxRecDepth 65536 in
theorem w_hears : about1.hears theMethod below0 = true := by decide +kernel
set_option maxRecDepth 65536 in
theorem w_ripe : about1.ripe theMethod args0 below0 = true := by decide +kernel
theorem w_running : about1.status = .running := rfl
set_option maxRecDepth 65536 in
theorem w_room : about1.hasRoom e0.platform room_1 = true :=
  launch0.hasRoom_least _ room_1 (by decide +kernel) (by decide +kernel) (by decide +kernel) (by decide +kernel) (by decide +kernel) (by decide +kernel)
theorem allAtoms_all (ts : List Jvm.Cond) (a : Array Jvm.Value) (st : Jvm.State) : (allAtoms ts).before a st = ts.all (fun c => c.before a st) := by
  induction ts with
  | nil => rfl
  | cons c t ih =>
    show (Jvm.Cond.and c (allAtoms t)).before a st = _
    rw [Jvm.Cond.before_and, ih, List.all_cons]
def words1 : List Jvm.Cond := Jvm.Cond.code x code maxLocals ret :: tables_1
/-- a 'code' word, met by the world's own term for the bytes: nothing is compared byte by byte -/
theorem code_word {y : MethodName} {bytes : ByteArray} {mx : Nat} {rt : Option FieldType} {a : Array Value} {s : State} {m : MethodId} {meth : Method} {c : Code} (h1 : s.methodNamed? y = some m) (h2 : s.vm.method? m = some meth) (h3 : meth.code = some c) (h4 : c.code = bytes)
    (h5 : (c.maxLocals == mx && c.exceptionTable.isEmpty && decide (c.maxStack ≤ mostOperands) && decide (meth.sig.returnType = rt) && !meth.locks && decide (parseMethodDescriptor y.desc = some meth.sig)) = true) : (Jvm.Cond.code y bytes mx rt).before a s = true := by
  simp only [Bool.and_eq_true, beq_iff_eq, Bool.not_eq_true', decide_eq_true_eq] at h5
  obtain ⟨⟨⟨⟨⟨g1, g2⟩, g3⟩, g4⟩, g5⟩, g6⟩ := h5
  simp [Cond.before, Cond.holds, Cond.value, h1, h2, h3, h4, g1, g2, g3, g4, g5, g6]
def isCode : Jvm.Cond → Bool
  | .code _ _ _ _ => true
  | _ => false
theorem all_split {L : List Jvm.Cond} {P : Jvm.Cond → Bool} (h1 : L.all (fun c => isCode c || P c) = true) (h2 : ∀ c ∈ L.filter isCode, P c = true) : L.all P = true := by
  refine List.all_eq_true.mpr fun c hc => ?_
  have h := List.all_eq_true.mp h1 c hc
  rcases Bool.eq_false_or_eq_true (isCode c) with hi | hi
  · exact h2 c (List.mem_filter.mpr ⟨hc, hi⟩)
  · simpa [hi] using h
set_option maxRecDepth 65536 in
theorem w_c0 : (Jvm.Cond.code x code maxLocals ret).before args0 about1 = true := code_word (m := ⟨1, 1⟩) (meth := k1m1) (c := k1c1) (by decide +kernel) rfl rfl rfl (by decide +kernel)
set_option maxRecDepth 65536 in
theorem w_c1 : (Jvm.Cond.code ({ cls := "com/example/unwind/unwind/bench/OrderCounts", name := "<init>", desc := "(JJJ)V" } : Jvm.MethodName) prog_2_method_1_code (7 : Nat) (Option.none : Option Jvm.ClassFile.FieldType)).before args0 about1 = true := code_word (m := ⟨2, 0⟩) (meth := k2m0) (c := k2c0) (by decide +kernel) rfl rfl rfl (by decide +kernel)
set_option maxRecDepth 65536 in
theorem w_c2 : (Jvm.Cond.code ({ cls := "java/lang/Object", name := "<init>", desc := "()V" } : Jvm.MethodName) object_method_1_code (1 : Nat) (Option.none : Option Jvm.ClassFile.FieldType)).before args0 about1 = true := code_word (m := ⟨0, 0⟩) (meth := k0m0) (c := k0c0) (by decide +kernel) rfl rfl rfl (by decide +kernel)
set_option maxRecDepth 65536 in
theorem w_c3 : (Jvm.Cond.code ({ cls := "com/example/unwind/unwind/bench/OrderCounts", name := "active", desc := "()J" } : Jvm.MethodName) prog_2_method_5_code (1 : Nat) (Option.some Jvm.ClassFile.FieldType.long)).before args0 about1 = true := code_word (m := ⟨2, 1⟩) (meth := k2m1) (c := k2c1) (by decide +kernel) rfl rfl rfl (by decide +kernel)
def codes1 : List Jvm.Cond := [Jvm.Cond.code x code maxLocals ret, Jvm.Cond.code ({ cls := "com/example/unwind/unwind/bench/OrderCounts", name := "<init>", desc := "(JJJ)V" } : Jvm.MethodName) prog_2_method_1_code (7 : Nat) (Option.none : Option Jvm.ClassFile.FieldType), Jvm.Cond.code ({ cls := "java/lang/Object", name := "<init>", desc := "()V" } : Jvm.MethodName) object_method_1_code (1 : Nat) (Option.none : Option Jvm.ClassFile.FieldType), Jvm.Cond.code ({ cls := "com/example/unwind/unwind/bench/OrderCounts", name := "active", desc := "()J" } : Jvm.MethodName) prog_2_method_5_code (1 : Nat) (Option.some Jvm.ClassFile.FieldType.long)]
set_option maxRecDepth 65536 in
theorem codes_eq : words1.filter isCode = codes1 := rfl
theorem w_codes : ∀ c ∈ words1.filter isCode, c.before args0 about1 = true := by
  rw [codes_eq]
  intro c hc
  simp only [codes1, List.mem_cons, List.not_mem_nil, or_false] at hc
  rcases hc with rfl | rfl | rfl | rfl
  · exact w_c0
  · exact w_c1
  · exact w_c2
  · exact w_c3
set_option maxRecDepth 65536 in
theorem w_t1 : words1.all (fun c => isCode c || c.before args0 about1) = true := by decide +kernel
theorem w_tables : (allAtoms (Jvm.Cond.code x code maxLocals ret :: tables_1)).before args0 about1 = true := by
  rw [allAtoms_all]
  show words1.all (fun c => c.before args0 about1) = true
  refine all_split ?_ w_codes
  rw [w_t1]
set_option maxRecDepth 65536 in
theorem w_case : (Jvm.Cond.and given_1 narrow_1).before args0 about1 = true := by decide +kernel
theorem w_applies : (headSpec (Jvm.Cond.code x code maxLocals ret :: tables_1) room_1).applies x e0.platform about1 = true :=
  (Spec.applies_iff w_frames).mpr ⟨w_running, w_runnable, w_alone, w_named, w_hears, w_ripe, w_room, w_tables⟩
theorem atStart : AtStart classFile x code maxLocals ret World_1 tables_1 room_1 Calls_1 rest_1 Pre_1 launch0 p0 e0 about1 theMethod args0 below0 :=
  ⟨lists_1, trivial, launch0.admits_env _ _ _, launch0.least_env, fairChoices_fair.cas, fairChoices_fair.clock, w_frames, w_args, w_heap, w_applies, trivial, trivial, w_case⟩
end start1
theorem witness_1 : WitnessClaimed_1 := ⟨start1.p0, start1.e0, start1.about1, start1.theMethod, start1.args0, start1.below0, start1.atStart⟩
end Jvm.Pilot.@@N@@
