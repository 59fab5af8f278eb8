import JvmDerived
import JvmDerived.Pilot.@@N@@Statement
import JvmDerived.Pilot.@@N@@Code
set_option linter.unusedVariables false
set_option linter.unusedSimpArgs false
namespace Jvm.RoadKit
open Sem ClassFile Op Lib Jvm.Stand Jvm.Free Jvm.LawKit
section New
variable {p : Program} {l : Launch} {e : Env} {R : Room} {s : State} {m : MethodId} {args : Array Value} {below : List Frame} {meth : Method} {c : Code} {T : State} {locs : List Loc} {cells slots : Nat}
theorem retI (X : Stand p l e R s m args below meth c T locs cells slots) (hx : p.tables.exec = Jvm.exec) {pc : Nat} {Ls : Array Slot} {z : Int32} {rest : List Value} (hret : meth.sig.returnType = some .int) (hd : decode c.code pc = .ok (.ireturn, 1)) {fs : List Frame}
    (hl : ∀ (f : JFrame) (acts : List Action), f.method = m → f.locked = none → f.entered = [] → (doReturn e (T.setTop f) acts (some (.int z))).1 = T.setFrames fs) : Steps p.tables e below (T.setTop (mkF m pc Ls (.int z :: rest))) (T.setFrames fs) := by
  have hm' : T.vm.method? m = some meth := X.method'
  have hn : narrow .int (.int z) = .int z := rfl
  show Steps p.tables e below (T.setTop { method := m, pc := pc, locals := Ls, stack := _ :: rest, locked := none }) _
  jvm_step X.here [X.here.top, hx, hd, hm', hret, hn]
  first | (intro acts; rw [hl _ acts rfl rfl rfl]) | rw [hl _ _ rfl rfl rfl]
  exact Steps.refl _
end New
end Jvm.RoadKit
namespace Jvm.Pilot.@@N@@
open Jvm Jvm.ClassFile Sem Op Lib Jvm.Free Jvm.Stand Jvm.LawKit Jvm.RoadKit Bundle Jvm.Pilot.@@N@@.Jvm.D
section Own
variable {p : Program} {l : Launch} {e : Env} {R : Room} {s : State} {m : MethodId} {args : Array Value} {below : List Frame} {meth : Method} {c : Code} {T T' : State} {locs : List Loc} {cells slots : Nat} {f f' : JFrame} {Q : Option Value → Heap → List Loc → Prop} {ck sk : Nat} {h : Heap} {Z : State}
/-- from here the run comes to its end, and leaves what Q says -/
def Go (p : Program) (e : Env) (below : List Frame) (s : State) (Q : Option Value → Heap → List Loc → Prop) (ck sk : Nat) (T : State) (f : JFrame) : Prop :=
  ∃ s₂ o, Steps p.tables e below (T.setTop f) s₂ ∧ s₂.status = .running ∧ Ended s₂ below o ∧ ∃ v L, o = .returned v ∧ Q v s₂.heap L ∧ FrameEnd s o s₂ L ck sk
theorem Go.step (st : ∀ t, Steps p.tables e below (T'.setTop f') t → Steps p.tables e below (T.setTop f) t) (k : Go p e below s Q ck sk T' f') : Go p e below s Q ck sk T f := by
  obtain ⟨s₂, o, h1, r⟩ := k; exact ⟨s₂, o, st _ h1, r⟩
theorem Go.via (st : Steps p.tables e below (T.setTop f) (T'.setTop f')) (k : Go p e below s Q ck sk T' f') : Go p e below s Q ck sk T f := by
  obtain ⟨s₂, o, h1, r⟩ := k; exact ⟨s₂, o, st.trans h1, r⟩
theorem Go.retI (X : Stand p l e R s m args below meth c T locs cells slots) (hx : p.tables.exec = Jvm.exec) (hlk : meth.locks = false) {pc : Nat} {Ls : Array Slot} {z : Int32} {rest : List Value} (hret : meth.sig.returnType = some .int) (hd : decode c.code pc = .ok (.ireturn, 1)) (eT : T.heap = h) (hq : Q (some (.int z)) h locs) (hck : cells ≤ ck) (hsk : slots ≤ sk) : Go p e below s Q ck sk T (mkF m pc Ls (.int z :: rest)) := by
  subst eT
  obtain ⟨fs, hr, hrun, hended, hW, hsame⟩ := X.leave (v := some (.int z)) (fun h => by rw [hret] at h; cases h) hlk
  exact ⟨_, _, Jvm.RoadKit.retI X hx hret hd hr, hrun, hended, _, _, rfl, hq, ⟨_, rfl⟩, hW, hsame.mono hck hsk⟩
theorem Go.retZ (X : Stand p l e R s m args below meth c T locs cells slots) (hx : p.tables.exec = Jvm.exec) (hlk : meth.locks = false) {pc : Nat} {Ls : Array Slot} {z : Int32} {rest : List Value} {t : FieldType} (hret : meth.sig.returnType = some t) (ht : t = .boolean ∨ t = .byte ∨ t = .char ∨ t = .short) (hd : decode c.code pc = .ok (.ireturn, 1)) (eT : T.heap = h) (hq : Q (some (.int (nar t z))) h locs) (hck : cells ≤ ck) (hsk : slots ≤ sk) : Go p e below s Q ck sk T (mkF m pc Ls (.int z :: rest)) := by
  subst eT
  obtain ⟨fs, hr, hrun, hended, hW, hsame⟩ := X.leave (v := some (.int (nar t z))) (fun h => by rw [hret] at h; cases h) hlk
  exact ⟨_, _, retN X hx hret ht hd hr, hrun, hended, _, _, rfl, hq, ⟨_, rfl⟩, hW, hsame.mono hck hsk⟩
theorem Go.retV (X : Stand p l e R s m args below meth c T locs cells slots) (hx : p.tables.exec = Jvm.exec) (hlk : meth.locks = false) {pc : Nat} {Ls : Array Slot} (hret : meth.sig.returnType = none) (hd : decode c.code pc = .ok (.return_, 1)) (eT : T.heap = h) (hq : Q none h locs) (hck : cells ≤ ck) (hsk : slots ≤ sk) : Go p e below s Q ck sk T (mkF m pc Ls []) := by
  subst eT
  obtain ⟨fs, hr, hrun, hended, hW, hsame⟩ := X.leave (v := none) (fun _ => rfl) hlk
  exact ⟨_, _, X.returnOut hx hret hd hr, hrun, hended, _, _, rfl, hq, ⟨_, rfl⟩, hW, hsame.mono hck hsk⟩
theorem Go.retJ (X : Stand p l e R s m args below meth c T locs cells slots) (hx : p.tables.exec = Jvm.exec) (hlk : meth.locks = false) {pc : Nat} {Ls : Array Slot} {z : Int64} {rest : List Value} (hret : meth.sig.returnType = some .long) (hd : decode c.code pc = .ok (.lreturn, 1)) (eT : T.heap = h) (hq : Q (some (.long z)) h locs) (hck : cells ≤ ck) (hsk : slots ≤ sk) : Go p e below s Q ck sk T (mkF m pc Ls (.long z :: rest)) := by
  subst eT
  obtain ⟨fs, hr, hrun, hended, hW, hsame⟩ := X.leave (v := some (.long z)) (fun h => by rw [hret] at h; cases h) hlk
  exact ⟨_, _, retOut X hx hret rfl (Or.inr (Or.inl ⟨rfl, rfl, _, rfl⟩)) hd hr, hrun, hended, _, _, rfl, hq, ⟨_, rfl⟩, hW, hsame.mono hck hsk⟩
theorem own_nar_ref {t : FieldType} {w : Value} (h1 : t.isReference = true) (h2 : w.isRef = true) : narrow t w = w := by
  cases t <;> first | (cases h1; done) | (cases w <;> first | rfl | (cases h2; done))
theorem Go.retA (X : Stand p l e R s m args below meth c T locs cells slots) (hx : p.tables.exec = Jvm.exec) (hlk : meth.locks = false) {pc : Nat} {Ls : Array Slot} {w : Value} {rest : List Value} {t : FieldType} (hret : meth.sig.returnType = some t) (ht : t.isReference = true) (hw : w.isRef = true) (hd : decode c.code pc = .ok (.areturn, 1)) (eT : T.heap = h) (hq : Q (some w) h locs) (hck : cells ≤ ck) (hsk : slots ≤ sk) : Go p e below s Q ck sk T (mkF m pc Ls (w :: rest)) := by
  subst eT
  obtain ⟨fs, hr, hrun, hended, hW, hsame⟩ := X.leave (v := some w) (fun h => by rw [hret] at h; cases h) hlk
  exact ⟨_, _, retOut X hx hret (own_nar_ref ht hw) (Or.inr (Or.inr (Or.inr (Or.inr ⟨rfl, ht, hw⟩)))) hd hr, hrun, hended, _, _, rfl, hq, ⟨_, rfl⟩, hW, hsame.mono hck hsk⟩
theorem own_old_le {n0 : Nat} (o : Old Z n0 h) : n0 ≤ h.size := o.1 ▸ o.2.1
theorem own_alen (X : Stand p l e R s m args below meth c T locs cells slots) (hx : p.tables.exec = Jvm.exec) (hZ : Z.Warmed39 s.vm) (eT : T.heap = h) {a : Addr} {cl : Cell} {ty : FieldType} (A : Arr Z h a cl ty) {z : Int32} (S : cl.slots.size = z.toNatClampNeg) (N : ¬ z < 0) {g : JFrame} (hg : g.method = m) {rest : List Value} (hs : g.stack = .ref a :: rest) (hd : decode c.code g.pc = .ok (.arraylength, 1)) {t : State}
    (k : Steps p.tables e below (T.setTop { g with pc := g.pc + 1, stack := .int z :: rest }) t) : Steps p.tables e below (T.setTop g) t :=
  X.arraylength hx (by rw [eT]; exact A.1) (State.isArrayOf_alike hZ.alike A.2.1) hg hs hd _ (by rw [len_of S N]; exact k)
theorem own_fld_start {args : Array Value} {s : State} {t : Term} {a : Addr} {C n d : String} {k : Int32} (ev : t.eval args s none [] s = some (.ref a)) (h : (Jvm.Cond.eq (.field t C n d) (.int k)).value args s none s [] = some true) : Fld s s.heap a C n d (.int k) := by
  refine Fld.start ?_
  rw [← fld_at ev]
  obtain ⟨x, y, h1, h2, h3, h4⟩ := cmp_v (Or.inl h)
  have h2' : (Value.int k) = y := Option.some.inj h2
  subst h2'
  obtain ⟨z, rfl⟩ := h4
  have q := gotT (Jvm.Cond.eq_ints h1 h2) h
  rw [h1, q]
theorem own_nar8 (z : Int32) : z.toInt8.toInt32.toInt8.toInt32 = z.toInt8.toInt32 := by simp
end Own
theorem own_mask7 (x : Int32) : 0 ≤ (x &&& (7 : Int32)).toInt ∧ (x &&& (7 : Int32)).toInt ≤ 7 := c_and x 7 (by decide)
theorem own_neg (x : Int32) : ¬ (x &&& (7 : Int32)) < 0 := by rw [Int32.lt_iff_toInt_lt]; have := own_mask7 x; have e : (0 : Int32).toInt = 0 := rfl; omega
theorem own_cap (x : Int32) : (x &&& (7 : Int32)).toNatClampNeg ≤ 7 := by
  have := own_mask7 x; have q := nat_of (own_neg x); omega
theorem own_sub0 {a b : Int32} : a - b = 0 ↔ a = b := by
  constructor
  · intro h
    have := c_isub a b; have e : (a - b).toInt = 0 := by rw [h]; rfl
    have := rng32 a; have := rng32 b
    apply Int32.toInt_inj.mp; omega
  · rintro rfl; simp
theorem own_f1 (a b : Int32) (h : b - a = (0 : Int32)) : (if a = b then (1 : Int32) else 0) = (1 : Int32) := if_pos (own_sub0.mp h).symm
theorem own_f0 (a b : Int32) (h : ¬ b - a = (0 : Int32)) : (if a = b then (1 : Int32) else 0) = (0 : Int32) := if_neg fun e => h (own_sub0.mpr e.symm)
theorem own_s1 (a b : Int32) (h : b - a = (0 : Int32)) : (if b = a then (1 : Int32) else 0) = (1 : Int32) := if_pos (own_sub0.mp h)
theorem own_s0 (a b : Int32) (h : ¬ b - a = (0 : Int32)) : (if b = a then (1 : Int32) else 0) = (0 : Int32) := if_neg fun e => h (own_sub0.mpr e)
theorem d2_0 : decode jdk_30_method_1_code 0 = .ok (.aload_n 0, 1) := by decide +kernel
theorem d2_1 : decode jdk_30_method_1_code 1 = .ok (.invokespecial 1, 3) := by decide +kernel
theorem d2_4 : decode jdk_30_method_1_code 4 = .ok (.return_, 1) := by decide +kernel
theorem pn_java_lang_Record : plainName "java/lang/Record" = true := by first | (simp [plainName, overriddenIn]; done) | decide +kernel
theorem ef_rec (m : MethodId) (ba : Addr) : entryFrame m #[(.ref ba)] 1 = mkF m 0 #[.val (.ref ba)] [] := by first | (simp [entryFrame, mkF, argsToLocals, Value.category]; done) | rfl
def Q_rec (Z : State) (ba : Addr) (h0 : Heap) (n0 : Nat) (v : Option Value) (h : Heap) (L : List Loc) : Prop := v = none ∧ Fr n0 L ∧ h = h0
set_option maxRecDepth 65536 in
set_option maxHeartbeats 40000000 in
theorem rm_rec (l : Launch) (Z : State) (a0 : Array Value) (hw : ∀ d ∈ tables_1, d.before a0 Z = true) (ws : List Jvm.Cond) (ba : Addr) (h0 : Heap) (n0 : Nat) (O0 : Old Z n0 h0) :
    MetFree l (⟨"java/lang/Record", "<init>", "()V"⟩ : MethodName) (head1 (Jvm.Cond.code (⟨"java/lang/Record", "<init>", "()V"⟩ : MethodName) jdk_30_method_1_code 1 none :: ws) ({ frames := 1, cells := 0, slots := 0, locals := 12 } : Room)) (fun a U => a = #[(.ref ba)] ∧ Z.Warmed39 U.vm ∧ U.heap = h0) (fun _ _ _ _ _ => True) (fun _ U o U' => ∃ v L, o = .returned v ∧ Q_rec Z ba h0 n0 v U'.heap L ∧ FrameEnd U o U' L ({ frames := 1, cells := 0, slots := 0, locals := 12 } : Room).cells ({ frames := 1, cells := 0, slots := 0, locals := 12 } : Room).slots) := by
  refine MetFree.of_bodySF (plainFor_of_name pn_java_lang_Record) hisR ?_
  intro p e s m args below meth c s₁ Bd hml0 hP hK
  obtain ⟨rfl, hZ, hh⟩ := hP
  have hx := Bd.exec
  have hby := Bd.bytes
  have hml : c.maxLocals = 1 := hml0
  have hown : s.vm.findClass "java/lang/Record" = some m.cls := findClass_of_methodNamed Bd.named
  have hnm := (name_of_methodNamed Bd.named Bd.method).1
  have hlk : meth.locks = false := BodyLoose.notSynchronized Bd
  have X0 : Stand p l e ({ frames := 1, cells := 0, slots := 0, locals := 12 } : Room) s m #[(.ref ba)] below meth c s₁ [] 0 0 := Stand.of_body Bd
  have e0 : s₁.heap = h0 := by rw [← hh, Bd.state]; rfl
  have N0 := Fr.nil n0
  rw [ef_rec m ba]
  show Go p e below s (fun v h L => Q_rec Z ba h0 n0 v h L) ({ frames := 1, cells := 0, slots := 0, locals := 12 } : Room).cells ({ frames := 1, cells := 0, slots := 0, locals := 12 } : Room).slots s₁ (mkF m 0 #[.val (.ref ba)] [])
  refine Go.step (T' := s₁) (f' := (mkF m 1 #[.val (.ref ba)] [(.ref ba)])) (fun t k => XS.aloadN X0.here hx rfl (hb hby d2_0) rfl rfl k) ?_
  obtain ⟨T1, X1, e1, st1⟩ := initO X0 hx hZ hown (hw _ (List.mem_of_getElem? (i := 12) rfl)) (hw _ (List.mem_of_getElem? (i := 13) rfl)) (hw _ (List.mem_of_getElem? (i := 14) rfl)) e0 (g := (mkF m 1 #[.val (.ref ba)] [(.ref ba)])) rfl (by rw [hml]; rfl) rfl (hb hby d2_1) (by decide) (W := 0) (by show 2 * 0 + _ ≤ _; exact Nat.le_of_eq rfl) (by decide)
  refine Go.step (T' := T1) (f' := (mkF m 4 #[.val (.ref ba)] [])) st1 ?_
  refine Go.retV X1 hx hlk Bd.returns (hb hby d2_4) e1 ?_ (by decide) (by decide)
  exact ⟨rfl, N0, rfl⟩
theorem d1_0 : decode prog_42_method_1_code 0 = .ok (.aload_n 0, 1) := by decide +kernel
theorem d1_1 : decode prog_42_method_1_code 1 = .ok (.invokespecial 1, 3) := by decide +kernel
theorem d1_4 : decode prog_42_method_1_code 4 = .ok (.aload_n 0, 1) := by decide +kernel
theorem d1_5 : decode prog_42_method_1_code 5 = .ok (.aload_n 1, 1) := by decide +kernel
theorem d1_6 : decode prog_42_method_1_code 6 = .ok (.putfield 7, 3) := by decide +kernel
theorem d1_9 : decode prog_42_method_1_code 9 = .ok (.aload_n 0, 1) := by decide +kernel
theorem d1_10 : decode prog_42_method_1_code 10 = .ok (.iload_n 2, 1) := by decide +kernel
theorem d1_11 : decode prog_42_method_1_code 11 = .ok (.putfield 13, 3) := by decide +kernel
theorem d1_14 : decode prog_42_method_1_code 14 = .ok (.aload_n 0, 1) := by decide +kernel
theorem d1_15 : decode prog_42_method_1_code 15 = .ok (.iload_n 3, 1) := by decide +kernel
theorem d1_16 : decode prog_42_method_1_code 16 = .ok (.putfield 17, 3) := by decide +kernel
theorem d1_19 : decode prog_42_method_1_code 19 = .ok (.aload_n 0, 1) := by decide +kernel
theorem d1_20 : decode prog_42_method_1_code 20 = .ok (.iload 4, 2) := by decide +kernel
theorem d1_22 : decode prog_42_method_1_code 22 = .ok (.putfield 20, 3) := by decide +kernel
theorem d1_25 : decode prog_42_method_1_code 25 = .ok (.return_, 1) := by decide +kernel
theorem pn_com_example_tenorbook_tenorbook_formats_FileLines_Line : plainName "com/example/tenorbook/tenorbook/formats/FileLines$Line" = true := by first | (simp [plainName, overriddenIn]; done) | decide +kernel
theorem pd0 : parseMethodDescriptor "()V" = some ⟨[], none⟩ := by decide +kernel
theorem ef_init (m : MethodId) (ba : Addr) (bb : Addr) (ia : Int32) (ib : Int32) (ic : Int32) : entryFrame m #[(.ref ba), (.ref bb), (.int ia), (.int ib), (.int ic)] 5 = mkF m 0 #[.val (.ref ba), .val (.ref bb), .val (.int ia), .val (.int ib), .val (.int ic)] [] := by first | (simp [entryFrame, mkF, argsToLocals, Value.category]; done) | rfl
def Q_init (Z : State) (ba : Addr) (bb : Addr) (ia : Int32) (ib : Int32) (ic : Int32) (u0 : Value) (u1 : Value) (u2 : Value) (u3 : Value) (h0 : Heap) (n0 : Nat) (v : Option Value) (h : Heap) (L : List Loc) : Prop := v = none ∧ Fr n0 L ∧ Keep h0 h [ba] ∧ Exa Z h ba "com/example/tenorbook/tenorbook/formats/FileLines$Line" ∧ Fld Z h ba "com/example/tenorbook/tenorbook/formats/FileLines$Line" "from" "I" (.int ia) ∧ Fld Z h ba "com/example/tenorbook/tenorbook/formats/FileLines$Line" "to" "I" (.int ib)
set_option maxRecDepth 65536 in
set_option maxHeartbeats 40000000 in
theorem rm_init (l : Launch) (Z : State) (a0 : Array Value) (hw : ∀ d ∈ tables_1, d.before a0 Z = true) (ws : List Jvm.Cond) (ba : Addr) (bb : Addr) (ia : Int32) (ib : Int32) (ic : Int32) (u0 : Value) (u1 : Value) (u2 : Value) (u3 : Value) (h0 : Heap) (n0 : Nat) (O0 : Old Z n0 h0) (P0 : Exa Z h0 ba "com/example/tenorbook/tenorbook/formats/FileLines$Line") (P1 : Fld Z h0 ba "com/example/tenorbook/tenorbook/formats/FileLines$Line" "bytes" "[B" u0) (P2 : Fld Z h0 ba "com/example/tenorbook/tenorbook/formats/FileLines$Line" "from" "I" u1) (P3 : Fld Z h0 ba "com/example/tenorbook/tenorbook/formats/FileLines$Line" "to" "I" u2) (P4 : Fld Z h0 ba "com/example/tenorbook/tenorbook/formats/FileLines$Line" "tooLong" "Z" u3) (P5 : n0 ≤ ba) :
    MetFree l (⟨"com/example/tenorbook/tenorbook/formats/FileLines$Line", "<init>", "([BIIZ)V"⟩ : MethodName) (head1 (Jvm.Cond.code (⟨"com/example/tenorbook/tenorbook/formats/FileLines$Line", "<init>", "([BIIZ)V"⟩ : MethodName) prog_42_method_1_code 5 none :: ws) ({ frames := 2, cells := 0, slots := 0, locals := 24 } : Room)) (fun a U => a = #[(.ref ba), (.ref bb), (.int ia), (.int ib), (.int ic)] ∧ Z.Warmed39 U.vm ∧ U.heap = h0) (fun _ _ _ _ _ => True) (fun _ U o U' => ∃ v L, o = .returned v ∧ Q_init Z ba bb ia ib ic u0 u1 u2 u3 h0 n0 v U'.heap L ∧ FrameEnd U o U' L ({ frames := 2, cells := 0, slots := 0, locals := 24 } : Room).cells ({ frames := 2, cells := 0, slots := 0, locals := 24 } : Room).slots) := by
  refine MetFree.of_bodySF (plainFor_of_name pn_com_example_tenorbook_tenorbook_formats_FileLines_Line) hisR ?_
  intro p e s m args below meth c s₁ Bd hml0 hP hK
  obtain ⟨rfl, hZ, hh⟩ := hP
  have hx := Bd.exec
  have hby := Bd.bytes
  have hml : c.maxLocals = 5 := hml0
  have hown : s.vm.findClass "com/example/tenorbook/tenorbook/formats/FileLines$Line" = some m.cls := findClass_of_methodNamed Bd.named
  have hnm := (name_of_methodNamed Bd.named Bd.method).1
  have hlk : meth.locks = false := BodyLoose.notSynchronized Bd
  have X0 : Stand p l e ({ frames := 2, cells := 0, slots := 0, locals := 24 } : Room) s m #[(.ref ba), (.ref bb), (.int ia), (.int ib), (.int ic)] below meth c s₁ [] 0 0 := Stand.of_body Bd
  have e0 : s₁.heap = h0 := by rw [← hh, Bd.state]; rfl
  have N0 := Fr.nil n0
  have K0 := Keep.refl h0 [ba]
  rw [ef_init m ba bb ia ib ic]
  show Go p e below s (fun v h L => Q_init Z ba bb ia ib ic u0 u1 u2 u3 h0 n0 v h L) ({ frames := 2, cells := 0, slots := 0, locals := 24 } : Room).cells ({ frames := 2, cells := 0, slots := 0, locals := 24 } : Room).slots s₁ (mkF m 0 #[.val (.ref ba), .val (.ref bb), .val (.int ia), .val (.int ib), .val (.int ic)] [])
  refine Go.step (T' := s₁) (f' := (mkF m 1 #[.val (.ref ba), .val (.ref bb), .val (.int ia), .val (.int ib), .val (.int ic)] [(.ref ba)])) (fun t k => XS.aloadN X0.here hx rfl (hb hby d1_0) rfl rfl k) ?_
  obtain ⟨_, _, ⟨T2, L2, k2, n2⟩, -, X2, ⟨Lc2, hQ2, l2, y2, z2⟩, st2⟩ := X0.specialBack hx (y := (⟨"java/lang/Record", "<init>", "()V"⟩ : MethodName)) rfl hown (mvT hZ (hw _ (List.mem_of_getElem? (i := 7) rfl))) (mvT hZ (hw _ (List.mem_of_getElem? (i := 8) rfl))) (mvT hZ (hw _ (List.mem_of_getElem? (i := 11) rfl))) (by decide) (backOf (W := 0) (rm_rec l Z a0 hw [] ba h0 n0 O0 ) hZ (hw _ (List.mem_of_getElem? (i := 11) rfl)) (hw _ (List.mem_of_getElem? (i := 10) rfl)) (by decide) (by decide)) (g := (mkF m 1 #[.val (.ref ba), .val (.ref bb), .val (.int ia), .val (.int ib), .val (.int ic)] [(.ref ba)])) rfl (by rw [hml]; rfl) (Steps.refl _) (a := ba) (argsL := []) (rest := []) (lenOf pd0 rfl) rfl (by show 2 * 0 + _ ≤ _; exact Nat.le_of_eq rfl) (hb hby d1_1) (fun _ _ => ⟨rfl, e0, (by decide : 0 + 0 ≤ _), (by decide : 0 + 0 ≤ _)⟩)
  dsimp only [Pt.U, Pt.locs, Pt.cells, Pt.slots] at X2 l2 y2 z2 st2 hQ2
  subst l2 y2 z2
  obtain ⟨rfl, Nq2, hh2⟩ := hQ2
  have N3 := Fr.app N0 Nq2
  refine Go.via (T' := T2) (f' := (mkF m 4 #[.val (.ref ba), .val (.ref bb), .val (.int ia), .val (.int ib), .val (.int ic)] [])) st2 ?_
  refine Go.step (T' := T2) (f' := (mkF m 5 #[.val (.ref ba), .val (.ref bb), .val (.int ia), .val (.int ib), .val (.int ic)] [(.ref ba)])) (fun t k => XS.aloadN X2.here hx rfl (hb hby d1_4) rfl rfl k) ?_
  refine Go.step (T' := T2) (f' := (mkF m 6 #[.val (.ref ba), .val (.ref bb), .val (.int ia), .val (.int ib), .val (.int ic)] [(.ref bb), (.ref ba)])) (fun t k => XS.aloadN X2.here hx rfl (hb hby d1_5) rfl rfl k) ?_
  obtain ⟨T4, h4, X4, e4, W4, st4⟩ := putF X2 hx hZ hown (host := "") (Or.inl (hw _ (List.mem_of_getElem? (i := 15) rfl))) Via.refl hh2 P1 P0 (Or.inr ⟨(hw _ (List.mem_of_getElem? (i := 16) rfl)), rfl, hnm⟩) (hw _ (List.mem_of_getElem? (i := 2) rfl)) (ty := (.array .byte)) (by decide) rfl rfl (g := (mkF m 6 #[.val (.ref ba), .val (.ref bb), .val (.int ia), .val (.int ib), .val (.int ic)] [(.ref bb), (.ref ba)])) rfl rfl (hb hby d1_6)
  have f5 := P1.same W4
  have f6 := P0.wr W4
  have f7 := P2.other W4 (Or.inr (slot_ne (Or.inr (hw _ (List.mem_of_getElem? (i := 18) rfl))) (Or.inr (hw _ (List.mem_of_getElem? (i := 16) rfl))) (by decide) (t := .int) (t' := (.array .byte)) (by decide) (by decide)))
  have f8 := P3.other W4 (Or.inr (slot_ne (Or.inr (hw _ (List.mem_of_getElem? (i := 20) rfl))) (Or.inr (hw _ (List.mem_of_getElem? (i := 16) rfl))) (by decide) (t := .int) (t' := (.array .byte)) (by decide) (by decide)))
  have f9 := P4.other W4 (Or.inr (slot_ne (Or.inr (hw _ (List.mem_of_getElem? (i := 22) rfl))) (Or.inr (hw _ (List.mem_of_getElem? (i := 16) rfl))) (by decide) (t := .boolean) (t' := (.array .byte)) (by decide) (by decide)))
  have O10 := O0.wr W4 P5
  have K11 := K0.wr W4 (Or.inl (List.mem_of_getElem? (i := 0) rfl))
  have N12 := Fr.snoc X4 N3 P5
  refine Go.step (T' := T4) (f' := (mkF m 9 #[.val (.ref ba), .val (.ref bb), .val (.int ia), .val (.int ib), .val (.int ic)] [])) st4 ?_
  refine Go.step (T' := T4) (f' := (mkF m 10 #[.val (.ref ba), .val (.ref bb), .val (.int ia), .val (.int ib), .val (.int ic)] [(.ref ba)])) (fun t k => XS.aloadN X4.here hx rfl (hb hby d1_9) rfl rfl k) ?_
  refine Go.step (T' := T4) (f' := (mkF m 11 #[.val (.ref ba), .val (.ref bb), .val (.int ia), .val (.int ib), .val (.int ic)] [(.int ia), (.ref ba)])) (fun t k => XS.iloadN X4.here hx rfl (hb hby d1_10) rfl k) ?_
  obtain ⟨T13, h13, X13, e13, W13, st13⟩ := putF X4 hx hZ hown (host := "") (Or.inl (hw _ (List.mem_of_getElem? (i := 17) rfl))) Via.refl e4 f7 f6 (Or.inr ⟨(hw _ (List.mem_of_getElem? (i := 18) rfl)), rfl, hnm⟩) (hw _ (List.mem_of_getElem? (i := 2) rfl)) (ty := .int) (by decide) rfl rfl (g := (mkF m 11 #[.val (.ref ba), .val (.ref bb), .val (.int ia), .val (.int ib), .val (.int ic)] [(.int ia), (.ref ba)])) rfl rfl (hb hby d1_11)
  have f14 := f7.same W13
  have f15 := f6.wr W13
  have f16 := f8.other W13 (Or.inr (slot_ne (Or.inr (hw _ (List.mem_of_getElem? (i := 20) rfl))) (Or.inr (hw _ (List.mem_of_getElem? (i := 18) rfl))) (by decide) (t := .int) (t' := .int) (by decide) (by decide)))
  have f17 := f9.other W13 (Or.inr (slot_ne (Or.inr (hw _ (List.mem_of_getElem? (i := 22) rfl))) (Or.inr (hw _ (List.mem_of_getElem? (i := 18) rfl))) (by decide) (t := .boolean) (t' := .int) (by decide) (by decide)))
  have f18 := f5.other W13 (Or.inr (slot_ne (Or.inr (hw _ (List.mem_of_getElem? (i := 16) rfl))) (Or.inr (hw _ (List.mem_of_getElem? (i := 18) rfl))) (by decide) (t := (.array .byte)) (t' := .int) (by decide) (by decide)))
  have O19 := O10.wr W13 P5
  have K20 := K11.wr W13 (Or.inl (List.mem_of_getElem? (i := 0) rfl))
  have N21 := Fr.snoc X13 N12 P5
  refine Go.step (T' := T13) (f' := (mkF m 14 #[.val (.ref ba), .val (.ref bb), .val (.int ia), .val (.int ib), .val (.int ic)] [])) st13 ?_
  refine Go.step (T' := T13) (f' := (mkF m 15 #[.val (.ref ba), .val (.ref bb), .val (.int ia), .val (.int ib), .val (.int ic)] [(.ref ba)])) (fun t k => XS.aloadN X13.here hx rfl (hb hby d1_14) rfl rfl k) ?_
  refine Go.step (T' := T13) (f' := (mkF m 16 #[.val (.ref ba), .val (.ref bb), .val (.int ia), .val (.int ib), .val (.int ic)] [(.int ib), (.ref ba)])) (fun t k => XS.iloadN X13.here hx rfl (hb hby d1_15) rfl k) ?_
  obtain ⟨T22, h22, X22, e22, W22, st22⟩ := putF X13 hx hZ hown (host := "") (Or.inl (hw _ (List.mem_of_getElem? (i := 19) rfl))) Via.refl e13 f16 f15 (Or.inr ⟨(hw _ (List.mem_of_getElem? (i := 20) rfl)), rfl, hnm⟩) (hw _ (List.mem_of_getElem? (i := 2) rfl)) (ty := .int) (by decide) rfl rfl (g := (mkF m 16 #[.val (.ref ba), .val (.ref bb), .val (.int ia), .val (.int ib), .val (.int ic)] [(.int ib), (.ref ba)])) rfl rfl (hb hby d1_16)
  have f23 := f16.same W22
  have f24 := f15.wr W22
  have f25 := f17.other W22 (Or.inr (slot_ne (Or.inr (hw _ (List.mem_of_getElem? (i := 22) rfl))) (Or.inr (hw _ (List.mem_of_getElem? (i := 20) rfl))) (by decide) (t := .boolean) (t' := .int) (by decide) (by decide)))
  have f26 := f18.other W22 (Or.inr (slot_ne (Or.inr (hw _ (List.mem_of_getElem? (i := 16) rfl))) (Or.inr (hw _ (List.mem_of_getElem? (i := 20) rfl))) (by decide) (t := (.array .byte)) (t' := .int) (by decide) (by decide)))
  have f27 := f14.other W22 (Or.inr (slot_ne (Or.inr (hw _ (List.mem_of_getElem? (i := 18) rfl))) (Or.inr (hw _ (List.mem_of_getElem? (i := 20) rfl))) (by decide) (t := .int) (t' := .int) (by decide) (by decide)))
  have O28 := O19.wr W22 P5
  have K29 := K20.wr W22 (Or.inl (List.mem_of_getElem? (i := 0) rfl))
  have N30 := Fr.snoc X22 N21 P5
  refine Go.step (T' := T22) (f' := (mkF m 19 #[.val (.ref ba), .val (.ref bb), .val (.int ia), .val (.int ib), .val (.int ic)] [])) st22 ?_
  refine Go.step (T' := T22) (f' := (mkF m 20 #[.val (.ref ba), .val (.ref bb), .val (.int ia), .val (.int ib), .val (.int ic)] [(.ref ba)])) (fun t k => XS.aloadN X22.here hx rfl (hb hby d1_19) rfl rfl k) ?_
  refine Go.step (T' := T22) (f' := (mkF m 22 #[.val (.ref ba), .val (.ref bb), .val (.int ia), .val (.int ib), .val (.int ic)] [(.int ic), (.ref ba)])) (fun t k => XS.iload X22.here hx rfl (hb hby d1_20) rfl k) ?_
  obtain ⟨T31, h31, X31, e31, W31, st31⟩ := putFN X22 hx hZ hown (hw _ (List.mem_of_getElem? (i := 21) rfl)) Via.refl e22 f25 f24 (Or.inr ⟨(hw _ (List.mem_of_getElem? (i := 22) rfl)), rfl, hnm⟩) (hw _ (List.mem_of_getElem? (i := 2) rfl)) (ty := .boolean) (v' := (.int (nar .boolean ic))) (by decide) rfl (fits_nar_bool _) (g := (mkF m 22 #[.val (.ref ba), .val (.ref bb), .val (.int ia), .val (.int ib), .val (.int ic)] [(.int ic), (.ref ba)])) rfl rfl (hb hby d1_22)
  have f32 := f25.same W31
  have f33 := f24.wr W31
  have f34 := f26.other W31 (Or.inr (slot_ne (Or.inr (hw _ (List.mem_of_getElem? (i := 16) rfl))) (Or.inr (hw _ (List.mem_of_getElem? (i := 22) rfl))) (by decide) (t := (.array .byte)) (t' := .boolean) (by decide) (by decide)))
  have f35 := f27.other W31 (Or.inr (slot_ne (Or.inr (hw _ (List.mem_of_getElem? (i := 18) rfl))) (Or.inr (hw _ (List.mem_of_getElem? (i := 22) rfl))) (by decide) (t := .int) (t' := .boolean) (by decide) (by decide)))
  have f36 := f23.other W31 (Or.inr (slot_ne (Or.inr (hw _ (List.mem_of_getElem? (i := 20) rfl))) (Or.inr (hw _ (List.mem_of_getElem? (i := 22) rfl))) (by decide) (t := .int) (t' := .boolean) (by decide) (by decide)))
  have O37 := O28.wr W31 P5
  have K38 := K29.wr W31 (Or.inl (List.mem_of_getElem? (i := 0) rfl))
  have N39 := Fr.snoc X31 N30 P5
  refine Go.step (T' := T31) (f' := (mkF m 25 #[.val (.ref ba), .val (.ref bb), .val (.int ia), .val (.int ib), .val (.int ic)] [])) st31 ?_
  refine Go.retV X31 hx hlk Bd.returns (hb hby d1_25) e31 ?_ (by decide) (by decide)
  exact ⟨rfl, N39, K38, f33, f35, f36⟩
theorem d4_0 : decode prog_42_method_2_code 0 = .ok (.aload_n 0, 1) := by decide +kernel
theorem d4_1 : decode prog_42_method_2_code 1 = .ok (.getfield 13, 3) := by decide +kernel
theorem d4_4 : decode prog_42_method_2_code 4 = .ok (.aload_n 0, 1) := by decide +kernel
theorem d4_5 : decode prog_42_method_2_code 5 = .ok (.getfield 17, 3) := by decide +kernel
theorem d4_8 : decode prog_42_method_2_code 8 = .ok (.if_icmp .ne 7, 3) := by decide +kernel
theorem d4_11 : decode prog_42_method_2_code 11 = .ok (.iconst 1, 1) := by decide +kernel
theorem d4_12 : decode prog_42_method_2_code 12 = .ok (.goto 4, 3) := by decide +kernel
theorem d4_15 : decode prog_42_method_2_code 15 = .ok (.iconst 0, 1) := by decide +kernel
theorem d4_16 : decode prog_42_method_2_code 16 = .ok (.ireturn, 1) := by decide +kernel
theorem ef_emp (m : MethodId) (ba : Addr) : entryFrame m #[(.ref ba)] 1 = mkF m 0 #[.val (.ref ba)] [] := by first | (simp [entryFrame, mkF, argsToLocals, Value.category]; done) | rfl
def Q_emp (Z : State) (ba : Addr) (ia : Int32) (ib : Int32) (h0 : Heap) (n0 : Nat) (v : Option Value) (h : Heap) (L : List Loc) : Prop := v = some (.int (if ia = ib then (1 : Int32) else 0)) ∧ Fr n0 L ∧ h = h0
set_option maxRecDepth 65536 in
set_option maxHeartbeats 40000000 in
theorem rm_emp (l : Launch) (Z : State) (a0 : Array Value) (hw : ∀ d ∈ tables_1, d.before a0 Z = true) (ws : List Jvm.Cond) (ba : Addr) (ia : Int32) (ib : Int32) (h0 : Heap) (n0 : Nat) (O0 : Old Z n0 h0) (P0 : Fld Z h0 ba "com/example/tenorbook/tenorbook/formats/FileLines$Line" "from" "I" (.int ia)) (P1 : Fld Z h0 ba "com/example/tenorbook/tenorbook/formats/FileLines$Line" "to" "I" (.int ib)) :
    MetFree l (⟨"com/example/tenorbook/tenorbook/formats/FileLines$Line", "isEmpty", "()Z"⟩ : MethodName) (head1 (Jvm.Cond.code (⟨"com/example/tenorbook/tenorbook/formats/FileLines$Line", "isEmpty", "()Z"⟩ : MethodName) prog_42_method_2_code 1 (some .boolean) :: ws) ({ frames := 0, cells := 0, slots := 0, locals := 0 } : Room)) (fun a U => a = #[(.ref ba)] ∧ Z.Warmed39 U.vm ∧ U.heap = h0) (fun _ _ _ _ _ => True) (fun _ U o U' => ∃ v L, o = .returned v ∧ Q_emp Z ba ia ib h0 n0 v U'.heap L ∧ FrameEnd U o U' L ({ frames := 0, cells := 0, slots := 0, locals := 0 } : Room).cells ({ frames := 0, cells := 0, slots := 0, locals := 0 } : Room).slots) := by
  refine MetFree.of_bodySF (plainFor_of_name pn_com_example_tenorbook_tenorbook_formats_FileLines_Line) hisR ?_
  intro p e s m args below meth c s₁ Bd hml0 hP hK
  obtain ⟨rfl, hZ, hh⟩ := hP
  have hx := Bd.exec
  have hby := Bd.bytes
  have hml : c.maxLocals = 1 := hml0
  have hown : s.vm.findClass "com/example/tenorbook/tenorbook/formats/FileLines$Line" = some m.cls := findClass_of_methodNamed Bd.named
  have hnm := (name_of_methodNamed Bd.named Bd.method).1
  have hlk : meth.locks = false := BodyLoose.notSynchronized Bd
  have X0 : Stand p l e ({ frames := 0, cells := 0, slots := 0, locals := 0 } : Room) s m #[(.ref ba)] below meth c s₁ [] 0 0 := Stand.of_body Bd
  have e0 : s₁.heap = h0 := by rw [← hh, Bd.state]; rfl
  have N0 := Fr.nil n0
  rw [ef_emp m ba]
  show Go p e below s (fun v h L => Q_emp Z ba ia ib h0 n0 v h L) ({ frames := 0, cells := 0, slots := 0, locals := 0 } : Room).cells ({ frames := 0, cells := 0, slots := 0, locals := 0 } : Room).slots s₁ (mkF m 0 #[.val (.ref ba)] [])
  refine Go.step (T' := s₁) (f' := (mkF m 1 #[.val (.ref ba)] [(.ref ba)])) (fun t k => XS.aloadN X0.here hx rfl (hb hby d4_0) rfl rfl k) ?_
  obtain ⟨T40, X40, e40, st40⟩ := getF X0 hx hZ hown (host := "") (Or.inl (hw _ (List.mem_of_getElem? (i := 17) rfl))) Via.refl e0 P0 (g := (mkF m 1 #[.val (.ref ba)] [(.ref ba)])) rfl rfl (hb hby d4_1)
  refine Go.step (T' := T40) (f' := (mkF m 4 #[.val (.ref ba)] [(.int ia)])) st40 ?_
  refine Go.step (T' := T40) (f' := (mkF m 5 #[.val (.ref ba)] [(.ref ba), (.int ia)])) (fun t k => XS.aloadN X40.here hx rfl (hb hby d4_4) rfl rfl k) ?_
  obtain ⟨T41, X41, e41, st41⟩ := getF X40 hx hZ hown (host := "") (Or.inl (hw _ (List.mem_of_getElem? (i := 19) rfl))) Via.refl e40 P1 (g := (mkF m 5 #[.val (.ref ba)] [(.ref ba), (.int ia)])) rfl rfl (hb hby d4_5)
  refine Go.step (T' := T41) (f' := (mkF m 8 #[.val (.ref ba)] [(.int ib), (.int ia)])) st41 ?_
  by_cases hc42 : ia = ib
  ·
    refine Go.step (T' := T41) (f' := (mkF m 11 #[.val (.ref ba)] [])) (fun t k => XS.icmpNo X41.here hx rfl (hb hby d4_8) rfl (teq hc42).2 k) ?_
    refine Go.step (T' := T41) (f' := (mkF m 12 #[.val (.ref ba)] [(.int (1 : Int32))])) (fun t k => XS.iconst X41.here hx rfl (hb hby d4_11) k) ?_
    refine Go.step (T' := T41) (f' := (mkF m 16 #[.val (.ref ba)] [(.int (1 : Int32))])) (fun t k => XS.goto X41.here hx rfl (pc0 := 12) (pc' := 16) rfl (hb hby d4_12) (by decide) (by decide) k) ?_
    refine Go.retZ X41 hx hlk (t := .boolean) Bd.returns (by simp) (hb hby d4_16) e41 ?_ (by decide) (by decide)
    exact ⟨by simp_all [nar], N0, rfl⟩
  ·
    refine Go.step (T' := T41) (f' := (mkF m 15 #[.val (.ref ba)] [])) (fun t k => XS.icmpYes X41.here hx rfl (pc0 := 8) (pc' := 15) rfl (hb hby d4_8) rfl (feq hc42).2 (by decide) (by decide) k) ?_
    refine Go.step (T' := T41) (f' := (mkF m 16 #[.val (.ref ba)] [(.int (0 : Int32))])) (fun t k => XS.iconst X41.here hx rfl (hb hby d4_15) k) ?_
    refine Go.retZ X41 hx hlk (t := .boolean) Bd.returns (by simp) (hb hby d4_16) e41 ?_ (by decide) (by decide)
    exact ⟨by simp_all [nar], N0, rfl⟩
theorem pn_com_example_tenorbook_tenorbook_formats_LineIsEmptyPinLaw : plainName "com/example/tenorbook/tenorbook/formats/LineIsEmptyPinLaw" = true := by first | (simp [plainName, overriddenIn]; done) | decide +kernel
theorem pd1 : parseMethodDescriptor "([BIIZ)V" = some ⟨[(.array .byte), .int, .int, .boolean], none⟩ := by decide +kernel
theorem pd2 : parseMethodDescriptor "()Z" = some ⟨[], some .boolean⟩ := by decide +kernel
theorem ef_law (m : MethodId) (ia : Int32) (ib : Int32) (ic : Int32) (ie : Int32) : entryFrame m #[(.int ia), (.int ib), (.int ic), (.int ie)] maxLocals = mkF m 0 #[.val (.int ia), .val (.int ib), .val (.int ic), .val (.int ie), .unset, .unset, .unset, .unset, .unset, .unset] [] := by first | (simp [entryFrame, mkF, argsToLocals, Value.category, maxLocals]; done) | rfl
def Q_law (Z : State) (ia : Int32) (ib : Int32) (ic : Int32) (ie : Int32) (h0 : Heap) (n0 : Nat) (v : Option Value) (h : Heap) (L : List Loc) : Prop := v = some (.int (1 : Int32)) ∧ Fr n0 L ∧ Keep h0 h []
set_option maxRecDepth 65536 in
set_option maxHeartbeats 40000000 in
theorem rm_law (l : Launch) (Z : State) (a0 : Array Value) (hw : ∀ d ∈ tables_1, d.before a0 Z = true) (ws : List Jvm.Cond) (ia : Int32) (ib : Int32) (ic : Int32) (ie : Int32) (h0 : Heap) (n0 : Nat) (O0 : Old Z n0 h0) :
    MetFree l x (head1 (Jvm.Cond.code x code maxLocals ret :: ws) room_1) (fun a U => a = #[(.int ia), (.int ib), (.int ic), (.int ie)] ∧ Z.Warmed39 U.vm ∧ U.heap = h0) (fun _ _ _ _ _ => True) (fun _ U o U' => ∃ v L, o = .returned v ∧ Q_law Z ia ib ic ie h0 n0 v U'.heap L ∧ FrameEnd U o U' L room_1.cells room_1.slots) := by
  refine MetFree.of_bodySF (plainFor_of_name pn_com_example_tenorbook_tenorbook_formats_LineIsEmptyPinLaw) hisR ?_
  intro p e s m args below meth c s₁ Bd hml0 hP hK
  obtain ⟨rfl, hZ, hh⟩ := hP
  have hx := Bd.exec
  have hby := Bd.bytes
  have hml : c.maxLocals = 10 := hml0
  have hown : s.vm.findClass "com/example/tenorbook/tenorbook/formats/LineIsEmptyPinLaw" = some m.cls := findClass_of_methodNamed Bd.named
  have hnm := (name_of_methodNamed Bd.named Bd.method).1
  have hlk : meth.locks = false := BodyLoose.notSynchronized Bd
  have X0 : Stand p l e room_1 s m #[(.int ia), (.int ib), (.int ic), (.int ie)] below meth c s₁ [] 0 0 := Stand.of_body Bd
  have e0 : s₁.heap = h0 := by rw [← hh, Bd.state]; rfl
  have N0 := Fr.nil n0
  have K0 := Keep.refl h0 []
  rw [ef_law m ia ib ic ie]
  show Go p e below s (fun v h L => Q_law Z ia ib ic ie h0 n0 v h L) room_1.cells room_1.slots s₁ (mkF m 0 #[.val (.int ia), .val (.int ib), .val (.int ic), .val (.int ie), .unset, .unset, .unset, .unset, .unset, .unset] [])
  refine Go.step (T' := s₁) (f' := (mkF m 1 #[.val (.int ia), .val (.int ib), .val (.int ic), .val (.int ie), .unset, .unset, .unset, .unset, .unset, .unset] [(.int ie)])) (fun t k => XS.iloadN X0.here hx rfl (hb hby at_0) rfl k) ?_
  refine Go.step (T' := s₁) (f' := (mkF m 2 #[.val (.int ia), .val (.int ib), .val (.int ic), .val (.int ie), .unset, .unset, .unset, .unset, .unset, .unset] [(.int (1 : Int32)), (.int ie)])) (fun t k => XS.iconst X0.here hx rfl (hb hby at_1) k) ?_
  refine Go.step (T' := s₁) (f' := (mkF m 3 #[.val (.int ia), .val (.int ib), .val (.int ic), .val (.int ie), .unset, .unset, .unset, .unset, .unset, .unset] [(.int (ie &&& (1 : Int32)))])) (fun t k => XS.iand X0.here hx rfl (hb hby at_2) rfl k) ?_
  have Kc43 : ∀ (zt : Int32), True → Go p e below s (fun v h L => Q_law Z ia ib ic ie h0 n0 v h L) room_1.cells room_1.slots s₁ (mkF m 11 #[.val (.int ia), .val (.int ib), .val (.int ic), .val (.int ie), .unset, .unset, .unset, .unset, .unset, .unset] [(.int zt)]) := by
    intro zt hm44
    refine Go.step (T' := s₁) (f' := (mkF m 13 #[.val (.int ia), .val (.int ib), .val (.int ic), .val (.int ie), .val (.int zt), .unset, .unset, .unset, .unset, .unset] [])) (fun t k => XS.istore X0.here hx rfl (hb hby at_11) rfl (l' := #[.val (.int ia), .val (.int ib), .val (.int ic), .val (.int ie), .val (.int zt), .unset, .unset, .unset, .unset, .unset]) rfl k) ?_
    refine Go.step (T' := s₁) (f' := (mkF m 14 #[.val (.int ia), .val (.int ib), .val (.int ic), .val (.int ie), .val (.int zt), .unset, .unset, .unset, .unset, .unset] [(.int ie)])) (fun t k => XS.iloadN X0.here hx rfl (hb hby at_13) rfl k) ?_
    refine Go.step (T' := s₁) (f' := (mkF m 15 #[.val (.int ia), .val (.int ib), .val (.int ic), .val (.int ie), .val (.int zt), .unset, .unset, .unset, .unset, .unset] [(.int (2 : Int32)), (.int ie)])) (fun t k => XS.iconst X0.here hx rfl (hb hby at_14) k) ?_
    refine Go.step (T' := s₁) (f' := (mkF m 16 #[.val (.int ia), .val (.int ib), .val (.int ic), .val (.int ie), .val (.int zt), .unset, .unset, .unset, .unset, .unset] [(.int (ie &&& (2 : Int32)))])) (fun t k => XS.iand X0.here hx rfl (hb hby at_15) rfl k) ?_
    have Kc45 : ∀ (zu : Int32), True → Go p e below s (fun v h L => Q_law Z ia ib ic ie h0 n0 v h L) room_1.cells room_1.slots s₁ (mkF m 24 #[.val (.int ia), .val (.int ib), .val (.int ic), .val (.int ie), .val (.int zt), .unset, .unset, .unset, .unset, .unset] [(.int zu)]) := by
      intro zu hm46
      refine Go.step (T' := s₁) (f' := (mkF m 26 #[.val (.int ia), .val (.int ib), .val (.int ic), .val (.int ie), .val (.int zt), .val (.int zu), .unset, .unset, .unset, .unset] [])) (fun t k => XS.istore X0.here hx rfl (hb hby at_24) rfl (l' := #[.val (.int ia), .val (.int ib), .val (.int ic), .val (.int ie), .val (.int zt), .val (.int zu), .unset, .unset, .unset, .unset]) rfl k) ?_
      refine Go.step (T' := s₁) (f' := (mkF m 27 #[.val (.int ia), .val (.int ib), .val (.int ic), .val (.int ie), .val (.int zt), .val (.int zu), .unset, .unset, .unset, .unset] [(.int ic)])) (fun t k => XS.iloadN X0.here hx rfl (hb hby at_26) rfl k) ?_
      refine Go.step (T' := s₁) (f' := (mkF m 29 #[.val (.int ia), .val (.int ib), .val (.int ic), .val (.int ie), .val (.int zt), .val (.int zu), .unset, .unset, .unset, .unset] [(.int (7 : Int32)), (.int ic)])) (fun t k => XS.bipush X0.here hx rfl (hb hby at_27) k) ?_
      refine Go.step (T' := s₁) (f' := (mkF m 30 #[.val (.int ia), .val (.int ib), .val (.int ic), .val (.int ie), .val (.int zt), .val (.int zu), .unset, .unset, .unset, .unset] [(.int (ic &&& (7 : Int32)))])) (fun t k => XS.iand X0.here hx rfl (hb hby at_29) rfl k) ?_
      obtain ⟨T47, h47, k47, X47, e47, E47, A47, Y47, st47⟩ := newPE X0 hx hZ (hw _ (List.mem_of_getElem? (i := 0) rfl)) e0 (g := (mkF m 30 #[.val (.int ia), .val (.int ib), .val (.int ic), .val (.int ie), .val (.int zt), .val (.int zu), .unset, .unset, .unset, .unset] [(.int (ic &&& (7 : Int32)))])) rfl (hb hby at_30) rfl (own_neg ic) (cap := 7) (own_cap ic) (by decide) (by decide) (by decide) (ad := "[B") (by decide)
      obtain ⟨b47, g47⟩ : ∃ z, z = h0.size := ⟨_, rfl⟩
      rw [← g47] at A47 Y47 st47
      have g48 : n0 ≤ b47 := Nat.le_trans (own_old_le O0) (Nat.le_of_eq g47.symm)
      have g49 : h0.size ≤ b47 := Nat.le_trans K0.1 (Nat.le_of_eq g47.symm)
      have O50 := O0.ext E47
      have K51 := K0.ext E47
      have f52 : Arv Z h47 b47 k47 .byte (ic &&& (7 : Int32)) [] (.int (0 : Int32)) := Arv.new A47 (own_neg ic)
      refine Go.step (T' := T47) (f' := (mkF m 32 #[.val (.int ia), .val (.int ib), .val (.int ic), .val (.int ie), .val (.int zt), .val (.int zu), .unset, .unset, .unset, .unset] [(.ref b47)])) st47 ?_
      refine Go.step (T' := T47) (f' := (mkF m 34 #[.val (.int ia), .val (.int ib), .val (.int ic), .val (.int ie), .val (.int zt), .val (.int zu), .val (.ref b47), .unset, .unset, .unset] [])) (fun t k => XS.astore X47.here hx rfl (hb hby at_32) rfl rfl (l' := #[.val (.int ia), .val (.int ib), .val (.int ic), .val (.int ie), .val (.int zt), .val (.int zu), .val (.ref b47), .unset, .unset, .unset]) rfl k) ?_
      obtain ⟨T53, h53, X53, e53, E53, A53, D53, -, st53⟩ := newO X47 hx hZ hown (hw _ (List.mem_of_getElem? (i := 1) rfl)) (hw _ (List.mem_of_getElem? (i := 2) rfl)) (hw _ (List.mem_of_getElem? (i := 3) rfl)) e47 (g := (mkF m 34 #[.val (.int ia), .val (.int ib), .val (.int ic), .val (.int ie), .val (.int zt), .val (.int zu), .val (.ref b47), .unset, .unset, .unset] [])) rfl (hb hby at_34) (by decide) (by decide)
      obtain ⟨b53, g53⟩ : ∃ z, z = h47.size := ⟨_, rfl⟩
      rw [← g53] at A53 D53 st53
      have g54 : n0 ≤ b53 := Nat.le_trans (own_old_le O50) (Nat.le_of_eq g53.symm)
      have g55 : h0.size ≤ b53 := Nat.le_trans K51.1 (Nat.le_of_eq g53.symm)
      have ne56 : b47 ≠ b53 := Nat.ne_of_lt (Nat.lt_of_lt_of_le Y47.lt (Nat.le_of_eq g53.symm))
      have f57 := Y47.ext E53
      have f58 := f52.ext E53
      have O59 := O50.ext E53
      have K60 := K51.ext E53
      have f61 : Fld Z h53 b53 "com/example/tenorbook/tenorbook/formats/FileLines$Line" "bytes" "[B" .null := D53 (Or.inr (hw _ (List.mem_of_getElem? (i := 16) rfl))) (ty := (.array .byte)) (by decide)
      have f62 : Fld Z h53 b53 "com/example/tenorbook/tenorbook/formats/FileLines$Line" "from" "I" (.int (0 : Int32)) := D53 (Or.inr (hw _ (List.mem_of_getElem? (i := 18) rfl))) (ty := .int) (by decide)
      have f63 : Fld Z h53 b53 "com/example/tenorbook/tenorbook/formats/FileLines$Line" "to" "I" (.int (0 : Int32)) := D53 (Or.inr (hw _ (List.mem_of_getElem? (i := 20) rfl))) (ty := .int) (by decide)
      have f64 : Fld Z h53 b53 "com/example/tenorbook/tenorbook/formats/FileLines$Line" "tooLong" "Z" (.int (0 : Int32)) := D53 (Or.inr (hw _ (List.mem_of_getElem? (i := 22) rfl))) (ty := .boolean) (by decide)
      refine Go.step (T' := T53) (f' := (mkF m 37 #[.val (.int ia), .val (.int ib), .val (.int ic), .val (.int ie), .val (.int zt), .val (.int zu), .val (.ref b47), .unset, .unset, .unset] [(.ref b53)])) st53 ?_
      refine Go.step (T' := T53) (f' := (mkF m 38 #[.val (.int ia), .val (.int ib), .val (.int ic), .val (.int ie), .val (.int zt), .val (.int zu), .val (.ref b47), .unset, .unset, .unset] [(.ref b53), (.ref b53)])) (fun t k => XS.dup X53.here hx rfl (hb hby at_37) rfl rfl k) ?_
      refine Go.step (T' := T53) (f' := (mkF m 40 #[.val (.int ia), .val (.int ib), .val (.int ic), .val (.int ie), .val (.int zt), .val (.int zu), .val (.ref b47), .unset, .unset, .unset] [(.ref b47), (.ref b53), (.ref b53)])) (fun t k => XS.aload X53.here hx rfl (hb hby at_38) rfl rfl k) ?_
      refine Go.step (T' := T53) (f' := (mkF m 41 #[.val (.int ia), .val (.int ib), .val (.int ic), .val (.int ie), .val (.int zt), .val (.int zu), .val (.ref b47), .unset, .unset, .unset] [(.int ia), (.ref b47), (.ref b53), (.ref b53)])) (fun t k => XS.iloadN X53.here hx rfl (hb hby at_40) rfl k) ?_
      refine Go.step (T' := T53) (f' := (mkF m 43 #[.val (.int ia), .val (.int ib), .val (.int ic), .val (.int ie), .val (.int zt), .val (.int zu), .val (.ref b47), .unset, .unset, .unset] [(.int zu), (.int ia), (.ref b47), (.ref b53), (.ref b53)])) (fun t k => XS.iload X53.here hx rfl (hb hby at_41) rfl k) ?_
      refine Go.step (T' := T53) (f' := (mkF m 45 #[.val (.int ia), .val (.int ib), .val (.int ic), .val (.int ie), .val (.int zt), .val (.int zu), .val (.ref b47), .unset, .unset, .unset] [(.int zt), (.int zu), (.int ia), (.ref b47), (.ref b53), (.ref b53)])) (fun t k => XS.iload X53.here hx rfl (hb hby at_43) rfl k) ?_
      obtain ⟨_, _, ⟨T65, L65, k65, n65⟩, -, X65, ⟨Lc65, hQ65, l65, y65, z65⟩, st65⟩ := X53.specialBack hx (y := (⟨"com/example/tenorbook/tenorbook/formats/FileLines$Line", "<init>", "([BIIZ)V"⟩ : MethodName)) rfl hown (mvT hZ (hw _ (List.mem_of_getElem? (i := 4) rfl))) (mvT hZ (hw _ (List.mem_of_getElem? (i := 5) rfl))) (mvT hZ (hw _ (List.mem_of_getElem? (i := 6) rfl))) (by decide) (backOf (W := 1) (rm_init l Z a0 hw [] b53 b47 ia zu zt .null (.int (0 : Int32)) (.int (0 : Int32)) (.int (0 : Int32)) h53 n0 O59 A53 f61 f62 f63 f64 g54) hZ (hw _ (List.mem_of_getElem? (i := 6) rfl)) (hw _ (List.mem_of_getElem? (i := 3) rfl)) (by decide) (by decide)) (g := (mkF m 45 #[.val (.int ia), .val (.int ib), .val (.int ic), .val (.int ie), .val (.int zt), .val (.int zu), .val (.ref b47), .unset, .unset, .unset] [(.int zt), (.int zu), (.int ia), (.ref b47), (.ref b53), (.ref b53)])) rfl (by rw [hml]; rfl) (Steps.refl _) (a := b53) (argsL := [(.ref b47), (.int ia), (.int zu), (.int zt)]) (rest := [(.ref b53)]) (lenOf pd1 rfl) rfl (by show 2 * 0 + _ ≤ _; exact Nat.le_of_eq rfl) (hb hby at_45) (fun _ _ => ⟨rfl, e53, (by decide : 2 + 0 ≤ _), (by decide : 11 + 0 ≤ _)⟩)
      dsimp only [Pt.U, Pt.locs, Pt.cells, Pt.slots] at X65 l65 y65 z65 st65 hQ65
      subst l65 y65 z65
      obtain ⟨rfl, Nq65, hh65, p66, p67, p68⟩ := hQ65
      have N69 := Fr.app N0 Nq65
      have f70 := f57.keep hh65
      have f71 := f58.keep hh65 (ninS ne56 nin0)
      have f72 := A53.keep hh65
      have O73 := O59.keep hh65 (allS g54 all0)
      have K74 := K60.trans hh65 (allS (Or.inr g55) all0)
      refine Go.via (T' := T65) (f' := (mkF m 48 #[.val (.int ia), .val (.int ib), .val (.int ic), .val (.int ie), .val (.int zt), .val (.int zu), .val (.ref b47), .unset, .unset, .unset] [(.ref b53)])) st65 ?_
      refine Go.step (T' := T65) (f' := (mkF m 50 #[.val (.int ia), .val (.int ib), .val (.int ic), .val (.int ie), .val (.int zt), .val (.int zu), .val (.ref b47), .val (.ref b53), .unset, .unset] [])) (fun t k => XS.astore X65.here hx rfl (hb hby at_48) rfl rfl (l' := #[.val (.int ia), .val (.int ib), .val (.int ic), .val (.int ie), .val (.int zt), .val (.int zu), .val (.ref b47), .val (.ref b53), .unset, .unset]) rfl k) ?_
      obtain ⟨T75, h75, X75, e75, E75, A75, D75, -, st75⟩ := newO X65 hx hZ hown (hw _ (List.mem_of_getElem? (i := 1) rfl)) (hw _ (List.mem_of_getElem? (i := 2) rfl)) (hw _ (List.mem_of_getElem? (i := 3) rfl)) rfl (g := (mkF m 50 #[.val (.int ia), .val (.int ib), .val (.int ic), .val (.int ie), .val (.int zt), .val (.int zu), .val (.ref b47), .val (.ref b53), .unset, .unset] [])) rfl (hb hby at_50) (by decide) (by decide)
      obtain ⟨b75, g75⟩ : ∃ z, z = T65.heap.size := ⟨_, rfl⟩
      rw [← g75] at A75 D75 st75
      have g76 : n0 ≤ b75 := Nat.le_trans (own_old_le O73) (Nat.le_of_eq g75.symm)
      have g77 : h0.size ≤ b75 := Nat.le_trans K74.1 (Nat.le_of_eq g75.symm)
      have ne78 : b47 ≠ b75 := Nat.ne_of_lt (Nat.lt_of_lt_of_le f70.lt (Nat.le_of_eq g75.symm))
      have ne79 : b53 ≠ b75 := Nat.ne_of_lt (Nat.lt_of_lt_of_le p66.lt (Nat.le_of_eq g75.symm))
      have f80 := f70.ext E75
      have f81 := f71.ext E75
      have f82 := p66.ext E75
      have f83 := p67.ext E75
      have f84 := p68.ext E75
      have O85 := O73.ext E75
      have K86 := K74.ext E75
      have f87 : Fld Z h75 b75 "com/example/tenorbook/tenorbook/formats/FileLines$Line" "bytes" "[B" .null := D75 (Or.inr (hw _ (List.mem_of_getElem? (i := 16) rfl))) (ty := (.array .byte)) (by decide)
      have f88 : Fld Z h75 b75 "com/example/tenorbook/tenorbook/formats/FileLines$Line" "from" "I" (.int (0 : Int32)) := D75 (Or.inr (hw _ (List.mem_of_getElem? (i := 18) rfl))) (ty := .int) (by decide)
      have f89 : Fld Z h75 b75 "com/example/tenorbook/tenorbook/formats/FileLines$Line" "to" "I" (.int (0 : Int32)) := D75 (Or.inr (hw _ (List.mem_of_getElem? (i := 20) rfl))) (ty := .int) (by decide)
      have f90 : Fld Z h75 b75 "com/example/tenorbook/tenorbook/formats/FileLines$Line" "tooLong" "Z" (.int (0 : Int32)) := D75 (Or.inr (hw _ (List.mem_of_getElem? (i := 22) rfl))) (ty := .boolean) (by decide)
      refine Go.step (T' := T75) (f' := (mkF m 53 #[.val (.int ia), .val (.int ib), .val (.int ic), .val (.int ie), .val (.int zt), .val (.int zu), .val (.ref b47), .val (.ref b53), .unset, .unset] [(.ref b75)])) st75 ?_
      refine Go.step (T' := T75) (f' := (mkF m 54 #[.val (.int ia), .val (.int ib), .val (.int ic), .val (.int ie), .val (.int zt), .val (.int zu), .val (.ref b47), .val (.ref b53), .unset, .unset] [(.ref b75), (.ref b75)])) (fun t k => XS.dup X75.here hx rfl (hb hby at_53) rfl rfl k) ?_
      refine Go.step (T' := T75) (f' := (mkF m 56 #[.val (.int ia), .val (.int ib), .val (.int ic), .val (.int ie), .val (.int zt), .val (.int zu), .val (.ref b47), .val (.ref b53), .unset, .unset] [(.ref b47), (.ref b75), (.ref b75)])) (fun t k => XS.aload X75.here hx rfl (hb hby at_54) rfl rfl k) ?_
      refine Go.step (T' := T75) (f' := (mkF m 58 #[.val (.int ia), .val (.int ib), .val (.int ic), .val (.int ie), .val (.int zt), .val (.int zu), .val (.ref b47), .val (.ref b53), .unset, .unset] [(.int zu), (.ref b47), (.ref b75), (.ref b75)])) (fun t k => XS.iload X75.here hx rfl (hb hby at_56) rfl k) ?_
      refine Go.step (T' := T75) (f' := (mkF m 59 #[.val (.int ia), .val (.int ib), .val (.int ic), .val (.int ie), .val (.int zt), .val (.int zu), .val (.ref b47), .val (.ref b53), .unset, .unset] [(.int ia), (.int zu), (.ref b47), (.ref b75), (.ref b75)])) (fun t k => XS.iloadN X75.here hx rfl (hb hby at_58) rfl k) ?_
      refine Go.step (T' := T75) (f' := (mkF m 61 #[.val (.int ia), .val (.int ib), .val (.int ic), .val (.int ie), .val (.int zt), .val (.int zu), .val (.ref b47), .val (.ref b53), .unset, .unset] [(.int zt), (.int ia), (.int zu), (.ref b47), (.ref b75), (.ref b75)])) (fun t k => XS.iload X75.here hx rfl (hb hby at_59) rfl k) ?_
      obtain ⟨_, _, ⟨T91, L91, k91, n91⟩, -, X91, ⟨Lc91, hQ91, l91, y91, z91⟩, st91⟩ := X75.specialBack hx (y := (⟨"com/example/tenorbook/tenorbook/formats/FileLines$Line", "<init>", "([BIIZ)V"⟩ : MethodName)) rfl hown (mvT hZ (hw _ (List.mem_of_getElem? (i := 4) rfl))) (mvT hZ (hw _ (List.mem_of_getElem? (i := 5) rfl))) (mvT hZ (hw _ (List.mem_of_getElem? (i := 6) rfl))) (by decide) (backOf (W := 1) (rm_init l Z a0 hw [] b75 b47 zu ia zt .null (.int (0 : Int32)) (.int (0 : Int32)) (.int (0 : Int32)) h75 n0 O85 A75 f87 f88 f89 f90 g76) hZ (hw _ (List.mem_of_getElem? (i := 6) rfl)) (hw _ (List.mem_of_getElem? (i := 3) rfl)) (by decide) (by decide)) (g := (mkF m 61 #[.val (.int ia), .val (.int ib), .val (.int ic), .val (.int ie), .val (.int zt), .val (.int zu), .val (.ref b47), .val (.ref b53), .unset, .unset] [(.int zt), (.int ia), (.int zu), (.ref b47), (.ref b75), (.ref b75)])) rfl (by rw [hml]; rfl) (Steps.refl _) (a := b75) (argsL := [(.ref b47), (.int zu), (.int ia), (.int zt)]) (rest := [(.ref b75)]) (lenOf pd1 rfl) rfl (by show 2 * 0 + _ ≤ _; exact Nat.le_of_eq rfl) (hb hby at_61) (fun _ _ => ⟨rfl, e75, (by decide : 3 + 0 ≤ _), (by decide : 15 + 0 ≤ _)⟩)
      dsimp only [Pt.U, Pt.locs, Pt.cells, Pt.slots] at X91 l91 y91 z91 st91 hQ91
      subst l91 y91 z91
      obtain ⟨rfl, Nq91, hh91, p92, p93, p94⟩ := hQ91
      have N95 := Fr.app N69 Nq91
      have f96 := f80.keep hh91
      have f97 := f81.keep hh91 (ninS ne78 nin0)
      have f98 := f82.keep hh91
      have f99 := f83.keep hh91 (ninS ne79 nin0)
      have f100 := f84.keep hh91 (ninS ne79 nin0)
      have f101 := A75.keep hh91
      have O102 := O85.keep hh91 (allS g76 all0)
      have K103 := K86.trans hh91 (allS (Or.inr g77) all0)
      refine Go.via (T' := T91) (f' := (mkF m 64 #[.val (.int ia), .val (.int ib), .val (.int ic), .val (.int ie), .val (.int zt), .val (.int zu), .val (.ref b47), .val (.ref b53), .unset, .unset] [(.ref b75)])) st91 ?_
      refine Go.step (T' := T91) (f' := (mkF m 66 #[.val (.int ia), .val (.int ib), .val (.int ic), .val (.int ie), .val (.int zt), .val (.int zu), .val (.ref b47), .val (.ref b53), .val (.ref b75), .unset] [])) (fun t k => XS.astore X91.here hx rfl (hb hby at_64) rfl rfl (l' := #[.val (.int ia), .val (.int ib), .val (.int ic), .val (.int ie), .val (.int zt), .val (.int zu), .val (.ref b47), .val (.ref b53), .val (.ref b75), .unset]) rfl k) ?_
      refine Go.step (T' := T91) (f' := (mkF m 68 #[.val (.int ia), .val (.int ib), .val (.int ic), .val (.int ie), .val (.int zt), .val (.int zu), .val (.ref b47), .val (.ref b53), .val (.ref b75), .unset] [(.int zu)])) (fun t k => XS.iload X91.here hx rfl (hb hby at_66) rfl k) ?_
      refine Go.step (T' := T91) (f' := (mkF m 69 #[.val (.int ia), .val (.int ib), .val (.int ic), .val (.int ie), .val (.int zt), .val (.int zu), .val (.ref b47), .val (.ref b53), .val (.ref b75), .unset] [(.int ia), (.int zu)])) (fun t k => XS.iloadN X91.here hx rfl (hb hby at_68) rfl k) ?_
      refine Go.step (T' := T91) (f' := (mkF m 70 #[.val (.int ia), .val (.int ib), .val (.int ic), .val (.int ie), .val (.int zt), .val (.int zu), .val (.ref b47), .val (.ref b53), .val (.ref b75), .unset] [(.int (zu - ia))])) (fun t k => XS.isub X91.here hx rfl (hb hby at_69) rfl k) ?_
      by_cases hc104 : (zu - ia) = (0 : Int32)
      ·
        refine Go.step (T' := T91) (f' := (mkF m 73 #[.val (.int ia), .val (.int ib), .val (.int ic), .val (.int ie), .val (.int zt), .val (.int zu), .val (.ref b47), .val (.ref b53), .val (.ref b75), .unset] [])) (fun t k => XS.ifNo X91.here hx rfl (hb hby at_70) rfl ((if0 _ _).trans (teq hc104).2) k) ?_
        refine Go.step (T' := T91) (f' := (mkF m 74 #[.val (.int ia), .val (.int ib), .val (.int ic), .val (.int ie), .val (.int zt), .val (.int zu), .val (.ref b47), .val (.ref b53), .val (.ref b75), .unset] [(.int (1 : Int32))])) (fun t k => XS.iconst X91.here hx rfl (hb hby at_73) k) ?_
        refine Go.step (T' := T91) (f' := (mkF m 78 #[.val (.int ia), .val (.int ib), .val (.int ic), .val (.int ie), .val (.int zt), .val (.int zu), .val (.ref b47), .val (.ref b53), .val (.ref b75), .unset] [(.int (1 : Int32))])) (fun t k => XS.goto X91.here hx rfl (pc0 := 74) (pc' := 78) rfl (hb hby at_74) (by decide) (by decide) k) ?_
        refine Go.step (T' := T91) (f' := (mkF m 80 #[.val (.int ia), .val (.int ib), .val (.int ic), .val (.int ie), .val (.int zt), .val (.int zu), .val (.ref b47), .val (.ref b53), .val (.ref b75), .val (.int (1 : Int32))] [])) (fun t k => XS.istore X91.here hx rfl (hb hby at_78) rfl (l' := #[.val (.int ia), .val (.int ib), .val (.int ic), .val (.int ie), .val (.int zt), .val (.int zu), .val (.ref b47), .val (.ref b53), .val (.ref b75), .val (.int (1 : Int32))]) rfl k) ?_
        refine Go.step (T' := T91) (f' := (mkF m 82 #[.val (.int ia), .val (.int ib), .val (.int ic), .val (.int ie), .val (.int zt), .val (.int zu), .val (.ref b47), .val (.ref b53), .val (.ref b75), .val (.int (1 : Int32))] [(.ref b53)])) (fun t k => XS.aload X91.here hx rfl (hb hby at_80) rfl rfl k) ?_
        obtain ⟨cq105, kq105, q105a, q105b, q105c⟩ := isOf hZ rfl f98
        obtain ⟨_, _, ⟨T105, L105, k105, n105⟩, -, X105, ⟨Lc105, hQ105, l105, y105, z105⟩, st105⟩ := X91.virtualBack hx (y := (⟨"com/example/tenorbook/tenorbook/formats/FileLines$Line", "isEmpty", "()Z"⟩ : MethodName)) (z := (⟨"com/example/tenorbook/tenorbook/formats/FileLines$Line", "isEmpty", "()Z"⟩ : MethodName)) hown (mvT hZ (hw _ (List.mem_of_getElem? (i := 23) rfl))) (mvT hZ (hw _ (List.mem_of_getElem? (i := 24) rfl))) (notFace_of_selects (args := #[]) (mvT hZ (hw _ (List.mem_of_getElem? (i := 26) rfl)))) (mvT hZ (hw _ (List.mem_of_getElem? (i := 26) rfl))) (mvT hZ (hw _ (List.mem_of_getElem? (i := 25) rfl))) (by decide) (backOf (W := 0) (rm_emp l Z a0 hw [] b53 ia zu T91.heap n0 O102 f99 f100) hZ (hw _ (List.mem_of_getElem? (i := 27) rfl)) (hw _ (List.mem_of_getElem? (i := 3) rfl)) (by decide) (by decide)) q105a q105c (g := (mkF m 82 #[.val (.int ia), .val (.int ib), .val (.int ic), .val (.int ie), .val (.int zt), .val (.int zu), .val (.ref b47), .val (.ref b53), .val (.ref b75), .val (.int (1 : Int32))] [(.ref b53)])) rfl (by rw [hml]; rfl) (Steps.refl _) (argsL := []) (rest := []) (lenOf pd2 rfl) rfl (by show 2 * 0 + _ ≤ _; exact Nat.le_of_eq rfl) (hb hby at_82) (fun _ _ => ⟨rfl, rfl, (by decide : 3 + 0 ≤ _), (by decide : 15 + 0 ≤ _)⟩)
        dsimp only [Pt.U, Pt.locs, Pt.cells, Pt.slots] at X105 l105 y105 z105 st105 hQ105
        subst l105 y105 z105
        obtain ⟨rfl, Nq105, hh105⟩ := hQ105
        have N106 := Fr.app N95 Nq105
        refine Go.via (T' := T105) (f' := (mkF m 85 #[.val (.int ia), .val (.int ib), .val (.int ic), .val (.int ie), .val (.int zt), .val (.int zu), .val (.ref b47), .val (.ref b53), .val (.ref b75), .val (.int (1 : Int32))] [(.int (if ia = zu then (1 : Int32) else 0))])) st105 ?_
        refine Go.step (T' := T105) (f' := (mkF m 87 #[.val (.int ia), .val (.int ib), .val (.int ic), .val (.int ie), .val (.int zt), .val (.int zu), .val (.ref b47), .val (.ref b53), .val (.ref b75), .val (.int (1 : Int32))] [(.int (1 : Int32)), (.int (if ia = zu then (1 : Int32) else 0))])) (fun t k => XS.iload X105.here hx rfl (hb hby at_85) rfl k) ?_
        have hc107 : (if ia = zu then (1 : Int32) else 0) = (1 : Int32) := by
          exact own_f1 _ _ hc104
        refine Go.step (T' := T105) (f' := (mkF m 90 #[.val (.int ia), .val (.int ib), .val (.int ic), .val (.int ie), .val (.int zt), .val (.int zu), .val (.ref b47), .val (.ref b53), .val (.ref b75), .val (.int (1 : Int32))] [])) (fun t k => XS.icmpNo X105.here hx rfl (hb hby at_87) rfl (teq hc107).2 k) ?_
        refine Go.step (T' := T105) (f' := (mkF m 92 #[.val (.int ia), .val (.int ib), .val (.int ic), .val (.int ie), .val (.int zt), .val (.int zu), .val (.ref b47), .val (.ref b53), .val (.ref b75), .val (.int (1 : Int32))] [(.ref b75)])) (fun t k => XS.aload X105.here hx rfl (hb hby at_90) rfl rfl k) ?_
        obtain ⟨cq108, kq108, q108a, q108b, q108c⟩ := isOf hZ hh105 p92
        obtain ⟨_, _, ⟨T108, L108, k108, n108⟩, -, X108, ⟨Lc108, hQ108, l108, y108, z108⟩, st108⟩ := X105.virtualBack hx (y := (⟨"com/example/tenorbook/tenorbook/formats/FileLines$Line", "isEmpty", "()Z"⟩ : MethodName)) (z := (⟨"com/example/tenorbook/tenorbook/formats/FileLines$Line", "isEmpty", "()Z"⟩ : MethodName)) hown (mvT hZ (hw _ (List.mem_of_getElem? (i := 23) rfl))) (mvT hZ (hw _ (List.mem_of_getElem? (i := 24) rfl))) (notFace_of_selects (args := #[]) (mvT hZ (hw _ (List.mem_of_getElem? (i := 26) rfl)))) (mvT hZ (hw _ (List.mem_of_getElem? (i := 26) rfl))) (mvT hZ (hw _ (List.mem_of_getElem? (i := 25) rfl))) (by decide) (backOf (W := 0) (rm_emp l Z a0 hw [] b75 zu ia T91.heap n0 O102 p93 p94) hZ (hw _ (List.mem_of_getElem? (i := 27) rfl)) (hw _ (List.mem_of_getElem? (i := 3) rfl)) (by decide) (by decide)) q108a q108c (g := (mkF m 92 #[.val (.int ia), .val (.int ib), .val (.int ic), .val (.int ie), .val (.int zt), .val (.int zu), .val (.ref b47), .val (.ref b53), .val (.ref b75), .val (.int (1 : Int32))] [(.ref b75)])) rfl (by rw [hml]; rfl) (Steps.refl _) (argsL := []) (rest := []) (lenOf pd2 rfl) rfl (by show 2 * 0 + _ ≤ _; exact Nat.le_of_eq rfl) (hb hby at_92) (fun _ _ => ⟨rfl, hh105, (by decide : 3 + 0 ≤ _), (by decide : 15 + 0 ≤ _)⟩)
        dsimp only [Pt.U, Pt.locs, Pt.cells, Pt.slots] at X108 l108 y108 z108 st108 hQ108
        subst l108 y108 z108
        obtain ⟨rfl, Nq108, hh108⟩ := hQ108
        have N109 := Fr.app N106 Nq108
        refine Go.via (T' := T108) (f' := (mkF m 95 #[.val (.int ia), .val (.int ib), .val (.int ic), .val (.int ie), .val (.int zt), .val (.int zu), .val (.ref b47), .val (.ref b53), .val (.ref b75), .val (.int (1 : Int32))] [(.int (if zu = ia then (1 : Int32) else 0))])) st108 ?_
        refine Go.step (T' := T108) (f' := (mkF m 97 #[.val (.int ia), .val (.int ib), .val (.int ic), .val (.int ie), .val (.int zt), .val (.int zu), .val (.ref b47), .val (.ref b53), .val (.ref b75), .val (.int (1 : Int32))] [(.int (1 : Int32)), (.int (if zu = ia then (1 : Int32) else 0))])) (fun t k => XS.iload X108.here hx rfl (hb hby at_95) rfl k) ?_
        have hc110 : (if zu = ia then (1 : Int32) else 0) = (1 : Int32) := by
          exact own_s1 _ _ hc104
        refine Go.step (T' := T108) (f' := (mkF m 100 #[.val (.int ia), .val (.int ib), .val (.int ic), .val (.int ie), .val (.int zt), .val (.int zu), .val (.ref b47), .val (.ref b53), .val (.ref b75), .val (.int (1 : Int32))] [])) (fun t k => XS.icmpNo X108.here hx rfl (hb hby at_97) rfl (teq hc110).2 k) ?_
        refine Go.step (T' := T108) (f' := (mkF m 101 #[.val (.int ia), .val (.int ib), .val (.int ic), .val (.int ie), .val (.int zt), .val (.int zu), .val (.ref b47), .val (.ref b53), .val (.ref b75), .val (.int (1 : Int32))] [(.int (1 : Int32))])) (fun t k => XS.iconst X108.here hx rfl (hb hby at_100) k) ?_
        refine Go.step (T' := T108) (f' := (mkF m 105 #[.val (.int ia), .val (.int ib), .val (.int ic), .val (.int ie), .val (.int zt), .val (.int zu), .val (.ref b47), .val (.ref b53), .val (.ref b75), .val (.int (1 : Int32))] [(.int (1 : Int32))])) (fun t k => XS.goto X108.here hx rfl (pc0 := 101) (pc' := 105) rfl (hb hby at_101) (by decide) (by decide) k) ?_
        refine Go.retZ X108 hx hlk (t := .boolean) Bd.returns (by simp) (hb hby at_105) hh108 ?_ (by decide) (by decide)
        exact ⟨rfl, N109, K103⟩
      ·
        refine Go.step (T' := T91) (f' := (mkF m 77 #[.val (.int ia), .val (.int ib), .val (.int ic), .val (.int ie), .val (.int zt), .val (.int zu), .val (.ref b47), .val (.ref b53), .val (.ref b75), .unset] [])) (fun t k => XS.ifYes X91.here hx rfl (pc0 := 70) (pc' := 77) rfl (hb hby at_70) rfl ((if0 _ _).trans (feq hc104).2) (by decide) (by decide) k) ?_
        refine Go.step (T' := T91) (f' := (mkF m 78 #[.val (.int ia), .val (.int ib), .val (.int ic), .val (.int ie), .val (.int zt), .val (.int zu), .val (.ref b47), .val (.ref b53), .val (.ref b75), .unset] [(.int (0 : Int32))])) (fun t k => XS.iconst X91.here hx rfl (hb hby at_77) k) ?_
        refine Go.step (T' := T91) (f' := (mkF m 80 #[.val (.int ia), .val (.int ib), .val (.int ic), .val (.int ie), .val (.int zt), .val (.int zu), .val (.ref b47), .val (.ref b53), .val (.ref b75), .val (.int (0 : Int32))] [])) (fun t k => XS.istore X91.here hx rfl (hb hby at_78) rfl (l' := #[.val (.int ia), .val (.int ib), .val (.int ic), .val (.int ie), .val (.int zt), .val (.int zu), .val (.ref b47), .val (.ref b53), .val (.ref b75), .val (.int (0 : Int32))]) rfl k) ?_
        refine Go.step (T' := T91) (f' := (mkF m 82 #[.val (.int ia), .val (.int ib), .val (.int ic), .val (.int ie), .val (.int zt), .val (.int zu), .val (.ref b47), .val (.ref b53), .val (.ref b75), .val (.int (0 : Int32))] [(.ref b53)])) (fun t k => XS.aload X91.here hx rfl (hb hby at_80) rfl rfl k) ?_
        obtain ⟨cq111, kq111, q111a, q111b, q111c⟩ := isOf hZ rfl f98
        obtain ⟨_, _, ⟨T111, L111, k111, n111⟩, -, X111, ⟨Lc111, hQ111, l111, y111, z111⟩, st111⟩ := X91.virtualBack hx (y := (⟨"com/example/tenorbook/tenorbook/formats/FileLines$Line", "isEmpty", "()Z"⟩ : MethodName)) (z := (⟨"com/example/tenorbook/tenorbook/formats/FileLines$Line", "isEmpty", "()Z"⟩ : MethodName)) hown (mvT hZ (hw _ (List.mem_of_getElem? (i := 23) rfl))) (mvT hZ (hw _ (List.mem_of_getElem? (i := 24) rfl))) (notFace_of_selects (args := #[]) (mvT hZ (hw _ (List.mem_of_getElem? (i := 26) rfl)))) (mvT hZ (hw _ (List.mem_of_getElem? (i := 26) rfl))) (mvT hZ (hw _ (List.mem_of_getElem? (i := 25) rfl))) (by decide) (backOf (W := 0) (rm_emp l Z a0 hw [] b53 ia zu T91.heap n0 O102 f99 f100) hZ (hw _ (List.mem_of_getElem? (i := 27) rfl)) (hw _ (List.mem_of_getElem? (i := 3) rfl)) (by decide) (by decide)) q111a q111c (g := (mkF m 82 #[.val (.int ia), .val (.int ib), .val (.int ic), .val (.int ie), .val (.int zt), .val (.int zu), .val (.ref b47), .val (.ref b53), .val (.ref b75), .val (.int (0 : Int32))] [(.ref b53)])) rfl (by rw [hml]; rfl) (Steps.refl _) (argsL := []) (rest := []) (lenOf pd2 rfl) rfl (by show 2 * 0 + _ ≤ _; exact Nat.le_of_eq rfl) (hb hby at_82) (fun _ _ => ⟨rfl, rfl, (by decide : 3 + 0 ≤ _), (by decide : 15 + 0 ≤ _)⟩)
        dsimp only [Pt.U, Pt.locs, Pt.cells, Pt.slots] at X111 l111 y111 z111 st111 hQ111
        subst l111 y111 z111
        obtain ⟨rfl, Nq111, hh111⟩ := hQ111
        have N112 := Fr.app N95 Nq111
        refine Go.via (T' := T111) (f' := (mkF m 85 #[.val (.int ia), .val (.int ib), .val (.int ic), .val (.int ie), .val (.int zt), .val (.int zu), .val (.ref b47), .val (.ref b53), .val (.ref b75), .val (.int (0 : Int32))] [(.int (if ia = zu then (1 : Int32) else 0))])) st111 ?_
        refine Go.step (T' := T111) (f' := (mkF m 87 #[.val (.int ia), .val (.int ib), .val (.int ic), .val (.int ie), .val (.int zt), .val (.int zu), .val (.ref b47), .val (.ref b53), .val (.ref b75), .val (.int (0 : Int32))] [(.int (0 : Int32)), (.int (if ia = zu then (1 : Int32) else 0))])) (fun t k => XS.iload X111.here hx rfl (hb hby at_85) rfl k) ?_
        have hc113 : (if ia = zu then (1 : Int32) else 0) = (0 : Int32) := by
          exact own_f0 _ _ hc104
        refine Go.step (T' := T111) (f' := (mkF m 90 #[.val (.int ia), .val (.int ib), .val (.int ic), .val (.int ie), .val (.int zt), .val (.int zu), .val (.ref b47), .val (.ref b53), .val (.ref b75), .val (.int (0 : Int32))] [])) (fun t k => XS.icmpNo X111.here hx rfl (hb hby at_87) rfl (teq hc113).2 k) ?_
        refine Go.step (T' := T111) (f' := (mkF m 92 #[.val (.int ia), .val (.int ib), .val (.int ic), .val (.int ie), .val (.int zt), .val (.int zu), .val (.ref b47), .val (.ref b53), .val (.ref b75), .val (.int (0 : Int32))] [(.ref b75)])) (fun t k => XS.aload X111.here hx rfl (hb hby at_90) rfl rfl k) ?_
        obtain ⟨cq114, kq114, q114a, q114b, q114c⟩ := isOf hZ hh111 p92
        obtain ⟨_, _, ⟨T114, L114, k114, n114⟩, -, X114, ⟨Lc114, hQ114, l114, y114, z114⟩, st114⟩ := X111.virtualBack hx (y := (⟨"com/example/tenorbook/tenorbook/formats/FileLines$Line", "isEmpty", "()Z"⟩ : MethodName)) (z := (⟨"com/example/tenorbook/tenorbook/formats/FileLines$Line", "isEmpty", "()Z"⟩ : MethodName)) hown (mvT hZ (hw _ (List.mem_of_getElem? (i := 23) rfl))) (mvT hZ (hw _ (List.mem_of_getElem? (i := 24) rfl))) (notFace_of_selects (args := #[]) (mvT hZ (hw _ (List.mem_of_getElem? (i := 26) rfl)))) (mvT hZ (hw _ (List.mem_of_getElem? (i := 26) rfl))) (mvT hZ (hw _ (List.mem_of_getElem? (i := 25) rfl))) (by decide) (backOf (W := 0) (rm_emp l Z a0 hw [] b75 zu ia T91.heap n0 O102 p93 p94) hZ (hw _ (List.mem_of_getElem? (i := 27) rfl)) (hw _ (List.mem_of_getElem? (i := 3) rfl)) (by decide) (by decide)) q114a q114c (g := (mkF m 92 #[.val (.int ia), .val (.int ib), .val (.int ic), .val (.int ie), .val (.int zt), .val (.int zu), .val (.ref b47), .val (.ref b53), .val (.ref b75), .val (.int (0 : Int32))] [(.ref b75)])) rfl (by rw [hml]; rfl) (Steps.refl _) (argsL := []) (rest := []) (lenOf pd2 rfl) rfl (by show 2 * 0 + _ ≤ _; exact Nat.le_of_eq rfl) (hb hby at_92) (fun _ _ => ⟨rfl, hh111, (by decide : 3 + 0 ≤ _), (by decide : 15 + 0 ≤ _)⟩)
        dsimp only [Pt.U, Pt.locs, Pt.cells, Pt.slots] at X114 l114 y114 z114 st114 hQ114
        subst l114 y114 z114
        obtain ⟨rfl, Nq114, hh114⟩ := hQ114
        have N115 := Fr.app N112 Nq114
        refine Go.via (T' := T114) (f' := (mkF m 95 #[.val (.int ia), .val (.int ib), .val (.int ic), .val (.int ie), .val (.int zt), .val (.int zu), .val (.ref b47), .val (.ref b53), .val (.ref b75), .val (.int (0 : Int32))] [(.int (if zu = ia then (1 : Int32) else 0))])) st114 ?_
        refine Go.step (T' := T114) (f' := (mkF m 97 #[.val (.int ia), .val (.int ib), .val (.int ic), .val (.int ie), .val (.int zt), .val (.int zu), .val (.ref b47), .val (.ref b53), .val (.ref b75), .val (.int (0 : Int32))] [(.int (0 : Int32)), (.int (if zu = ia then (1 : Int32) else 0))])) (fun t k => XS.iload X114.here hx rfl (hb hby at_95) rfl k) ?_
        have hc116 : (if zu = ia then (1 : Int32) else 0) = (0 : Int32) := by
          exact own_s0 _ _ hc104
        refine Go.step (T' := T114) (f' := (mkF m 100 #[.val (.int ia), .val (.int ib), .val (.int ic), .val (.int ie), .val (.int zt), .val (.int zu), .val (.ref b47), .val (.ref b53), .val (.ref b75), .val (.int (0 : Int32))] [])) (fun t k => XS.icmpNo X114.here hx rfl (hb hby at_97) rfl (teq hc116).2 k) ?_
        refine Go.step (T' := T114) (f' := (mkF m 101 #[.val (.int ia), .val (.int ib), .val (.int ic), .val (.int ie), .val (.int zt), .val (.int zu), .val (.ref b47), .val (.ref b53), .val (.ref b75), .val (.int (0 : Int32))] [(.int (1 : Int32))])) (fun t k => XS.iconst X114.here hx rfl (hb hby at_100) k) ?_
        refine Go.step (T' := T114) (f' := (mkF m 105 #[.val (.int ia), .val (.int ib), .val (.int ic), .val (.int ie), .val (.int zt), .val (.int zu), .val (.ref b47), .val (.ref b53), .val (.ref b75), .val (.int (0 : Int32))] [(.int (1 : Int32))])) (fun t k => XS.goto X114.here hx rfl (pc0 := 101) (pc' := 105) rfl (hb hby at_101) (by decide) (by decide) k) ?_
        refine Go.retZ X114 hx hlk (t := .boolean) Bd.returns (by simp) (hb hby at_105) hh114 ?_ (by decide) (by decide)
        exact ⟨rfl, N115, K103⟩
    by_cases hc117 : (ie &&& (2 : Int32)) = (0 : Int32)
    ·
      refine Go.step (T' := s₁) (f' := (mkF m 23 #[.val (.int ia), .val (.int ib), .val (.int ic), .val (.int ie), .val (.int zt), .unset, .unset, .unset, .unset, .unset] [])) (fun t k => XS.ifYes X0.here hx rfl (pc0 := 16) (pc' := 23) rfl (hb hby at_16) rfl ((if0 _ _).trans (teq hc117).1) (by decide) (by decide) k) ?_
      refine Go.step (T' := s₁) (f' := (mkF m 24 #[.val (.int ia), .val (.int ib), .val (.int ic), .val (.int ie), .val (.int zt), .unset, .unset, .unset, .unset, .unset] [(.int ib)])) (fun t k => XS.iloadN X0.here hx rfl (hb hby at_23) rfl k) ?_
      exact Kc45 (ib) trivial
    ·
      refine Go.step (T' := s₁) (f' := (mkF m 19 #[.val (.int ia), .val (.int ib), .val (.int ic), .val (.int ie), .val (.int zt), .unset, .unset, .unset, .unset, .unset] [])) (fun t k => XS.ifNo X0.here hx rfl (hb hby at_16) rfl ((if0 _ _).trans (feq hc117).1) k) ?_
      refine Go.step (T' := s₁) (f' := (mkF m 20 #[.val (.int ia), .val (.int ib), .val (.int ic), .val (.int ie), .val (.int zt), .unset, .unset, .unset, .unset, .unset] [(.int ia)])) (fun t k => XS.iloadN X0.here hx rfl (hb hby at_19) rfl k) ?_
      refine Go.step (T' := s₁) (f' := (mkF m 24 #[.val (.int ia), .val (.int ib), .val (.int ic), .val (.int ie), .val (.int zt), .unset, .unset, .unset, .unset, .unset] [(.int ia)])) (fun t k => XS.goto X0.here hx rfl (pc0 := 20) (pc' := 24) rfl (hb hby at_20) (by decide) (by decide) k) ?_
      exact Kc45 (ia) trivial
  by_cases hc118 : (ie &&& (1 : Int32)) = (0 : Int32)
  ·
    refine Go.step (T' := s₁) (f' := (mkF m 10 #[.val (.int ia), .val (.int ib), .val (.int ic), .val (.int ie), .unset, .unset, .unset, .unset, .unset, .unset] [])) (fun t k => XS.ifYes X0.here hx rfl (pc0 := 3) (pc' := 10) rfl (hb hby at_3) rfl ((if0 _ _).trans (teq hc118).1) (by decide) (by decide) k) ?_
    refine Go.step (T' := s₁) (f' := (mkF m 11 #[.val (.int ia), .val (.int ib), .val (.int ic), .val (.int ie), .unset, .unset, .unset, .unset, .unset, .unset] [(.int (0 : Int32))])) (fun t k => XS.iconst X0.here hx rfl (hb hby at_10) k) ?_
    exact Kc43 ((0 : Int32)) trivial
  ·
    refine Go.step (T' := s₁) (f' := (mkF m 6 #[.val (.int ia), .val (.int ib), .val (.int ic), .val (.int ie), .unset, .unset, .unset, .unset, .unset, .unset] [])) (fun t k => XS.ifNo X0.here hx rfl (hb hby at_3) rfl ((if0 _ _).trans (feq hc118).1) k) ?_
    refine Go.step (T' := s₁) (f' := (mkF m 7 #[.val (.int ia), .val (.int ib), .val (.int ic), .val (.int ie), .unset, .unset, .unset, .unset, .unset, .unset] [(.int (1 : Int32))])) (fun t k => XS.iconst X0.here hx rfl (hb hby at_6) k) ?_
    refine Go.step (T' := s₁) (f' := (mkF m 11 #[.val (.int ia), .val (.int ib), .val (.int ic), .val (.int ie), .unset, .unset, .unset, .unset, .unset, .unset] [(.int (1 : Int32))])) (fun t k => XS.goto X0.here hx rfl (pc0 := 7) (pc' := 11) rfl (hb hby at_7) (by decide) (by decide) k) ?_
    exact Kc43 ((1 : Int32)) trivial
set_option maxRecDepth 65536 in
set_option maxHeartbeats 40000000 in
theorem comes_1 {Post : Tables → Env → Array Value → State → Outcome → State → Prop} (hpost : ∀ tb e args s v u, (limb_1_1.after args s (.returned v) u = true ∧ limb_1_2.after args s (.returned v) u = true ∧ True) → FrameEnd s (.returned v) u (Jvm.fieldLocs frame_1_writes args s ++ Jvm.arrayLocs frame_1_arrays args s ++ Jvm.staticLocs frame_1_statics s) 16 128 → Post tb e args s (.returned v) u) :
    ArmFor flags0 classFile x code maxLocals ret World_1 tables_1 room_1 Calls_1 rest_1 Pre_1 Post := by
  intro l hfl _ _ p e ha hc hk s m args below hf hA hF happ hP
  obtain ⟨hcalls, hrest, hpre⟩ := hP
  obtain ⟨-, -, -, hnamed, -, -, -, hat⟩ := (Spec.applies_iff hf).mp happ
  obtain ⟨hg, hn⟩ := and_e (Cond.before_iff.mp (show (Jvm.Cond.and given_1 narrow_1).before args s = true from hpre))
  obtain ⟨c1, c2⟩ := and_e hg
  obtain ⟨c3, c4⟩ := and_e c2
  obtain ⟨c5, c6⟩ := and_e c4
  obtain ⟨c7, c8⟩ := and_e c6
  obtain ⟨w0, w1, w2, w3, rfl⟩ : ∃ w0 w1 w2 w3 : Value, args = #[w0, w1, w2, w3] := by
    have hs : args.size = 4 := by simpa [Cond.value, given_1] using c1
    obtain ⟨L⟩ := args
    match L, hs with
    | [w0, w1, w2, w3], _ => exact ⟨w0, w1, w2, w3, rfl⟩
  have hw := fun d (hd : d ∈ tables_1) => atoms_spec (ws := Jvm.Cond.code x code maxLocals ret :: tables_1) hat d (List.mem_cons_of_mem _ hd)
  have hfit : Fit s := fun {y c} hc i hi => by
    obtain ⟨ha, rfl⟩ := Array.getElem?_eq_some_iff.mp hc
    have q := List.all_eq_true.mp ((Array.all_eq_true_iff_forall_mem.mp hF) _ (Array.getElem_mem ha)) i (List.mem_range.mpr hi)
    simpa [Array.getElem?_eq_getElem hi] using q
  obtain ⟨i0, ei0⟩ := is_v c3
  obtain rfl : w0 = (.int i0) := Option.some.inj ei0
  obtain ⟨i1, ei1⟩ := is_v c5
  obtain rfl : w1 = (.int i1) := Option.some.inj ei1
  obtain ⟨i2, ei2⟩ := is_v c7
  obtain rfl : w2 = (.int i2) := Option.some.inj ei2
  obtain ⟨i3, ei3⟩ := is_v c8
  obtain rfl : w3 = (.int i3) := Option.some.inj ei3
  obtain ⟨n, o, h1, h2, h3, _, L, rfl, ⟨rfl, N, -⟩, hq⟩ := rm_law l s _ hw tables_1 i0 i1 i2 i3 s.heap s.heap.size (Old.start s)  p e ha hc hk s m _ below hf ((Spec.applies_iff_loose hf).mp happ).1 ⟨rfl, State.Warmed39.refl s, rfl⟩ trivial
  refine ⟨n, _, h1, h2, h3, hpost _ _ _ _ _ _ ⟨Cond.after_iff.mpr rfl, Cond.after_iff.mpr (eq_i res_at (Term.int_eval (1)) rfl), trivial⟩ ⟨hq.1, hq.2.1, (hq.2.2.sift fun y hy => Or.inr (N y hy)).mono (by decide) (by decide)⟩⟩
theorem main_1_1 : Claimed_1_1 := comes_1 fun _ _ _ _ _ _ h hF => ⟨h.1, hF⟩
theorem main_1_2 : Claimed_1_2 := comes_1 fun _ _ _ _ _ _ h hF => ⟨h.2.1, hF⟩
end Jvm.Pilot.@@N@@
namespace Jvm.Pilot.@@N@@
open Jvm Jvm.ClassFile Sem Op Lib Jvm.Free Jvm.Stand Jvm.Pilot.@@N@@.Jvm.D
/-! MADE BY PROGRAM (witnessworld.py) out of the Statement's table words and the real class files: 10 classes; the members and pool entries that the words name. The judged class is class 1, her method 1. -/
namespace start1
open Jvm.ClassFile
def u (s : String) : CpInfo := .utf8 (stringToUtf16 s)
/-- a pool by its gaps: so many unusable entries, then the entry; so many at the end -/
def gap : Nat → List CpInfo → List CpInfo
  | 0, r => r
  | n + 1, r => .unusable :: gap n r
def poolList (es : List (Nat × CpInfo)) (last : Nat) : List CpInfo := es.foldr (fun e r => gap e.1 (e.2 :: r)) (gap last [])
def pool (es : List (Nat × CpInfo)) (last : Nat) : Array CpInfo := ⟨poolList es last⟩
def fileOf (pool : Array CpInfo) (this : Nat) (attrs : Array Attribute := #[]) (ms : Array MethodInfo := #[]) (fl : Nat := 33) (sup : Nat := 0) (ifs : Array Nat := #[]) (fds : Array FieldInfo := #[]) : ClassFile where
  minorVersion := 0
  majorVersion := 65
  constantPool := pool
  accessFlags := fl
  thisClass := this
  superClass := sup
  interfaces := ifs
  fields := fds
  methods := ms
  attributes := attrs
def plain (name : String) (sup : Option ClassId) : Class where
  name := name
  kind := .ordinary
  loader := none
  accessFlags := 33
  super := sup
  interfaces := #[]
  cf := none
  fields := #[]
  methods := #[]
  instanceTypes := #[]
  staticTypes := #[]
  resolved := #[]
  callSites := []
  init := .initialized
  statics := none
  mirror := none

def pool0 : Array CpInfo := pool [(5, u "<init>"), (0, u "()V"), (1, .class_ 10), (1, u "java/lang/Object")] 113

def k0c0 : Code := { maxStack := 0, maxLocals := 1, code := object_method_1_code, exceptionTable := #[], attributes := #[] }
def k0m0 : Method := { name := "<init>", desc := "()V", sig := { parameters := [], returnType := none }, accessFlags := 1, code := some k0c0 }
/-- java/lang/Object -/
def k0 : Class := { plain "java/lang/Object" none with
  accessFlags := 33
  interfaces := #[]
  cf := some (fileOf pool0 8 #[] #[{ accessFlags := 1, nameIndex := 5, descriptorIndex := 6, attributes := #[] }] 33 0 #[] #[])
  fields := #[]
  methods := #[k0m0]
  instanceTypes := #[]
  staticTypes := #[]
  resolved := Array.replicate 124 none
  statics := none }

def pool1 : Array CpInfo := pool [(2, .class_ 4), (1, u "java/lang/Object"), (0, u "<init>"), (0, u "()V"), (0, .class_ 8), (0, u "com/example/tenorbook/tenorbook/formats/FileLines$Line"), (0, .methodref 7 10), (0, .nameAndType 5 11), (0, u "([BIIZ)V"), (0, .methodref 7 13), (0, .nameAndType 14 15), (0, u "isEmpty"), (0, u "()Z"), (0, .class_ 17), (0, u "com/example/tenorbook/tenorbook/formats/LineIsEmptyPinLaw"), (2, u "law"), (0, u "(IIII)Z")] 9

def k1m0 : Method := { name := "<init>", desc := "()V", sig := { parameters := [], returnType := none }, accessFlags := 1, code := none }
def k1c1 : Code := { maxStack := 6, maxLocals := 10, code := code, exceptionTable := #[], attributes := #[] }
def k1m1 : Method := { name := "law", desc := "(IIII)Z", sig := { parameters := [.int, .int, .int, .int], returnType := some .boolean }, accessFlags := 9, code := some k1c1 }
/-- com/example/tenorbook/tenorbook/formats/LineIsEmptyPinLaw -/
def k1 : Class := { plain "com/example/tenorbook/tenorbook/formats/LineIsEmptyPinLaw" (some 0) with
  accessFlags := 49
  interfaces := #[]
  cf := some (fileOf pool1 16 #[] #[{ accessFlags := 1, nameIndex := 5, descriptorIndex := 6, attributes := #[] }, { accessFlags := 9, nameIndex := 20, descriptorIndex := 21, attributes := #[] }] 49 2 #[] #[])
  fields := #[]
  methods := #[k1m0, k1m1]
  instanceTypes := #[]
  staticTypes := #[]
  resolved := Array.replicate 31 none
  statics := none }

def pool2 : Array CpInfo := pool [(1, .methodref 2 3), (0, .class_ 4), (0, .nameAndType 5 6), (0, u "java/lang/Object"), (0, u "<init>"), (0, u "()V"), (0, .class_ 8), (0, u "java/lang/Record")] 13

def k2c0 : Code := { maxStack := 1, maxLocals := 1, code := jdk_30_method_1_code, exceptionTable := #[], attributes := #[] }
def k2m0 : Method := { name := "<init>", desc := "()V", sig := { parameters := [], returnType := none }, accessFlags := 4, code := some k2c0 }
/-- java/lang/Record -/
def k2 : Class := { plain "java/lang/Record" (some 0) with
  accessFlags := 1057
  interfaces := #[]
  cf := some (fileOf pool2 7 #[] #[{ accessFlags := 4, nameIndex := 5, descriptorIndex := 6, attributes := #[] }] 1057 2 #[] #[])
  fields := #[]
  methods := #[k2m0]
  instanceTypes := #[]
  staticTypes := #[]
  resolved := Array.replicate 22 none
  statics := none }

def pool3 : Array CpInfo := pool [(1, .methodref 2 3), (0, .class_ 4), (0, .nameAndType 5 6), (0, u "java/lang/Record"), (0, u "<init>"), (0, u "()V"), (0, .fieldref 8 9), (0, .class_ 10), (0, .nameAndType 11 12), (0, u "com/example/tenorbook/tenorbook/formats/FileLines$Line"), (0, u "bytes"), (0, u "[B"), (0, .fieldref 8 14), (0, .nameAndType 15 16), (0, u "from"), (0, u "I"), (0, .fieldref 8 18), (0, .nameAndType 19 16), (0, u "to"), (0, .fieldref 8 21), (0, .nameAndType 22 23), (0, u "tooLong"), (0, u "Z"), (14, u "([BIIZ)V"), (2, u "TOO_LONG"), (0, u "Lcom/example/tenorbook/tenorbook/formats/FileLines$Line;"), (3, u "isEmpty"), (0, u "()Z"), (9, .class_ 58), (0, u "com/example/tenorbook/tenorbook/formats/FileLines")] 22

def k3c0 : Code := { maxStack := 2, maxLocals := 5, code := prog_42_method_1_code, exceptionTable := #[], attributes := #[] }
def k3m0 : Method := { name := "<init>", desc := "([BIIZ)V", sig := { parameters := [(.array .byte), .int, .int, .boolean], returnType := none }, accessFlags := 0, code := some k3c0 }
def k3c1 : Code := { maxStack := 2, maxLocals := 1, code := prog_42_method_2_code, exceptionTable := #[], attributes := #[] }
def k3m1 : Method := { name := "isEmpty", desc := "()Z", sig := { parameters := [], returnType := some .boolean }, accessFlags := 0, code := some k3c1 }
/-- com/example/tenorbook/tenorbook/formats/FileLines$Line -/
def k3 : Class := { plain "com/example/tenorbook/tenorbook/formats/FileLines$Line" (some 2) with
  accessFlags := 48
  interfaces := #[]
  cf := some (fileOf pool3 8 #[.nestHost 57] #[{ accessFlags := 0, nameIndex := 5, descriptorIndex := 38, attributes := #[] }, { accessFlags := 0, nameIndex := 46, descriptorIndex := 47, attributes := #[] }] 48 2 #[] #[{ accessFlags := 18, nameIndex := 11, descriptorIndex := 12, attributes := #[] }, { accessFlags := 18, nameIndex := 15, descriptorIndex := 16, attributes := #[] }, { accessFlags := 18, nameIndex := 19, descriptorIndex := 16, attributes := #[] }, { accessFlags := 18, nameIndex := 22, descriptorIndex := 23, attributes := #[] }, { accessFlags := 24, nameIndex := 41, descriptorIndex := 42, attributes := #[] }])
  fields := #[{ name := "bytes", type := (.array .byte), accessFlags := 18, slot := 0, constantValue := 0 }, { name := "from", type := .int, accessFlags := 18, slot := 1, constantValue := 0 }, { name := "to", type := .int, accessFlags := 18, slot := 2, constantValue := 0 }, { name := "tooLong", type := .boolean, accessFlags := 18, slot := 3, constantValue := 0 }, { name := "TOO_LONG", type := (.object "com/example/tenorbook/tenorbook/formats/FileLines$Line"), accessFlags := 24, slot := 0, constantValue := 0 }]
  methods := #[k3m0, k3m1]
  instanceTypes := #[(.array .byte), .int, .int, .boolean]
  staticTypes := #[(.object "com/example/tenorbook/tenorbook/formats/FileLines$Line")]
  resolved := Array.replicate 81 none
  statics := none }

def pool4 : Array CpInfo := pool [(1, u "java/lang/Cloneable"), (0, .class_ 1), (0, u "java/lang/Object"), (0, .class_ 3)] 3

/-- java/lang/Cloneable -/
def k4 : Class := { plain "java/lang/Cloneable" (some 0) with
  accessFlags := 1537
  interfaces := #[]
  cf := some (fileOf pool4 2 #[] #[] 1537 4 #[] #[])
  fields := #[]
  methods := #[]
  instanceTypes := #[]
  staticTypes := #[]
  resolved := Array.replicate 8 none
  statics := none }

def pool5 : Array CpInfo := pool [(1, u "java/io/Serializable"), (0, .class_ 1), (0, u "java/lang/Object"), (0, .class_ 3)] 3

/-- java/io/Serializable -/
def k5 : Class := { plain "java/io/Serializable" (some 0) with
  accessFlags := 1537
  interfaces := #[]
  cf := some (fileOf pool5 2 #[] #[] 1537 4 #[] #[])
  fields := #[]
  methods := #[]
  instanceTypes := #[]
  staticTypes := #[]
  resolved := Array.replicate 8 none
  statics := none }

/-- the primitive byte -/
def k6 : Class := { plain "byte" none with kind := .primitive 'B', accessFlags := 0x411 }
/-- [B -/
def k7 : Class := { plain "[B" (some 0) with kind := .array 6 .byte, interfaces := #[4, 5], accessFlags := 1041 }

/-- the primitive int -/
def k8 : Class := { plain "int" none with kind := .primitive 'I', accessFlags := 0x411 }
/-- [I -/
def k9 : Class := { plain "[I" (some 0) with kind := .array 8 .int, interfaces := #[4, 5], accessFlags := 1041 }

def heap : Heap := #[]
def classes : Array Class := #[k0, k1, k2, k3, k4, k5, k6, k7, k8, k9]
def interned : List (Array UInt16 × Addr) := []
def slotsUsed : Nat := 0
def theMethod : MethodId := ⟨1, 1⟩
def args0 : Array Value := #[.int 5, .int 5, .int 5, .int 5]
def aboutOver (below : List Frame) : State where
  vm := { classes := classes, interned := interned.toArray }
  heap := heap
  slotsUsed := slotsUsed
  threads := #[{ frames := .invoking theMethod args0 :: below }]
def below0 : List Frame := [.native { method := ⟨0, 0⟩, args := #[] }]
def about1 : State := aboutOver below0
def p0 : Program := .bare "" "" ""
def e0 : Env := launch0.env 0 0 0
theorem w_frames : about1.frames = Frame.invoking theMethod args0 :: below0 := rfl
set_option maxRecDepth 65536 in
theorem w_args : argsFit about1.vm theMethod args0 = true := by decide +kernel
set_option maxRecDepth 65536 in
theorem w_heap : heapFits about1 = true := by decide +kernel
set_option maxRecDepth 65536 in
theorem w_runnable : about1.curStatus? = some .runnable := by decide +kernel
set_option maxRecDepth 65536 in
theorem w_alone : about1.alone = true := by decide +kernel
set_option maxRecDepth 65536 in
theorem w_named : about1.methodNamed? x = some theMethod := by decide +kernel
set_option maxRecDepth 65536 in
theorem w_hears : about1.hears theMethod below0 = true := by decide +kernel
set_option maxRecDepth 65536 in
theorem w_ripe : about1.ripe theMethod args0 below0 = true := by decide +kernel
theorem w_running : about1.status = .running := rfl
set_option maxRecDepth 65536 in
theorem w_room : about1.hasRoom e0.platform room_1 = true :=
  launch0.hasRoom_least _ room_1 (by decide +kernel) (by decide +kernel) (by decide +kernel) (by decide +kernel) (by decide +kernel) (by decide +kernel)
theorem allAtoms_all (ts : List Jvm.Cond) (a : Array Jvm.Value) (st : Jvm.State) : (allAtoms ts).before a st = ts.all (fun c => c.before a st) := by
  induction ts with
  | nil => rfl
  | cons c t ih =>
    show (Jvm.Cond.and c (allAtoms t)).before a st = _
    rw [Jvm.Cond.before_and, ih, List.all_cons]
def words1 : List Jvm.Cond := Jvm.Cond.code x code maxLocals ret :: tables_1
/-- a 'code' word, met by the world's own term for the bytes: nothing is compared byte by byte -/
theorem code_word {y : MethodName} {bytes : ByteArray} {mx : Nat} {rt : Option FieldType} {a : Array Value} {s : State} {m : MethodId} {meth : Method} {c : Code} (h1 : s.methodNamed? y = some m) (h2 : s.vm.method? m = some meth) (h3 : meth.code = some c) (h4 : c.code = bytes)
    (h5 : (c.maxLocals == mx && c.exceptionTable.isEmpty && decide (c.maxStack ≤ mostOperands) && decide (meth.sig.returnType = rt) && !meth.locks && decide (parseMethodDescriptor y.desc = some meth.sig)) = true) : (Jvm.Cond.code y bytes mx rt).before a s = true := by
  simp only [Bool.and_eq_true, beq_iff_eq, Bool.not_eq_true', decide_eq_true_eq] at h5
  obtain ⟨⟨⟨⟨⟨g1, g2⟩, g3⟩, g4⟩, g5⟩, g6⟩ := h5
  simp [Cond.before, Cond.holds, Cond.value, h1, h2, h3, h4, g1, g2, g3, g4, g5, g6]
def isCode : Jvm.Cond → Bool
  | .code _ _ _ _ => true
  | _ => false
theorem all_split {L : List Jvm.Cond} {P : Jvm.Cond → Bool} (h1 : L.all (fun c => isCode c || P c) = true) (h2 : ∀ c ∈ L.filter isCode, P c = true) : L.all P = true := by
  refine List.all_eq_true.mpr fun c hc => ?_
  have h := List.all_eq_true.mp h1 c hc
  rcases Bool.eq_false_or_eq_true (isCode c) with hi | hi
  · exact h2 c (List.mem_filter.mpr ⟨hc, hi⟩)
  · simpa [hi] using h
set_option maxRecDepth 65536 in
theorem w_c0 : (Jvm.Cond.code x code maxLocals ret).before args0 about1 = true := code_word (m := ⟨1, 1⟩) (meth := k1m1) (c := k1c1) (by decide +kernel) rfl rfl rfl (by decide +kernel)
set_option maxRecDepth 65536 in
theorem w_c1 : (Jvm.Cond.code ({ cls := "com/example/tenorbook/tenorbook/formats/FileLines$Line", name := "<init>", desc := "([BIIZ)V" } : Jvm.MethodName) prog_42_method_1_code (5 : Nat) (Option.none : Option Jvm.ClassFile.FieldType)).before args0 about1 = true := code_word (m := ⟨3, 0⟩) (meth := k3m0) (c := k3c0) (by decide +kernel) rfl rfl rfl (by decide +kernel)
set_option maxRecDepth 65536 in
theorem w_c2 : (Jvm.Cond.code ({ cls := "java/lang/Record", name := "<init>", desc := "()V" } : Jvm.MethodName) jdk_30_method_1_code (1 : Nat) (Option.none : Option Jvm.ClassFile.FieldType)).before args0 about1 = true := code_word (m := ⟨2, 0⟩) (meth := k2m0) (c := k2c0) (by decide +kernel) rfl rfl rfl (by decide +kernel)
set_option maxRecDepth 65536 in
theorem w_c3 : (Jvm.Cond.code ({ cls := "java/lang/Object", name := "<init>", desc := "()V" } : Jvm.MethodName) object_method_1_code (1 : Nat) (Option.none : Option Jvm.ClassFile.FieldType)).before args0 about1 = true := code_word (m := ⟨0, 0⟩) (meth := k0m0) (c := k0c0) (by decide +kernel) rfl rfl rfl (by decide +kernel)
set_option maxRecDepth 65536 in
theorem w_c4 : (Jvm.Cond.code ({ cls := "com/example/tenorbook/tenorbook/formats/FileLines$Line", name := "isEmpty", desc := "()Z" } : Jvm.MethodName) prog_42_method_2_code (1 : Nat) (Option.some Jvm.ClassFile.FieldType.boolean)).before args0 about1 = true := code_word (m := ⟨3, 1⟩) (meth := k3m1) (c := k3c1) (by decide +kernel) rfl rfl rfl (by decide +kernel)
def codes1 : List Jvm.Cond := [Jvm.Cond.code x code maxLocals ret, Jvm.Cond.code ({ cls := "com/example/tenorbook/tenorbook/formats/FileLines$Line", name := "<init>", desc := "([BIIZ)V" } : Jvm.MethodName) prog_42_method_1_code (5 : Nat) (Option.none : Option Jvm.ClassFile.FieldType), Jvm.Cond.code ({ cls := "java/lang/Record", name := "<init>", desc := "()V" } : Jvm.MethodName) jdk_30_method_1_code (1 : Nat) (Option.none : Option Jvm.ClassFile.FieldType), Jvm.Cond.code ({ cls := "java/lang/Object", name := "<init>", desc := "()V" } : Jvm.MethodName) object_method_1_code (1 : Nat) (Option.none : Option Jvm.ClassFile.FieldType), Jvm.Cond.code ({ cls := "com/example/tenorbook/tenorbook/formats/FileLines$Line", name := "isEmpty", desc := "()Z" } : Jvm.MethodName) prog_42_method_2_code (1 : Nat) (Option.some Jvm.ClassFile.FieldType.boolean)]
set_option maxRecDepth 65536 in
theorem codes_eq : words1.filter isCode = codes1 := rfl
theorem w_codes : ∀ c ∈ words1.filter isCode, c.before args0 about1 = true := by
  rw [codes_eq]
  intro c hc
  simp only [codes1, List.mem_cons, List.not_mem_nil, or_false] at hc
  rcases hc with rfl | rfl | rfl | rfl | rfl
  · exact w_c0
  · exact w_c1
  · exact w_c2
  · exact w_c3
  · exact w_c4
set_option maxRecDepth 65536 in
theorem w_t1 : (words1.take 24).all (fun c => isCode c || c.before args0 about1) = true := by decide +kernel
set_option maxRecDepth 65536 in
theorem w_t2 : (words1.drop 24).all (fun c => isCode c || c.before args0 about1) = true := by decide +kernel
theorem w_tables : (allAtoms (Jvm.Cond.code x code maxLocals ret :: tables_1)).before args0 about1 = true := by
  rw [allAtoms_all]
  show words1.all (fun c => c.before args0 about1) = true
  refine all_split ?_ w_codes
  rw [← List.take_append_drop 24 words1, List.all_append, w_t1, w_t2]
  rfl
set_option maxRecDepth 65536 in
theorem w_case : (Jvm.Cond.and given_1 narrow_1).before args0 about1 = true := by decide +kernel
theorem w_applies : (headSpec (Jvm.Cond.code x code maxLocals ret :: tables_1) room_1).applies x e0.platform about1 = true :=
  (Spec.applies_iff w_frames).mpr ⟨w_running, w_runnable, w_alone, w_named, w_hears, w_ripe, w_room, w_tables⟩
theorem atStart : AtStart classFile x code maxLocals ret World_1 tables_1 room_1 Calls_1 rest_1 Pre_1 launch0 p0 e0 about1 theMethod args0 below0 :=
  ⟨lists_1, trivial, launch0.admits_env _ _ _, launch0.least_env, fairChoices_fair.cas, fairChoices_fair.clock, w_frames, w_args, w_heap, w_applies, trivial, trivial, w_case⟩
end start1
theorem witness_1 : WitnessClaimed_1 := ⟨start1.p0, start1.e0, start1.about1, start1.theMethod, start1.args0, start1.below0, start1.atStart⟩
end Jvm.Pilot.@@N@@
