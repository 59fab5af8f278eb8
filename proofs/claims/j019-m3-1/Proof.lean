import JvmDerived
import JvmDerived.Pilot.@@N@@Statement
import JvmDerived.Pilot.@@N@@Code
set_option linter.unusedVariables false
set_option linter.unusedSimpArgs false
namespace Jvm.RoadKit
open Sem ClassFile Op Lib Jvm.Stand Jvm.Free Jvm.LawKit
section New
variable {p : Program} {l : Launch} {e : Env} {R : Room} {s : State} {m : MethodId} {args : Array Value} {below : List Frame} {meth : Method} {c : Code} {T : State} {locs : List Loc} {cells slots : Nat}
theorem retI (X : Stand p l e R s m args below meth c T locs cells slots) (hx : p.tables.exec = Jvm.exec) {pc : Nat} {Ls : Array Slot} {z : Int32} {rest : List Value} (hret : meth.sig.returnType = some .int) (hd : decode c.code pc = .ok (.ireturn, 1)) {fs : List Frame}
    (hl : ∀ (f : JFrame) (acts : List Action), f.method = m → f.locked = none → f.entered = [] → (doReturn e (T.setTop f) acts (some (.int z))).1 = T.setFrames fs) : Steps p.tables e below (T.setTop (mkF m pc Ls (.int z :: rest))) (T.setFrames fs) := by
  have hm' : T.vm.method? m = some meth := X.method'
  have hn : narrow .int (.int z) = .int z := rfl
  show Steps p.tables e below (T.setTop { method := m, pc := pc, locals := Ls, stack := _ :: rest, locked := none }) _
  jvm_step X.here [X.here.top, hx, hd, hm', hret, hn]
  first | (intro acts; rw [hl _ acts rfl rfl rfl]) | rw [hl _ _ rfl rfl rfl]
  exact Steps.refl _
end New
end Jvm.RoadKit
namespace Jvm.Pilot.@@N@@
open Jvm Jvm.ClassFile Sem Op Lib Jvm.Free Jvm.Stand Jvm.LawKit Jvm.RoadKit Bundle Jvm.Pilot.@@N@@.Jvm.D
section Own
variable {p : Program} {l : Launch} {e : Env} {R : Room} {s : State} {m : MethodId} {args : Array Value} {below : List Frame} {meth : Method} {c : Code} {T T' : State} {locs : List Loc} {cells slots : Nat} {f f' : JFrame} {Q : Option Value → Heap → List Loc → Prop} {ck sk : Nat} {h : Heap} {Z : State}
/-- from here the run comes to its end, and leaves what Q says -/
def Go (p : Program) (e : Env) (below : List Frame) (s : State) (Q : Option Value → Heap → List Loc → Prop) (ck sk : Nat) (T : State) (f : JFrame) : Prop :=
  ∃ s₂ o, Steps p.tables e below (T.setTop f) s₂ ∧ s₂.status = .running ∧ Ended s₂ below o ∧ ∃ v L, o = .returned v ∧ Q v s₂.heap L ∧ FrameEnd s o s₂ L ck sk
theorem Go.step (st : ∀ t, Steps p.tables e below (T'.setTop f') t → Steps p.tables e below (T.setTop f) t) (k : Go p e below s Q ck sk T' f') : Go p e below s Q ck sk T f := by
  obtain ⟨s₂, o, h1, r⟩ := k; exact ⟨s₂, o, st _ h1, r⟩
theorem Go.via (st : Steps p.tables e below (T.setTop f) (T'.setTop f')) (k : Go p e below s Q ck sk T' f') : Go p e below s Q ck sk T f := by
  obtain ⟨s₂, o, h1, r⟩ := k; exact ⟨s₂, o, st.trans h1, r⟩
theorem Go.retI (X : Stand p l e R s m args below meth c T locs cells slots) (hx : p.tables.exec = Jvm.exec) (hlk : meth.locks = false) {pc : Nat} {Ls : Array Slot} {z : Int32} {rest : List Value} (hret : meth.sig.returnType = some .int) (hd : decode c.code pc = .ok (.ireturn, 1)) (eT : T.heap = h) (hq : Q (some (.int z)) h locs) (hck : cells ≤ ck) (hsk : slots ≤ sk) : Go p e below s Q ck sk T (mkF m pc Ls (.int z :: rest)) := by
  subst eT
  obtain ⟨fs, hr, hrun, hended, hW, hsame⟩ := X.leave (v := some (.int z)) (fun h => by rw [hret] at h; cases h) hlk
  exact ⟨_, _, Jvm.RoadKit.retI X hx hret hd hr, hrun, hended, _, _, rfl, hq, ⟨_, rfl⟩, hW, hsame.mono hck hsk⟩
theorem Go.retZ (X : Stand p l e R s m args below meth c T locs cells slots) (hx : p.tables.exec = Jvm.exec) (hlk : meth.locks = false) {pc : Nat} {Ls : Array Slot} {z : Int32} {rest : List Value} {t : FieldType} (hret : meth.sig.returnType = some t) (ht : t = .boolean ∨ t = .byte ∨ t = .char ∨ t = .short) (hd : decode c.code pc = .ok (.ireturn, 1)) (eT : T.heap = h) (hq : Q (some (.int (nar t z))) h locs) (hck : cells ≤ ck) (hsk : slots ≤ sk) : Go p e below s Q ck sk T (mkF m pc Ls (.int z :: rest)) := by
  subst eT
  obtain ⟨fs, hr, hrun, hended, hW, hsame⟩ := X.leave (v := some (.int (nar t z))) (fun h => by rw [hret] at h; cases h) hlk
  exact ⟨_, _, retN X hx hret ht hd hr, hrun, hended, _, _, rfl, hq, ⟨_, rfl⟩, hW, hsame.mono hck hsk⟩
theorem Go.retV (X : Stand p l e R s m args below meth c T locs cells slots) (hx : p.tables.exec = Jvm.exec) (hlk : meth.locks = false) {pc : Nat} {Ls : Array Slot} (hret : meth.sig.returnType = none) (hd : decode c.code pc = .ok (.return_, 1)) (eT : T.heap = h) (hq : Q none h locs) (hck : cells ≤ ck) (hsk : slots ≤ sk) : Go p e below s Q ck sk T (mkF m pc Ls []) := by
  subst eT
  obtain ⟨fs, hr, hrun, hended, hW, hsame⟩ := X.leave (v := none) (fun _ => rfl) hlk
  exact ⟨_, _, X.returnOut hx hret hd hr, hrun, hended, _, _, rfl, hq, ⟨_, rfl⟩, hW, hsame.mono hck hsk⟩
theorem Go.retJ (X : Stand p l e R s m args below meth c T locs cells slots) (hx : p.tables.exec = Jvm.exec) (hlk : meth.locks = false) {pc : Nat} {Ls : Array Slot} {z : Int64} {rest : List Value} (hret : meth.sig.returnType = some .long) (hd : decode c.code pc = .ok (.lreturn, 1)) (eT : T.heap = h) (hq : Q (some (.long z)) h locs) (hck : cells ≤ ck) (hsk : slots ≤ sk) : Go p e below s Q ck sk T (mkF m pc Ls (.long z :: rest)) := by
  subst eT
  obtain ⟨fs, hr, hrun, hended, hW, hsame⟩ := X.leave (v := some (.long z)) (fun h => by rw [hret] at h; cases h) hlk
  exact ⟨_, _, retOut X hx hret rfl (Or.inr (Or.inl ⟨rfl, rfl, _, rfl⟩)) hd hr, hrun, hended, _, _, rfl, hq, ⟨_, rfl⟩, hW, hsame.mono hck hsk⟩
theorem own_nar_ref {t : FieldType} {w : Value} (h1 : t.isReference = true) (h2 : w.isRef = true) : narrow t w = w := by
  cases t <;> first | (cases h1; done) | (cases w <;> first | rfl | (cases h2; done))
theorem Go.retA (X : Stand p l e R s m args below meth c T locs cells slots) (hx : p.tables.exec = Jvm.exec) (hlk : meth.locks = false) {pc : Nat} {Ls : Array Slot} {w : Value} {rest : List Value} {t : FieldType} (hret : meth.sig.returnType = some t) (ht : t.isReference = true) (hw : w.isRef = true) (hd : decode c.code pc = .ok (.areturn, 1)) (eT : T.heap = h) (hq : Q (some w) h locs) (hck : cells ≤ ck) (hsk : slots ≤ sk) : Go p e below s Q ck sk T (mkF m pc Ls (w :: rest)) := by
  subst eT
  obtain ⟨fs, hr, hrun, hended, hW, hsame⟩ := X.leave (v := some w) (fun h => by rw [hret] at h; cases h) hlk
  exact ⟨_, _, retOut X hx hret (own_nar_ref ht hw) (Or.inr (Or.inr (Or.inr (Or.inr ⟨rfl, ht, hw⟩)))) hd hr, hrun, hended, _, _, rfl, hq, ⟨_, rfl⟩, hW, hsame.mono hck hsk⟩
theorem own_old_le {n0 : Nat} (o : Old Z n0 h) : n0 ≤ h.size := o.1 ▸ o.2.1
theorem own_alen (X : Stand p l e R s m args below meth c T locs cells slots) (hx : p.tables.exec = Jvm.exec) (hZ : Z.Warmed39 s.vm) (eT : T.heap = h) {a : Addr} {cl : Cell} {ty : FieldType} (A : Arr Z h a cl ty) {z : Int32} (S : cl.slots.size = z.toNatClampNeg) (N : ¬ z < 0) {g : JFrame} (hg : g.method = m) {rest : List Value} (hs : g.stack = .ref a :: rest) (hd : decode c.code g.pc = .ok (.arraylength, 1)) {t : State}
    (k : Steps p.tables e below (T.setTop { g with pc := g.pc + 1, stack := .int z :: rest }) t) : Steps p.tables e below (T.setTop g) t :=
  X.arraylength hx (by rw [eT]; exact A.1) (State.isArrayOf_alike hZ.alike A.2.1) hg hs hd _ (by rw [len_of S N]; exact k)
theorem own_fld_start {args : Array Value} {s : State} {t : Term} {a : Addr} {C n d : String} {k : Int32} (ev : t.eval args s none [] s = some (.ref a)) (h : (Jvm.Cond.eq (.field t C n d) (.int k)).value args s none s [] = some true) : Fld s s.heap a C n d (.int k) := by
  refine Fld.start ?_
  rw [← fld_at ev]
  obtain ⟨x, y, h1, h2, h3, h4⟩ := cmp_v (Or.inl h)
  have h2' : (Value.int k) = y := Option.some.inj h2
  subst h2'
  obtain ⟨z, rfl⟩ := h4
  have q := gotT (Jvm.Cond.eq_ints h1 h2) h
  rw [h1, q]
theorem own_nar8 (z : Int32) : z.toInt8.toInt32.toInt8.toInt32 = z.toInt8.toInt32 := by simp
end Own
theorem d1_0 : decode prog_22_method_4_code 0 = .ok (.aload_n 0, 1) := by decide +kernel
theorem d1_1 : decode prog_22_method_4_code 1 = .ok (.getstatic 3, 3) := by decide +kernel
theorem d1_4 : decode prog_22_method_4_code 4 = .ok (.if_acmp .eq 10, 3) := by decide +kernel
theorem d1_7 : decode prog_22_method_4_code 7 = .ok (.aload_n 0, 1) := by decide +kernel
theorem d1_8 : decode prog_22_method_4_code 8 = .ok (.getstatic 7, 3) := by decide +kernel
theorem d1_11 : decode prog_22_method_4_code 11 = .ok (.if_acmp .ne 7, 3) := by decide +kernel
theorem d1_14 : decode prog_22_method_4_code 14 = .ok (.iconst 1, 1) := by decide +kernel
theorem d1_15 : decode prog_22_method_4_code 15 = .ok (.goto 4, 3) := by decide +kernel
theorem d1_18 : decode prog_22_method_4_code 18 = .ok (.iconst 0, 1) := by decide +kernel
theorem d1_19 : decode prog_22_method_4_code 19 = .ok (.ireturn, 1) := by decide +kernel
theorem pn_com_example_honest_search_honestsearch_index_PhraseStatus : plainName "com/example/honest_search/honestsearch/index/PhraseStatus" = true := by first | (simp [plainName, overriddenIn]; done) | decide +kernel
theorem ef_ask (m : MethodId) (ba : Addr) : entryFrame m #[(.ref ba)] 1 = mkF m 0 #[.val (.ref ba)] [] := by first | (simp [entryFrame, mkF, argsToLocals, Value.category]; done) | rfl
def Q_ask (Z : State) (ba : Addr) (z_GOOD : Addr) (z_INCOMPLETE : Addr) (h0 : Heap) (n0 : Nat) (v : Option Value) (h : Heap) (L : List Loc) : Prop := v = some (.int (if ba = z_GOOD ∨ ba = z_INCOMPLETE then (1 : Int32) else 0)) ∧ Fr n0 L ∧ h = h0
set_option maxRecDepth 65536 in
set_option maxHeartbeats 40000000 in
theorem rm_ask (l : Launch) (Z : State) (a0 : Array Value) (hw : ∀ d ∈ tables_1, d.before a0 Z = true) (ws : List Jvm.Cond) (ba : Addr) (z_GOOD : Addr) (z_INCOMPLETE : Addr) (h0 : Heap) (n0 : Nat) (O0 : Old Z n0 h0) (P0 : Sta Z Z.heap "com/example/honest_search/honestsearch/index/PhraseStatus" "GOOD" "Lcom/example/honest_search/honestsearch/index/PhraseStatus;" (.ref z_GOOD)) (P1 : Sta Z Z.heap "com/example/honest_search/honestsearch/index/PhraseStatus" "INCOMPLETE" "Lcom/example/honest_search/honestsearch/index/PhraseStatus;" (.ref z_INCOMPLETE)) :
    MetFree l (⟨"com/example/honest_search/honestsearch/index/PhraseStatus", "isSearchable", "()Z"⟩ : MethodName) (head1 (Jvm.Cond.code (⟨"com/example/honest_search/honestsearch/index/PhraseStatus", "isSearchable", "()Z"⟩ : MethodName) prog_22_method_4_code 1 (some .boolean) :: ws) ({ frames := 0, cells := 0, slots := 0, locals := 0 } : Room)) (fun a U => a = #[(.ref ba)] ∧ Z.Warmed39 U.vm ∧ U.heap = h0) (fun _ _ _ _ _ => True) (fun _ U o U' => ∃ v L, o = .returned v ∧ Q_ask Z ba z_GOOD z_INCOMPLETE h0 n0 v U'.heap L ∧ FrameEnd U o U' L ({ frames := 0, cells := 0, slots := 0, locals := 0 } : Room).cells ({ frames := 0, cells := 0, slots := 0, locals := 0 } : Room).slots) := by
  refine MetFree.of_bodySF (plainFor_of_name pn_com_example_honest_search_honestsearch_index_PhraseStatus) hisR ?_
  intro p e s m args below meth c s₁ Bd hml0 hP hK
  obtain ⟨rfl, hZ, hh⟩ := hP
  have hx := Bd.exec
  have hby := Bd.bytes
  have hml : c.maxLocals = 1 := hml0
  have hown : s.vm.findClass "com/example/honest_search/honestsearch/index/PhraseStatus" = some m.cls := findClass_of_methodNamed Bd.named
  have hnm := (name_of_methodNamed Bd.named Bd.method).1
  have hlk : meth.locks = false := BodyLoose.notSynchronized Bd
  have X0 : Stand p l e ({ frames := 0, cells := 0, slots := 0, locals := 0 } : Room) s m #[(.ref ba)] below meth c s₁ [] 0 0 := Stand.of_body Bd
  have e0 : s₁.heap = h0 := by rw [← hh, Bd.state]; rfl
  have N0 := Fr.nil n0
  rw [ef_ask m ba]
  show Go p e below s (fun v h L => Q_ask Z ba z_GOOD z_INCOMPLETE h0 n0 v h L) ({ frames := 0, cells := 0, slots := 0, locals := 0 } : Room).cells ({ frames := 0, cells := 0, slots := 0, locals := 0 } : Room).slots s₁ (mkF m 0 #[.val (.ref ba)] [])
  refine Go.step (T' := s₁) (f' := (mkF m 1 #[.val (.ref ba)] [(.ref ba)])) (fun t k => XS.aloadN X0.here hx rfl (hb hby d1_0) rfl rfl k) ?_
  obtain ⟨T1, X1, e1, st1⟩ := getS2 X0 hx hZ hown (host := "") (Or.inl (hw _ (List.mem_of_getElem? (i := 8) rfl))) Via.refl e0 (P0.ext O0.2) (g := (mkF m 1 #[.val (.ref ba)] [(.ref ba)])) rfl (hb hby d1_1)
  refine Go.step (T' := T1) (f' := (mkF m 4 #[.val (.ref ba)] [(.ref z_GOOD), (.ref ba)])) st1 ?_
  by_cases ha2 : ba = z_GOOD
  ·
    refine Go.step (T' := T1) (f' := (mkF m 14 #[.val (.ref ba)] [])) (fun t k => Jvm.RoadKit.acmp (g := (mkF m 4 #[.val (.ref ba)] [(.ref z_GOOD), (.ref ba)])) X1 hx rfl rfl rfl (pc0 := 4) (pc' := 14) (same := true) rfl (hb hby d1_4) rfl (decide_eq_true (congrArg Value.ref ha2)) (by decide) (by decide) k) ?_
    refine Go.step (T' := T1) (f' := (mkF m 15 #[.val (.ref ba)] [(.int (1 : Int32))])) (fun t k => XS.iconst X1.here hx rfl (hb hby d1_14) k) ?_
    refine Go.step (T' := T1) (f' := (mkF m 19 #[.val (.ref ba)] [(.int (1 : Int32))])) (fun t k => XS.goto X1.here hx rfl (pc0 := 15) (pc' := 19) rfl (hb hby d1_15) (by decide) (by decide) k) ?_
    refine Go.retZ X1 hx hlk (t := .boolean) Bd.returns (by simp) (hb hby d1_19) e1 ?_ (by decide) (by decide)
    exact ⟨by simp_all [nar], N0, rfl⟩
  ·
    refine Go.step (T' := T1) (f' := (mkF m 7 #[.val (.ref ba)] [])) (fun t k => Jvm.RoadKit.acmp (g := (mkF m 4 #[.val (.ref ba)] [(.ref z_GOOD), (.ref ba)])) X1 hx rfl rfl rfl (pc0 := 4) (pc' := 7) (same := false) rfl (hb hby d1_4) rfl (decide_eq_false fun q => ha2 (Value.ref.inj q)) (by decide) (by decide) k) ?_
    refine Go.step (T' := T1) (f' := (mkF m 8 #[.val (.ref ba)] [(.ref ba)])) (fun t k => XS.aloadN X1.here hx rfl (hb hby d1_7) rfl rfl k) ?_
    obtain ⟨T3, X3, e3, st3⟩ := getS2 X1 hx hZ hown (host := "") (Or.inl (hw _ (List.mem_of_getElem? (i := 11) rfl))) Via.refl e1 (P1.ext O0.2) (g := (mkF m 8 #[.val (.ref ba)] [(.ref ba)])) rfl (hb hby d1_8)
    refine Go.step (T' := T3) (f' := (mkF m 11 #[.val (.ref ba)] [(.ref z_INCOMPLETE), (.ref ba)])) st3 ?_
    by_cases ha4 : ba = z_INCOMPLETE
    ·
      refine Go.step (T' := T3) (f' := (mkF m 14 #[.val (.ref ba)] [])) (fun t k => Jvm.RoadKit.acmp (g := (mkF m 11 #[.val (.ref ba)] [(.ref z_INCOMPLETE), (.ref ba)])) X3 hx rfl rfl rfl (pc0 := 11) (pc' := 14) (same := true) rfl (hb hby d1_11) rfl (decide_eq_true (congrArg Value.ref ha4)) (by decide) (by decide) k) ?_
      refine Go.step (T' := T3) (f' := (mkF m 15 #[.val (.ref ba)] [(.int (1 : Int32))])) (fun t k => XS.iconst X3.here hx rfl (hb hby d1_14) k) ?_
      refine Go.step (T' := T3) (f' := (mkF m 19 #[.val (.ref ba)] [(.int (1 : Int32))])) (fun t k => XS.goto X3.here hx rfl (pc0 := 15) (pc' := 19) rfl (hb hby d1_15) (by decide) (by decide) k) ?_
      refine Go.retZ X3 hx hlk (t := .boolean) Bd.returns (by simp) (hb hby d1_19) e3 ?_ (by decide) (by decide)
      exact ⟨by simp_all [nar], N0, rfl⟩
    ·
      refine Go.step (T' := T3) (f' := (mkF m 18 #[.val (.ref ba)] [])) (fun t k => Jvm.RoadKit.acmp (g := (mkF m 11 #[.val (.ref ba)] [(.ref z_INCOMPLETE), (.ref ba)])) X3 hx rfl rfl rfl (pc0 := 11) (pc' := 18) (same := false) rfl (hb hby d1_11) rfl (decide_eq_false fun q => ha4 (Value.ref.inj q)) (by decide) (by decide) k) ?_
      refine Go.step (T' := T3) (f' := (mkF m 19 #[.val (.ref ba)] [(.int (0 : Int32))])) (fun t k => XS.iconst X3.here hx rfl (hb hby d1_18) k) ?_
      refine Go.retZ X3 hx hlk (t := .boolean) Bd.returns (by simp) (hb hby d1_19) e3 ?_ (by decide) (by decide)
      exact ⟨by simp_all [nar], N0, rfl⟩
theorem pn_com_example_honest_search_honestsearch_index_PhraseStatusIsSearchablePinLaw : plainName "com/example/honest_search/honestsearch/index/PhraseStatusIsSearchablePinLaw" = true := by first | (simp [plainName, overriddenIn]; done) | decide +kernel
theorem pd0 : parseMethodDescriptor "()Z" = some ⟨[], some .boolean⟩ := by decide +kernel
theorem ef_law (m : MethodId) (ia : Int32) : entryFrame m #[(.int ia)] maxLocals = mkF m 0 #[.val (.int ia), .unset, .unset, .unset] [] := by first | (simp [entryFrame, mkF, argsToLocals, Value.category, maxLocals]; done) | rfl
def Q_law (Z : State) (ia : Int32) (z_GOOD : Addr) (z_INCOMPLETE : Addr) (z_POSSIBLE : Addr) (z_DROPPED : Addr) (h0 : Heap) (n0 : Nat) (v : Option Value) (h : Heap) (L : List Loc) : Prop := v = some (.int (1 : Int32)) ∧ Fr n0 L ∧ Keep h0 h []
set_option maxRecDepth 65536 in
set_option maxHeartbeats 40000000 in
theorem rm_law (l : Launch) (Z : State) (a0 : Array Value) (hw : ∀ d ∈ tables_1, d.before a0 Z = true) (ws : List Jvm.Cond) (ia : Int32) (z_GOOD : Addr) (z_INCOMPLETE : Addr) (z_POSSIBLE : Addr) (z_DROPPED : Addr) (h0 : Heap) (n0 : Nat) (O0 : Old Z n0 h0) (P0 : Sta Z Z.heap "com/example/honest_search/honestsearch/index/PhraseStatus" "GOOD" "Lcom/example/honest_search/honestsearch/index/PhraseStatus;" (.ref z_GOOD)) (P1 : Sta Z Z.heap "com/example/honest_search/honestsearch/index/PhraseStatus" "INCOMPLETE" "Lcom/example/honest_search/honestsearch/index/PhraseStatus;" (.ref z_INCOMPLETE)) (P2 : Sta Z Z.heap "com/example/honest_search/honestsearch/index/PhraseStatus" "POSSIBLE" "Lcom/example/honest_search/honestsearch/index/PhraseStatus;" (.ref z_POSSIBLE)) (P3 : Sta Z Z.heap "com/example/honest_search/honestsearch/index/PhraseStatus" "DROPPED" "Lcom/example/honest_search/honestsearch/index/PhraseStatus;" (.ref z_DROPPED)) (P4 : Exa Z Z.heap z_GOOD "com/example/honest_search/honestsearch/index/PhraseStatus") (P5 : Exa Z Z.heap z_INCOMPLETE "com/example/honest_search/honestsearch/index/PhraseStatus") (P6 : Exa Z Z.heap z_POSSIBLE "com/example/honest_search/honestsearch/index/PhraseStatus") (P7 : Exa Z Z.heap z_DROPPED "com/example/honest_search/honestsearch/index/PhraseStatus") (P8 : z_GOOD ≠ z_INCOMPLETE) (P9 : z_GOOD ≠ z_POSSIBLE) (P10 : z_GOOD ≠ z_DROPPED) (P11 : z_INCOMPLETE ≠ z_POSSIBLE) (P12 : z_INCOMPLETE ≠ z_DROPPED) :
    MetFree l x (head1 (Jvm.Cond.code x code maxLocals ret :: ws) room_1) (fun a U => a = #[(.int ia)] ∧ Z.Warmed39 U.vm ∧ U.heap = h0) (fun _ _ _ _ _ => True) (fun _ U o U' => ∃ v L, o = .returned v ∧ Q_law Z ia z_GOOD z_INCOMPLETE z_POSSIBLE z_DROPPED h0 n0 v U'.heap L ∧ FrameEnd U o U' L room_1.cells room_1.slots) := by
  refine MetFree.of_bodySF (plainFor_of_name pn_com_example_honest_search_honestsearch_index_PhraseStatusIsSearchablePinLaw) hisR ?_
  intro p e s m args below meth c s₁ Bd hml0 hP hK
  obtain ⟨rfl, hZ, hh⟩ := hP
  have hx := Bd.exec
  have hby := Bd.bytes
  have hml : c.maxLocals = 4 := hml0
  have hown : s.vm.findClass "com/example/honest_search/honestsearch/index/PhraseStatusIsSearchablePinLaw" = some m.cls := findClass_of_methodNamed Bd.named
  have hnm := (name_of_methodNamed Bd.named Bd.method).1
  have hlk : meth.locks = false := BodyLoose.notSynchronized Bd
  have X0 : Stand p l e room_1 s m #[(.int ia)] below meth c s₁ [] 0 0 := Stand.of_body Bd
  have e0 : s₁.heap = h0 := by rw [← hh, Bd.state]; rfl
  have N0 := Fr.nil n0
  have K0 := Keep.refl h0 []
  rw [ef_law m ia]
  show Go p e below s (fun v h L => Q_law Z ia z_GOOD z_INCOMPLETE z_POSSIBLE z_DROPPED h0 n0 v h L) room_1.cells room_1.slots s₁ (mkF m 0 #[.val (.int ia), .unset, .unset, .unset] [])
  refine Go.step (T' := s₁) (f' := (mkF m 1 #[.val (.int ia), .unset, .unset, .unset] [(.int ia)])) (fun t k => XS.iloadN X0.here hx rfl (hb hby at_0) rfl k) ?_
  refine Go.step (T' := s₁) (f' := (mkF m 2 #[.val (.int ia), .unset, .unset, .unset] [(.int (3 : Int32)), (.int ia)])) (fun t k => XS.iconst X0.here hx rfl (hb hby at_1) k) ?_
  refine Go.step (T' := s₁) (f' := (mkF m 3 #[.val (.int ia), .unset, .unset, .unset] [(.int (ia &&& (3 : Int32)))])) (fun t k => XS.iand X0.here hx rfl (hb hby at_2) rfl k) ?_
  refine Go.step (T' := s₁) (f' := (mkF m 4 #[.val (.int ia), .val (.int (ia &&& (3 : Int32))), .unset, .unset] [])) (fun t k => XS.istoreN X0.here hx rfl (hb hby at_3) rfl (l' := #[.val (.int ia), .val (.int (ia &&& (3 : Int32))), .unset, .unset]) rfl k) ?_
  refine Go.step (T' := s₁) (f' := (mkF m 5 #[.val (.int ia), .val (.int (ia &&& (3 : Int32))), .unset, .unset] [(.int (ia &&& (3 : Int32)))])) (fun t k => XS.iloadN X0.here hx rfl (hb hby at_4) rfl k) ?_
  by_cases hc5 : (ia &&& (3 : Int32)) = (0 : Int32)
  ·
    refine Go.step (T' := s₁) (f' := (mkF m 8 #[.val (.int ia), .val (.int (ia &&& (3 : Int32))), .unset, .unset] [])) (fun t k => XS.ifNo X0.here hx rfl (hb hby at_5) rfl ((if0 _ _).trans (teq hc5).2) k) ?_
    obtain ⟨T6, X6, e6, st6⟩ := getS2 X0 hx hZ hown (host := "") (Or.inl (hw _ (List.mem_of_getElem? (i := 0) rfl))) Via.refl e0 (P0.ext O0.2) (g := (mkF m 8 #[.val (.int ia), .val (.int (ia &&& (3 : Int32))), .unset, .unset] [])) rfl (hb hby at_8)
    refine Go.step (T' := T6) (f' := (mkF m 11 #[.val (.int ia), .val (.int (ia &&& (3 : Int32))), .unset, .unset] [(.ref z_GOOD)])) st6 ?_
    refine Go.step (T' := T6) (f' := (mkF m 12 #[.val (.int ia), .val (.int (ia &&& (3 : Int32))), .val (.ref z_GOOD), .unset] [])) (fun t k => XS.astoreN X6.here hx rfl (hb hby at_11) rfl rfl (l' := #[.val (.int ia), .val (.int (ia &&& (3 : Int32))), .val (.ref z_GOOD), .unset]) rfl k) ?_
    refine Go.step (T' := T6) (f' := (mkF m 13 #[.val (.int ia), .val (.int (ia &&& (3 : Int32))), .val (.ref z_GOOD), .unset] [(.int (1 : Int32))])) (fun t k => XS.iconst X6.here hx rfl (hb hby at_12) k) ?_
    refine Go.step (T' := T6) (f' := (mkF m 14 #[.val (.int ia), .val (.int (ia &&& (3 : Int32))), .val (.ref z_GOOD), .val (.int (1 : Int32))] [])) (fun t k => XS.istoreN X6.here hx rfl (hb hby at_13) rfl (l' := #[.val (.int ia), .val (.int (ia &&& (3 : Int32))), .val (.ref z_GOOD), .val (.int (1 : Int32))]) rfl k) ?_
    refine Go.step (T' := T6) (f' := (mkF m 51 #[.val (.int ia), .val (.int (ia &&& (3 : Int32))), .val (.ref z_GOOD), .val (.int (1 : Int32))] [])) (fun t k => XS.goto X6.here hx rfl (pc0 := 14) (pc' := 51) rfl (hb hby at_14) (by decide) (by decide) k) ?_
    refine Go.step (T' := T6) (f' := (mkF m 52 #[.val (.int ia), .val (.int (ia &&& (3 : Int32))), .val (.ref z_GOOD), .val (.int (1 : Int32))] [(.ref z_GOOD)])) (fun t k => XS.aloadN X6.here hx rfl (hb hby at_51) rfl rfl k) ?_
    obtain ⟨cq7, kq7, q7a, q7b, q7c⟩ := isOf hZ e6 (P4.ext O0.2)
    obtain ⟨_, _, ⟨T7, L7, k7, n7⟩, -, X7, ⟨Lc7, hQ7, l7, y7, z7⟩, st7⟩ := X6.virtualBack hx (y := (⟨"com/example/honest_search/honestsearch/index/PhraseStatus", "isSearchable", "()Z"⟩ : MethodName)) (z := (⟨"com/example/honest_search/honestsearch/index/PhraseStatus", "isSearchable", "()Z"⟩ : MethodName)) hown (mvT hZ (hw _ (List.mem_of_getElem? (i := 3) rfl))) (mvT hZ (hw _ (List.mem_of_getElem? (i := 4) rfl))) (notFace_of_selects (args := #[]) (mvT hZ (hw _ (List.mem_of_getElem? (i := 6) rfl)))) (mvT hZ (hw _ (List.mem_of_getElem? (i := 6) rfl))) (mvT hZ (hw _ (List.mem_of_getElem? (i := 5) rfl))) (by decide) (backOf (W := 0) (rm_ask l Z a0 hw [] z_GOOD z_GOOD z_INCOMPLETE h0 n0 O0 P0 P1) hZ (hw _ (List.mem_of_getElem? (i := 7) rfl)) (hw _ (List.mem_of_getElem? (i := 1) rfl)) (by decide) (by decide)) q7a q7c (g := (mkF m 52 #[.val (.int ia), .val (.int (ia &&& (3 : Int32))), .val (.ref z_GOOD), .val (.int (1 : Int32))] [(.ref z_GOOD)])) rfl (by rw [hml]; rfl) (Steps.refl _) (argsL := []) (rest := []) (lenOf pd0 rfl) rfl (by show 2 * 0 + _ ≤ _; exact Nat.le_of_eq rfl) (hb hby at_52) (fun _ _ => ⟨rfl, e6, (by decide : 0 + 0 ≤ _), (by decide : 0 + 0 ≤ _)⟩)
    dsimp only [Pt.U, Pt.locs, Pt.cells, Pt.slots] at X7 l7 y7 z7 st7 hQ7
    subst l7 y7 z7
    obtain ⟨rfl, Nq7, hh7⟩ := hQ7
    have N8 := Fr.app N0 Nq7
    refine Go.via (T' := T7) (f' := (mkF m 55 #[.val (.int ia), .val (.int (ia &&& (3 : Int32))), .val (.ref z_GOOD), .val (.int (1 : Int32))] [(.int (if z_GOOD = z_GOOD ∨ z_GOOD = z_INCOMPLETE then (1 : Int32) else 0))])) st7 ?_
    refine Go.step (T' := T7) (f' := (mkF m 56 #[.val (.int ia), .val (.int (ia &&& (3 : Int32))), .val (.ref z_GOOD), .val (.int (1 : Int32))] [(.int (1 : Int32)), (.int (if z_GOOD = z_GOOD ∨ z_GOOD = z_INCOMPLETE then (1 : Int32) else 0))])) (fun t k => XS.iloadN X7.here hx rfl (hb hby at_55) rfl k) ?_
    have hc9 : (if z_GOOD = z_GOOD ∨ z_GOOD = z_INCOMPLETE then (1 : Int32) else 0) = (1 : Int32) := by
      simp [P8, P9, P10]
    refine Go.step (T' := T7) (f' := (mkF m 59 #[.val (.int ia), .val (.int (ia &&& (3 : Int32))), .val (.ref z_GOOD), .val (.int (1 : Int32))] [])) (fun t k => XS.icmpNo X7.here hx rfl (hb hby at_56) rfl (teq hc9).2 k) ?_
    refine Go.step (T' := T7) (f' := (mkF m 60 #[.val (.int ia), .val (.int (ia &&& (3 : Int32))), .val (.ref z_GOOD), .val (.int (1 : Int32))] [(.int (1 : Int32))])) (fun t k => XS.iconst X7.here hx rfl (hb hby at_59) k) ?_
    refine Go.step (T' := T7) (f' := (mkF m 64 #[.val (.int ia), .val (.int (ia &&& (3 : Int32))), .val (.ref z_GOOD), .val (.int (1 : Int32))] [(.int (1 : Int32))])) (fun t k => XS.goto X7.here hx rfl (pc0 := 60) (pc' := 64) rfl (hb hby at_60) (by decide) (by decide) k) ?_
    refine Go.retZ X7 hx hlk (t := .boolean) Bd.returns (by simp) (hb hby at_64) hh7 ?_ (by decide) (by decide)
    exact ⟨rfl, N8, K0⟩
  ·
    refine Go.step (T' := s₁) (f' := (mkF m 17 #[.val (.int ia), .val (.int (ia &&& (3 : Int32))), .unset, .unset] [])) (fun t k => XS.ifYes X0.here hx rfl (pc0 := 5) (pc' := 17) rfl (hb hby at_5) rfl ((if0 _ _).trans (feq hc5).2) (by decide) (by decide) k) ?_
    refine Go.step (T' := s₁) (f' := (mkF m 18 #[.val (.int ia), .val (.int (ia &&& (3 : Int32))), .unset, .unset] [(.int (ia &&& (3 : Int32)))])) (fun t k => XS.iloadN X0.here hx rfl (hb hby at_17) rfl k) ?_
    refine Go.step (T' := s₁) (f' := (mkF m 19 #[.val (.int ia), .val (.int (ia &&& (3 : Int32))), .unset, .unset] [(.int (1 : Int32)), (.int (ia &&& (3 : Int32)))])) (fun t k => XS.iconst X0.here hx rfl (hb hby at_18) k) ?_
    by_cases hc10 : (ia &&& (3 : Int32)) = (1 : Int32)
    ·
      refine Go.step (T' := s₁) (f' := (mkF m 22 #[.val (.int ia), .val (.int (ia &&& (3 : Int32))), .unset, .unset] [])) (fun t k => XS.icmpNo X0.here hx rfl (hb hby at_19) rfl (teq hc10).2 k) ?_
      obtain ⟨T11, X11, e11, st11⟩ := getS2 X0 hx hZ hown (host := "") (Or.inl (hw _ (List.mem_of_getElem? (i := 15) rfl))) Via.refl e0 (P1.ext O0.2) (g := (mkF m 22 #[.val (.int ia), .val (.int (ia &&& (3 : Int32))), .unset, .unset] [])) rfl (hb hby at_22)
      refine Go.step (T' := T11) (f' := (mkF m 25 #[.val (.int ia), .val (.int (ia &&& (3 : Int32))), .unset, .unset] [(.ref z_INCOMPLETE)])) st11 ?_
      refine Go.step (T' := T11) (f' := (mkF m 26 #[.val (.int ia), .val (.int (ia &&& (3 : Int32))), .val (.ref z_INCOMPLETE), .unset] [])) (fun t k => XS.astoreN X11.here hx rfl (hb hby at_25) rfl rfl (l' := #[.val (.int ia), .val (.int (ia &&& (3 : Int32))), .val (.ref z_INCOMPLETE), .unset]) rfl k) ?_
      refine Go.step (T' := T11) (f' := (mkF m 27 #[.val (.int ia), .val (.int (ia &&& (3 : Int32))), .val (.ref z_INCOMPLETE), .unset] [(.int (1 : Int32))])) (fun t k => XS.iconst X11.here hx rfl (hb hby at_26) k) ?_
      refine Go.step (T' := T11) (f' := (mkF m 28 #[.val (.int ia), .val (.int (ia &&& (3 : Int32))), .val (.ref z_INCOMPLETE), .val (.int (1 : Int32))] [])) (fun t k => XS.istoreN X11.here hx rfl (hb hby at_27) rfl (l' := #[.val (.int ia), .val (.int (ia &&& (3 : Int32))), .val (.ref z_INCOMPLETE), .val (.int (1 : Int32))]) rfl k) ?_
      refine Go.step (T' := T11) (f' := (mkF m 51 #[.val (.int ia), .val (.int (ia &&& (3 : Int32))), .val (.ref z_INCOMPLETE), .val (.int (1 : Int32))] [])) (fun t k => XS.goto X11.here hx rfl (pc0 := 28) (pc' := 51) rfl (hb hby at_28) (by decide) (by decide) k) ?_
      refine Go.step (T' := T11) (f' := (mkF m 52 #[.val (.int ia), .val (.int (ia &&& (3 : Int32))), .val (.ref z_INCOMPLETE), .val (.int (1 : Int32))] [(.ref z_INCOMPLETE)])) (fun t k => XS.aloadN X11.here hx rfl (hb hby at_51) rfl rfl k) ?_
      obtain ⟨cq12, kq12, q12a, q12b, q12c⟩ := isOf hZ e11 (P5.ext O0.2)
      obtain ⟨_, _, ⟨T12, L12, k12, n12⟩, -, X12, ⟨Lc12, hQ12, l12, y12, z12⟩, st12⟩ := X11.virtualBack hx (y := (⟨"com/example/honest_search/honestsearch/index/PhraseStatus", "isSearchable", "()Z"⟩ : MethodName)) (z := (⟨"com/example/honest_search/honestsearch/index/PhraseStatus", "isSearchable", "()Z"⟩ : MethodName)) hown (mvT hZ (hw _ (List.mem_of_getElem? (i := 3) rfl))) (mvT hZ (hw _ (List.mem_of_getElem? (i := 4) rfl))) (notFace_of_selects (args := #[]) (mvT hZ (hw _ (List.mem_of_getElem? (i := 6) rfl)))) (mvT hZ (hw _ (List.mem_of_getElem? (i := 6) rfl))) (mvT hZ (hw _ (List.mem_of_getElem? (i := 5) rfl))) (by decide) (backOf (W := 0) (rm_ask l Z a0 hw [] z_INCOMPLETE z_GOOD z_INCOMPLETE h0 n0 O0 P0 P1) hZ (hw _ (List.mem_of_getElem? (i := 7) rfl)) (hw _ (List.mem_of_getElem? (i := 1) rfl)) (by decide) (by decide)) q12a q12c (g := (mkF m 52 #[.val (.int ia), .val (.int (ia &&& (3 : Int32))), .val (.ref z_INCOMPLETE), .val (.int (1 : Int32))] [(.ref z_INCOMPLETE)])) rfl (by rw [hml]; rfl) (Steps.refl _) (argsL := []) (rest := []) (lenOf pd0 rfl) rfl (by show 2 * 0 + _ ≤ _; exact Nat.le_of_eq rfl) (hb hby at_52) (fun _ _ => ⟨rfl, e11, (by decide : 0 + 0 ≤ _), (by decide : 0 + 0 ≤ _)⟩)
      dsimp only [Pt.U, Pt.locs, Pt.cells, Pt.slots] at X12 l12 y12 z12 st12 hQ12
      subst l12 y12 z12
      obtain ⟨rfl, Nq12, hh12⟩ := hQ12
      have N13 := Fr.app N0 Nq12
      refine Go.via (T' := T12) (f' := (mkF m 55 #[.val (.int ia), .val (.int (ia &&& (3 : Int32))), .val (.ref z_INCOMPLETE), .val (.int (1 : Int32))] [(.int (if z_INCOMPLETE = z_GOOD ∨ z_INCOMPLETE = z_INCOMPLETE then (1 : Int32) else 0))])) st12 ?_
      refine Go.step (T' := T12) (f' := (mkF m 56 #[.val (.int ia), .val (.int (ia &&& (3 : Int32))), .val (.ref z_INCOMPLETE), .val (.int (1 : Int32))] [(.int (1 : Int32)), (.int (if z_INCOMPLETE = z_GOOD ∨ z_INCOMPLETE = z_INCOMPLETE then (1 : Int32) else 0))])) (fun t k => XS.iloadN X12.here hx rfl (hb hby at_55) rfl k) ?_
      have hc14 : (if z_INCOMPLETE = z_GOOD ∨ z_INCOMPLETE = z_INCOMPLETE then (1 : Int32) else 0) = (1 : Int32) := by
        simp [Ne.symm P8, P11, P12]
      refine Go.step (T' := T12) (f' := (mkF m 59 #[.val (.int ia), .val (.int (ia &&& (3 : Int32))), .val (.ref z_INCOMPLETE), .val (.int (1 : Int32))] [])) (fun t k => XS.icmpNo X12.here hx rfl (hb hby at_56) rfl (teq hc14).2 k) ?_
      refine Go.step (T' := T12) (f' := (mkF m 60 #[.val (.int ia), .val (.int (ia &&& (3 : Int32))), .val (.ref z_INCOMPLETE), .val (.int (1 : Int32))] [(.int (1 : Int32))])) (fun t k => XS.iconst X12.here hx rfl (hb hby at_59) k) ?_
      refine Go.step (T' := T12) (f' := (mkF m 64 #[.val (.int ia), .val (.int (ia &&& (3 : Int32))), .val (.ref z_INCOMPLETE), .val (.int (1 : Int32))] [(.int (1 : Int32))])) (fun t k => XS.goto X12.here hx rfl (pc0 := 60) (pc' := 64) rfl (hb hby at_60) (by decide) (by decide) k) ?_
      refine Go.retZ X12 hx hlk (t := .boolean) Bd.returns (by simp) (hb hby at_64) hh12 ?_ (by decide) (by decide)
      exact ⟨rfl, N13, K0⟩
    ·
      refine Go.step (T' := s₁) (f' := (mkF m 31 #[.val (.int ia), .val (.int (ia &&& (3 : Int32))), .unset, .unset] [])) (fun t k => XS.icmpYes X0.here hx rfl (pc0 := 19) (pc' := 31) rfl (hb hby at_19) rfl (feq hc10).2 (by decide) (by decide) k) ?_
      refine Go.step (T' := s₁) (f' := (mkF m 32 #[.val (.int ia), .val (.int (ia &&& (3 : Int32))), .unset, .unset] [(.int (ia &&& (3 : Int32)))])) (fun t k => XS.iloadN X0.here hx rfl (hb hby at_31) rfl k) ?_
      refine Go.step (T' := s₁) (f' := (mkF m 33 #[.val (.int ia), .val (.int (ia &&& (3 : Int32))), .unset, .unset] [(.int (2 : Int32)), (.int (ia &&& (3 : Int32)))])) (fun t k => XS.iconst X0.here hx rfl (hb hby at_32) k) ?_
      by_cases hc15 : (ia &&& (3 : Int32)) = (2 : Int32)
      ·
        refine Go.step (T' := s₁) (f' := (mkF m 36 #[.val (.int ia), .val (.int (ia &&& (3 : Int32))), .unset, .unset] [])) (fun t k => XS.icmpNo X0.here hx rfl (hb hby at_33) rfl (teq hc15).2 k) ?_
        obtain ⟨T16, X16, e16, st16⟩ := getS2 X0 hx hZ hown (host := "") (Or.inl (hw _ (List.mem_of_getElem? (i := 13) rfl))) Via.refl e0 (P2.ext O0.2) (g := (mkF m 36 #[.val (.int ia), .val (.int (ia &&& (3 : Int32))), .unset, .unset] [])) rfl (hb hby at_36)
        refine Go.step (T' := T16) (f' := (mkF m 39 #[.val (.int ia), .val (.int (ia &&& (3 : Int32))), .unset, .unset] [(.ref z_POSSIBLE)])) st16 ?_
        refine Go.step (T' := T16) (f' := (mkF m 40 #[.val (.int ia), .val (.int (ia &&& (3 : Int32))), .val (.ref z_POSSIBLE), .unset] [])) (fun t k => XS.astoreN X16.here hx rfl (hb hby at_39) rfl rfl (l' := #[.val (.int ia), .val (.int (ia &&& (3 : Int32))), .val (.ref z_POSSIBLE), .unset]) rfl k) ?_
        refine Go.step (T' := T16) (f' := (mkF m 41 #[.val (.int ia), .val (.int (ia &&& (3 : Int32))), .val (.ref z_POSSIBLE), .unset] [(.int (0 : Int32))])) (fun t k => XS.iconst X16.here hx rfl (hb hby at_40) k) ?_
        refine Go.step (T' := T16) (f' := (mkF m 42 #[.val (.int ia), .val (.int (ia &&& (3 : Int32))), .val (.ref z_POSSIBLE), .val (.int (0 : Int32))] [])) (fun t k => XS.istoreN X16.here hx rfl (hb hby at_41) rfl (l' := #[.val (.int ia), .val (.int (ia &&& (3 : Int32))), .val (.ref z_POSSIBLE), .val (.int (0 : Int32))]) rfl k) ?_
        refine Go.step (T' := T16) (f' := (mkF m 51 #[.val (.int ia), .val (.int (ia &&& (3 : Int32))), .val (.ref z_POSSIBLE), .val (.int (0 : Int32))] [])) (fun t k => XS.goto X16.here hx rfl (pc0 := 42) (pc' := 51) rfl (hb hby at_42) (by decide) (by decide) k) ?_
        refine Go.step (T' := T16) (f' := (mkF m 52 #[.val (.int ia), .val (.int (ia &&& (3 : Int32))), .val (.ref z_POSSIBLE), .val (.int (0 : Int32))] [(.ref z_POSSIBLE)])) (fun t k => XS.aloadN X16.here hx rfl (hb hby at_51) rfl rfl k) ?_
        obtain ⟨cq17, kq17, q17a, q17b, q17c⟩ := isOf hZ e16 (P6.ext O0.2)
        obtain ⟨_, _, ⟨T17, L17, k17, n17⟩, -, X17, ⟨Lc17, hQ17, l17, y17, z17⟩, st17⟩ := X16.virtualBack hx (y := (⟨"com/example/honest_search/honestsearch/index/PhraseStatus", "isSearchable", "()Z"⟩ : MethodName)) (z := (⟨"com/example/honest_search/honestsearch/index/PhraseStatus", "isSearchable", "()Z"⟩ : MethodName)) hown (mvT hZ (hw _ (List.mem_of_getElem? (i := 3) rfl))) (mvT hZ (hw _ (List.mem_of_getElem? (i := 4) rfl))) (notFace_of_selects (args := #[]) (mvT hZ (hw _ (List.mem_of_getElem? (i := 6) rfl)))) (mvT hZ (hw _ (List.mem_of_getElem? (i := 6) rfl))) (mvT hZ (hw _ (List.mem_of_getElem? (i := 5) rfl))) (by decide) (backOf (W := 0) (rm_ask l Z a0 hw [] z_POSSIBLE z_GOOD z_INCOMPLETE h0 n0 O0 P0 P1) hZ (hw _ (List.mem_of_getElem? (i := 7) rfl)) (hw _ (List.mem_of_getElem? (i := 1) rfl)) (by decide) (by decide)) q17a q17c (g := (mkF m 52 #[.val (.int ia), .val (.int (ia &&& (3 : Int32))), .val (.ref z_POSSIBLE), .val (.int (0 : Int32))] [(.ref z_POSSIBLE)])) rfl (by rw [hml]; rfl) (Steps.refl _) (argsL := []) (rest := []) (lenOf pd0 rfl) rfl (by show 2 * 0 + _ ≤ _; exact Nat.le_of_eq rfl) (hb hby at_52) (fun _ _ => ⟨rfl, e16, (by decide : 0 + 0 ≤ _), (by decide : 0 + 0 ≤ _)⟩)
        dsimp only [Pt.U, Pt.locs, Pt.cells, Pt.slots] at X17 l17 y17 z17 st17 hQ17
        subst l17 y17 z17
        obtain ⟨rfl, Nq17, hh17⟩ := hQ17
        have N18 := Fr.app N0 Nq17
        refine Go.via (T' := T17) (f' := (mkF m 55 #[.val (.int ia), .val (.int (ia &&& (3 : Int32))), .val (.ref z_POSSIBLE), .val (.int (0 : Int32))] [(.int (if z_POSSIBLE = z_GOOD ∨ z_POSSIBLE = z_INCOMPLETE then (1 : Int32) else 0))])) st17 ?_
        refine Go.step (T' := T17) (f' := (mkF m 56 #[.val (.int ia), .val (.int (ia &&& (3 : Int32))), .val (.ref z_POSSIBLE), .val (.int (0 : Int32))] [(.int (0 : Int32)), (.int (if z_POSSIBLE = z_GOOD ∨ z_POSSIBLE = z_INCOMPLETE then (1 : Int32) else 0))])) (fun t k => XS.iloadN X17.here hx rfl (hb hby at_55) rfl k) ?_
        have hc19 : (if z_POSSIBLE = z_GOOD ∨ z_POSSIBLE = z_INCOMPLETE then (1 : Int32) else 0) = (0 : Int32) := by
          simp [Ne.symm P9, Ne.symm P11]
        refine Go.step (T' := T17) (f' := (mkF m 59 #[.val (.int ia), .val (.int (ia &&& (3 : Int32))), .val (.ref z_POSSIBLE), .val (.int (0 : Int32))] [])) (fun t k => XS.icmpNo X17.here hx rfl (hb hby at_56) rfl (teq hc19).2 k) ?_
        refine Go.step (T' := T17) (f' := (mkF m 60 #[.val (.int ia), .val (.int (ia &&& (3 : Int32))), .val (.ref z_POSSIBLE), .val (.int (0 : Int32))] [(.int (1 : Int32))])) (fun t k => XS.iconst X17.here hx rfl (hb hby at_59) k) ?_
        refine Go.step (T' := T17) (f' := (mkF m 64 #[.val (.int ia), .val (.int (ia &&& (3 : Int32))), .val (.ref z_POSSIBLE), .val (.int (0 : Int32))] [(.int (1 : Int32))])) (fun t k => XS.goto X17.here hx rfl (pc0 := 60) (pc' := 64) rfl (hb hby at_60) (by decide) (by decide) k) ?_
        refine Go.retZ X17 hx hlk (t := .boolean) Bd.returns (by simp) (hb hby at_64) hh17 ?_ (by decide) (by decide)
        exact ⟨rfl, N18, K0⟩
      ·
        refine Go.step (T' := s₁) (f' := (mkF m 45 #[.val (.int ia), .val (.int (ia &&& (3 : Int32))), .unset, .unset] [])) (fun t k => XS.icmpYes X0.here hx rfl (pc0 := 33) (pc' := 45) rfl (hb hby at_33) rfl (feq hc15).2 (by decide) (by decide) k) ?_
        obtain ⟨T20, X20, e20, st20⟩ := getS2 X0 hx hZ hown (host := "") (Or.inl (hw _ (List.mem_of_getElem? (i := 9) rfl))) Via.refl e0 (P3.ext O0.2) (g := (mkF m 45 #[.val (.int ia), .val (.int (ia &&& (3 : Int32))), .unset, .unset] [])) rfl (hb hby at_45)
        refine Go.step (T' := T20) (f' := (mkF m 48 #[.val (.int ia), .val (.int (ia &&& (3 : Int32))), .unset, .unset] [(.ref z_DROPPED)])) st20 ?_
        refine Go.step (T' := T20) (f' := (mkF m 49 #[.val (.int ia), .val (.int (ia &&& (3 : Int32))), .val (.ref z_DROPPED), .unset] [])) (fun t k => XS.astoreN X20.here hx rfl (hb hby at_48) rfl rfl (l' := #[.val (.int ia), .val (.int (ia &&& (3 : Int32))), .val (.ref z_DROPPED), .unset]) rfl k) ?_
        refine Go.step (T' := T20) (f' := (mkF m 50 #[.val (.int ia), .val (.int (ia &&& (3 : Int32))), .val (.ref z_DROPPED), .unset] [(.int (0 : Int32))])) (fun t k => XS.iconst X20.here hx rfl (hb hby at_49) k) ?_
        refine Go.step (T' := T20) (f' := (mkF m 51 #[.val (.int ia), .val (.int (ia &&& (3 : Int32))), .val (.ref z_DROPPED), .val (.int (0 : Int32))] [])) (fun t k => XS.istoreN X20.here hx rfl (hb hby at_50) rfl (l' := #[.val (.int ia), .val (.int (ia &&& (3 : Int32))), .val (.ref z_DROPPED), .val (.int (0 : Int32))]) rfl k) ?_
        refine Go.step (T' := T20) (f' := (mkF m 52 #[.val (.int ia), .val (.int (ia &&& (3 : Int32))), .val (.ref z_DROPPED), .val (.int (0 : Int32))] [(.ref z_DROPPED)])) (fun t k => XS.aloadN X20.here hx rfl (hb hby at_51) rfl rfl k) ?_
        obtain ⟨cq21, kq21, q21a, q21b, q21c⟩ := isOf hZ e20 (P7.ext O0.2)
        obtain ⟨_, _, ⟨T21, L21, k21, n21⟩, -, X21, ⟨Lc21, hQ21, l21, y21, z21⟩, st21⟩ := X20.virtualBack hx (y := (⟨"com/example/honest_search/honestsearch/index/PhraseStatus", "isSearchable", "()Z"⟩ : MethodName)) (z := (⟨"com/example/honest_search/honestsearch/index/PhraseStatus", "isSearchable", "()Z"⟩ : MethodName)) hown (mvT hZ (hw _ (List.mem_of_getElem? (i := 3) rfl))) (mvT hZ (hw _ (List.mem_of_getElem? (i := 4) rfl))) (notFace_of_selects (args := #[]) (mvT hZ (hw _ (List.mem_of_getElem? (i := 6) rfl)))) (mvT hZ (hw _ (List.mem_of_getElem? (i := 6) rfl))) (mvT hZ (hw _ (List.mem_of_getElem? (i := 5) rfl))) (by decide) (backOf (W := 0) (rm_ask l Z a0 hw [] z_DROPPED z_GOOD z_INCOMPLETE h0 n0 O0 P0 P1) hZ (hw _ (List.mem_of_getElem? (i := 7) rfl)) (hw _ (List.mem_of_getElem? (i := 1) rfl)) (by decide) (by decide)) q21a q21c (g := (mkF m 52 #[.val (.int ia), .val (.int (ia &&& (3 : Int32))), .val (.ref z_DROPPED), .val (.int (0 : Int32))] [(.ref z_DROPPED)])) rfl (by rw [hml]; rfl) (Steps.refl _) (argsL := []) (rest := []) (lenOf pd0 rfl) rfl (by show 2 * 0 + _ ≤ _; exact Nat.le_of_eq rfl) (hb hby at_52) (fun _ _ => ⟨rfl, e20, (by decide : 0 + 0 ≤ _), (by decide : 0 + 0 ≤ _)⟩)
        dsimp only [Pt.U, Pt.locs, Pt.cells, Pt.slots] at X21 l21 y21 z21 st21 hQ21
        subst l21 y21 z21
        obtain ⟨rfl, Nq21, hh21⟩ := hQ21
        have N22 := Fr.app N0 Nq21
        refine Go.via (T' := T21) (f' := (mkF m 55 #[.val (.int ia), .val (.int (ia &&& (3 : Int32))), .val (.ref z_DROPPED), .val (.int (0 : Int32))] [(.int (if z_DROPPED = z_GOOD ∨ z_DROPPED = z_INCOMPLETE then (1 : Int32) else 0))])) st21 ?_
        refine Go.step (T' := T21) (f' := (mkF m 56 #[.val (.int ia), .val (.int (ia &&& (3 : Int32))), .val (.ref z_DROPPED), .val (.int (0 : Int32))] [(.int (0 : Int32)), (.int (if z_DROPPED = z_GOOD ∨ z_DROPPED = z_INCOMPLETE then (1 : Int32) else 0))])) (fun t k => XS.iloadN X21.here hx rfl (hb hby at_55) rfl k) ?_
        have hc23 : (if z_DROPPED = z_GOOD ∨ z_DROPPED = z_INCOMPLETE then (1 : Int32) else 0) = (0 : Int32) := by
          simp [Ne.symm P10, Ne.symm P12]
        refine Go.step (T' := T21) (f' := (mkF m 59 #[.val (.int ia), .val (.int (ia &&& (3 : Int32))), .val (.ref z_DROPPED), .val (.int (0 : Int32))] [])) (fun t k => XS.icmpNo X21.here hx rfl (hb hby at_56) rfl (teq hc23).2 k) ?_
        refine Go.step (T' := T21) (f' := (mkF m 60 #[.val (.int ia), .val (.int (ia &&& (3 : Int32))), .val (.ref z_DROPPED), .val (.int (0 : Int32))] [(.int (1 : Int32))])) (fun t k => XS.iconst X21.here hx rfl (hb hby at_59) k) ?_
        refine Go.step (T' := T21) (f' := (mkF m 64 #[.val (.int ia), .val (.int (ia &&& (3 : Int32))), .val (.ref z_DROPPED), .val (.int (0 : Int32))] [(.int (1 : Int32))])) (fun t k => XS.goto X21.here hx rfl (pc0 := 60) (pc' := 64) rfl (hb hby at_60) (by decide) (by decide) k) ?_
        refine Go.retZ X21 hx hlk (t := .boolean) Bd.returns (by simp) (hb hby at_64) hh21 ?_ (by decide) (by decide)
        exact ⟨rfl, N22, K0⟩
set_option maxRecDepth 65536 in
set_option maxHeartbeats 40000000 in
theorem comes_1 {Post : Tables → Env → Array Value → State → Outcome → State → Prop} (hpost : ∀ tb e args s v u, (limb_1_1.after args s (.returned v) u = true ∧ limb_1_2.after args s (.returned v) u = true ∧ True) → FrameEnd s (.returned v) u (Jvm.fieldLocs frame_1_writes args s ++ Jvm.arrayLocs frame_1_arrays args s ++ Jvm.staticLocs frame_1_statics s) 0 0 → Post tb e args s (.returned v) u) :
    ArmFor flags0 classFile x code maxLocals ret World_1 tables_1 room_1 Calls_1 rest_1 Pre_1 Post := by
  intro l hfl _ _ p e ha hc hk s m args below hf hA hF happ hP
  obtain ⟨hcalls, hrest, hpre⟩ := hP
  obtain ⟨-, -, -, hnamed, -, -, -, hat⟩ := (Spec.applies_iff hf).mp happ
  obtain ⟨hg, hn⟩ := and_e (Cond.before_iff.mp (show (Jvm.Cond.and given_1 narrow_1).before args s = true from hpre))
  obtain ⟨c1, c2⟩ := and_e hg
  obtain ⟨c3, c4⟩ := and_e hn
  obtain ⟨c5, c6⟩ := and_e c4
  obtain ⟨c7, c8⟩ := and_e c6
  obtain ⟨c9, c10⟩ := and_e c8
  obtain ⟨c11, c12⟩ := and_e c10
  obtain ⟨c13, c14⟩ := and_e c12
  obtain ⟨c15, c16⟩ := and_e c14
  obtain ⟨w0, rfl⟩ : ∃ w0 : Value, args = #[w0] := by
    have hs : args.size = 1 := by simpa [Cond.value, given_1] using c1
    obtain ⟨L⟩ := args
    match L, hs with
    | [w0], _ => exact ⟨w0, rfl⟩
  have hw := fun d (hd : d ∈ tables_1) => atoms_spec (ws := Jvm.Cond.code x code maxLocals ret :: tables_1) hat d (List.mem_cons_of_mem _ hd)
  have hfit : Fit s := fun {y c} hc i hi => by
    obtain ⟨ha, rfl⟩ := Array.getElem?_eq_some_iff.mp hc
    have q := List.all_eq_true.mp ((Array.all_eq_true_iff_forall_mem.mp hF) _ (Array.getElem_mem ha)) i (List.mem_range.mpr hi)
    simpa [Array.getElem?_eq_getElem hi] using q
  obtain ⟨i0, ei0⟩ := is_v c2
  obtain rfl : w0 = (.int i0) := Option.some.inj ei0
  obtain ⟨z_GOOD, ev_z_GOOD⟩ := exa_v c3
  have S_z_GOOD := Sta.start ev_z_GOOD (Or.inr ⟨(hw _ (List.mem_of_getElem? (i := 1) rfl)), (hw _ (List.mem_of_getElem? (i := 2) rfl))⟩)
  have E_z_GOOD := Exa.start ev_z_GOOD c3
  obtain ⟨z_DROPPED, ev_z_DROPPED⟩ := exa_v c5
  have S_z_DROPPED := Sta.start ev_z_DROPPED (Or.inr ⟨(hw _ (List.mem_of_getElem? (i := 1) rfl)), (hw _ (List.mem_of_getElem? (i := 10) rfl))⟩)
  have E_z_DROPPED := Exa.start ev_z_DROPPED c5
  obtain ⟨z_INCOMPLETE, ev_z_INCOMPLETE⟩ := exa_v c11
  have S_z_INCOMPLETE := Sta.start ev_z_INCOMPLETE (Or.inr ⟨(hw _ (List.mem_of_getElem? (i := 1) rfl)), (hw _ (List.mem_of_getElem? (i := 12) rfl))⟩)
  have E_z_INCOMPLETE := Exa.start ev_z_INCOMPLETE c11
  obtain ⟨z_POSSIBLE, ev_z_POSSIBLE⟩ := exa_v c15
  have S_z_POSSIBLE := Sta.start ev_z_POSSIBLE (Or.inr ⟨(hw _ (List.mem_of_getElem? (i := 1) rfl)), (hw _ (List.mem_of_getElem? (i := 14) rfl))⟩)
  have E_z_POSSIBLE := Exa.start ev_z_POSSIBLE c15
  have F_z_DROPPED : Fld s s.heap z_DROPPED "java/lang/Enum" "ordinal" "I" (.int (3 : Int32)) := own_fld_start ev_z_DROPPED c7
  have F_z_GOOD : Fld s s.heap z_GOOD "java/lang/Enum" "ordinal" "I" (.int (0 : Int32)) := own_fld_start ev_z_GOOD c9
  have F_z_INCOMPLETE : Fld s s.heap z_INCOMPLETE "java/lang/Enum" "ordinal" "I" (.int (1 : Int32)) := own_fld_start ev_z_INCOMPLETE c13
  have F_z_POSSIBLE : Fld s s.heap z_POSSIBLE "java/lang/Enum" "ordinal" "I" (.int (2 : Int32)) := own_fld_start ev_z_POSSIBLE c16
  obtain ⟨n, o, h1, h2, h3, _, L, rfl, ⟨rfl, N, -⟩, hq⟩ := rm_law l s _ hw tables_1 i0 z_GOOD z_INCOMPLETE z_POSSIBLE z_DROPPED s.heap s.heap.size (Old.start s) S_z_GOOD S_z_INCOMPLETE S_z_POSSIBLE S_z_DROPPED E_z_GOOD E_z_INCOMPLETE E_z_POSSIBLE E_z_DROPPED (F_z_GOOD.ne F_z_INCOMPLETE (by decide)) (F_z_GOOD.ne F_z_POSSIBLE (by decide)) (F_z_GOOD.ne F_z_DROPPED (by decide)) (F_z_INCOMPLETE.ne F_z_POSSIBLE (by decide)) (F_z_INCOMPLETE.ne F_z_DROPPED (by decide)) p e ha hc hk s m _ below hf ((Spec.applies_iff_loose hf).mp happ).1 ⟨rfl, State.Warmed39.refl s, rfl⟩ trivial
  refine ⟨n, _, h1, h2, h3, hpost _ _ _ _ _ _ ⟨Cond.after_iff.mpr rfl, Cond.after_iff.mpr (eq_i res_at (Term.int_eval (1)) rfl), trivial⟩ ⟨hq.1, hq.2.1, (hq.2.2.sift fun y hy => Or.inr (N y hy)).mono (by decide) (by decide)⟩⟩
theorem main_1_1 : Claimed_1_1 := comes_1 fun _ _ _ _ _ _ h hF => ⟨h.1, hF⟩
theorem main_1_2 : Claimed_1_2 := comes_1 fun _ _ _ _ _ _ h hF => ⟨h.2.1, hF⟩
end Jvm.Pilot.@@N@@
namespace Jvm.Pilot.@@N@@
open Jvm Jvm.ClassFile Sem Op Lib Jvm.Free Jvm.Stand Jvm.Pilot.@@N@@.Jvm.D
/-! MADE BY PROGRAM (witnessworld.py) out of the Statement's table words and the real class files: 12 classes; the members and pool entries that the words name. The judged class is class 1, her method 1. -/
namespace start1
open Jvm.ClassFile
def u (s : String) : CpInfo := .utf8 (stringToUtf16 s)
/-- a pool by its gaps: so many unusable entries, then the entry; so many at the end -/
def gap : Nat → List CpInfo → List CpInfo
  | 0, r => r
  | n + 1, r => .unusable :: gap n r
def poolList (es : List (Nat × CpInfo)) (last : Nat) : List CpInfo := es.foldr (fun e r => gap e.1 (e.2 :: r)) (gap last [])
def pool (es : List (Nat × CpInfo)) (last : Nat) : Array CpInfo := ⟨poolList es last⟩
def fileOf (pool : Array CpInfo) (this : Nat) (attrs : Array Attribute := #[]) (ms : Array MethodInfo := #[]) (fl : Nat := 33) (sup : Nat := 0) (ifs : Array Nat := #[]) (fds : Array FieldInfo := #[]) : ClassFile where
  minorVersion := 0
  majorVersion := 65
  constantPool := pool
  accessFlags := fl
  thisClass := this
  superClass := sup
  interfaces := ifs
  fields := fds
  methods := ms
  attributes := attrs
def plain (name : String) (sup : Option ClassId) : Class where
  name := name
  kind := .ordinary
  loader := none
  accessFlags := 33
  super := sup
  interfaces := #[]
  cf := none
  fields := #[]
  methods := #[]
  instanceTypes := #[]
  staticTypes := #[]
  resolved := #[]
  callSites := []
  init := .initialized
  statics := none
  mirror := none

def pool0 : Array CpInfo := pool [(5, u "<init>"), (0, u "()V"), (1, .class_ 10), (1, u "java/lang/Object")] 113

def k0m0 : Method := { name := "<init>", desc := "()V", sig := { parameters := [], returnType := none }, accessFlags := 1, code := none }
/-- java/lang/Object -/
def k0 : Class := { plain "java/lang/Object" none with
  accessFlags := 33
  interfaces := #[]
  cf := some (fileOf pool0 8 #[] #[{ accessFlags := 1, nameIndex := 5, descriptorIndex := 6, attributes := #[] }] 33 0 #[] #[])
  fields := #[]
  methods := #[k0m0]
  instanceTypes := #[]
  staticTypes := #[]
  resolved := Array.replicate 124 none
  statics := none }

def pool1 : Array CpInfo := pool [(2, .class_ 4), (1, u "java/lang/Object"), (0, u "<init>"), (0, u "()V"), (0, .fieldref 8 9), (0, .class_ 10), (0, .nameAndType 11 12), (0, u "com/example/honest_search/honestsearch/index/PhraseStatus"), (0, u "GOOD"), (0, u "Lcom/example/honest_search/honestsearch/index/PhraseStatus;"), (0, .fieldref 8 14), (0, .nameAndType 15 12), (0, u "INCOMPLETE"), (0, .fieldref 8 17), (0, .nameAndType 18 12), (0, u "POSSIBLE"), (0, .fieldref 8 20), (0, .nameAndType 21 12), (0, u "DROPPED"), (0, .methodref 8 23), (0, .nameAndType 24 25), (0, u "isSearchable"), (0, u "()Z"), (0, .class_ 27), (0, u "com/example/honest_search/honestsearch/index/PhraseStatusIsSearchablePinLaw"), (2, u "law"), (0, u "(I)Z")] 3

def k1m0 : Method := { name := "<init>", desc := "()V", sig := { parameters := [], returnType := none }, accessFlags := 2, code := none }
def k1c1 : Code := { maxStack := 2, maxLocals := 4, code := code, exceptionTable := #[], attributes := #[] }
def k1m1 : Method := { name := "law", desc := "(I)Z", sig := { parameters := [.int], returnType := some .boolean }, accessFlags := 9, code := some k1c1 }
/-- com/example/honest_search/honestsearch/index/PhraseStatusIsSearchablePinLaw -/
def k1 : Class := { plain "com/example/honest_search/honestsearch/index/PhraseStatusIsSearchablePinLaw" (some 0) with
  accessFlags := 49
  interfaces := #[]
  cf := some (fileOf pool1 26 #[] #[{ accessFlags := 2, nameIndex := 5, descriptorIndex := 6, attributes := #[] }, { accessFlags := 9, nameIndex := 30, descriptorIndex := 31, attributes := #[] }] 49 2 #[] #[])
  fields := #[]
  methods := #[k1m0, k1m1]
  instanceTypes := #[]
  staticTypes := #[]
  resolved := Array.replicate 35 none
  statics := none }

def pool2 : Array CpInfo := pool [(1, .class_ 2), (0, u "java/lang/constant/Constable"), (0, .class_ 4), (0, u "java/lang/Object")] 6

/-- java/lang/constant/Constable -/
def k2 : Class := { plain "java/lang/constant/Constable" (some 0) with
  accessFlags := 1537
  interfaces := #[]
  cf := some (fileOf pool2 1 #[] #[] 1537 3 #[] #[])
  fields := #[]
  methods := #[]
  instanceTypes := #[]
  staticTypes := #[]
  resolved := Array.replicate 11 none
  statics := none }

def pool3 : Array CpInfo := pool [(1, .class_ 2), (0, u "java/lang/Comparable"), (0, .class_ 4), (0, u "java/lang/Object")] 7

/-- java/lang/Comparable -/
def k3 : Class := { plain "java/lang/Comparable" (some 0) with
  accessFlags := 1537
  interfaces := #[]
  cf := some (fileOf pool3 1 #[] #[] 1537 3 #[] #[])
  fields := #[]
  methods := #[]
  instanceTypes := #[]
  staticTypes := #[]
  resolved := Array.replicate 12 none
  statics := none }

def pool4 : Array CpInfo := pool [(1, .class_ 2), (0, u "java/io/Serializable"), (0, .class_ 4), (0, u "java/lang/Object")] 2

/-- java/io/Serializable -/
def k4 : Class := { plain "java/io/Serializable" (some 0) with
  accessFlags := 1537
  interfaces := #[]
  cf := some (fileOf pool4 1 #[] #[] 1537 3 #[] #[])
  fields := #[]
  methods := #[]
  instanceTypes := #[]
  staticTypes := #[]
  resolved := Array.replicate 7 none
  statics := none }

def pool5 : Array CpInfo := pool [(2, .class_ 4), (1, u "java/lang/Enum"), (0, u "name"), (0, u "Ljava/lang/String;"), (2, u "ordinal"), (0, u "I"), (1, .class_ 14), (1, u "java/lang/Object"), (4, u "hash"), (86, .class_ 108), (1, u "java/lang/Enum$EnumDesc"), (2, .class_ 112), (0, u "java/lang/constant/Constable"), (0, .class_ 114), (0, u "java/lang/Comparable"), (0, .class_ 116), (0, u "java/io/Serializable")] 87

/-- java/lang/Enum -/
def k5 : Class := { plain "java/lang/Enum" (some 0) with
  accessFlags := 1057
  interfaces := #[2, 3, 4]
  cf := some (fileOf pool5 2 #[.nestMembers #[106]] #[] 1057 12 #[111, 113, 115] #[{ accessFlags := 18, nameIndex := 5, descriptorIndex := 6, attributes := #[] }, { accessFlags := 18, nameIndex := 9, descriptorIndex := 10, attributes := #[] }, { accessFlags := 2, nameIndex := 19, descriptorIndex := 10, attributes := #[] }])
  fields := #[{ name := "name", type := (.object "java/lang/String"), accessFlags := 18, slot := 0, constantValue := 0 }, { name := "ordinal", type := .int, accessFlags := 18, slot := 1, constantValue := 0 }, { name := "hash", type := .int, accessFlags := 2, slot := 2, constantValue := 0 }]
  methods := #[]
  instanceTypes := #[(.object "java/lang/String"), .int, .int]
  staticTypes := #[]
  resolved := Array.replicate 204 none
  statics := none }

def pool6 : Array CpInfo := pool [(1, .class_ 2), (0, u "com/example/honest_search/honestsearch/index/PhraseStatus"), (0, .fieldref 1 4), (0, .nameAndType 5 6), (0, u "GOOD"), (0, u "Lcom/example/honest_search/honestsearch/index/PhraseStatus;"), (0, .fieldref 1 8), (0, .nameAndType 9 6), (0, u "INCOMPLETE"), (2, u "POSSIBLE"), (2, u "DROPPED"), (2, u "$VALUES"), (0, u "[Lcom/example/honest_search/honestsearch/index/PhraseStatus;"), (6, .class_ 28), (1, u "java/lang/Enum"), (38, u "isSearchable"), (0, u "()Z")] 6

def k6c0 : Code := { maxStack := 2, maxLocals := 1, code := prog_22_method_4_code, exceptionTable := #[], attributes := #[] }
def k6m0 : Method := { name := "isSearchable", desc := "()Z", sig := { parameters := [], returnType := some .boolean }, accessFlags := 1, code := some k6c0 }
/-- com/example/honest_search/honestsearch/index/PhraseStatus -/
def k6 : Class := { plain "com/example/honest_search/honestsearch/index/PhraseStatus" (some 5) with
  accessFlags := 16433
  interfaces := #[]
  cf := some (fileOf pool6 1 #[] #[{ accessFlags := 1, nameIndex := 67, descriptorIndex := 68, attributes := #[] }] 16433 26 #[] #[{ accessFlags := 16409, nameIndex := 5, descriptorIndex := 6, attributes := #[] }, { accessFlags := 16409, nameIndex := 9, descriptorIndex := 6, attributes := #[] }, { accessFlags := 16409, nameIndex := 12, descriptorIndex := 6, attributes := #[] }, { accessFlags := 16409, nameIndex := 15, descriptorIndex := 6, attributes := #[] }, { accessFlags := 4122, nameIndex := 18, descriptorIndex := 19, attributes := #[] }])
  fields := #[{ name := "GOOD", type := (.object "com/example/honest_search/honestsearch/index/PhraseStatus"), accessFlags := 16409, slot := 0, constantValue := 0 }, { name := "INCOMPLETE", type := (.object "com/example/honest_search/honestsearch/index/PhraseStatus"), accessFlags := 16409, slot := 1, constantValue := 0 }, { name := "POSSIBLE", type := (.object "com/example/honest_search/honestsearch/index/PhraseStatus"), accessFlags := 16409, slot := 2, constantValue := 0 }, { name := "DROPPED", type := (.object "com/example/honest_search/honestsearch/index/PhraseStatus"), accessFlags := 16409, slot := 3, constantValue := 0 }, { name := "$VALUES", type := (.array (.object "com/example/honest_search/honestsearch/index/PhraseStatus")), accessFlags := 4122, slot := 4, constantValue := 0 }]
  methods := #[k6m0]
  instanceTypes := #[(.object "java/lang/String"), .int, .int]
  staticTypes := #[(.object "com/example/honest_search/honestsearch/index/PhraseStatus"), (.object "com/example/honest_search/honestsearch/index/PhraseStatus"), (.object "com/example/honest_search/honestsearch/index/PhraseStatus"), (.object "com/example/honest_search/honestsearch/index/PhraseStatus"), (.array (.object "com/example/honest_search/honestsearch/index/PhraseStatus"))]
  resolved := Array.replicate 75 none
  statics := some 0 }

def pool7 : Array CpInfo := pool [(1, u "java/lang/Cloneable"), (0, .class_ 1), (0, u "java/lang/Object"), (0, .class_ 3)] 3

/-- java/lang/Cloneable -/
def k7 : Class := { plain "java/lang/Cloneable" (some 0) with
  accessFlags := 1537
  interfaces := #[]
  cf := some (fileOf pool7 2 #[] #[] 1537 4 #[] #[])
  fields := #[]
  methods := #[]
  instanceTypes := #[]
  staticTypes := #[]
  resolved := Array.replicate 8 none
  statics := none }

/-- the primitive byte -/
def k8 : Class := { plain "byte" none with kind := .primitive 'B', accessFlags := 0x411 }
/-- [B -/
def k9 : Class := { plain "[B" (some 0) with kind := .array 8 .byte, interfaces := #[7, 4], accessFlags := 1041 }

/-- the primitive int -/
def k10 : Class := { plain "int" none with kind := .primitive 'I', accessFlags := 0x411 }
/-- [I -/
def k11 : Class := { plain "[I" (some 0) with kind := .array 10 .int, interfaces := #[7, 4], accessFlags := 1041 }

def heap : Heap := #[{ cls := 6, slots := #[.ref 1, .ref 3, .ref 4, .ref 2, .null], vm := .statics 6 },
  { cls := 6, slots := #[.null, .int 0, .int 0], vm := .none },
  { cls := 6, slots := #[.null, .int 3, .int 0], vm := .none },
  { cls := 6, slots := #[.null, .int 1, .int 0], vm := .none },
  { cls := 6, slots := #[.null, .int 2, .int 0], vm := .none }]
def classes : Array Class := #[k0, k1, k2, k3, k4, k5, k6, k7, k8, k9, k10, k11]
def interned : List (Array UInt16 × Addr) := []
def slotsUsed : Nat := 17
def theMethod : MethodId := ⟨1, 1⟩
def args0 : Array Value := #[.int 5]
def aboutOver (below : List Frame) : State where
  vm := { classes := classes, interned := interned.toArray }
  heap := heap
  slotsUsed := slotsUsed
  threads := #[{ frames := .invoking theMethod args0 :: below }]
def below0 : List Frame := [.native { method := ⟨0, 0⟩, args := #[] }]
def about1 : State := aboutOver below0
def p0 : Program := .bare "" "" ""
def e0 : Env := launch0.env 0 0 0
theorem w_frames : about1.frames = Frame.invoking theMethod args0 :: below0 := rfl
set_option maxRecDepth 65536 in
theorem w_args : argsFit about1.vm theMethod args0 = true := by decide +kernel
set_option maxRecDepth 65536 in
theorem w_heap : heapFits about1 = true := by decide +kernel
set_option maxRecDepth 65536 in
theorem w_runnable : about1.curStatus? = some .runnable := by decide +kernel
set_option maxRecDepth 65536 in
theorem w_alone : about1.alone = true := by decide +kernel
set_option maxRecDepth 65536 in
theorem w_named : about1.methodNamed? x = some theMethod := by decide +kernel
set_option maxRecDepth 65536 in
theorem w_hears : about1.hears theMethod below0 = true := by decide +kernel
set_option maxRecDepth 65536 in
theorem w_ripe : about1.ripe theMethod args0 below0 = true := by decide +kernel
theorem w_running : about1.status = .running := rfl
set_option maxRecDepth 65536 in
theorem w_room : about1.hasRoom e0.platform room_1 = true :=
  launch0.hasRoom_least _ room_1 (by decide +kernel) (by decide +kernel) (by decide +kernel) (by decide +kernel) (by decide +kernel) (by decide +kernel)
theorem allAtoms_all (ts : List Jvm.Cond) (a : Array Jvm.Value) (st : Jvm.State) : (allAtoms ts).before a st = ts.all (fun c => c.before a st) := by
  induction ts with
  | nil => rfl
  | cons c t ih =>
    show (Jvm.Cond.and c (allAtoms t)).before a st = _
    rw [Jvm.Cond.before_and, ih, List.all_cons]
def words1 : List Jvm.Cond := Jvm.Cond.code x code maxLocals ret :: tables_1
/-- a 'code' word, met by the world's own term for the bytes: nothing is compared byte by byte -/
theorem code_word {y : MethodName} {bytes : ByteArray} {mx : Nat} {rt : Option FieldType} {a : Array Value} {s : State} {m : MethodId} {meth : Method} {c : Code} (h1 : s.methodNamed? y = some m) (h2 : s.vm.method? m = some meth) (h3 : meth.code = some c) (h4 : c.code = bytes)
    (h5 : (c.maxLocals == mx && c.exceptionTable.isEmpty && decide (c.maxStack ≤ mostOperands) && decide (meth.sig.returnType = rt) && !meth.locks && decide (parseMethodDescriptor y.desc = some meth.sig)) = true) : (Jvm.Cond.code y bytes mx rt).before a s = true := by
  simp only [Bool.and_eq_true, beq_iff_eq, Bool.not_eq_true', decide_eq_true_eq] at h5
  obtain ⟨⟨⟨⟨⟨g1, g2⟩, g3⟩, g4⟩, g5⟩, g6⟩ := h5
  simp [Cond.before, Cond.holds, Cond.value, h1, h2, h3, h4, g1, g2, g3, g4, g5, g6]
def isCode : Jvm.Cond → Bool
  | .code _ _ _ _ => true
  | _ => false
theorem all_split {L : List Jvm.Cond} {P : Jvm.Cond → Bool} (h1 : L.all (fun c => isCode c || P c) = true) (h2 : ∀ c ∈ L.filter isCode, P c = true) : L.all P = true := by
  refine List.all_eq_true.mpr fun c hc => ?_
  have h := List.all_eq_true.mp h1 c hc
  rcases Bool.eq_false_or_eq_true (isCode c) with hi | hi
  · exact h2 c (List.mem_filter.mpr ⟨hc, hi⟩)
  · simpa [hi] using h
set_option maxRecDepth 65536 in
theorem w_c0 : (Jvm.Cond.code x code maxLocals ret).before args0 about1 = true := code_word (m := ⟨1, 1⟩) (meth := k1m1) (c := k1c1) (by decide +kernel) rfl rfl rfl (by decide +kernel)
set_option maxRecDepth 65536 in
theorem w_c1 : (Jvm.Cond.code ({ cls := "com/example/honest_search/honestsearch/index/PhraseStatus", name := "isSearchable", desc := "()Z" } : Jvm.MethodName) prog_22_method_4_code (1 : Nat) (Option.some Jvm.ClassFile.FieldType.boolean)).before args0 about1 = true := code_word (m := ⟨6, 0⟩) (meth := k6m0) (c := k6c0) (by decide +kernel) rfl rfl rfl (by decide +kernel)
def codes1 : List Jvm.Cond := [Jvm.Cond.code x code maxLocals ret, Jvm.Cond.code ({ cls := "com/example/honest_search/honestsearch/index/PhraseStatus", name := "isSearchable", desc := "()Z" } : Jvm.MethodName) prog_22_method_4_code (1 : Nat) (Option.some Jvm.ClassFile.FieldType.boolean)]
set_option maxRecDepth 65536 in
theorem codes_eq : words1.filter isCode = codes1 := rfl
theorem w_codes : ∀ c ∈ words1.filter isCode, c.before args0 about1 = true := by
  rw [codes_eq]
  intro c hc
  simp only [codes1, List.mem_cons, List.not_mem_nil, or_false] at hc
  rcases hc with rfl | rfl
  · exact w_c0
  · exact w_c1
set_option maxRecDepth 65536 in
theorem w_t1 : words1.all (fun c => isCode c || c.before args0 about1) = true := by decide +kernel
theorem w_tables : (allAtoms (Jvm.Cond.code x code maxLocals ret :: tables_1)).before args0 about1 = true := by
  rw [allAtoms_all]
  show words1.all (fun c => c.before args0 about1) = true
  refine all_split ?_ w_codes
  rw [w_t1]
set_option maxRecDepth 65536 in
theorem w_case : (Jvm.Cond.and given_1 narrow_1).before args0 about1 = true := by decide +kernel
theorem w_applies : (headSpec (Jvm.Cond.code x code maxLocals ret :: tables_1) room_1).applies x e0.platform about1 = true :=
  (Spec.applies_iff w_frames).mpr ⟨w_running, w_runnable, w_alone, w_named, w_hears, w_ripe, w_room, w_tables⟩
theorem atStart : AtStart classFile x code maxLocals ret World_1 tables_1 room_1 Calls_1 rest_1 Pre_1 launch0 p0 e0 about1 theMethod args0 below0 :=
  ⟨lists_1, trivial, launch0.admits_env _ _ _, launch0.least_env, fairChoices_fair.cas, fairChoices_fair.clock, w_frames, w_args, w_heap, w_applies, trivial, trivial, w_case⟩
end start1
theorem witness_1 : WitnessClaimed_1 := ⟨start1.p0, start1.e0, start1.about1, start1.theMethod, start1.args0, start1.below0, start1.atStart⟩
end Jvm.Pilot.@@N@@
