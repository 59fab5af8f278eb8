import JvmDerived
import JvmDerived.Pilot.@@N@@Statement
import JvmDerived.Pilot.@@N@@Code
set_option linter.unusedVariables false
set_option linter.unusedSimpArgs false
namespace Jvm.RoadKit
open Sem ClassFile Op Lib Jvm.Stand Jvm.Free Jvm.LawKit
section New
variable {p : Program} {l : Launch} {e : Env} {R : Room} {s : State} {m : MethodId} {args : Array Value} {below : List Frame} {meth : Method} {c : Code} {T : State} {locs : List Loc} {cells slots : Nat}
theorem retI (X : Stand p l e R s m args below meth c T locs cells slots) (hx : p.tables.exec = Jvm.exec) {pc : Nat} {Ls : Array Slot} {z : Int32} {rest : List Value} (hret : meth.sig.returnType = some .int) (hd : decode c.code pc = .ok (.ireturn, 1)) {fs : List Frame}
    (hl : ∀ (f : JFrame) (acts : List Action), f.method = m → f.locked = none → f.entered = [] → (doReturn e (T.setTop f) acts (some (.int z))).1 = T.setFrames fs) : Steps p.tables e below (T.setTop (mkF m pc Ls (.int z :: rest))) (T.setFrames fs) := by
  have hm' : T.vm.method? m = some meth := X.method'
  have hn : narrow .int (.int z) = .int z := rfl
  show Steps p.tables e below (T.setTop { method := m, pc := pc, locals := Ls, stack := _ :: rest, locked := none }) _
  jvm_step X.here [X.here.top, hx, hd, hm', hret, hn]
  first | (intro acts; rw [hl _ acts rfl rfl rfl]) | rw [hl _ _ rfl rfl rfl]
  exact Steps.refl _
end New
end Jvm.RoadKit
namespace Jvm.Pilot.@@N@@
open Jvm Jvm.ClassFile Sem Op Lib Jvm.Free Jvm.Stand Jvm.LawKit Jvm.RoadKit Bundle Jvm.Pilot.@@N@@.Jvm.D
section Own
variable {p : Program} {l : Launch} {e : Env} {R : Room} {s : State} {m : MethodId} {args : Array Value} {below : List Frame} {meth : Method} {c : Code} {T T' : State} {locs : List Loc} {cells slots : Nat} {f f' : JFrame} {Q : Option Value → Heap → List Loc → Prop} {ck sk : Nat} {h : Heap} {Z : State}
/-- from here the run comes to its end, and leaves what Q says -/
def Go (p : Program) (e : Env) (below : List Frame) (s : State) (Q : Option Value → Heap → List Loc → Prop) (ck sk : Nat) (T : State) (f : JFrame) : Prop :=
  ∃ s₂ o, Steps p.tables e below (T.setTop f) s₂ ∧ s₂.status = .running ∧ Ended s₂ below o ∧ ∃ v L, o = .returned v ∧ Q v s₂.heap L ∧ FrameEnd s o s₂ L ck sk
theorem Go.step (st : ∀ t, Steps p.tables e below (T'.setTop f') t → Steps p.tables e below (T.setTop f) t) (k : Go p e below s Q ck sk T' f') : Go p e below s Q ck sk T f := by
  obtain ⟨s₂, o, h1, r⟩ := k; exact ⟨s₂, o, st _ h1, r⟩
theorem Go.via (st : Steps p.tables e below (T.setTop f) (T'.setTop f')) (k : Go p e below s Q ck sk T' f') : Go p e below s Q ck sk T f := by
  obtain ⟨s₂, o, h1, r⟩ := k; exact ⟨s₂, o, st.trans h1, r⟩
theorem Go.retI (X : Stand p l e R s m args below meth c T locs cells slots) (hx : p.tables.exec = Jvm.exec) (hlk : meth.locks = false) {pc : Nat} {Ls : Array Slot} {z : Int32} {rest : List Value} (hret : meth.sig.returnType = some .int) (hd : decode c.code pc = .ok (.ireturn, 1)) (eT : T.heap = h) (hq : Q (some (.int z)) h locs) (hck : cells ≤ ck) (hsk : slots ≤ sk) : Go p e below s Q ck sk T (mkF m pc Ls (.int z :: rest)) := by
  subst eT
  obtain ⟨fs, hr, hrun, hended, hW, hsame⟩ := X.leave (v := some (.int z)) (fun h => by rw [hret] at h; cases h) hlk
  exact ⟨_, _, Jvm.RoadKit.retI X hx hret hd hr, hrun, hended, _, _, rfl, hq, ⟨_, rfl⟩, hW, hsame.mono hck hsk⟩
theorem Go.retZ (X : Stand p l e R s m args below meth c T locs cells slots) (hx : p.tables.exec = Jvm.exec) (hlk : meth.locks = false) {pc : Nat} {Ls : Array Slot} {z : Int32} {rest : List Value} {t : FieldType} (hret : meth.sig.returnType = some t) (ht : t = .boolean ∨ t = .byte ∨ t = .char ∨ t = .short) (hd : decode c.code pc = .ok (.ireturn, 1)) (eT : T.heap = h) (hq : Q (some (.int (nar t z))) h locs) (hck : cells ≤ ck) (hsk : slots ≤ sk) : Go p e below s Q ck sk T (mkF m pc Ls (.int z :: rest)) := by
  subst eT
  obtain ⟨fs, hr, hrun, hended, hW, hsame⟩ := X.leave (v := some (.int (nar t z))) (fun h => by rw [hret] at h; cases h) hlk
  exact ⟨_, _, retN X hx hret ht hd hr, hrun, hended, _, _, rfl, hq, ⟨_, rfl⟩, hW, hsame.mono hck hsk⟩
theorem Go.retV (X : Stand p l e R s m args below meth c T locs cells slots) (hx : p.tables.exec = Jvm.exec) (hlk : meth.locks = false) {pc : Nat} {Ls : Array Slot} (hret : meth.sig.returnType = none) (hd : decode c.code pc = .ok (.return_, 1)) (eT : T.heap = h) (hq : Q none h locs) (hck : cells ≤ ck) (hsk : slots ≤ sk) : Go p e below s Q ck sk T (mkF m pc Ls []) := by
  subst eT
  obtain ⟨fs, hr, hrun, hended, hW, hsame⟩ := X.leave (v := none) (fun _ => rfl) hlk
  exact ⟨_, _, X.returnOut hx hret hd hr, hrun, hended, _, _, rfl, hq, ⟨_, rfl⟩, hW, hsame.mono hck hsk⟩
theorem Go.retJ (X : Stand p l e R s m args below meth c T locs cells slots) (hx : p.tables.exec = Jvm.exec) (hlk : meth.locks = false) {pc : Nat} {Ls : Array Slot} {z : Int64} {rest : List Value} (hret : meth.sig.returnType = some .long) (hd : decode c.code pc = .ok (.lreturn, 1)) (eT : T.heap = h) (hq : Q (some (.long z)) h locs) (hck : cells ≤ ck) (hsk : slots ≤ sk) : Go p e below s Q ck sk T (mkF m pc Ls (.long z :: rest)) := by
  subst eT
  obtain ⟨fs, hr, hrun, hended, hW, hsame⟩ := X.leave (v := some (.long z)) (fun h => by rw [hret] at h; cases h) hlk
  exact ⟨_, _, retOut X hx hret rfl (Or.inr (Or.inl ⟨rfl, rfl, _, rfl⟩)) hd hr, hrun, hended, _, _, rfl, hq, ⟨_, rfl⟩, hW, hsame.mono hck hsk⟩
theorem own_nar_ref {t : FieldType} {w : Value} (h1 : t.isReference = true) (h2 : w.isRef = true) : narrow t w = w := by
  cases t <;> first | (cases h1; done) | (cases w <;> first | rfl | (cases h2; done))
theorem Go.retA (X : Stand p l e R s m args below meth c T locs cells slots) (hx : p.tables.exec = Jvm.exec) (hlk : meth.locks = false) {pc : Nat} {Ls : Array Slot} {w : Value} {rest : List Value} {t : FieldType} (hret : meth.sig.returnType = some t) (ht : t.isReference = true) (hw : w.isRef = true) (hd : decode c.code pc = .ok (.areturn, 1)) (eT : T.heap = h) (hq : Q (some w) h locs) (hck : cells ≤ ck) (hsk : slots ≤ sk) : Go p e below s Q ck sk T (mkF m pc Ls (w :: rest)) := by
  subst eT
  obtain ⟨fs, hr, hrun, hended, hW, hsame⟩ := X.leave (v := some w) (fun h => by rw [hret] at h; cases h) hlk
  exact ⟨_, _, retOut X hx hret (own_nar_ref ht hw) (Or.inr (Or.inr (Or.inr (Or.inr ⟨rfl, ht, hw⟩)))) hd hr, hrun, hended, _, _, rfl, hq, ⟨_, rfl⟩, hW, hsame.mono hck hsk⟩
theorem own_old_le {n0 : Nat} (o : Old Z n0 h) : n0 ≤ h.size := o.1 ▸ o.2.1
theorem own_alen (X : Stand p l e R s m args below meth c T locs cells slots) (hx : p.tables.exec = Jvm.exec) (hZ : Z.Warmed39 s.vm) (eT : T.heap = h) {a : Addr} {cl : Cell} {ty : FieldType} (A : Arr Z h a cl ty) {z : Int32} (S : cl.slots.size = z.toNatClampNeg) (N : ¬ z < 0) {g : JFrame} (hg : g.method = m) {rest : List Value} (hs : g.stack = .ref a :: rest) (hd : decode c.code g.pc = .ok (.arraylength, 1)) {t : State}
    (k : Steps p.tables e below (T.setTop { g with pc := g.pc + 1, stack := .int z :: rest }) t) : Steps p.tables e below (T.setTop g) t :=
  X.arraylength hx (by rw [eT]; exact A.1) (State.isArrayOf_alike hZ.alike A.2.1) hg hs hd _ (by rw [len_of S N]; exact k)
theorem own_fld_start {args : Array Value} {s : State} {t : Term} {a : Addr} {C n d : String} {k : Int32} (ev : t.eval args s none [] s = some (.ref a)) (h : (Jvm.Cond.eq (.field t C n d) (.int k)).value args s none s [] = some true) : Fld s s.heap a C n d (.int k) := by
  refine Fld.start ?_
  rw [← fld_at ev]
  obtain ⟨x, y, h1, h2, h3, h4⟩ := cmp_v (Or.inl h)
  have h2' : (Value.int k) = y := Option.some.inj h2
  subst h2'
  obtain ⟨z, rfl⟩ := h4
  have q := gotT (Jvm.Cond.eq_ints h1 h2) h
  rw [h1, q]
theorem own_nar8 (z : Int32) : nar .byte z.toInt8.toInt32 = z.toInt8.toInt32 := by
  show z.toInt8.toInt32.toInt8.toInt32 = _
  simp
end Own
theorem own_far (c : Int32) (h : (32 : Int32) < c) : (if c = 32 ∨ c = 9 ∨ c = 13 ∨ c = 10 then (1 : Int32) else 0) = (0 : Int32) := by
  rw [if_neg]
  rintro (rfl | rfl | rfl | rfl) <;> exact absurd h (by decide)
theorem own_cases (c : Int32) (h0 : 0 ≤ c.toInt) (h1 : ¬ (32 : Int32) < c) : ∃ i : Fin 33, c = Int32.ofNat i.1 := by
  rw [Int32.lt_iff_toInt_lt] at h1
  have e : (32 : Int32).toInt = 32 := by decide
  refine ⟨⟨c.toInt.toNat, by omega⟩, ?_⟩
  apply Int32.toInt_inj.mp
  rw [Int32.toInt_ofNat_small (by show c.toInt.toNat < _; omega)]
  show c.toInt = ((c.toInt.toNat : Nat) : Int)
  omega
theorem own_near0 (c : Int32) (h0 : 0 ≤ c.toInt) (h1 : ¬ (32 : Int32) < c) (h2 : (lcmpW ((((4294977024 : Int64).toUInt64 >>> (c &&& 0x3f).toInt64.toUInt64).toInt64) &&& (1 : Int64)) (0 : Int64)) = (0 : Int32)) : (if c = 32 ∨ c = 9 ∨ c = 13 ∨ c = 10 then (1 : Int32) else 0) = (0 : Int32) := by
  obtain ⟨i, rfl⟩ := own_cases c h0 h1
  rw [lw_eq] at h2
  revert h2
  clear h0 h1
  revert i
  decide +kernel
theorem own_near1 (c : Int32) (h0 : 0 ≤ c.toInt) (h1 : ¬ (32 : Int32) < c) (h2 : ¬ (lcmpW ((((4294977024 : Int64).toUInt64 >>> (c &&& 0x3f).toInt64.toUInt64).toInt64) &&& (1 : Int64)) (0 : Int64)) = (0 : Int32)) : (if c = 32 ∨ c = 9 ∨ c = 13 ∨ c = 10 then (1 : Int32) else 0) = (1 : Int32) := by
  obtain ⟨i, rfl⟩ := own_cases c h0 h1
  rw [lw_eq] at h2
  revert h2
  clear h0 h1
  revert i
  decide +kernel
theorem d1_0 : decode prog_60_method_4_code 0 = .ok (.iload_n 0, 1) := by decide +kernel
theorem d1_1 : decode prog_60_method_4_code 1 = .ok (.bipush 32, 2) := by decide +kernel
theorem d1_3 : decode prog_60_method_4_code 3 = .ok (.if_icmp .eq 21, 3) := by decide +kernel
theorem d1_6 : decode prog_60_method_4_code 6 = .ok (.iload_n 0, 1) := by decide +kernel
theorem d1_7 : decode prog_60_method_4_code 7 = .ok (.bipush 9, 2) := by decide +kernel
theorem d1_9 : decode prog_60_method_4_code 9 = .ok (.if_icmp .eq 15, 3) := by decide +kernel
theorem d1_12 : decode prog_60_method_4_code 12 = .ok (.iload_n 0, 1) := by decide +kernel
theorem d1_13 : decode prog_60_method_4_code 13 = .ok (.bipush 13, 2) := by decide +kernel
theorem d1_15 : decode prog_60_method_4_code 15 = .ok (.if_icmp .eq 9, 3) := by decide +kernel
theorem d1_18 : decode prog_60_method_4_code 18 = .ok (.iload_n 0, 1) := by decide +kernel
theorem d1_19 : decode prog_60_method_4_code 19 = .ok (.bipush 10, 2) := by decide +kernel
theorem d1_21 : decode prog_60_method_4_code 21 = .ok (.if_icmp .ne 7, 3) := by decide +kernel
theorem d1_24 : decode prog_60_method_4_code 24 = .ok (.iconst 1, 1) := by decide +kernel
theorem d1_25 : decode prog_60_method_4_code 25 = .ok (.goto 4, 3) := by decide +kernel
theorem d1_28 : decode prog_60_method_4_code 28 = .ok (.iconst 0, 1) := by decide +kernel
theorem d1_29 : decode prog_60_method_4_code 29 = .ok (.ireturn, 1) := by decide +kernel
theorem pn_com_example_pin_to_part_pintopart_XmlNames : plainName "com/example/pin_to_part/pintopart/XmlNames" = true := by first | (simp [plainName, overriddenIn]; done) | decide +kernel
theorem ef_ws (m : MethodId) (ic : Int32) : entryFrame m #[(.int ic)] 1 = mkF m 0 #[.val (.int ic)] [] := by first | (simp [entryFrame, mkF, argsToLocals, Value.category]; done) | rfl
def Q_ws (Z : State) (ic : Int32) (h0 : Heap) (n0 : Nat) (v : Option Value) (h : Heap) (L : List Loc) : Prop := v = some (.int (if ic = 32 ∨ ic = 9 ∨ ic = 13 ∨ ic = 10 then (1 : Int32) else 0)) ∧ Fr n0 L ∧ h = h0
set_option maxRecDepth 65536 in
set_option maxHeartbeats 40000000 in
theorem rm_ws (l : Launch) (Z : State) (a0 : Array Value) (hw : ∀ d ∈ tables_1, d.before a0 Z = true) (ws : List Jvm.Cond) (ic : Int32) (h0 : Heap) (n0 : Nat) (O0 : Old Z n0 h0) :
    MetFree l (⟨"com/example/pin_to_part/pintopart/XmlNames", "isWhiteSpace", "(C)Z"⟩ : MethodName) (head1 (Jvm.Cond.code (⟨"com/example/pin_to_part/pintopart/XmlNames", "isWhiteSpace", "(C)Z"⟩ : MethodName) prog_60_method_4_code 1 (some .boolean) :: ws) ({ frames := 0, cells := 0, slots := 0, locals := 0 } : Room)) (fun a U => a = #[(.int ic)] ∧ Z.Warmed39 U.vm ∧ U.heap = h0) (fun _ _ _ _ _ => True) (fun _ U o U' => ∃ v L, o = .returned v ∧ Q_ws Z ic h0 n0 v U'.heap L ∧ FrameEnd U o U' L ({ frames := 0, cells := 0, slots := 0, locals := 0 } : Room).cells ({ frames := 0, cells := 0, slots := 0, locals := 0 } : Room).slots) := by
  refine MetFree.of_bodySF (plainFor_of_name pn_com_example_pin_to_part_pintopart_XmlNames) hisR ?_
  intro p e s m args below meth c s₁ Bd hml0 hP hK
  obtain ⟨rfl, hZ, hh⟩ := hP
  have hx := Bd.exec
  have hby := Bd.bytes
  have hml : c.maxLocals = 1 := hml0
  have hown : s.vm.findClass "com/example/pin_to_part/pintopart/XmlNames" = some m.cls := findClass_of_methodNamed Bd.named
  have hnm := (name_of_methodNamed Bd.named Bd.method).1
  have hlk : meth.locks = false := BodyLoose.notSynchronized Bd
  have X0 : Stand p l e ({ frames := 0, cells := 0, slots := 0, locals := 0 } : Room) s m #[(.int ic)] below meth c s₁ [] 0 0 := Stand.of_body Bd
  have e0 : s₁.heap = h0 := by rw [← hh, Bd.state]; rfl
  have N0 := Fr.nil n0
  rw [ef_ws m ic]
  show Go p e below s (fun v h L => Q_ws Z ic h0 n0 v h L) ({ frames := 0, cells := 0, slots := 0, locals := 0 } : Room).cells ({ frames := 0, cells := 0, slots := 0, locals := 0 } : Room).slots s₁ (mkF m 0 #[.val (.int ic)] [])
  refine Go.step (T' := s₁) (f' := (mkF m 1 #[.val (.int ic)] [(.int ic)])) (fun t k => XS.iloadN X0.here hx rfl (hb hby d1_0) rfl k) ?_
  refine Go.step (T' := s₁) (f' := (mkF m 3 #[.val (.int ic)] [(.int (32 : Int32)), (.int ic)])) (fun t k => XS.bipush X0.here hx rfl (hb hby d1_1) k) ?_
  by_cases hc1 : ic = (32 : Int32)
  ·
    refine Go.step (T' := s₁) (f' := (mkF m 24 #[.val (.int ic)] [])) (fun t k => XS.icmpYes X0.here hx rfl (pc0 := 3) (pc' := 24) rfl (hb hby d1_3) rfl (teq hc1).1 (by decide) (by decide) k) ?_
    refine Go.step (T' := s₁) (f' := (mkF m 25 #[.val (.int ic)] [(.int (1 : Int32))])) (fun t k => XS.iconst X0.here hx rfl (hb hby d1_24) k) ?_
    refine Go.step (T' := s₁) (f' := (mkF m 29 #[.val (.int ic)] [(.int (1 : Int32))])) (fun t k => XS.goto X0.here hx rfl (pc0 := 25) (pc' := 29) rfl (hb hby d1_25) (by decide) (by decide) k) ?_
    refine Go.retZ X0 hx hlk (t := .boolean) Bd.returns (by simp) (hb hby d1_29) e0 ?_ (by decide) (by decide)
    exact ⟨by simp_all [nar], N0, rfl⟩
  ·
    refine Go.step (T' := s₁) (f' := (mkF m 6 #[.val (.int ic)] [])) (fun t k => XS.icmpNo X0.here hx rfl (hb hby d1_3) rfl (feq hc1).1 k) ?_
    refine Go.step (T' := s₁) (f' := (mkF m 7 #[.val (.int ic)] [(.int ic)])) (fun t k => XS.iloadN X0.here hx rfl (hb hby d1_6) rfl k) ?_
    refine Go.step (T' := s₁) (f' := (mkF m 9 #[.val (.int ic)] [(.int (9 : Int32)), (.int ic)])) (fun t k => XS.bipush X0.here hx rfl (hb hby d1_7) k) ?_
    by_cases hc2 : ic = (9 : Int32)
    ·
      refine Go.step (T' := s₁) (f' := (mkF m 24 #[.val (.int ic)] [])) (fun t k => XS.icmpYes X0.here hx rfl (pc0 := 9) (pc' := 24) rfl (hb hby d1_9) rfl (teq hc2).1 (by decide) (by decide) k) ?_
      refine Go.step (T' := s₁) (f' := (mkF m 25 #[.val (.int ic)] [(.int (1 : Int32))])) (fun t k => XS.iconst X0.here hx rfl (hb hby d1_24) k) ?_
      refine Go.step (T' := s₁) (f' := (mkF m 29 #[.val (.int ic)] [(.int (1 : Int32))])) (fun t k => XS.goto X0.here hx rfl (pc0 := 25) (pc' := 29) rfl (hb hby d1_25) (by decide) (by decide) k) ?_
      refine Go.retZ X0 hx hlk (t := .boolean) Bd.returns (by simp) (hb hby d1_29) e0 ?_ (by decide) (by decide)
      exact ⟨by simp_all [nar], N0, rfl⟩
    ·
      refine Go.step (T' := s₁) (f' := (mkF m 12 #[.val (.int ic)] [])) (fun t k => XS.icmpNo X0.here hx rfl (hb hby d1_9) rfl (feq hc2).1 k) ?_
      refine Go.step (T' := s₁) (f' := (mkF m 13 #[.val (.int ic)] [(.int ic)])) (fun t k => XS.iloadN X0.here hx rfl (hb hby d1_12) rfl k) ?_
      refine Go.step (T' := s₁) (f' := (mkF m 15 #[.val (.int ic)] [(.int (13 : Int32)), (.int ic)])) (fun t k => XS.bipush X0.here hx rfl (hb hby d1_13) k) ?_
      by_cases hc3 : ic = (13 : Int32)
      ·
        refine Go.step (T' := s₁) (f' := (mkF m 24 #[.val (.int ic)] [])) (fun t k => XS.icmpYes X0.here hx rfl (pc0 := 15) (pc' := 24) rfl (hb hby d1_15) rfl (teq hc3).1 (by decide) (by decide) k) ?_
        refine Go.step (T' := s₁) (f' := (mkF m 25 #[.val (.int ic)] [(.int (1 : Int32))])) (fun t k => XS.iconst X0.here hx rfl (hb hby d1_24) k) ?_
        refine Go.step (T' := s₁) (f' := (mkF m 29 #[.val (.int ic)] [(.int (1 : Int32))])) (fun t k => XS.goto X0.here hx rfl (pc0 := 25) (pc' := 29) rfl (hb hby d1_25) (by decide) (by decide) k) ?_
        refine Go.retZ X0 hx hlk (t := .boolean) Bd.returns (by simp) (hb hby d1_29) e0 ?_ (by decide) (by decide)
        exact ⟨by simp_all [nar], N0, rfl⟩
      ·
        refine Go.step (T' := s₁) (f' := (mkF m 18 #[.val (.int ic)] [])) (fun t k => XS.icmpNo X0.here hx rfl (hb hby d1_15) rfl (feq hc3).1 k) ?_
        refine Go.step (T' := s₁) (f' := (mkF m 19 #[.val (.int ic)] [(.int ic)])) (fun t k => XS.iloadN X0.here hx rfl (hb hby d1_18) rfl k) ?_
        refine Go.step (T' := s₁) (f' := (mkF m 21 #[.val (.int ic)] [(.int (10 : Int32)), (.int ic)])) (fun t k => XS.bipush X0.here hx rfl (hb hby d1_19) k) ?_
        by_cases hc4 : ic = (10 : Int32)
        ·
          refine Go.step (T' := s₁) (f' := (mkF m 24 #[.val (.int ic)] [])) (fun t k => XS.icmpNo X0.here hx rfl (hb hby d1_21) rfl (teq hc4).2 k) ?_
          refine Go.step (T' := s₁) (f' := (mkF m 25 #[.val (.int ic)] [(.int (1 : Int32))])) (fun t k => XS.iconst X0.here hx rfl (hb hby d1_24) k) ?_
          refine Go.step (T' := s₁) (f' := (mkF m 29 #[.val (.int ic)] [(.int (1 : Int32))])) (fun t k => XS.goto X0.here hx rfl (pc0 := 25) (pc' := 29) rfl (hb hby d1_25) (by decide) (by decide) k) ?_
          refine Go.retZ X0 hx hlk (t := .boolean) Bd.returns (by simp) (hb hby d1_29) e0 ?_ (by decide) (by decide)
          exact ⟨by simp_all [nar], N0, rfl⟩
        ·
          refine Go.step (T' := s₁) (f' := (mkF m 28 #[.val (.int ic)] [])) (fun t k => XS.icmpYes X0.here hx rfl (pc0 := 21) (pc' := 28) rfl (hb hby d1_21) rfl (feq hc4).2 (by decide) (by decide) k) ?_
          refine Go.step (T' := s₁) (f' := (mkF m 29 #[.val (.int ic)] [(.int (0 : Int32))])) (fun t k => XS.iconst X0.here hx rfl (hb hby d1_28) k) ?_
          refine Go.retZ X0 hx hlk (t := .boolean) Bd.returns (by simp) (hb hby d1_29) e0 ?_ (by decide) (by decide)
          exact ⟨by simp_all [nar], N0, rfl⟩
theorem pn_com_example_pin_to_part_pintopart_XmlNamesIsWhiteSpacePinLaw : plainName "com/example/pin_to_part/pintopart/XmlNamesIsWhiteSpacePinLaw" = true := by first | (simp [plainName, overriddenIn]; done) | decide +kernel
theorem pd0 : parseMethodDescriptor "(C)Z" = some ⟨[.char], some .boolean⟩ := by decide +kernel
theorem ef_law (m : MethodId) (ia : Int32) (ib : Int32) : entryFrame m #[(.int ia), (.int ib)] maxLocals = mkF m 0 #[.val (.int ia), .val (.int ib), .unset, .unset, .unset, .unset] [] := by first | (simp [entryFrame, mkF, argsToLocals, Value.category, maxLocals]; done) | rfl
def Q_law (Z : State) (ia : Int32) (ib : Int32) (h0 : Heap) (n0 : Nat) (v : Option Value) (h : Heap) (L : List Loc) : Prop := v = some (.int (1 : Int32)) ∧ Fr n0 L ∧ Keep h0 h []
set_option maxRecDepth 65536 in
set_option maxHeartbeats 40000000 in
theorem rm_law (l : Launch) (Z : State) (a0 : Array Value) (hw : ∀ d ∈ tables_1, d.before a0 Z = true) (ws : List Jvm.Cond) (ia : Int32) (ib : Int32) (h0 : Heap) (n0 : Nat) (O0 : Old Z n0 h0) :
    MetFree l x (head1 (Jvm.Cond.code x code maxLocals ret :: ws) room_1) (fun a U => a = #[(.int ia), (.int ib)] ∧ Z.Warmed39 U.vm ∧ U.heap = h0) (fun _ _ _ _ _ => True) (fun _ U o U' => ∃ v L, o = .returned v ∧ Q_law Z ia ib h0 n0 v U'.heap L ∧ FrameEnd U o U' L room_1.cells room_1.slots) := by
  refine MetFree.of_bodySF (plainFor_of_name pn_com_example_pin_to_part_pintopart_XmlNamesIsWhiteSpacePinLaw) hisR ?_
  intro p e s m args below meth c s₁ Bd hml0 hP hK
  obtain ⟨rfl, hZ, hh⟩ := hP
  have hx := Bd.exec
  have hby := Bd.bytes
  have hml : c.maxLocals = 6 := hml0
  have hown : s.vm.findClass "com/example/pin_to_part/pintopart/XmlNamesIsWhiteSpacePinLaw" = some m.cls := findClass_of_methodNamed Bd.named
  have hnm := (name_of_methodNamed Bd.named Bd.method).1
  have hlk : meth.locks = false := BodyLoose.notSynchronized Bd
  have X0 : Stand p l e room_1 s m #[(.int ia), (.int ib)] below meth c s₁ [] 0 0 := Stand.of_body Bd
  have e0 : s₁.heap = h0 := by rw [← hh, Bd.state]; rfl
  have N0 := Fr.nil n0
  have K0 := Keep.refl h0 []
  rw [ef_law m ia ib]
  show Go p e below s (fun v h L => Q_law Z ia ib h0 n0 v h L) room_1.cells room_1.slots s₁ (mkF m 0 #[.val (.int ia), .val (.int ib), .unset, .unset, .unset, .unset] [])
  refine Go.step (T' := s₁) (f' := (mkF m 1 #[.val (.int ia), .val (.int ib), .unset, .unset, .unset, .unset] [(.int ib)])) (fun t k => XS.iloadN X0.here hx rfl (hb hby at_0) rfl k) ?_
  refine Go.step (T' := s₁) (f' := (mkF m 2 #[.val (.int ia), .val (.int ib), .unset, .unset, .unset, .unset] [(.int (1 : Int32)), (.int ib)])) (fun t k => XS.iconst X0.here hx rfl (hb hby at_1) k) ?_
  refine Go.step (T' := s₁) (f' := (mkF m 3 #[.val (.int ia), .val (.int ib), .unset, .unset, .unset, .unset] [(.int (ib &&& (1 : Int32)))])) (fun t k => XS.iand X0.here hx rfl (hb hby at_2) rfl k) ?_
  by_cases hc5 : (ib &&& (1 : Int32)) = (0 : Int32)
  ·
    refine Go.step (T' := s₁) (f' := (mkF m 10 #[.val (.int ia), .val (.int ib), .unset, .unset, .unset, .unset] [])) (fun t k => XS.ifYes X0.here hx rfl (pc0 := 3) (pc' := 10) rfl (hb hby at_3) rfl ((if0 _ _).trans (teq hc5).1) (by decide) (by decide) k) ?_
    refine Go.step (T' := s₁) (f' := (mkF m 11 #[.val (.int ia), .val (.int ib), .unset, .unset, .unset, .unset] [(.int (0 : Int32))])) (fun t k => XS.iconst X0.here hx rfl (hb hby at_10) k) ?_
    refine Go.step (T' := s₁) (f' := (mkF m 12 #[.val (.int ia), .val (.int ib), .val (.int (0 : Int32)), .unset, .unset, .unset] [])) (fun t k => XS.istoreN X0.here hx rfl (hb hby at_11) rfl (l' := #[.val (.int ia), .val (.int ib), .val (.int (0 : Int32)), .unset, .unset, .unset]) rfl k) ?_
    refine Go.step (T' := s₁) (f' := (mkF m 13 #[.val (.int ia), .val (.int ib), .val (.int (0 : Int32)), .unset, .unset, .unset] [(.int (0 : Int32))])) (fun t k => XS.iloadN X0.here hx rfl (hb hby at_12) rfl k) ?_
    refine Go.step (T' := s₁) (f' := (mkF m 24 #[.val (.int ia), .val (.int ib), .val (.int (0 : Int32)), .unset, .unset, .unset] [])) (fun t k => XS.ifYes X0.here hx rfl (pc0 := 13) (pc' := 24) rfl (hb hby at_13) rfl ((if0 _ _).trans (teq (by decide : (0 : Int32) = (0 : Int32))).1) (by decide) (by decide) k) ?_
    refine Go.step (T' := s₁) (f' := (mkF m 25 #[.val (.int ia), .val (.int ib), .val (.int (0 : Int32)), .unset, .unset, .unset] [(.int ia)])) (fun t k => XS.iloadN X0.here hx rfl (hb hby at_24) rfl k) ?_
    refine Go.step (T' := s₁) (f' := (mkF m 27 #[.val (.int ia), .val (.int ib), .val (.int (0 : Int32)), .unset, .unset, .unset] [(.int (65535 : Int32)), (.int ia)])) (fun t k => X0.ldcInt hx hown (mvT hZ (hw _ (List.mem_of_getElem? (i := 5) rfl))) (g := (mkF m 25 #[.val (.int ia), .val (.int ib), .val (.int (0 : Int32)), .unset, .unset, .unset] [(.int ia)])) rfl (hb hby at_25) t k) ?_
    refine Go.step (T' := s₁) (f' := (mkF m 28 #[.val (.int ia), .val (.int ib), .val (.int (0 : Int32)), .unset, .unset, .unset] [(.int (ia &&& (65535 : Int32)))])) (fun t k => XS.iand X0.here hx rfl (hb hby at_27) rfl k) ?_
    refine Go.step (T' := s₁) (f' := (mkF m 29 #[.val (.int ia), .val (.int ib), .val (.int (0 : Int32)), .unset, .unset, .unset] [(.int ((ia &&& (65535 : Int32)).toUInt32.toUInt16.toUInt32.toInt32))])) (fun t k => XS.i2c X0.here hx rfl (hb hby at_28) rfl k) ?_
    refine Go.step (T' := s₁) (f' := (mkF m 30 #[.val (.int ia), .val (.int ib), .val (.int (0 : Int32)), .val (.int ((ia &&& (65535 : Int32)).toUInt32.toUInt16.toUInt32.toInt32)), .unset, .unset] [])) (fun t k => XS.istoreN X0.here hx rfl (hb hby at_29) rfl (l' := #[.val (.int ia), .val (.int ib), .val (.int (0 : Int32)), .val (.int ((ia &&& (65535 : Int32)).toUInt32.toUInt16.toUInt32.toInt32)), .unset, .unset]) rfl k) ?_
    refine Go.step (T' := s₁) (f' := (mkF m 31 #[.val (.int ia), .val (.int ib), .val (.int (0 : Int32)), .val (.int ((ia &&& (65535 : Int32)).toUInt32.toUInt16.toUInt32.toInt32)), .unset, .unset] [(.int ((ia &&& (65535 : Int32)).toUInt32.toUInt16.toUInt32.toInt32))])) (fun t k => XS.iloadN X0.here hx rfl (hb hby at_30) rfl k) ?_
    refine Go.step (T' := s₁) (f' := (mkF m 33 #[.val (.int ia), .val (.int ib), .val (.int (0 : Int32)), .val (.int ((ia &&& (65535 : Int32)).toUInt32.toUInt16.toUInt32.toInt32)), .val (.int ((ia &&& (65535 : Int32)).toUInt32.toUInt16.toUInt32.toInt32)), .unset] [])) (fun t k => XS.istore X0.here hx rfl (hb hby at_31) rfl (l' := #[.val (.int ia), .val (.int ib), .val (.int (0 : Int32)), .val (.int ((ia &&& (65535 : Int32)).toUInt32.toUInt16.toUInt32.toInt32)), .val (.int ((ia &&& (65535 : Int32)).toUInt32.toUInt16.toUInt32.toInt32)), .unset]) rfl k) ?_
    refine Go.step (T' := s₁) (f' := (mkF m 35 #[.val (.int ia), .val (.int ib), .val (.int (0 : Int32)), .val (.int ((ia &&& (65535 : Int32)).toUInt32.toUInt16.toUInt32.toInt32)), .val (.int ((ia &&& (65535 : Int32)).toUInt32.toUInt16.toUInt32.toInt32)), .unset] [(.int ((ia &&& (65535 : Int32)).toUInt32.toUInt16.toUInt32.toInt32))])) (fun t k => XS.iload X0.here hx rfl (hb hby at_33) rfl k) ?_
    refine Go.step (T' := s₁) (f' := (mkF m 37 #[.val (.int ia), .val (.int ib), .val (.int (0 : Int32)), .val (.int ((ia &&& (65535 : Int32)).toUInt32.toUInt16.toUInt32.toInt32)), .val (.int ((ia &&& (65535 : Int32)).toUInt32.toUInt16.toUInt32.toInt32)), .unset] [(.int (32 : Int32)), (.int ((ia &&& (65535 : Int32)).toUInt32.toUInt16.toUInt32.toInt32))])) (fun t k => XS.bipush X0.here hx rfl (hb hby at_35) k) ?_
    by_cases hc6 : (32 : Int32) < ((ia &&& (65535 : Int32)).toUInt32.toUInt16.toUInt32.toInt32)
    ·
      refine Go.step (T' := s₁) (f' := (mkF m 57 #[.val (.int ia), .val (.int ib), .val (.int (0 : Int32)), .val (.int ((ia &&& (65535 : Int32)).toUInt32.toUInt16.toUInt32.toInt32)), .val (.int ((ia &&& (65535 : Int32)).toUInt32.toUInt16.toUInt32.toInt32)), .unset] [])) (fun t k => XS.icmpYes X0.here hx rfl (pc0 := 37) (pc' := 57) rfl (hb hby at_37) rfl (tlt hc6).2.2.1 (by decide) (by decide) k) ?_
      refine Go.step (T' := s₁) (f' := (mkF m 58 #[.val (.int ia), .val (.int ib), .val (.int (0 : Int32)), .val (.int ((ia &&& (65535 : Int32)).toUInt32.toUInt16.toUInt32.toInt32)), .val (.int ((ia &&& (65535 : Int32)).toUInt32.toUInt16.toUInt32.toInt32)), .unset] [(.int (0 : Int32))])) (fun t k => XS.iconst X0.here hx rfl (hb hby at_57) k) ?_
      refine Go.step (T' := s₁) (f' := (mkF m 60 #[.val (.int ia), .val (.int ib), .val (.int (0 : Int32)), .val (.int ((ia &&& (65535 : Int32)).toUInt32.toUInt16.toUInt32.toInt32)), .val (.int ((ia &&& (65535 : Int32)).toUInt32.toUInt16.toUInt32.toInt32)), .val (.int (0 : Int32))] [])) (fun t k => XS.istore X0.here hx rfl (hb hby at_58) rfl (l' := #[.val (.int ia), .val (.int ib), .val (.int (0 : Int32)), .val (.int ((ia &&& (65535 : Int32)).toUInt32.toUInt16.toUInt32.toInt32)), .val (.int ((ia &&& (65535 : Int32)).toUInt32.toUInt16.toUInt32.toInt32)), .val (.int (0 : Int32))]) rfl k) ?_
      refine Go.step (T' := s₁) (f' := (mkF m 61 #[.val (.int ia), .val (.int ib), .val (.int (0 : Int32)), .val (.int ((ia &&& (65535 : Int32)).toUInt32.toUInt16.toUInt32.toInt32)), .val (.int ((ia &&& (65535 : Int32)).toUInt32.toUInt16.toUInt32.toInt32)), .val (.int (0 : Int32))] [(.int ((ia &&& (65535 : Int32)).toUInt32.toUInt16.toUInt32.toInt32))])) (fun t k => XS.iloadN X0.here hx rfl (hb hby at_60) rfl k) ?_
      obtain ⟨_, _, ⟨T7, L7, k7, n7⟩, -, X7, ⟨Lc7, hQ7, l7, y7, z7⟩, st7⟩ := Jvm.LawKit.callS X0 hx (y := (⟨"com/example/pin_to_part/pintopart/XmlNames", "isWhiteSpace", "(C)Z"⟩ : MethodName)) hown (mvT hZ (hw _ (List.mem_of_getElem? (i := 1) rfl))) (mvT hZ (hw _ (List.mem_of_getElem? (i := 2) rfl))) (mvT hZ (hw _ (List.mem_of_getElem? (i := 3) rfl))) (mvT hZ (hw _ (List.mem_of_getElem? (i := 4) rfl))) (by decide) (backOf (W := 0) (rm_ws l Z a0 hw [] ((ia &&& (65535 : Int32)).toUInt32.toUInt16.toUInt32.toInt32) h0 n0 O0 ) hZ (hw _ (List.mem_of_getElem? (i := 4) rfl)) (hw _ (List.mem_of_getElem? (i := 3) rfl)) (by decide) (by decide)) (g := (mkF m 61 #[.val (.int ia), .val (.int ib), .val (.int (0 : Int32)), .val (.int ((ia &&& (65535 : Int32)).toUInt32.toUInt16.toUInt32.toInt32)), .val (.int ((ia &&& (65535 : Int32)).toUInt32.toUInt16.toUInt32.toInt32)), .val (.int (0 : Int32))] [(.int ((ia &&& (65535 : Int32)).toUInt32.toUInt16.toUInt32.toInt32))])) rfl (by rw [hml]; rfl) (argsL := [(.int ((ia &&& (65535 : Int32)).toUInt32.toUInt16.toUInt32.toInt32))]) (rest := []) (lenOf pd0 rfl) rfl (by show 2 * 0 + _ ≤ _; exact Nat.le_of_eq rfl) (hb hby at_61) (fun _ _ => ⟨rfl, e0, (by decide : 0 + 0 ≤ _), (by decide : 0 + 0 ≤ _)⟩)
      dsimp only [Pt.U, Pt.locs, Pt.cells, Pt.slots] at X7 l7 y7 z7 st7 hQ7
      subst l7 y7 z7
      obtain ⟨rfl, Nq7, hh7⟩ := hQ7
      have N8 := Fr.app N0 Nq7
      refine Go.step (T' := T7) (f' := (mkF m 64 #[.val (.int ia), .val (.int ib), .val (.int (0 : Int32)), .val (.int ((ia &&& (65535 : Int32)).toUInt32.toUInt16.toUInt32.toInt32)), .val (.int ((ia &&& (65535 : Int32)).toUInt32.toUInt16.toUInt32.toInt32)), .val (.int (0 : Int32))] [(.int (if ((ia &&& (65535 : Int32)).toUInt32.toUInt16.toUInt32.toInt32) = 32 ∨ ((ia &&& (65535 : Int32)).toUInt32.toUInt16.toUInt32.toInt32) = 9 ∨ ((ia &&& (65535 : Int32)).toUInt32.toUInt16.toUInt32.toInt32) = 13 ∨ ((ia &&& (65535 : Int32)).toUInt32.toUInt16.toUInt32.toInt32) = 10 then (1 : Int32) else 0))])) st7 ?_
      refine Go.step (T' := T7) (f' := (mkF m 66 #[.val (.int ia), .val (.int ib), .val (.int (0 : Int32)), .val (.int ((ia &&& (65535 : Int32)).toUInt32.toUInt16.toUInt32.toInt32)), .val (.int ((ia &&& (65535 : Int32)).toUInt32.toUInt16.toUInt32.toInt32)), .val (.int (0 : Int32))] [(.int (0 : Int32)), (.int (if ((ia &&& (65535 : Int32)).toUInt32.toUInt16.toUInt32.toInt32) = 32 ∨ ((ia &&& (65535 : Int32)).toUInt32.toUInt16.toUInt32.toInt32) = 9 ∨ ((ia &&& (65535 : Int32)).toUInt32.toUInt16.toUInt32.toInt32) = 13 ∨ ((ia &&& (65535 : Int32)).toUInt32.toUInt16.toUInt32.toInt32) = 10 then (1 : Int32) else 0))])) (fun t k => XS.iload X7.here hx rfl (hb hby at_64) rfl k) ?_
      have hc9 : (if ((ia &&& (65535 : Int32)).toUInt32.toUInt16.toUInt32.toInt32) = 32 ∨ ((ia &&& (65535 : Int32)).toUInt32.toUInt16.toUInt32.toInt32) = 9 ∨ ((ia &&& (65535 : Int32)).toUInt32.toUInt16.toUInt32.toInt32) = 13 ∨ ((ia &&& (65535 : Int32)).toUInt32.toUInt16.toUInt32.toInt32) = 10 then (1 : Int32) else 0) = (0 : Int32) := by
        exact own_far _ hc6
      refine Go.step (T' := T7) (f' := (mkF m 69 #[.val (.int ia), .val (.int ib), .val (.int (0 : Int32)), .val (.int ((ia &&& (65535 : Int32)).toUInt32.toUInt16.toUInt32.toInt32)), .val (.int ((ia &&& (65535 : Int32)).toUInt32.toUInt16.toUInt32.toInt32)), .val (.int (0 : Int32))] [])) (fun t k => XS.icmpNo X7.here hx rfl (hb hby at_66) rfl (teq hc9).2 k) ?_
      refine Go.step (T' := T7) (f' := (mkF m 70 #[.val (.int ia), .val (.int ib), .val (.int (0 : Int32)), .val (.int ((ia &&& (65535 : Int32)).toUInt32.toUInt16.toUInt32.toInt32)), .val (.int ((ia &&& (65535 : Int32)).toUInt32.toUInt16.toUInt32.toInt32)), .val (.int (0 : Int32))] [(.int (1 : Int32))])) (fun t k => XS.iconst X7.here hx rfl (hb hby at_69) k) ?_
      refine Go.step (T' := T7) (f' := (mkF m 74 #[.val (.int ia), .val (.int ib), .val (.int (0 : Int32)), .val (.int ((ia &&& (65535 : Int32)).toUInt32.toUInt16.toUInt32.toInt32)), .val (.int ((ia &&& (65535 : Int32)).toUInt32.toUInt16.toUInt32.toInt32)), .val (.int (0 : Int32))] [(.int (1 : Int32))])) (fun t k => XS.goto X7.here hx rfl (pc0 := 70) (pc' := 74) rfl (hb hby at_70) (by decide) (by decide) k) ?_
      refine Go.retZ X7 hx hlk (t := .boolean) Bd.returns (by simp) (hb hby at_74) hh7 ?_ (by decide) (by decide)
      exact ⟨rfl, N8, K0⟩
    ·
      refine Go.step (T' := s₁) (f' := (mkF m 40 #[.val (.int ia), .val (.int ib), .val (.int (0 : Int32)), .val (.int ((ia &&& (65535 : Int32)).toUInt32.toUInt16.toUInt32.toInt32)), .val (.int ((ia &&& (65535 : Int32)).toUInt32.toUInt16.toUInt32.toInt32)), .unset] [])) (fun t k => XS.icmpNo X0.here hx rfl (hb hby at_37) rfl (flt hc6).2.2.1 k) ?_
      refine Go.step (T' := s₁) (f' := (mkF m 43 #[.val (.int ia), .val (.int ib), .val (.int (0 : Int32)), .val (.int ((ia &&& (65535 : Int32)).toUInt32.toUInt16.toUInt32.toInt32)), .val (.int ((ia &&& (65535 : Int32)).toUInt32.toUInt16.toUInt32.toInt32)), .unset] [(.long (4294977024 : Int64))])) (fun t k => X0.ldc2Long hx hown (mvT hZ (hw _ (List.mem_of_getElem? (i := 0) rfl))) (g := (mkF m 40 #[.val (.int ia), .val (.int ib), .val (.int (0 : Int32)), .val (.int ((ia &&& (65535 : Int32)).toUInt32.toUInt16.toUInt32.toInt32)), .val (.int ((ia &&& (65535 : Int32)).toUInt32.toUInt16.toUInt32.toInt32)), .unset] [])) rfl (hb hby at_40) t k) ?_
      refine Go.step (T' := s₁) (f' := (mkF m 45 #[.val (.int ia), .val (.int ib), .val (.int (0 : Int32)), .val (.int ((ia &&& (65535 : Int32)).toUInt32.toUInt16.toUInt32.toInt32)), .val (.int ((ia &&& (65535 : Int32)).toUInt32.toUInt16.toUInt32.toInt32)), .unset] [(.int ((ia &&& (65535 : Int32)).toUInt32.toUInt16.toUInt32.toInt32)), (.long (4294977024 : Int64))])) (fun t k => XS.iload X0.here hx rfl (hb hby at_43) rfl k) ?_
      refine Go.step (T' := s₁) (f' := (mkF m 46 #[.val (.int ia), .val (.int ib), .val (.int (0 : Int32)), .val (.int ((ia &&& (65535 : Int32)).toUInt32.toUInt16.toUInt32.toInt32)), .val (.int ((ia &&& (65535 : Int32)).toUInt32.toUInt16.toUInt32.toInt32)), .unset] [(.long (((4294977024 : Int64).toUInt64 >>> (((ia &&& (65535 : Int32)).toUInt32.toUInt16.toUInt32.toInt32) &&& 0x3f).toInt64.toUInt64).toInt64))])) (fun t k => XS.lushr X0.here hx rfl (hb hby at_45) rfl k) ?_
      refine Go.step (T' := s₁) (f' := (mkF m 47 #[.val (.int ia), .val (.int ib), .val (.int (0 : Int32)), .val (.int ((ia &&& (65535 : Int32)).toUInt32.toUInt16.toUInt32.toInt32)), .val (.int ((ia &&& (65535 : Int32)).toUInt32.toUInt16.toUInt32.toInt32)), .unset] [(.long (1 : Int64)), (.long (((4294977024 : Int64).toUInt64 >>> (((ia &&& (65535 : Int32)).toUInt32.toUInt16.toUInt32.toInt32) &&& 0x3f).toInt64.toUInt64).toInt64))])) (fun t k => XS.lconst X0.here hx rfl (hb hby at_46) k) ?_
      refine Go.step (T' := s₁) (f' := (mkF m 48 #[.val (.int ia), .val (.int ib), .val (.int (0 : Int32)), .val (.int ((ia &&& (65535 : Int32)).toUInt32.toUInt16.toUInt32.toInt32)), .val (.int ((ia &&& (65535 : Int32)).toUInt32.toUInt16.toUInt32.toInt32)), .unset] [(.long ((((4294977024 : Int64).toUInt64 >>> (((ia &&& (65535 : Int32)).toUInt32.toUInt16.toUInt32.toInt32) &&& 0x3f).toInt64.toUInt64).toInt64) &&& (1 : Int64)))])) (fun t k => XS.land X0.here hx rfl (hb hby at_47) rfl k) ?_
      refine Go.step (T' := s₁) (f' := (mkF m 49 #[.val (.int ia), .val (.int ib), .val (.int (0 : Int32)), .val (.int ((ia &&& (65535 : Int32)).toUInt32.toUInt16.toUInt32.toInt32)), .val (.int ((ia &&& (65535 : Int32)).toUInt32.toUInt16.toUInt32.toInt32)), .unset] [(.long (0 : Int64)), (.long ((((4294977024 : Int64).toUInt64 >>> (((ia &&& (65535 : Int32)).toUInt32.toUInt16.toUInt32.toInt32) &&& 0x3f).toInt64.toUInt64).toInt64) &&& (1 : Int64)))])) (fun t k => XS.lconst X0.here hx rfl (hb hby at_48) k) ?_
      refine Go.step (T' := s₁) (f' := (mkF m 50 #[.val (.int ia), .val (.int ib), .val (.int (0 : Int32)), .val (.int ((ia &&& (65535 : Int32)).toUInt32.toUInt16.toUInt32.toInt32)), .val (.int ((ia &&& (65535 : Int32)).toUInt32.toUInt16.toUInt32.toInt32)), .unset] [(.int (lcmpW ((((4294977024 : Int64).toUInt64 >>> (((ia &&& (65535 : Int32)).toUInt32.toUInt16.toUInt32.toInt32) &&& 0x3f).toInt64.toUInt64).toInt64) &&& (1 : Int64)) (0 : Int64)))])) (fun t k => XS.lcmp X0.here hx rfl (hb hby at_49) rfl k) ?_
      by_cases hc10 : (lcmpW ((((4294977024 : Int64).toUInt64 >>> (((ia &&& (65535 : Int32)).toUInt32.toUInt16.toUInt32.toInt32) &&& 0x3f).toInt64.toUInt64).toInt64) &&& (1 : Int64)) (0 : Int64)) = (0 : Int32)
      ·
        refine Go.step (T' := s₁) (f' := (mkF m 57 #[.val (.int ia), .val (.int ib), .val (.int (0 : Int32)), .val (.int ((ia &&& (65535 : Int32)).toUInt32.toUInt16.toUInt32.toInt32)), .val (.int ((ia &&& (65535 : Int32)).toUInt32.toUInt16.toUInt32.toInt32)), .unset] [])) (fun t k => XS.ifYes X0.here hx rfl (pc0 := 50) (pc' := 57) rfl (hb hby at_50) rfl ((if0 _ _).trans (teq hc10).1) (by decide) (by decide) k) ?_
        refine Go.step (T' := s₁) (f' := (mkF m 58 #[.val (.int ia), .val (.int ib), .val (.int (0 : Int32)), .val (.int ((ia &&& (65535 : Int32)).toUInt32.toUInt16.toUInt32.toInt32)), .val (.int ((ia &&& (65535 : Int32)).toUInt32.toUInt16.toUInt32.toInt32)), .unset] [(.int (0 : Int32))])) (fun t k => XS.iconst X0.here hx rfl (hb hby at_57) k) ?_
        refine Go.step (T' := s₁) (f' := (mkF m 60 #[.val (.int ia), .val (.int ib), .val (.int (0 : Int32)), .val (.int ((ia &&& (65535 : Int32)).toUInt32.toUInt16.toUInt32.toInt32)), .val (.int ((ia &&& (65535 : Int32)).toUInt32.toUInt16.toUInt32.toInt32)), .val (.int (0 : Int32))] [])) (fun t k => XS.istore X0.here hx rfl (hb hby at_58) rfl (l' := #[.val (.int ia), .val (.int ib), .val (.int (0 : Int32)), .val (.int ((ia &&& (65535 : Int32)).toUInt32.toUInt16.toUInt32.toInt32)), .val (.int ((ia &&& (65535 : Int32)).toUInt32.toUInt16.toUInt32.toInt32)), .val (.int (0 : Int32))]) rfl k) ?_
        refine Go.step (T' := s₁) (f' := (mkF m 61 #[.val (.int ia), .val (.int ib), .val (.int (0 : Int32)), .val (.int ((ia &&& (65535 : Int32)).toUInt32.toUInt16.toUInt32.toInt32)), .val (.int ((ia &&& (65535 : Int32)).toUInt32.toUInt16.toUInt32.toInt32)), .val (.int (0 : Int32))] [(.int ((ia &&& (65535 : Int32)).toUInt32.toUInt16.toUInt32.toInt32))])) (fun t k => XS.iloadN X0.here hx rfl (hb hby at_60) rfl k) ?_
        obtain ⟨_, _, ⟨T11, L11, k11, n11⟩, -, X11, ⟨Lc11, hQ11, l11, y11, z11⟩, st11⟩ := Jvm.LawKit.callS X0 hx (y := (⟨"com/example/pin_to_part/pintopart/XmlNames", "isWhiteSpace", "(C)Z"⟩ : MethodName)) hown (mvT hZ (hw _ (List.mem_of_getElem? (i := 1) rfl))) (mvT hZ (hw _ (List.mem_of_getElem? (i := 2) rfl))) (mvT hZ (hw _ (List.mem_of_getElem? (i := 3) rfl))) (mvT hZ (hw _ (List.mem_of_getElem? (i := 4) rfl))) (by decide) (backOf (W := 0) (rm_ws l Z a0 hw [] ((ia &&& (65535 : Int32)).toUInt32.toUInt16.toUInt32.toInt32) h0 n0 O0 ) hZ (hw _ (List.mem_of_getElem? (i := 4) rfl)) (hw _ (List.mem_of_getElem? (i := 3) rfl)) (by decide) (by decide)) (g := (mkF m 61 #[.val (.int ia), .val (.int ib), .val (.int (0 : Int32)), .val (.int ((ia &&& (65535 : Int32)).toUInt32.toUInt16.toUInt32.toInt32)), .val (.int ((ia &&& (65535 : Int32)).toUInt32.toUInt16.toUInt32.toInt32)), .val (.int (0 : Int32))] [(.int ((ia &&& (65535 : Int32)).toUInt32.toUInt16.toUInt32.toInt32))])) rfl (by rw [hml]; rfl) (argsL := [(.int ((ia &&& (65535 : Int32)).toUInt32.toUInt16.toUInt32.toInt32))]) (rest := []) (lenOf pd0 rfl) rfl (by show 2 * 0 + _ ≤ _; exact Nat.le_of_eq rfl) (hb hby at_61) (fun _ _ => ⟨rfl, e0, (by decide : 0 + 0 ≤ _), (by decide : 0 + 0 ≤ _)⟩)
        dsimp only [Pt.U, Pt.locs, Pt.cells, Pt.slots] at X11 l11 y11 z11 st11 hQ11
        subst l11 y11 z11
        obtain ⟨rfl, Nq11, hh11⟩ := hQ11
        have N12 := Fr.app N0 Nq11
        refine Go.step (T' := T11) (f' := (mkF m 64 #[.val (.int ia), .val (.int ib), .val (.int (0 : Int32)), .val (.int ((ia &&& (65535 : Int32)).toUInt32.toUInt16.toUInt32.toInt32)), .val (.int ((ia &&& (65535 : Int32)).toUInt32.toUInt16.toUInt32.toInt32)), .val (.int (0 : Int32))] [(.int (if ((ia &&& (65535 : Int32)).toUInt32.toUInt16.toUInt32.toInt32) = 32 ∨ ((ia &&& (65535 : Int32)).toUInt32.toUInt16.toUInt32.toInt32) = 9 ∨ ((ia &&& (65535 : Int32)).toUInt32.toUInt16.toUInt32.toInt32) = 13 ∨ ((ia &&& (65535 : Int32)).toUInt32.toUInt16.toUInt32.toInt32) = 10 then (1 : Int32) else 0))])) st11 ?_
        refine Go.step (T' := T11) (f' := (mkF m 66 #[.val (.int ia), .val (.int ib), .val (.int (0 : Int32)), .val (.int ((ia &&& (65535 : Int32)).toUInt32.toUInt16.toUInt32.toInt32)), .val (.int ((ia &&& (65535 : Int32)).toUInt32.toUInt16.toUInt32.toInt32)), .val (.int (0 : Int32))] [(.int (0 : Int32)), (.int (if ((ia &&& (65535 : Int32)).toUInt32.toUInt16.toUInt32.toInt32) = 32 ∨ ((ia &&& (65535 : Int32)).toUInt32.toUInt16.toUInt32.toInt32) = 9 ∨ ((ia &&& (65535 : Int32)).toUInt32.toUInt16.toUInt32.toInt32) = 13 ∨ ((ia &&& (65535 : Int32)).toUInt32.toUInt16.toUInt32.toInt32) = 10 then (1 : Int32) else 0))])) (fun t k => XS.iload X11.here hx rfl (hb hby at_64) rfl k) ?_
        have hc13 : (if ((ia &&& (65535 : Int32)).toUInt32.toUInt16.toUInt32.toInt32) = 32 ∨ ((ia &&& (65535 : Int32)).toUInt32.toUInt16.toUInt32.toInt32) = 9 ∨ ((ia &&& (65535 : Int32)).toUInt32.toUInt16.toUInt32.toInt32) = 13 ∨ ((ia &&& (65535 : Int32)).toUInt32.toUInt16.toUInt32.toInt32) = 10 then (1 : Int32) else 0) = (0 : Int32) := by
          exact own_near0 _ (c_i2c _).2.1 hc6 hc10
        refine Go.step (T' := T11) (f' := (mkF m 69 #[.val (.int ia), .val (.int ib), .val (.int (0 : Int32)), .val (.int ((ia &&& (65535 : Int32)).toUInt32.toUInt16.toUInt32.toInt32)), .val (.int ((ia &&& (65535 : Int32)).toUInt32.toUInt16.toUInt32.toInt32)), .val (.int (0 : Int32))] [])) (fun t k => XS.icmpNo X11.here hx rfl (hb hby at_66) rfl (teq hc13).2 k) ?_
        refine Go.step (T' := T11) (f' := (mkF m 70 #[.val (.int ia), .val (.int ib), .val (.int (0 : Int32)), .val (.int ((ia &&& (65535 : Int32)).toUInt32.toUInt16.toUInt32.toInt32)), .val (.int ((ia &&& (65535 : Int32)).toUInt32.toUInt16.toUInt32.toInt32)), .val (.int (0 : Int32))] [(.int (1 : Int32))])) (fun t k => XS.iconst X11.here hx rfl (hb hby at_69) k) ?_
        refine Go.step (T' := T11) (f' := (mkF m 74 #[.val (.int ia), .val (.int ib), .val (.int (0 : Int32)), .val (.int ((ia &&& (65535 : Int32)).toUInt32.toUInt16.toUInt32.toInt32)), .val (.int ((ia &&& (65535 : Int32)).toUInt32.toUInt16.toUInt32.toInt32)), .val (.int (0 : Int32))] [(.int (1 : Int32))])) (fun t k => XS.goto X11.here hx rfl (pc0 := 70) (pc' := 74) rfl (hb hby at_70) (by decide) (by decide) k) ?_
        refine Go.retZ X11 hx hlk (t := .boolean) Bd.returns (by simp) (hb hby at_74) hh11 ?_ (by decide) (by decide)
        exact ⟨rfl, N12, K0⟩
      ·
        refine Go.step (T' := s₁) (f' := (mkF m 53 #[.val (.int ia), .val (.int ib), .val (.int (0 : Int32)), .val (.int ((ia &&& (65535 : Int32)).toUInt32.toUInt16.toUInt32.toInt32)), .val (.int ((ia &&& (65535 : Int32)).toUInt32.toUInt16.toUInt32.toInt32)), .unset] [])) (fun t k => XS.ifNo X0.here hx rfl (hb hby at_50) rfl ((if0 _ _).trans (feq hc10).1) k) ?_
        refine Go.step (T' := s₁) (f' := (mkF m 54 #[.val (.int ia), .val (.int ib), .val (.int (0 : Int32)), .val (.int ((ia &&& (65535 : Int32)).toUInt32.toUInt16.toUInt32.toInt32)), .val (.int ((ia &&& (65535 : Int32)).toUInt32.toUInt16.toUInt32.toInt32)), .unset] [(.int (1 : Int32))])) (fun t k => XS.iconst X0.here hx rfl (hb hby at_53) k) ?_
        refine Go.step (T' := s₁) (f' := (mkF m 58 #[.val (.int ia), .val (.int ib), .val (.int (0 : Int32)), .val (.int ((ia &&& (65535 : Int32)).toUInt32.toUInt16.toUInt32.toInt32)), .val (.int ((ia &&& (65535 : Int32)).toUInt32.toUInt16.toUInt32.toInt32)), .unset] [(.int (1 : Int32))])) (fun t k => XS.goto X0.here hx rfl (pc0 := 54) (pc' := 58) rfl (hb hby at_54) (by decide) (by decide) k) ?_
        refine Go.step (T' := s₁) (f' := (mkF m 60 #[.val (.int ia), .val (.int ib), .val (.int (0 : Int32)), .val (.int ((ia &&& (65535 : Int32)).toUInt32.toUInt16.toUInt32.toInt32)), .val (.int ((ia &&& (65535 : Int32)).toUInt32.toUInt16.toUInt32.toInt32)), .val (.int (1 : Int32))] [])) (fun t k => XS.istore X0.here hx rfl (hb hby at_58) rfl (l' := #[.val (.int ia), .val (.int ib), .val (.int (0 : Int32)), .val (.int ((ia &&& (65535 : Int32)).toUInt32.toUInt16.toUInt32.toInt32)), .val (.int ((ia &&& (65535 : Int32)).toUInt32.toUInt16.toUInt32.toInt32)), .val (.int (1 : Int32))]) rfl k) ?_
        refine Go.step (T' := s₁) (f' := (mkF m 61 #[.val (.int ia), .val (.int ib), .val (.int (0 : Int32)), .val (.int ((ia &&& (65535 : Int32)).toUInt32.toUInt16.toUInt32.toInt32)), .val (.int ((ia &&& (65535 : Int32)).toUInt32.toUInt16.toUInt32.toInt32)), .val (.int (1 : Int32))] [(.int ((ia &&& (65535 : Int32)).toUInt32.toUInt16.toUInt32.toInt32))])) (fun t k => XS.iloadN X0.here hx rfl (hb hby at_60) rfl k) ?_
        obtain ⟨_, _, ⟨T14, L14, k14, n14⟩, -, X14, ⟨Lc14, hQ14, l14, y14, z14⟩, st14⟩ := Jvm.LawKit.callS X0 hx (y := (⟨"com/example/pin_to_part/pintopart/XmlNames", "isWhiteSpace", "(C)Z"⟩ : MethodName)) hown (mvT hZ (hw _ (List.mem_of_getElem? (i := 1) rfl))) (mvT hZ (hw _ (List.mem_of_getElem? (i := 2) rfl))) (mvT hZ (hw _ (List.mem_of_getElem? (i := 3) rfl))) (mvT hZ (hw _ (List.mem_of_getElem? (i := 4) rfl))) (by decide) (backOf (W := 0) (rm_ws l Z a0 hw [] ((ia &&& (65535 : Int32)).toUInt32.toUInt16.toUInt32.toInt32) h0 n0 O0 ) hZ (hw _ (List.mem_of_getElem? (i := 4) rfl)) (hw _ (List.mem_of_getElem? (i := 3) rfl)) (by decide) (by decide)) (g := (mkF m 61 #[.val (.int ia), .val (.int ib), .val (.int (0 : Int32)), .val (.int ((ia &&& (65535 : Int32)).toUInt32.toUInt16.toUInt32.toInt32)), .val (.int ((ia &&& (65535 : Int32)).toUInt32.toUInt16.toUInt32.toInt32)), .val (.int (1 : Int32))] [(.int ((ia &&& (65535 : Int32)).toUInt32.toUInt16.toUInt32.toInt32))])) rfl (by rw [hml]; rfl) (argsL := [(.int ((ia &&& (65535 : Int32)).toUInt32.toUInt16.toUInt32.toInt32))]) (rest := []) (lenOf pd0 rfl) rfl (by show 2 * 0 + _ ≤ _; exact Nat.le_of_eq rfl) (hb hby at_61) (fun _ _ => ⟨rfl, e0, (by decide : 0 + 0 ≤ _), (by decide : 0 + 0 ≤ _)⟩)
        dsimp only [Pt.U, Pt.locs, Pt.cells, Pt.slots] at X14 l14 y14 z14 st14 hQ14
        subst l14 y14 z14
        obtain ⟨rfl, Nq14, hh14⟩ := hQ14
        have N15 := Fr.app N0 Nq14
        refine Go.step (T' := T14) (f' := (mkF m 64 #[.val (.int ia), .val (.int ib), .val (.int (0 : Int32)), .val (.int ((ia &&& (65535 : Int32)).toUInt32.toUInt16.toUInt32.toInt32)), .val (.int ((ia &&& (65535 : Int32)).toUInt32.toUInt16.toUInt32.toInt32)), .val (.int (1 : Int32))] [(.int (if ((ia &&& (65535 : Int32)).toUInt32.toUInt16.toUInt32.toInt32) = 32 ∨ ((ia &&& (65535 : Int32)).toUInt32.toUInt16.toUInt32.toInt32) = 9 ∨ ((ia &&& (65535 : Int32)).toUInt32.toUInt16.toUInt32.toInt32) = 13 ∨ ((ia &&& (65535 : Int32)).toUInt32.toUInt16.toUInt32.toInt32) = 10 then (1 : Int32) else 0))])) st14 ?_
        refine Go.step (T' := T14) (f' := (mkF m 66 #[.val (.int ia), .val (.int ib), .val (.int (0 : Int32)), .val (.int ((ia &&& (65535 : Int32)).toUInt32.toUInt16.toUInt32.toInt32)), .val (.int ((ia &&& (65535 : Int32)).toUInt32.toUInt16.toUInt32.toInt32)), .val (.int (1 : Int32))] [(.int (1 : Int32)), (.int (if ((ia &&& (65535 : Int32)).toUInt32.toUInt16.toUInt32.toInt32) = 32 ∨ ((ia &&& (65535 : Int32)).toUInt32.toUInt16.toUInt32.toInt32) = 9 ∨ ((ia &&& (65535 : Int32)).toUInt32.toUInt16.toUInt32.toInt32) = 13 ∨ ((ia &&& (65535 : Int32)).toUInt32.toUInt16.toUInt32.toInt32) = 10 then (1 : Int32) else 0))])) (fun t k => XS.iload X14.here hx rfl (hb hby at_64) rfl k) ?_
        have hc16 : (if ((ia &&& (65535 : Int32)).toUInt32.toUInt16.toUInt32.toInt32) = 32 ∨ ((ia &&& (65535 : Int32)).toUInt32.toUInt16.toUInt32.toInt32) = 9 ∨ ((ia &&& (65535 : Int32)).toUInt32.toUInt16.toUInt32.toInt32) = 13 ∨ ((ia &&& (65535 : Int32)).toUInt32.toUInt16.toUInt32.toInt32) = 10 then (1 : Int32) else 0) = (1 : Int32) := by
          exact own_near1 _ (c_i2c _).2.1 hc6 hc10
        refine Go.step (T' := T14) (f' := (mkF m 69 #[.val (.int ia), .val (.int ib), .val (.int (0 : Int32)), .val (.int ((ia &&& (65535 : Int32)).toUInt32.toUInt16.toUInt32.toInt32)), .val (.int ((ia &&& (65535 : Int32)).toUInt32.toUInt16.toUInt32.toInt32)), .val (.int (1 : Int32))] [])) (fun t k => XS.icmpNo X14.here hx rfl (hb hby at_66) rfl (teq hc16).2 k) ?_
        refine Go.step (T' := T14) (f' := (mkF m 70 #[.val (.int ia), .val (.int ib), .val (.int (0 : Int32)), .val (.int ((ia &&& (65535 : Int32)).toUInt32.toUInt16.toUInt32.toInt32)), .val (.int ((ia &&& (65535 : Int32)).toUInt32.toUInt16.toUInt32.toInt32)), .val (.int (1 : Int32))] [(.int (1 : Int32))])) (fun t k => XS.iconst X14.here hx rfl (hb hby at_69) k) ?_
        refine Go.step (T' := T14) (f' := (mkF m 74 #[.val (.int ia), .val (.int ib), .val (.int (0 : Int32)), .val (.int ((ia &&& (65535 : Int32)).toUInt32.toUInt16.toUInt32.toInt32)), .val (.int ((ia &&& (65535 : Int32)).toUInt32.toUInt16.toUInt32.toInt32)), .val (.int (1 : Int32))] [(.int (1 : Int32))])) (fun t k => XS.goto X14.here hx rfl (pc0 := 70) (pc' := 74) rfl (hb hby at_70) (by decide) (by decide) k) ?_
        refine Go.retZ X14 hx hlk (t := .boolean) Bd.returns (by simp) (hb hby at_74) hh14 ?_ (by decide) (by decide)
        exact ⟨rfl, N15, K0⟩
  ·
    refine Go.step (T' := s₁) (f' := (mkF m 6 #[.val (.int ia), .val (.int ib), .unset, .unset, .unset, .unset] [])) (fun t k => XS.ifNo X0.here hx rfl (hb hby at_3) rfl ((if0 _ _).trans (feq hc5).1) k) ?_
    refine Go.step (T' := s₁) (f' := (mkF m 7 #[.val (.int ia), .val (.int ib), .unset, .unset, .unset, .unset] [(.int (1 : Int32))])) (fun t k => XS.iconst X0.here hx rfl (hb hby at_6) k) ?_
    refine Go.step (T' := s₁) (f' := (mkF m 11 #[.val (.int ia), .val (.int ib), .unset, .unset, .unset, .unset] [(.int (1 : Int32))])) (fun t k => XS.goto X0.here hx rfl (pc0 := 7) (pc' := 11) rfl (hb hby at_7) (by decide) (by decide) k) ?_
    refine Go.step (T' := s₁) (f' := (mkF m 12 #[.val (.int ia), .val (.int ib), .val (.int (1 : Int32)), .unset, .unset, .unset] [])) (fun t k => XS.istoreN X0.here hx rfl (hb hby at_11) rfl (l' := #[.val (.int ia), .val (.int ib), .val (.int (1 : Int32)), .unset, .unset, .unset]) rfl k) ?_
    refine Go.step (T' := s₁) (f' := (mkF m 13 #[.val (.int ia), .val (.int ib), .val (.int (1 : Int32)), .unset, .unset, .unset] [(.int (1 : Int32))])) (fun t k => XS.iloadN X0.here hx rfl (hb hby at_12) rfl k) ?_
    refine Go.step (T' := s₁) (f' := (mkF m 16 #[.val (.int ia), .val (.int ib), .val (.int (1 : Int32)), .unset, .unset, .unset] [])) (fun t k => XS.ifNo X0.here hx rfl (hb hby at_13) rfl ((if0 _ _).trans (feq (by decide : ¬ ((1 : Int32) = (0 : Int32)))).1) k) ?_
    refine Go.step (T' := s₁) (f' := (mkF m 17 #[.val (.int ia), .val (.int ib), .val (.int (1 : Int32)), .unset, .unset, .unset] [(.int ia)])) (fun t k => XS.iloadN X0.here hx rfl (hb hby at_16) rfl k) ?_
    refine Go.step (T' := s₁) (f' := (mkF m 19 #[.val (.int ia), .val (.int ib), .val (.int (1 : Int32)), .unset, .unset, .unset] [(.int (63 : Int32)), (.int ia)])) (fun t k => XS.bipush X0.here hx rfl (hb hby at_17) k) ?_
    refine Go.step (T' := s₁) (f' := (mkF m 20 #[.val (.int ia), .val (.int ib), .val (.int (1 : Int32)), .unset, .unset, .unset] [(.int (ia &&& (63 : Int32)))])) (fun t k => XS.iand X0.here hx rfl (hb hby at_19) rfl k) ?_
    refine Go.step (T' := s₁) (f' := (mkF m 21 #[.val (.int ia), .val (.int ib), .val (.int (1 : Int32)), .unset, .unset, .unset] [(.int ((ia &&& (63 : Int32)).toUInt32.toUInt16.toUInt32.toInt32))])) (fun t k => XS.i2c X0.here hx rfl (hb hby at_20) rfl k) ?_
    refine Go.step (T' := s₁) (f' := (mkF m 29 #[.val (.int ia), .val (.int ib), .val (.int (1 : Int32)), .unset, .unset, .unset] [(.int ((ia &&& (63 : Int32)).toUInt32.toUInt16.toUInt32.toInt32))])) (fun t k => XS.goto X0.here hx rfl (pc0 := 21) (pc' := 29) rfl (hb hby at_21) (by decide) (by decide) k) ?_
    refine Go.step (T' := s₁) (f' := (mkF m 30 #[.val (.int ia), .val (.int ib), .val (.int (1 : Int32)), .val (.int ((ia &&& (63 : Int32)).toUInt32.toUInt16.toUInt32.toInt32)), .unset, .unset] [])) (fun t k => XS.istoreN X0.here hx rfl (hb hby at_29) rfl (l' := #[.val (.int ia), .val (.int ib), .val (.int (1 : Int32)), .val (.int ((ia &&& (63 : Int32)).toUInt32.toUInt16.toUInt32.toInt32)), .unset, .unset]) rfl k) ?_
    refine Go.step (T' := s₁) (f' := (mkF m 31 #[.val (.int ia), .val (.int ib), .val (.int (1 : Int32)), .val (.int ((ia &&& (63 : Int32)).toUInt32.toUInt16.toUInt32.toInt32)), .unset, .unset] [(.int ((ia &&& (63 : Int32)).toUInt32.toUInt16.toUInt32.toInt32))])) (fun t k => XS.iloadN X0.here hx rfl (hb hby at_30) rfl k) ?_
    refine Go.step (T' := s₁) (f' := (mkF m 33 #[.val (.int ia), .val (.int ib), .val (.int (1 : Int32)), .val (.int ((ia &&& (63 : Int32)).toUInt32.toUInt16.toUInt32.toInt32)), .val (.int ((ia &&& (63 : Int32)).toUInt32.toUInt16.toUInt32.toInt32)), .unset] [])) (fun t k => XS.istore X0.here hx rfl (hb hby at_31) rfl (l' := #[.val (.int ia), .val (.int ib), .val (.int (1 : Int32)), .val (.int ((ia &&& (63 : Int32)).toUInt32.toUInt16.toUInt32.toInt32)), .val (.int ((ia &&& (63 : Int32)).toUInt32.toUInt16.toUInt32.toInt32)), .unset]) rfl k) ?_
    refine Go.step (T' := s₁) (f' := (mkF m 35 #[.val (.int ia), .val (.int ib), .val (.int (1 : Int32)), .val (.int ((ia &&& (63 : Int32)).toUInt32.toUInt16.toUInt32.toInt32)), .val (.int ((ia &&& (63 : Int32)).toUInt32.toUInt16.toUInt32.toInt32)), .unset] [(.int ((ia &&& (63 : Int32)).toUInt32.toUInt16.toUInt32.toInt32))])) (fun t k => XS.iload X0.here hx rfl (hb hby at_33) rfl k) ?_
    refine Go.step (T' := s₁) (f' := (mkF m 37 #[.val (.int ia), .val (.int ib), .val (.int (1 : Int32)), .val (.int ((ia &&& (63 : Int32)).toUInt32.toUInt16.toUInt32.toInt32)), .val (.int ((ia &&& (63 : Int32)).toUInt32.toUInt16.toUInt32.toInt32)), .unset] [(.int (32 : Int32)), (.int ((ia &&& (63 : Int32)).toUInt32.toUInt16.toUInt32.toInt32))])) (fun t k => XS.bipush X0.here hx rfl (hb hby at_35) k) ?_
    by_cases hc17 : (32 : Int32) < ((ia &&& (63 : Int32)).toUInt32.toUInt16.toUInt32.toInt32)
    ·
      refine Go.step (T' := s₁) (f' := (mkF m 57 #[.val (.int ia), .val (.int ib), .val (.int (1 : Int32)), .val (.int ((ia &&& (63 : Int32)).toUInt32.toUInt16.toUInt32.toInt32)), .val (.int ((ia &&& (63 : Int32)).toUInt32.toUInt16.toUInt32.toInt32)), .unset] [])) (fun t k => XS.icmpYes X0.here hx rfl (pc0 := 37) (pc' := 57) rfl (hb hby at_37) rfl (tlt hc17).2.2.1 (by decide) (by decide) k) ?_
      refine Go.step (T' := s₁) (f' := (mkF m 58 #[.val (.int ia), .val (.int ib), .val (.int (1 : Int32)), .val (.int ((ia &&& (63 : Int32)).toUInt32.toUInt16.toUInt32.toInt32)), .val (.int ((ia &&& (63 : Int32)).toUInt32.toUInt16.toUInt32.toInt32)), .unset] [(.int (0 : Int32))])) (fun t k => XS.iconst X0.here hx rfl (hb hby at_57) k) ?_
      refine Go.step (T' := s₁) (f' := (mkF m 60 #[.val (.int ia), .val (.int ib), .val (.int (1 : Int32)), .val (.int ((ia &&& (63 : Int32)).toUInt32.toUInt16.toUInt32.toInt32)), .val (.int ((ia &&& (63 : Int32)).toUInt32.toUInt16.toUInt32.toInt32)), .val (.int (0 : Int32))] [])) (fun t k => XS.istore X0.here hx rfl (hb hby at_58) rfl (l' := #[.val (.int ia), .val (.int ib), .val (.int (1 : Int32)), .val (.int ((ia &&& (63 : Int32)).toUInt32.toUInt16.toUInt32.toInt32)), .val (.int ((ia &&& (63 : Int32)).toUInt32.toUInt16.toUInt32.toInt32)), .val (.int (0 : Int32))]) rfl k) ?_
      refine Go.step (T' := s₁) (f' := (mkF m 61 #[.val (.int ia), .val (.int ib), .val (.int (1 : Int32)), .val (.int ((ia &&& (63 : Int32)).toUInt32.toUInt16.toUInt32.toInt32)), .val (.int ((ia &&& (63 : Int32)).toUInt32.toUInt16.toUInt32.toInt32)), .val (.int (0 : Int32))] [(.int ((ia &&& (63 : Int32)).toUInt32.toUInt16.toUInt32.toInt32))])) (fun t k => XS.iloadN X0.here hx rfl (hb hby at_60) rfl k) ?_
      obtain ⟨_, _, ⟨T18, L18, k18, n18⟩, -, X18, ⟨Lc18, hQ18, l18, y18, z18⟩, st18⟩ := Jvm.LawKit.callS X0 hx (y := (⟨"com/example/pin_to_part/pintopart/XmlNames", "isWhiteSpace", "(C)Z"⟩ : MethodName)) hown (mvT hZ (hw _ (List.mem_of_getElem? (i := 1) rfl))) (mvT hZ (hw _ (List.mem_of_getElem? (i := 2) rfl))) (mvT hZ (hw _ (List.mem_of_getElem? (i := 3) rfl))) (mvT hZ (hw _ (List.mem_of_getElem? (i := 4) rfl))) (by decide) (backOf (W := 0) (rm_ws l Z a0 hw [] ((ia &&& (63 : Int32)).toUInt32.toUInt16.toUInt32.toInt32) h0 n0 O0 ) hZ (hw _ (List.mem_of_getElem? (i := 4) rfl)) (hw _ (List.mem_of_getElem? (i := 3) rfl)) (by decide) (by decide)) (g := (mkF m 61 #[.val (.int ia), .val (.int ib), .val (.int (1 : Int32)), .val (.int ((ia &&& (63 : Int32)).toUInt32.toUInt16.toUInt32.toInt32)), .val (.int ((ia &&& (63 : Int32)).toUInt32.toUInt16.toUInt32.toInt32)), .val (.int (0 : Int32))] [(.int ((ia &&& (63 : Int32)).toUInt32.toUInt16.toUInt32.toInt32))])) rfl (by rw [hml]; rfl) (argsL := [(.int ((ia &&& (63 : Int32)).toUInt32.toUInt16.toUInt32.toInt32))]) (rest := []) (lenOf pd0 rfl) rfl (by show 2 * 0 + _ ≤ _; exact Nat.le_of_eq rfl) (hb hby at_61) (fun _ _ => ⟨rfl, e0, (by decide : 0 + 0 ≤ _), (by decide : 0 + 0 ≤ _)⟩)
      dsimp only [Pt.U, Pt.locs, Pt.cells, Pt.slots] at X18 l18 y18 z18 st18 hQ18
      subst l18 y18 z18
      obtain ⟨rfl, Nq18, hh18⟩ := hQ18
      have N19 := Fr.app N0 Nq18
      refine Go.step (T' := T18) (f' := (mkF m 64 #[.val (.int ia), .val (.int ib), .val (.int (1 : Int32)), .val (.int ((ia &&& (63 : Int32)).toUInt32.toUInt16.toUInt32.toInt32)), .val (.int ((ia &&& (63 : Int32)).toUInt32.toUInt16.toUInt32.toInt32)), .val (.int (0 : Int32))] [(.int (if ((ia &&& (63 : Int32)).toUInt32.toUInt16.toUInt32.toInt32) = 32 ∨ ((ia &&& (63 : Int32)).toUInt32.toUInt16.toUInt32.toInt32) = 9 ∨ ((ia &&& (63 : Int32)).toUInt32.toUInt16.toUInt32.toInt32) = 13 ∨ ((ia &&& (63 : Int32)).toUInt32.toUInt16.toUInt32.toInt32) = 10 then (1 : Int32) else 0))])) st18 ?_
      refine Go.step (T' := T18) (f' := (mkF m 66 #[.val (.int ia), .val (.int ib), .val (.int (1 : Int32)), .val (.int ((ia &&& (63 : Int32)).toUInt32.toUInt16.toUInt32.toInt32)), .val (.int ((ia &&& (63 : Int32)).toUInt32.toUInt16.toUInt32.toInt32)), .val (.int (0 : Int32))] [(.int (0 : Int32)), (.int (if ((ia &&& (63 : Int32)).toUInt32.toUInt16.toUInt32.toInt32) = 32 ∨ ((ia &&& (63 : Int32)).toUInt32.toUInt16.toUInt32.toInt32) = 9 ∨ ((ia &&& (63 : Int32)).toUInt32.toUInt16.toUInt32.toInt32) = 13 ∨ ((ia &&& (63 : Int32)).toUInt32.toUInt16.toUInt32.toInt32) = 10 then (1 : Int32) else 0))])) (fun t k => XS.iload X18.here hx rfl (hb hby at_64) rfl k) ?_
      have hc20 : (if ((ia &&& (63 : Int32)).toUInt32.toUInt16.toUInt32.toInt32) = 32 ∨ ((ia &&& (63 : Int32)).toUInt32.toUInt16.toUInt32.toInt32) = 9 ∨ ((ia &&& (63 : Int32)).toUInt32.toUInt16.toUInt32.toInt32) = 13 ∨ ((ia &&& (63 : Int32)).toUInt32.toUInt16.toUInt32.toInt32) = 10 then (1 : Int32) else 0) = (0 : Int32) := by
        exact own_far _ hc17
      refine Go.step (T' := T18) (f' := (mkF m 69 #[.val (.int ia), .val (.int ib), .val (.int (1 : Int32)), .val (.int ((ia &&& (63 : Int32)).toUInt32.toUInt16.toUInt32.toInt32)), .val (.int ((ia &&& (63 : Int32)).toUInt32.toUInt16.toUInt32.toInt32)), .val (.int (0 : Int32))] [])) (fun t k => XS.icmpNo X18.here hx rfl (hb hby at_66) rfl (teq hc20).2 k) ?_
      refine Go.step (T' := T18) (f' := (mkF m 70 #[.val (.int ia), .val (.int ib), .val (.int (1 : Int32)), .val (.int ((ia &&& (63 : Int32)).toUInt32.toUInt16.toUInt32.toInt32)), .val (.int ((ia &&& (63 : Int32)).toUInt32.toUInt16.toUInt32.toInt32)), .val (.int (0 : Int32))] [(.int (1 : Int32))])) (fun t k => XS.iconst X18.here hx rfl (hb hby at_69) k) ?_
      refine Go.step (T' := T18) (f' := (mkF m 74 #[.val (.int ia), .val (.int ib), .val (.int (1 : Int32)), .val (.int ((ia &&& (63 : Int32)).toUInt32.toUInt16.toUInt32.toInt32)), .val (.int ((ia &&& (63 : Int32)).toUInt32.toUInt16.toUInt32.toInt32)), .val (.int (0 : Int32))] [(.int (1 : Int32))])) (fun t k => XS.goto X18.here hx rfl (pc0 := 70) (pc' := 74) rfl (hb hby at_70) (by decide) (by decide) k) ?_
      refine Go.retZ X18 hx hlk (t := .boolean) Bd.returns (by simp) (hb hby at_74) hh18 ?_ (by decide) (by decide)
      exact ⟨rfl, N19, K0⟩
    ·
      refine Go.step (T' := s₁) (f' := (mkF m 40 #[.val (.int ia), .val (.int ib), .val (.int (1 : Int32)), .val (.int ((ia &&& (63 : Int32)).toUInt32.toUInt16.toUInt32.toInt32)), .val (.int ((ia &&& (63 : Int32)).toUInt32.toUInt16.toUInt32.toInt32)), .unset] [])) (fun t k => XS.icmpNo X0.here hx rfl (hb hby at_37) rfl (flt hc17).2.2.1 k) ?_
      refine Go.step (T' := s₁) (f' := (mkF m 43 #[.val (.int ia), .val (.int ib), .val (.int (1 : Int32)), .val (.int ((ia &&& (63 : Int32)).toUInt32.toUInt16.toUInt32.toInt32)), .val (.int ((ia &&& (63 : Int32)).toUInt32.toUInt16.toUInt32.toInt32)), .unset] [(.long (4294977024 : Int64))])) (fun t k => X0.ldc2Long hx hown (mvT hZ (hw _ (List.mem_of_getElem? (i := 0) rfl))) (g := (mkF m 40 #[.val (.int ia), .val (.int ib), .val (.int (1 : Int32)), .val (.int ((ia &&& (63 : Int32)).toUInt32.toUInt16.toUInt32.toInt32)), .val (.int ((ia &&& (63 : Int32)).toUInt32.toUInt16.toUInt32.toInt32)), .unset] [])) rfl (hb hby at_40) t k) ?_
      refine Go.step (T' := s₁) (f' := (mkF m 45 #[.val (.int ia), .val (.int ib), .val (.int (1 : Int32)), .val (.int ((ia &&& (63 : Int32)).toUInt32.toUInt16.toUInt32.toInt32)), .val (.int ((ia &&& (63 : Int32)).toUInt32.toUInt16.toUInt32.toInt32)), .unset] [(.int ((ia &&& (63 : Int32)).toUInt32.toUInt16.toUInt32.toInt32)), (.long (4294977024 : Int64))])) (fun t k => XS.iload X0.here hx rfl (hb hby at_43) rfl k) ?_
      refine Go.step (T' := s₁) (f' := (mkF m 46 #[.val (.int ia), .val (.int ib), .val (.int (1 : Int32)), .val (.int ((ia &&& (63 : Int32)).toUInt32.toUInt16.toUInt32.toInt32)), .val (.int ((ia &&& (63 : Int32)).toUInt32.toUInt16.toUInt32.toInt32)), .unset] [(.long (((4294977024 : Int64).toUInt64 >>> (((ia &&& (63 : Int32)).toUInt32.toUInt16.toUInt32.toInt32) &&& 0x3f).toInt64.toUInt64).toInt64))])) (fun t k => XS.lushr X0.here hx rfl (hb hby at_45) rfl k) ?_
      refine Go.step (T' := s₁) (f' := (mkF m 47 #[.val (.int ia), .val (.int ib), .val (.int (1 : Int32)), .val (.int ((ia &&& (63 : Int32)).toUInt32.toUInt16.toUInt32.toInt32)), .val (.int ((ia &&& (63 : Int32)).toUInt32.toUInt16.toUInt32.toInt32)), .unset] [(.long (1 : Int64)), (.long (((4294977024 : Int64).toUInt64 >>> (((ia &&& (63 : Int32)).toUInt32.toUInt16.toUInt32.toInt32) &&& 0x3f).toInt64.toUInt64).toInt64))])) (fun t k => XS.lconst X0.here hx rfl (hb hby at_46) k) ?_
      refine Go.step (T' := s₁) (f' := (mkF m 48 #[.val (.int ia), .val (.int ib), .val (.int (1 : Int32)), .val (.int ((ia &&& (63 : Int32)).toUInt32.toUInt16.toUInt32.toInt32)), .val (.int ((ia &&& (63 : Int32)).toUInt32.toUInt16.toUInt32.toInt32)), .unset] [(.long ((((4294977024 : Int64).toUInt64 >>> (((ia &&& (63 : Int32)).toUInt32.toUInt16.toUInt32.toInt32) &&& 0x3f).toInt64.toUInt64).toInt64) &&& (1 : Int64)))])) (fun t k => XS.land X0.here hx rfl (hb hby at_47) rfl k) ?_
      refine Go.step (T' := s₁) (f' := (mkF m 49 #[.val (.int ia), .val (.int ib), .val (.int (1 : Int32)), .val (.int ((ia &&& (63 : Int32)).toUInt32.toUInt16.toUInt32.toInt32)), .val (.int ((ia &&& (63 : Int32)).toUInt32.toUInt16.toUInt32.toInt32)), .unset] [(.long (0 : Int64)), (.long ((((4294977024 : Int64).toUInt64 >>> (((ia &&& (63 : Int32)).toUInt32.toUInt16.toUInt32.toInt32) &&& 0x3f).toInt64.toUInt64).toInt64) &&& (1 : Int64)))])) (fun t k => XS.lconst X0.here hx rfl (hb hby at_48) k) ?_
      refine Go.step (T' := s₁) (f' := (mkF m 50 #[.val (.int ia), .val (.int ib), .val (.int (1 : Int32)), .val (.int ((ia &&& (63 : Int32)).toUInt32.toUInt16.toUInt32.toInt32)), .val (.int ((ia &&& (63 : Int32)).toUInt32.toUInt16.toUInt32.toInt32)), .unset] [(.int (lcmpW ((((4294977024 : Int64).toUInt64 >>> (((ia &&& (63 : Int32)).toUInt32.toUInt16.toUInt32.toInt32) &&& 0x3f).toInt64.toUInt64).toInt64) &&& (1 : Int64)) (0 : Int64)))])) (fun t k => XS.lcmp X0.here hx rfl (hb hby at_49) rfl k) ?_
      by_cases hc21 : (lcmpW ((((4294977024 : Int64).toUInt64 >>> (((ia &&& (63 : Int32)).toUInt32.toUInt16.toUInt32.toInt32) &&& 0x3f).toInt64.toUInt64).toInt64) &&& (1 : Int64)) (0 : Int64)) = (0 : Int32)
      ·
        refine Go.step (T' := s₁) (f' := (mkF m 57 #[.val (.int ia), .val (.int ib), .val (.int (1 : Int32)), .val (.int ((ia &&& (63 : Int32)).toUInt32.toUInt16.toUInt32.toInt32)), .val (.int ((ia &&& (63 : Int32)).toUInt32.toUInt16.toUInt32.toInt32)), .unset] [])) (fun t k => XS.ifYes X0.here hx rfl (pc0 := 50) (pc' := 57) rfl (hb hby at_50) rfl ((if0 _ _).trans (teq hc21).1) (by decide) (by decide) k) ?_
        refine Go.step (T' := s₁) (f' := (mkF m 58 #[.val (.int ia), .val (.int ib), .val (.int (1 : Int32)), .val (.int ((ia &&& (63 : Int32)).toUInt32.toUInt16.toUInt32.toInt32)), .val (.int ((ia &&& (63 : Int32)).toUInt32.toUInt16.toUInt32.toInt32)), .unset] [(.int (0 : Int32))])) (fun t k => XS.iconst X0.here hx rfl (hb hby at_57) k) ?_
        refine Go.step (T' := s₁) (f' := (mkF m 60 #[.val (.int ia), .val (.int ib), .val (.int (1 : Int32)), .val (.int ((ia &&& (63 : Int32)).toUInt32.toUInt16.toUInt32.toInt32)), .val (.int ((ia &&& (63 : Int32)).toUInt32.toUInt16.toUInt32.toInt32)), .val (.int (0 : Int32))] [])) (fun t k => XS.istore X0.here hx rfl (hb hby at_58) rfl (l' := #[.val (.int ia), .val (.int ib), .val (.int (1 : Int32)), .val (.int ((ia &&& (63 : Int32)).toUInt32.toUInt16.toUInt32.toInt32)), .val (.int ((ia &&& (63 : Int32)).toUInt32.toUInt16.toUInt32.toInt32)), .val (.int (0 : Int32))]) rfl k) ?_
        refine Go.step (T' := s₁) (f' := (mkF m 61 #[.val (.int ia), .val (.int ib), .val (.int (1 : Int32)), .val (.int ((ia &&& (63 : Int32)).toUInt32.toUInt16.toUInt32.toInt32)), .val (.int ((ia &&& (63 : Int32)).toUInt32.toUInt16.toUInt32.toInt32)), .val (.int (0 : Int32))] [(.int ((ia &&& (63 : Int32)).toUInt32.toUInt16.toUInt32.toInt32))])) (fun t k => XS.iloadN X0.here hx rfl (hb hby at_60) rfl k) ?_
        obtain ⟨_, _, ⟨T22, L22, k22, n22⟩, -, X22, ⟨Lc22, hQ22, l22, y22, z22⟩, st22⟩ := Jvm.LawKit.callS X0 hx (y := (⟨"com/example/pin_to_part/pintopart/XmlNames", "isWhiteSpace", "(C)Z"⟩ : MethodName)) hown (mvT hZ (hw _ (List.mem_of_getElem? (i := 1) rfl))) (mvT hZ (hw _ (List.mem_of_getElem? (i := 2) rfl))) (mvT hZ (hw _ (List.mem_of_getElem? (i := 3) rfl))) (mvT hZ (hw _ (List.mem_of_getElem? (i := 4) rfl))) (by decide) (backOf (W := 0) (rm_ws l Z a0 hw [] ((ia &&& (63 : Int32)).toUInt32.toUInt16.toUInt32.toInt32) h0 n0 O0 ) hZ (hw _ (List.mem_of_getElem? (i := 4) rfl)) (hw _ (List.mem_of_getElem? (i := 3) rfl)) (by decide) (by decide)) (g := (mkF m 61 #[.val (.int ia), .val (.int ib), .val (.int (1 : Int32)), .val (.int ((ia &&& (63 : Int32)).toUInt32.toUInt16.toUInt32.toInt32)), .val (.int ((ia &&& (63 : Int32)).toUInt32.toUInt16.toUInt32.toInt32)), .val (.int (0 : Int32))] [(.int ((ia &&& (63 : Int32)).toUInt32.toUInt16.toUInt32.toInt32))])) rfl (by rw [hml]; rfl) (argsL := [(.int ((ia &&& (63 : Int32)).toUInt32.toUInt16.toUInt32.toInt32))]) (rest := []) (lenOf pd0 rfl) rfl (by show 2 * 0 + _ ≤ _; exact Nat.le_of_eq rfl) (hb hby at_61) (fun _ _ => ⟨rfl, e0, (by decide : 0 + 0 ≤ _), (by decide : 0 + 0 ≤ _)⟩)
        dsimp only [Pt.U, Pt.locs, Pt.cells, Pt.slots] at X22 l22 y22 z22 st22 hQ22
        subst l22 y22 z22
        obtain ⟨rfl, Nq22, hh22⟩ := hQ22
        have N23 := Fr.app N0 Nq22
        refine Go.step (T' := T22) (f' := (mkF m 64 #[.val (.int ia), .val (.int ib), .val (.int (1 : Int32)), .val (.int ((ia &&& (63 : Int32)).toUInt32.toUInt16.toUInt32.toInt32)), .val (.int ((ia &&& (63 : Int32)).toUInt32.toUInt16.toUInt32.toInt32)), .val (.int (0 : Int32))] [(.int (if ((ia &&& (63 : Int32)).toUInt32.toUInt16.toUInt32.toInt32) = 32 ∨ ((ia &&& (63 : Int32)).toUInt32.toUInt16.toUInt32.toInt32) = 9 ∨ ((ia &&& (63 : Int32)).toUInt32.toUInt16.toUInt32.toInt32) = 13 ∨ ((ia &&& (63 : Int32)).toUInt32.toUInt16.toUInt32.toInt32) = 10 then (1 : Int32) else 0))])) st22 ?_
        refine Go.step (T' := T22) (f' := (mkF m 66 #[.val (.int ia), .val (.int ib), .val (.int (1 : Int32)), .val (.int ((ia &&& (63 : Int32)).toUInt32.toUInt16.toUInt32.toInt32)), .val (.int ((ia &&& (63 : Int32)).toUInt32.toUInt16.toUInt32.toInt32)), .val (.int (0 : Int32))] [(.int (0 : Int32)), (.int (if ((ia &&& (63 : Int32)).toUInt32.toUInt16.toUInt32.toInt32) = 32 ∨ ((ia &&& (63 : Int32)).toUInt32.toUInt16.toUInt32.toInt32) = 9 ∨ ((ia &&& (63 : Int32)).toUInt32.toUInt16.toUInt32.toInt32) = 13 ∨ ((ia &&& (63 : Int32)).toUInt32.toUInt16.toUInt32.toInt32) = 10 then (1 : Int32) else 0))])) (fun t k => XS.iload X22.here hx rfl (hb hby at_64) rfl k) ?_
        have hc24 : (if ((ia &&& (63 : Int32)).toUInt32.toUInt16.toUInt32.toInt32) = 32 ∨ ((ia &&& (63 : Int32)).toUInt32.toUInt16.toUInt32.toInt32) = 9 ∨ ((ia &&& (63 : Int32)).toUInt32.toUInt16.toUInt32.toInt32) = 13 ∨ ((ia &&& (63 : Int32)).toUInt32.toUInt16.toUInt32.toInt32) = 10 then (1 : Int32) else 0) = (0 : Int32) := by
          exact own_near0 _ (c_i2c _).2.1 hc17 hc21
        refine Go.step (T' := T22) (f' := (mkF m 69 #[.val (.int ia), .val (.int ib), .val (.int (1 : Int32)), .val (.int ((ia &&& (63 : Int32)).toUInt32.toUInt16.toUInt32.toInt32)), .val (.int ((ia &&& (63 : Int32)).toUInt32.toUInt16.toUInt32.toInt32)), .val (.int (0 : Int32))] [])) (fun t k => XS.icmpNo X22.here hx rfl (hb hby at_66) rfl (teq hc24).2 k) ?_
        refine Go.step (T' := T22) (f' := (mkF m 70 #[.val (.int ia), .val (.int ib), .val (.int (1 : Int32)), .val (.int ((ia &&& (63 : Int32)).toUInt32.toUInt16.toUInt32.toInt32)), .val (.int ((ia &&& (63 : Int32)).toUInt32.toUInt16.toUInt32.toInt32)), .val (.int (0 : Int32))] [(.int (1 : Int32))])) (fun t k => XS.iconst X22.here hx rfl (hb hby at_69) k) ?_
        refine Go.step (T' := T22) (f' := (mkF m 74 #[.val (.int ia), .val (.int ib), .val (.int (1 : Int32)), .val (.int ((ia &&& (63 : Int32)).toUInt32.toUInt16.toUInt32.toInt32)), .val (.int ((ia &&& (63 : Int32)).toUInt32.toUInt16.toUInt32.toInt32)), .val (.int (0 : Int32))] [(.int (1 : Int32))])) (fun t k => XS.goto X22.here hx rfl (pc0 := 70) (pc' := 74) rfl (hb hby at_70) (by decide) (by decide) k) ?_
        refine Go.retZ X22 hx hlk (t := .boolean) Bd.returns (by simp) (hb hby at_74) hh22 ?_ (by decide) (by decide)
        exact ⟨rfl, N23, K0⟩
      ·
        refine Go.step (T' := s₁) (f' := (mkF m 53 #[.val (.int ia), .val (.int ib), .val (.int (1 : Int32)), .val (.int ((ia &&& (63 : Int32)).toUInt32.toUInt16.toUInt32.toInt32)), .val (.int ((ia &&& (63 : Int32)).toUInt32.toUInt16.toUInt32.toInt32)), .unset] [])) (fun t k => XS.ifNo X0.here hx rfl (hb hby at_50) rfl ((if0 _ _).trans (feq hc21).1) k) ?_
        refine Go.step (T' := s₁) (f' := (mkF m 54 #[.val (.int ia), .val (.int ib), .val (.int (1 : Int32)), .val (.int ((ia &&& (63 : Int32)).toUInt32.toUInt16.toUInt32.toInt32)), .val (.int ((ia &&& (63 : Int32)).toUInt32.toUInt16.toUInt32.toInt32)), .unset] [(.int (1 : Int32))])) (fun t k => XS.iconst X0.here hx rfl (hb hby at_53) k) ?_
        refine Go.step (T' := s₁) (f' := (mkF m 58 #[.val (.int ia), .val (.int ib), .val (.int (1 : Int32)), .val (.int ((ia &&& (63 : Int32)).toUInt32.toUInt16.toUInt32.toInt32)), .val (.int ((ia &&& (63 : Int32)).toUInt32.toUInt16.toUInt32.toInt32)), .unset] [(.int (1 : Int32))])) (fun t k => XS.goto X0.here hx rfl (pc0 := 54) (pc' := 58) rfl (hb hby at_54) (by decide) (by decide) k) ?_
        refine Go.step (T' := s₁) (f' := (mkF m 60 #[.val (.int ia), .val (.int ib), .val (.int (1 : Int32)), .val (.int ((ia &&& (63 : Int32)).toUInt32.toUInt16.toUInt32.toInt32)), .val (.int ((ia &&& (63 : Int32)).toUInt32.toUInt16.toUInt32.toInt32)), .val (.int (1 : Int32))] [])) (fun t k => XS.istore X0.here hx rfl (hb hby at_58) rfl (l' := #[.val (.int ia), .val (.int ib), .val (.int (1 : Int32)), .val (.int ((ia &&& (63 : Int32)).toUInt32.toUInt16.toUInt32.toInt32)), .val (.int ((ia &&& (63 : Int32)).toUInt32.toUInt16.toUInt32.toInt32)), .val (.int (1 : Int32))]) rfl k) ?_
        refine Go.step (T' := s₁) (f' := (mkF m 61 #[.val (.int ia), .val (.int ib), .val (.int (1 : Int32)), .val (.int ((ia &&& (63 : Int32)).toUInt32.toUInt16.toUInt32.toInt32)), .val (.int ((ia &&& (63 : Int32)).toUInt32.toUInt16.toUInt32.toInt32)), .val (.int (1 : Int32))] [(.int ((ia &&& (63 : Int32)).toUInt32.toUInt16.toUInt32.toInt32))])) (fun t k => XS.iloadN X0.here hx rfl (hb hby at_60) rfl k) ?_
        obtain ⟨_, _, ⟨T25, L25, k25, n25⟩, -, X25, ⟨Lc25, hQ25, l25, y25, z25⟩, st25⟩ := Jvm.LawKit.callS X0 hx (y := (⟨"com/example/pin_to_part/pintopart/XmlNames", "isWhiteSpace", "(C)Z"⟩ : MethodName)) hown (mvT hZ (hw _ (List.mem_of_getElem? (i := 1) rfl))) (mvT hZ (hw _ (List.mem_of_getElem? (i := 2) rfl))) (mvT hZ (hw _ (List.mem_of_getElem? (i := 3) rfl))) (mvT hZ (hw _ (List.mem_of_getElem? (i := 4) rfl))) (by decide) (backOf (W := 0) (rm_ws l Z a0 hw [] ((ia &&& (63 : Int32)).toUInt32.toUInt16.toUInt32.toInt32) h0 n0 O0 ) hZ (hw _ (List.mem_of_getElem? (i := 4) rfl)) (hw _ (List.mem_of_getElem? (i := 3) rfl)) (by decide) (by decide)) (g := (mkF m 61 #[.val (.int ia), .val (.int ib), .val (.int (1 : Int32)), .val (.int ((ia &&& (63 : Int32)).toUInt32.toUInt16.toUInt32.toInt32)), .val (.int ((ia &&& (63 : Int32)).toUInt32.toUInt16.toUInt32.toInt32)), .val (.int (1 : Int32))] [(.int ((ia &&& (63 : Int32)).toUInt32.toUInt16.toUInt32.toInt32))])) rfl (by rw [hml]; rfl) (argsL := [(.int ((ia &&& (63 : Int32)).toUInt32.toUInt16.toUInt32.toInt32))]) (rest := []) (lenOf pd0 rfl) rfl (by show 2 * 0 + _ ≤ _; exact Nat.le_of_eq rfl) (hb hby at_61) (fun _ _ => ⟨rfl, e0, (by decide : 0 + 0 ≤ _), (by decide : 0 + 0 ≤ _)⟩)
        dsimp only [Pt.U, Pt.locs, Pt.cells, Pt.slots] at X25 l25 y25 z25 st25 hQ25
        subst l25 y25 z25
        obtain ⟨rfl, Nq25, hh25⟩ := hQ25
        have N26 := Fr.app N0 Nq25
        refine Go.step (T' := T25) (f' := (mkF m 64 #[.val (.int ia), .val (.int ib), .val (.int (1 : Int32)), .val (.int ((ia &&& (63 : Int32)).toUInt32.toUInt16.toUInt32.toInt32)), .val (.int ((ia &&& (63 : Int32)).toUInt32.toUInt16.toUInt32.toInt32)), .val (.int (1 : Int32))] [(.int (if ((ia &&& (63 : Int32)).toUInt32.toUInt16.toUInt32.toInt32) = 32 ∨ ((ia &&& (63 : Int32)).toUInt32.toUInt16.toUInt32.toInt32) = 9 ∨ ((ia &&& (63 : Int32)).toUInt32.toUInt16.toUInt32.toInt32) = 13 ∨ ((ia &&& (63 : Int32)).toUInt32.toUInt16.toUInt32.toInt32) = 10 then (1 : Int32) else 0))])) st25 ?_
        refine Go.step (T' := T25) (f' := (mkF m 66 #[.val (.int ia), .val (.int ib), .val (.int (1 : Int32)), .val (.int ((ia &&& (63 : Int32)).toUInt32.toUInt16.toUInt32.toInt32)), .val (.int ((ia &&& (63 : Int32)).toUInt32.toUInt16.toUInt32.toInt32)), .val (.int (1 : Int32))] [(.int (1 : Int32)), (.int (if ((ia &&& (63 : Int32)).toUInt32.toUInt16.toUInt32.toInt32) = 32 ∨ ((ia &&& (63 : Int32)).toUInt32.toUInt16.toUInt32.toInt32) = 9 ∨ ((ia &&& (63 : Int32)).toUInt32.toUInt16.toUInt32.toInt32) = 13 ∨ ((ia &&& (63 : Int32)).toUInt32.toUInt16.toUInt32.toInt32) = 10 then (1 : Int32) else 0))])) (fun t k => XS.iload X25.here hx rfl (hb hby at_64) rfl k) ?_
        have hc27 : (if ((ia &&& (63 : Int32)).toUInt32.toUInt16.toUInt32.toInt32) = 32 ∨ ((ia &&& (63 : Int32)).toUInt32.toUInt16.toUInt32.toInt32) = 9 ∨ ((ia &&& (63 : Int32)).toUInt32.toUInt16.toUInt32.toInt32) = 13 ∨ ((ia &&& (63 : Int32)).toUInt32.toUInt16.toUInt32.toInt32) = 10 then (1 : Int32) else 0) = (1 : Int32) := by
          exact own_near1 _ (c_i2c _).2.1 hc17 hc21
        refine Go.step (T' := T25) (f' := (mkF m 69 #[.val (.int ia), .val (.int ib), .val (.int (1 : Int32)), .val (.int ((ia &&& (63 : Int32)).toUInt32.toUInt16.toUInt32.toInt32)), .val (.int ((ia &&& (63 : Int32)).toUInt32.toUInt16.toUInt32.toInt32)), .val (.int (1 : Int32))] [])) (fun t k => XS.icmpNo X25.here hx rfl (hb hby at_66) rfl (teq hc27).2 k) ?_
        refine Go.step (T' := T25) (f' := (mkF m 70 #[.val (.int ia), .val (.int ib), .val (.int (1 : Int32)), .val (.int ((ia &&& (63 : Int32)).toUInt32.toUInt16.toUInt32.toInt32)), .val (.int ((ia &&& (63 : Int32)).toUInt32.toUInt16.toUInt32.toInt32)), .val (.int (1 : Int32))] [(.int (1 : Int32))])) (fun t k => XS.iconst X25.here hx rfl (hb hby at_69) k) ?_
        refine Go.step (T' := T25) (f' := (mkF m 74 #[.val (.int ia), .val (.int ib), .val (.int (1 : Int32)), .val (.int ((ia &&& (63 : Int32)).toUInt32.toUInt16.toUInt32.toInt32)), .val (.int ((ia &&& (63 : Int32)).toUInt32.toUInt16.toUInt32.toInt32)), .val (.int (1 : Int32))] [(.int (1 : Int32))])) (fun t k => XS.goto X25.here hx rfl (pc0 := 70) (pc' := 74) rfl (hb hby at_70) (by decide) (by decide) k) ?_
        refine Go.retZ X25 hx hlk (t := .boolean) Bd.returns (by simp) (hb hby at_74) hh25 ?_ (by decide) (by decide)
        exact ⟨rfl, N26, K0⟩
set_option maxRecDepth 65536 in
set_option maxHeartbeats 40000000 in
theorem comes_1 {Post : Tables → Env → Array Value → State → Outcome → State → Prop} (hpost : ∀ tb e args s v u, (limb_1_1.after args s (.returned v) u = true ∧ limb_1_2.after args s (.returned v) u = true ∧ True) → FrameEnd s (.returned v) u (Jvm.fieldLocs frame_1_writes args s ++ Jvm.arrayLocs frame_1_arrays args s ++ Jvm.staticLocs frame_1_statics s) 0 0 → Post tb e args s (.returned v) u) :
    ArmFor flags0 classFile x code maxLocals ret World_1 tables_1 room_1 Calls_1 rest_1 Pre_1 Post := by
  intro l hfl _ _ p e ha hc hk s m args below hf hA hF happ hP
  obtain ⟨hcalls, hrest, hpre⟩ := hP
  obtain ⟨-, -, -, hnamed, -, -, -, hat⟩ := (Spec.applies_iff hf).mp happ
  obtain ⟨hg, hn⟩ := and_e (Cond.before_iff.mp (show (Jvm.Cond.and given_1 narrow_1).before args s = true from hpre))
  obtain ⟨c1, c2⟩ := and_e hg
  obtain ⟨c3, c4⟩ := and_e c2
  obtain ⟨w0, w1, rfl⟩ : ∃ w0 w1 : Value, args = #[w0, w1] := by
    have hs : args.size = 2 := by simpa [Cond.value, given_1] using c1
    obtain ⟨L⟩ := args
    match L, hs with
    | [w0, w1], _ => exact ⟨w0, w1, rfl⟩
  have hw := fun d (hd : d ∈ tables_1) => atoms_spec (ws := Jvm.Cond.code x code maxLocals ret :: tables_1) hat d (List.mem_cons_of_mem _ hd)
  have hfit : Fit s := fun {y c} hc i hi => by
    obtain ⟨ha, rfl⟩ := Array.getElem?_eq_some_iff.mp hc
    have q := List.all_eq_true.mp ((Array.all_eq_true_iff_forall_mem.mp hF) _ (Array.getElem_mem ha)) i (List.mem_range.mpr hi)
    simpa [Array.getElem?_eq_getElem hi] using q
  obtain ⟨i0, ei0⟩ := is_v c3
  obtain rfl : w0 = (.int i0) := Option.some.inj ei0
  obtain ⟨i1, ei1⟩ := is_v c4
  obtain rfl : w1 = (.int i1) := Option.some.inj ei1
  obtain ⟨n, o, h1, h2, h3, _, L, rfl, ⟨rfl, N, -⟩, hq⟩ := rm_law l s _ hw tables_1 i0 i1 s.heap s.heap.size (Old.start s)  p e ha hc hk s m _ below hf ((Spec.applies_iff_loose hf).mp happ).1 ⟨rfl, State.Warmed39.refl s, rfl⟩ trivial
  refine ⟨n, _, h1, h2, h3, hpost _ _ _ _ _ _ ⟨Cond.after_iff.mpr rfl, Cond.after_iff.mpr (eq_i res_at (Term.int_eval (1)) rfl), trivial⟩ ⟨hq.1, hq.2.1, (hq.2.2.sift fun y hy => Or.inr (N y hy)).mono (by decide) (by decide)⟩⟩
theorem main_1_1 : Claimed_1_1 := comes_1 fun _ _ _ _ _ _ h hF => ⟨h.1, hF⟩
theorem main_1_2 : Claimed_1_2 := comes_1 fun _ _ _ _ _ _ h hF => ⟨h.2.1, hF⟩
end Jvm.Pilot.@@N@@
namespace Jvm.Pilot.@@N@@
open Jvm Jvm.ClassFile Sem Op Lib Jvm.Free Jvm.Stand Jvm.Pilot.@@N@@.Jvm.D
/-! MADE BY PROGRAM (witnessworld.py) out of the Statement's table words and the real class files: 9 classes; the members and pool entries that the words name. The judged class is class 1, her method 1. -/
namespace start1
open Jvm.ClassFile
def u (s : String) : CpInfo := .utf8 (stringToUtf16 s)
/-- a pool by its gaps: so many unusable entries, then the entry; so many at the end -/
def gap : Nat → List CpInfo → List CpInfo
  | 0, r => r
  | n + 1, r => .unusable :: gap n r
def poolList (es : List (Nat × CpInfo)) (last : Nat) : List CpInfo := es.foldr (fun e r => gap e.1 (e.2 :: r)) (gap last [])
def pool (es : List (Nat × CpInfo)) (last : Nat) : Array CpInfo := ⟨poolList es last⟩
def fileOf (pool : Array CpInfo) (this : Nat) (attrs : Array Attribute := #[]) (ms : Array MethodInfo := #[]) (fl : Nat := 33) (sup : Nat := 0) (ifs : Array Nat := #[]) (fds : Array FieldInfo := #[]) : ClassFile where
  minorVersion := 0
  majorVersion := 65
  constantPool := pool
  accessFlags := fl
  thisClass := this
  superClass := sup
  interfaces := ifs
  fields := fds
  methods := ms
  attributes := attrs
def plain (name : String) (sup : Option ClassId) : Class where
  name := name
  kind := .ordinary
  loader := none
  accessFlags := 33
  super := sup
  interfaces := #[]
  cf := none
  fields := #[]
  methods := #[]
  instanceTypes := #[]
  staticTypes := #[]
  resolved := #[]
  callSites := []
  init := .initialized
  statics := none
  mirror := none

def pool0 : Array CpInfo := pool [(5, u "<init>"), (0, u "()V"), (1, .class_ 10), (1, u "java/lang/Object")] 113

def k0m0 : Method := { name := "<init>", desc := "()V", sig := { parameters := [], returnType := none }, accessFlags := 1, code := none }
/-- java/lang/Object -/
def k0 : Class := { plain "java/lang/Object" none with
  accessFlags := 33
  interfaces := #[]
  cf := some (fileOf pool0 8 #[] #[{ accessFlags := 1, nameIndex := 5, descriptorIndex := 6, attributes := #[] }] 33 0 #[] #[])
  fields := #[]
  methods := #[k0m0]
  instanceTypes := #[]
  staticTypes := #[]
  resolved := Array.replicate 124 none
  statics := none }

def pool1 : Array CpInfo := pool [(2, .class_ 4), (1, u "java/lang/Object"), (0, u "<init>"), (0, u "()V"), (0, .integer 65535), (0, .long 4294977024), (1, .methodref 11 12), (0, .class_ 13), (0, .nameAndType 14 15), (0, u "com/example/pin_to_part/pintopart/XmlNames"), (0, u "isWhiteSpace"), (0, u "(C)Z"), (0, .class_ 17), (0, u "com/example/pin_to_part/pintopart/XmlNamesIsWhiteSpacePinLaw"), (2, u "law"), (0, u "(II)Z")] 3

def k1m0 : Method := { name := "<init>", desc := "()V", sig := { parameters := [], returnType := none }, accessFlags := 1, code := none }
def k1c1 : Code := { maxStack := 4, maxLocals := 6, code := code, exceptionTable := #[], attributes := #[] }
def k1m1 : Method := { name := "law", desc := "(II)Z", sig := { parameters := [.int, .int], returnType := some .boolean }, accessFlags := 9, code := some k1c1 }
/-- com/example/pin_to_part/pintopart/XmlNamesIsWhiteSpacePinLaw -/
def k1 : Class := { plain "com/example/pin_to_part/pintopart/XmlNamesIsWhiteSpacePinLaw" (some 0) with
  accessFlags := 49
  interfaces := #[]
  cf := some (fileOf pool1 16 #[] #[{ accessFlags := 1, nameIndex := 5, descriptorIndex := 6, attributes := #[] }, { accessFlags := 9, nameIndex := 20, descriptorIndex := 21, attributes := #[] }] 49 2 #[] #[])
  fields := #[]
  methods := #[k1m0, k1m1]
  instanceTypes := #[]
  staticTypes := #[]
  resolved := Array.replicate 25 none
  statics := none }

def pool2 : Array CpInfo := pool [(2, .class_ 4), (1, u "java/lang/Object"), (0, u "<init>"), (0, u "()V"), (11, .class_ 20), (1, u "com/example/pin_to_part/pintopart/XmlNames"), (32, u "NAME_START_RANGES"), (0, u "[[I"), (6, u "NAME_ONLY_RANGES"), (28, u "isWhiteSpace"), (0, u "(C)Z")] 31

def k2m0 : Method := { name := "<init>", desc := "()V", sig := { parameters := [], returnType := none }, accessFlags := 2, code := none }
def k2c1 : Code := { maxStack := 2, maxLocals := 1, code := prog_60_method_4_code, exceptionTable := #[], attributes := #[] }
def k2m1 : Method := { name := "isWhiteSpace", desc := "(C)Z", sig := { parameters := [.char], returnType := some .boolean }, accessFlags := 9, code := some k2c1 }
/-- com/example/pin_to_part/pintopart/XmlNames -/
def k2 : Class := { plain "com/example/pin_to_part/pintopart/XmlNames" (some 0) with
  accessFlags := 49
  interfaces := #[]
  cf := some (fileOf pool2 18 #[] #[{ accessFlags := 2, nameIndex := 5, descriptorIndex := 6, attributes := #[] }, { accessFlags := 9, nameIndex := 90, descriptorIndex := 91, attributes := #[] }] 49 2 #[] #[{ accessFlags := 26, nameIndex := 53, descriptorIndex := 54, attributes := #[] }, { accessFlags := 26, nameIndex := 61, descriptorIndex := 54, attributes := #[] }])
  fields := #[{ name := "NAME_START_RANGES", type := (.array (.array .int)), accessFlags := 26, slot := 0, constantValue := 0 }, { name := "NAME_ONLY_RANGES", type := (.array (.array .int)), accessFlags := 26, slot := 1, constantValue := 0 }]
  methods := #[k2m0, k2m1]
  instanceTypes := #[]
  staticTypes := #[(.array (.array .int)), (.array (.array .int))]
  resolved := Array.replicate 123 none
  statics := none }

def pool3 : Array CpInfo := pool [(1, u "java/lang/Cloneable"), (0, .class_ 1), (0, u "java/lang/Object"), (0, .class_ 3)] 3

/-- java/lang/Cloneable -/
def k3 : Class := { plain "java/lang/Cloneable" (some 0) with
  accessFlags := 1537
  interfaces := #[]
  cf := some (fileOf pool3 2 #[] #[] 1537 4 #[] #[])
  fields := #[]
  methods := #[]
  instanceTypes := #[]
  staticTypes := #[]
  resolved := Array.replicate 8 none
  statics := none }

def pool4 : Array CpInfo := pool [(1, u "java/io/Serializable"), (0, .class_ 1), (0, u "java/lang/Object"), (0, .class_ 3)] 3

/-- java/io/Serializable -/
def k4 : Class := { plain "java/io/Serializable" (some 0) with
  accessFlags := 1537
  interfaces := #[]
  cf := some (fileOf pool4 2 #[] #[] 1537 4 #[] #[])
  fields := #[]
  methods := #[]
  instanceTypes := #[]
  staticTypes := #[]
  resolved := Array.replicate 8 none
  statics := none }

/-- the primitive byte -/
def k5 : Class := { plain "byte" none with kind := .primitive 'B', accessFlags := 0x411 }
/-- [B -/
def k6 : Class := { plain "[B" (some 0) with kind := .array 5 .byte, interfaces := #[3, 4], accessFlags := 1041 }

/-- the primitive int -/
def k7 : Class := { plain "int" none with kind := .primitive 'I', accessFlags := 0x411 }
/-- [I -/
def k8 : Class := { plain "[I" (some 0) with kind := .array 7 .int, interfaces := #[3, 4], accessFlags := 1041 }

def heap : Heap := #[]
def classes : Array Class := #[k0, k1, k2, k3, k4, k5, k6, k7, k8]
def interned : List (Array UInt16 × Addr) := []
def slotsUsed : Nat := 0
def theMethod : MethodId := ⟨1, 1⟩
def args0 : Array Value := #[.int 5, .int 7]
def aboutOver (below : List Frame) : State where
  vm := { classes := classes, interned := interned.toArray }
  heap := heap
  slotsUsed := slotsUsed
  threads := #[{ frames := .invoking theMethod args0 :: below }]
def below0 : List Frame := [.native { method := ⟨0, 0⟩, args := #[] }]
def about1 : State := aboutOver below0
def p0 : Program := .bare "" "" ""
def e0 : Env := launch0.env 0 0 0
theorem w_frames : about1.frames = Frame.invoking theMethod args0 :: below0 := rfl
set_option maxRecDepth 65536 in
theorem w_args : argsFit about1.vm theMethod args0 = true := by decide +kernel
set_option maxRecDepth 65536 in
theorem w_heap : heapFits about1 = true := by decide +kernel
set_option maxRecDepth 65536 in
theorem w_runnable : about1.curStatus? = some .runnable := by decide +kernel
set_option maxRecDepth 65536 in
theorem w_alone : about1.alone = true := by decide +kernel
set_option maxRecDepth 65536 in
theorem w_named : about1.methodNamed? x = some theMethod := by decide +kernel
set_option maxRecDepth 65536 in
theorem w_hears : about1.hears theMethod below0 = true := by decide +kernel
set_option maxRecDepth 65536 in
theorem w_ripe : about1.ripe theMethod args0 below0 = true := by decide +kernel
theorem w_running : about1.status = .running := rfl
set_option maxRecDepth 65536 in
theorem w_room : about1.hasRoom e0.platform room_1 = true :=
  launch0.hasRoom_least _ room_1 (by decide +kernel) (by decide +kernel) (by decide +kernel) (by decide +kernel) (by decide +kernel) (by decide +kernel)
theorem allAtoms_all (ts : List Jvm.Cond) (a : Array Jvm.Value) (st : Jvm.State) : (allAtoms ts).before a st = ts.all (fun c => c.before a st) := by
  induction ts with
  | nil => rfl
  | cons c t ih =>
    show (Jvm.Cond.and c (allAtoms t)).before a st = _
    rw [Jvm.Cond.before_and, ih, List.all_cons]
def words1 : List Jvm.Cond := Jvm.Cond.code x code maxLocals ret :: tables_1
/-- a 'code' word, met by the world's own term for the bytes: nothing is compared byte by byte -/
theorem code_word {y : MethodName} {bytes : ByteArray} {mx : Nat} {rt : Option FieldType} {a : Array Value} {s : State} {m : MethodId} {meth : Method} {c : Code} (h1 : s.methodNamed? y = some m) (h2 : s.vm.method? m = some meth) (h3 : meth.code = some c) (h4 : c.code = bytes)
    (h5 : (c.maxLocals == mx && c.exceptionTable.isEmpty && decide (c.maxStack ≤ mostOperands) && decide (meth.sig.returnType = rt) && !meth.locks && decide (parseMethodDescriptor y.desc = some meth.sig)) = true) : (Jvm.Cond.code y bytes mx rt).before a s = true := by
  simp only [Bool.and_eq_true, beq_iff_eq, Bool.not_eq_true', decide_eq_true_eq] at h5
  obtain ⟨⟨⟨⟨⟨g1, g2⟩, g3⟩, g4⟩, g5⟩, g6⟩ := h5
  simp [Cond.before, Cond.holds, Cond.value, h1, h2, h3, h4, g1, g2, g3, g4, g5, g6]
def isCode : Jvm.Cond → Bool
  | .code _ _ _ _ => true
  | _ => false
theorem all_split {L : List Jvm.Cond} {P : Jvm.Cond → Bool} (h1 : L.all (fun c => isCode c || P c) = true) (h2 : ∀ c ∈ L.filter isCode, P c = true) : L.all P = true := by
  refine List.all_eq_true.mpr fun c hc => ?_
  have h := List.all_eq_true.mp h1 c hc
  rcases Bool.eq_false_or_eq_true (isCode c) with hi | hi
  · exact h2 c (List.mem_filter.mpr ⟨hc, hi⟩)
  · simpa [hi] using h
set_option maxRecDepth 65536 in
theorem w_c0 : (Jvm.Cond.code x code maxLocals ret).before args0 about1 = true := code_word (m := ⟨1, 1⟩) (meth := k1m1) (c := k1c1) (by decide +kernel) rfl rfl rfl (by decide +kernel)
set_option maxRecDepth 65536 in
theorem w_c1 : (Jvm.Cond.code ({ cls := "com/example/pin_to_part/pintopart/XmlNames", name := "isWhiteSpace", desc := "(C)Z" } : Jvm.MethodName) prog_60_method_4_code (1 : Nat) (Option.some Jvm.ClassFile.FieldType.boolean)).before args0 about1 = true := code_word (m := ⟨2, 1⟩) (meth := k2m1) (c := k2c1) (by decide +kernel) rfl rfl rfl (by decide +kernel)
def codes1 : List Jvm.Cond := [Jvm.Cond.code x code maxLocals ret, Jvm.Cond.code ({ cls := "com/example/pin_to_part/pintopart/XmlNames", name := "isWhiteSpace", desc := "(C)Z" } : Jvm.MethodName) prog_60_method_4_code (1 : Nat) (Option.some Jvm.ClassFile.FieldType.boolean)]
set_option maxRecDepth 65536 in
theorem codes_eq : words1.filter isCode = codes1 := rfl
theorem w_codes : ∀ c ∈ words1.filter isCode, c.before args0 about1 = true := by
  rw [codes_eq]
  intro c hc
  simp only [codes1, List.mem_cons, List.not_mem_nil, or_false] at hc
  rcases hc with rfl | rfl
  · exact w_c0
  · exact w_c1
set_option maxRecDepth 65536 in
theorem w_t1 : words1.all (fun c => isCode c || c.before args0 about1) = true := by decide +kernel
theorem w_tables : (allAtoms (Jvm.Cond.code x code maxLocals ret :: tables_1)).before args0 about1 = true := by
  rw [allAtoms_all]
  show words1.all (fun c => c.before args0 about1) = true
  refine all_split ?_ w_codes
  rw [w_t1]
set_option maxRecDepth 65536 in
theorem w_case : (Jvm.Cond.and given_1 narrow_1).before args0 about1 = true := by decide +kernel
theorem w_applies : (headSpec (Jvm.Cond.code x code maxLocals ret :: tables_1) room_1).applies x e0.platform about1 = true :=
  (Spec.applies_iff w_frames).mpr ⟨w_running, w_runnable, w_alone, w_named, w_hears, w_ripe, w_room, w_tables⟩
theorem atStart : AtStart classFile x code maxLocals ret World_1 tables_1 room_1 Calls_1 rest_1 Pre_1 launch0 p0 e0 about1 theMethod args0 below0 :=
  ⟨lists_1, trivial, launch0.admits_env _ _ _, launch0.least_env, fairChoices_fair.cas, fairChoices_fair.clock, w_frames, w_args, w_heap, w_applies, trivial, trivial, w_case⟩
end start1
theorem witness_1 : WitnessClaimed_1 := ⟨start1.p0, start1.e0, start1.about1, start1.theMethod, start1.args0, start1.below0, start1.atStart⟩
end Jvm.Pilot.@@N@@
