import JvmDerived
import JvmDerived.Pilot.@@N@@Statement
import JvmDerived.Pilot.@@N@@Code
set_option linter.unusedVariables false
set_option linter.unusedSimpArgs false
namespace Jvm.RoadKit
open Sem ClassFile Op Lib Jvm.Stand Jvm.Free Jvm.LawKit
section New
variable {p : Program} {l : Launch} {e : Env} {R : Room} {s : State} {m : MethodId} {args : Array Value} {below : List Frame} {meth : Method} {c : Code} {T : State} {locs : List Loc} {cells slots : Nat}
theorem retI (X : Stand p l e R s m args below meth c T locs cells slots) (hx : p.tables.exec = Jvm.exec) {pc : Nat} {Ls : Array Slot} {z : Int32} {rest : List Value} (hret : meth.sig.returnType = some .int) (hd : decode c.code pc = .ok (.ireturn, 1)) {fs : List Frame}
    (hl : ∀ (f : JFrame) (acts : List Action), f.method = m → f.locked = none → f.entered = [] → (doReturn e (T.setTop f) acts (some (.int z))).1 = T.setFrames fs) : Steps p.tables e below (T.setTop (mkF m pc Ls (.int z :: rest))) (T.setFrames fs) := by
  have hm' : T.vm.method? m = some meth := X.method'
  have hn : narrow .int (.int z) = .int z := rfl
  show Steps p.tables e below (T.setTop { method := m, pc := pc, locals := Ls, stack := _ :: rest, locked := none }) _
  jvm_step X.here [X.here.top, hx, hd, hm', hret, hn]
  first | (intro acts; rw [hl _ acts rfl rfl rfl]) | rw [hl _ _ rfl rfl rfl]
  exact Steps.refl _
end New
end Jvm.RoadKit
namespace Jvm.Pilot.@@N@@
open Jvm Jvm.ClassFile Sem Op Lib Jvm.Free Jvm.Stand Jvm.LawKit Jvm.RoadKit Bundle Jvm.Pilot.@@N@@.Jvm.D
section Own
variable {p : Program} {l : Launch} {e : Env} {R : Room} {s : State} {m : MethodId} {args : Array Value} {below : List Frame} {meth : Method} {c : Code} {T T' : State} {locs : List Loc} {cells slots : Nat} {f f' : JFrame} {Q : Option Value → Heap → List Loc → Prop} {ck sk : Nat} {h : Heap} {Z : State}
/-- from here the run comes to its end, and leaves what Q says -/
def Go (p : Program) (e : Env) (below : List Frame) (s : State) (Q : Option Value → Heap → List Loc → Prop) (ck sk : Nat) (T : State) (f : JFrame) : Prop :=
  ∃ s₂ o, Steps p.tables e below (T.setTop f) s₂ ∧ s₂.status = .running ∧ Ended s₂ below o ∧ ∃ v L, o = .returned v ∧ Q v s₂.heap L ∧ FrameEnd s o s₂ L ck sk
theorem Go.step (st : ∀ t, Steps p.tables e below (T'.setTop f') t → Steps p.tables e below (T.setTop f) t) (k : Go p e below s Q ck sk T' f') : Go p e below s Q ck sk T f := by
  obtain ⟨s₂, o, h1, r⟩ := k; exact ⟨s₂, o, st _ h1, r⟩
theorem Go.via (st : Steps p.tables e below (T.setTop f) (T'.setTop f')) (k : Go p e below s Q ck sk T' f') : Go p e below s Q ck sk T f := by
  obtain ⟨s₂, o, h1, r⟩ := k; exact ⟨s₂, o, st.trans h1, r⟩
theorem Go.retI (X : Stand p l e R s m args below meth c T locs cells slots) (hx : p.tables.exec = Jvm.exec) (hlk : meth.locks = false) {pc : Nat} {Ls : Array Slot} {z : Int32} {rest : List Value} (hret : meth.sig.returnType = some .int) (hd : decode c.code pc = .ok (.ireturn, 1)) (eT : T.heap = h) (hq : Q (some (.int z)) h locs) (hck : cells ≤ ck) (hsk : slots ≤ sk) : Go p e below s Q ck sk T (mkF m pc Ls (.int z :: rest)) := by
  subst eT
  obtain ⟨fs, hr, hrun, hended, hW, hsame⟩ := X.leave (v := some (.int z)) (fun h => by rw [hret] at h; cases h) hlk
  exact ⟨_, _, Jvm.RoadKit.retI X hx hret hd hr, hrun, hended, _, _, rfl, hq, ⟨_, rfl⟩, hW, hsame.mono hck hsk⟩
theorem Go.retZ (X : Stand p l e R s m args below meth c T locs cells slots) (hx : p.tables.exec = Jvm.exec) (hlk : meth.locks = false) {pc : Nat} {Ls : Array Slot} {z : Int32} {rest : List Value} {t : FieldType} (hret : meth.sig.returnType = some t) (ht : t = .boolean ∨ t = .byte ∨ t = .char ∨ t = .short) (hd : decode c.code pc = .ok (.ireturn, 1)) (eT : T.heap = h) (hq : Q (some (.int (nar t z))) h locs) (hck : cells ≤ ck) (hsk : slots ≤ sk) : Go p e below s Q ck sk T (mkF m pc Ls (.int z :: rest)) := by
  subst eT
  obtain ⟨fs, hr, hrun, hended, hW, hsame⟩ := X.leave (v := some (.int (nar t z))) (fun h => by rw [hret] at h; cases h) hlk
  exact ⟨_, _, retN X hx hret ht hd hr, hrun, hended, _, _, rfl, hq, ⟨_, rfl⟩, hW, hsame.mono hck hsk⟩
theorem Go.retV (X : Stand p l e R s m args below meth c T locs cells slots) (hx : p.tables.exec = Jvm.exec) (hlk : meth.locks = false) {pc : Nat} {Ls : Array Slot} (hret : meth.sig.returnType = none) (hd : decode c.code pc = .ok (.return_, 1)) (eT : T.heap = h) (hq : Q none h locs) (hck : cells ≤ ck) (hsk : slots ≤ sk) : Go p e below s Q ck sk T (mkF m pc Ls []) := by
  subst eT
  obtain ⟨fs, hr, hrun, hended, hW, hsame⟩ := X.leave (v := none) (fun _ => rfl) hlk
  exact ⟨_, _, X.returnOut hx hret hd hr, hrun, hended, _, _, rfl, hq, ⟨_, rfl⟩, hW, hsame.mono hck hsk⟩
theorem Go.retJ (X : Stand p l e R s m args below meth c T locs cells slots) (hx : p.tables.exec = Jvm.exec) (hlk : meth.locks = false) {pc : Nat} {Ls : Array Slot} {z : Int64} {rest : List Value} (hret : meth.sig.returnType = some .long) (hd : decode c.code pc = .ok (.lreturn, 1)) (eT : T.heap = h) (hq : Q (some (.long z)) h locs) (hck : cells ≤ ck) (hsk : slots ≤ sk) : Go p e below s Q ck sk T (mkF m pc Ls (.long z :: rest)) := by
  subst eT
  obtain ⟨fs, hr, hrun, hended, hW, hsame⟩ := X.leave (v := some (.long z)) (fun h => by rw [hret] at h; cases h) hlk
  exact ⟨_, _, retOut X hx hret rfl (Or.inr (Or.inl ⟨rfl, rfl, _, rfl⟩)) hd hr, hrun, hended, _, _, rfl, hq, ⟨_, rfl⟩, hW, hsame.mono hck hsk⟩
theorem own_nar_ref {t : FieldType} {w : Value} (h1 : t.isReference = true) (h2 : w.isRef = true) : narrow t w = w := by
  cases t <;> first | (cases h1; done) | (cases w <;> first | rfl | (cases h2; done))
theorem Go.retA (X : Stand p l e R s m args below meth c T locs cells slots) (hx : p.tables.exec = Jvm.exec) (hlk : meth.locks = false) {pc : Nat} {Ls : Array Slot} {w : Value} {rest : List Value} {t : FieldType} (hret : meth.sig.returnType = some t) (ht : t.isReference = true) (hw : w.isRef = true) (hd : decode c.code pc = .ok (.areturn, 1)) (eT : T.heap = h) (hq : Q (some w) h locs) (hck : cells ≤ ck) (hsk : slots ≤ sk) : Go p e below s Q ck sk T (mkF m pc Ls (w :: rest)) := by
  subst eT
  obtain ⟨fs, hr, hrun, hended, hW, hsame⟩ := X.leave (v := some w) (fun h => by rw [hret] at h; cases h) hlk
  exact ⟨_, _, retOut X hx hret (own_nar_ref ht hw) (Or.inr (Or.inr (Or.inr (Or.inr ⟨rfl, ht, hw⟩)))) hd hr, hrun, hended, _, _, rfl, hq, ⟨_, rfl⟩, hW, hsame.mono hck hsk⟩
theorem own_old_le {n0 : Nat} (o : Old Z n0 h) : n0 ≤ h.size := o.1 ▸ o.2.1
theorem own_alen (X : Stand p l e R s m args below meth c T locs cells slots) (hx : p.tables.exec = Jvm.exec) (hZ : Z.Warmed39 s.vm) (eT : T.heap = h) {a : Addr} {cl : Cell} {ty : FieldType} (A : Arr Z h a cl ty) {z : Int32} (S : cl.slots.size = z.toNatClampNeg) (N : ¬ z < 0) {g : JFrame} (hg : g.method = m) {rest : List Value} (hs : g.stack = .ref a :: rest) (hd : decode c.code g.pc = .ok (.arraylength, 1)) {t : State}
    (k : Steps p.tables e below (T.setTop { g with pc := g.pc + 1, stack := .int z :: rest }) t) : Steps p.tables e below (T.setTop g) t :=
  X.arraylength hx (by rw [eT]; exact A.1) (State.isArrayOf_alike hZ.alike A.2.1) hg hs hd _ (by rw [len_of S N]; exact k)
theorem own_fld_start {args : Array Value} {s : State} {t : Term} {a : Addr} {C n d : String} {k : Int32} (ev : t.eval args s none [] s = some (.ref a)) (h : (Jvm.Cond.eq (.field t C n d) (.int k)).value args s none s [] = some true) : Fld s s.heap a C n d (.int k) := by
  refine Fld.start ?_
  rw [← fld_at ev]
  obtain ⟨x, y, h1, h2, h3, h4⟩ := cmp_v (Or.inl h)
  have h2' : (Value.int k) = y := Option.some.inj h2
  subst h2'
  obtain ⟨z, rfl⟩ := h4
  have q := gotT (Jvm.Cond.eq_ints h1 h2) h
  rw [h1, q]
theorem own_nar8 (z : Int32) : z.toInt8.toInt32.toInt8.toInt32 = z.toInt8.toInt32 := by simp
end Own
theorem own_i2c (x : Int32) : nar .char ((x &&& (255 : Int32)).toUInt32.toUInt16.toUInt32.toInt32) = x &&& (255 : Int32) := by
  rw [i2c_mask]; exact i2c_mask x
theorem own_c8 (x : Int32) : ¬ ((255 : Int32) < nar .char ((x &&& (255 : Int32)).toUInt32.toUInt16.toUInt32.toInt32)) := by
  rw [own_i2c, Int32.lt_iff_toInt_lt]
  have h := c_and x 255 (by decide)
  omega
theorem d5_0 : decode jdk_52_method_21_code 0 = .ok (.iconst 0, 1) := by decide +kernel
theorem d5_1 : decode jdk_52_method_21_code 1 = .ok (.istore 5, 2) := by decide +kernel
theorem d5_3 : decode jdk_52_method_21_code 3 = .ok (.iload 5, 2) := by decide +kernel
theorem d5_5 : decode jdk_52_method_21_code 5 = .ok (.iload 4, 2) := by decide +kernel
theorem d5_7 : decode jdk_52_method_21_code 7 = .ok (.if_icmp .ge 37, 3) := by decide +kernel
theorem d5_10 : decode jdk_52_method_21_code 10 = .ok (.aload_n 0, 1) := by decide +kernel
theorem d5_11 : decode jdk_52_method_21_code 11 = .ok (.iload_n 1, 1) := by decide +kernel
theorem d5_12 : decode jdk_52_method_21_code 12 = .ok (.caload, 1) := by decide +kernel
theorem d5_13 : decode jdk_52_method_21_code 13 = .ok (.istore 6, 2) := by decide +kernel
theorem d5_15 : decode jdk_52_method_21_code 15 = .ok (.iload 6, 2) := by decide +kernel
theorem d5_17 : decode jdk_52_method_21_code 17 = .ok (.sipush 255, 3) := by decide +kernel
theorem d5_20 : decode jdk_52_method_21_code 20 = .ok (.if_icmp .le 6, 3) := by decide +kernel
theorem d5_26 : decode jdk_52_method_21_code 26 = .ok (.aload_n 2, 1) := by decide +kernel
theorem d5_27 : decode jdk_52_method_21_code 27 = .ok (.iload_n 3, 1) := by decide +kernel
theorem d5_28 : decode jdk_52_method_21_code 28 = .ok (.iload 6, 2) := by decide +kernel
theorem d5_30 : decode jdk_52_method_21_code 30 = .ok (.i2b, 1) := by decide +kernel
theorem d5_31 : decode jdk_52_method_21_code 31 = .ok (.bastore, 1) := by decide +kernel
theorem d5_32 : decode jdk_52_method_21_code 32 = .ok (.iinc 1 1, 3) := by decide +kernel
theorem d5_35 : decode jdk_52_method_21_code 35 = .ok (.iinc 3 1, 3) := by decide +kernel
theorem d5_38 : decode jdk_52_method_21_code 38 = .ok (.iinc 5 1, 3) := by decide +kernel
theorem d5_41 : decode jdk_52_method_21_code 41 = .ok (.goto (-38), 3) := by decide +kernel
theorem d5_44 : decode jdk_52_method_21_code 44 = .ok (.iload 4, 2) := by decide +kernel
theorem d5_46 : decode jdk_52_method_21_code 46 = .ok (.ireturn, 1) := by decide +kernel
theorem pn_java_lang_StringUTF16 : plainName "java/lang/StringUTF16" = true := by first | (simp [plainName, overriddenIn]; done) | decide +kernel
theorem ef_cpr2 (m : MethodId) (bc : Addr) (bb : Addr) : entryFrame m #[(.ref bc), (.int (0 : Int32)), (.ref bb), (.int (0 : Int32)), (.int (2 : Int32))] 7 = mkF m 0 #[.val (.ref bc), .val (.int (0 : Int32)), .val (.ref bb), .val (.int (0 : Int32)), .val (.int (2 : Int32)), .unset, .unset] [] := by first | (simp [entryFrame, mkF, argsToLocals, Value.category]; done) | rfl
def Q_cpr2 (Z : State) (bc : Addr) (bb : Addr) (kc : ClassId) (cc0 : Int32) (cc1 : Int32) (kb : ClassId) (h0 : Heap) (n0 : Nat) (v : Option Value) (h : Heap) (L : List Loc) : Prop := v = some (.int (2 : Int32)) ∧ Fr n0 L ∧ Keep h0 h [bb] ∧ Arv Z h bb kb .byte (2 : Int32) [(.int (cc0.toInt8.toInt32)), (.int (cc1.toInt8.toInt32))] (.int (0 : Int32))
set_option maxRecDepth 65536 in
set_option maxHeartbeats 40000000 in
theorem rm_cpr2 (l : Launch) (Z : State) (a0 : Array Value) (hw : ∀ d ∈ tables_1, d.before a0 Z = true) (ws : List Jvm.Cond) (bc : Addr) (bb : Addr) (kc : ClassId) (cc0 : Int32) (cc1 : Int32) (kb : ClassId) (h0 : Heap) (n0 : Nat) (O0 : Old Z n0 h0) (P0 : Arv Z h0 bc kc .char (2 : Int32) [(.int cc0), (.int cc1)] (.int (0 : Int32))) (P1 : Arv Z h0 bb kb .byte (2 : Int32) [(.int (0 : Int32)), (.int (0 : Int32))] (.int (0 : Int32))) (P2 : n0 ≤ bb) (P3 : bc ≠ bb) (hc0 : ¬ ((255 : Int32) < cc0)) (hc1 : ¬ ((255 : Int32) < cc1)) :
    MetFree l (⟨"java/lang/StringUTF16", "compress", "([CI[BII)I"⟩ : MethodName) (head1 (Jvm.Cond.code (⟨"java/lang/StringUTF16", "compress", "([CI[BII)I"⟩ : MethodName) jdk_52_method_21_code 7 (some .int) :: ws) ({ frames := 0, cells := 0, slots := 0, locals := 0 } : Room)) (fun a U => a = #[(.ref bc), (.int (0 : Int32)), (.ref bb), (.int (0 : Int32)), (.int (2 : Int32))] ∧ Z.Warmed39 U.vm ∧ U.heap = h0) (fun _ _ _ _ _ => True) (fun _ U o U' => ∃ v L, o = .returned v ∧ Q_cpr2 Z bc bb kc cc0 cc1 kb h0 n0 v U'.heap L ∧ FrameEnd U o U' L ({ frames := 0, cells := 0, slots := 0, locals := 0 } : Room).cells ({ frames := 0, cells := 0, slots := 0, locals := 0 } : Room).slots) := by
  refine MetFree.of_bodySF (plainFor_of_name pn_java_lang_StringUTF16) hisR ?_
  intro p e s m args below meth c s₁ Bd hml0 hP hK
  obtain ⟨rfl, hZ, hh⟩ := hP
  have hx := Bd.exec
  have hby := Bd.bytes
  have hml : c.maxLocals = 7 := hml0
  have hown : s.vm.findClass "java/lang/StringUTF16" = some m.cls := findClass_of_methodNamed Bd.named
  have hnm := (name_of_methodNamed Bd.named Bd.method).1
  have hlk : meth.locks = false := BodyLoose.notSynchronized Bd
  have X0 : Stand p l e ({ frames := 0, cells := 0, slots := 0, locals := 0 } : Room) s m #[(.ref bc), (.int (0 : Int32)), (.ref bb), (.int (0 : Int32)), (.int (2 : Int32))] below meth c s₁ [] 0 0 := Stand.of_body Bd
  have e0 : s₁.heap = h0 := by rw [← hh, Bd.state]; rfl
  have N0 := Fr.nil n0
  have K0 := Keep.refl h0 [bb]
  rw [ef_cpr2 m bc bb]
  show Go p e below s (fun v h L => Q_cpr2 Z bc bb kc cc0 cc1 kb h0 n0 v h L) ({ frames := 0, cells := 0, slots := 0, locals := 0 } : Room).cells ({ frames := 0, cells := 0, slots := 0, locals := 0 } : Room).slots s₁ (mkF m 0 #[.val (.ref bc), .val (.int (0 : Int32)), .val (.ref bb), .val (.int (0 : Int32)), .val (.int (2 : Int32)), .unset, .unset] [])
  refine Go.step (T' := s₁) (f' := (mkF m 1 #[.val (.ref bc), .val (.int (0 : Int32)), .val (.ref bb), .val (.int (0 : Int32)), .val (.int (2 : Int32)), .unset, .unset] [(.int (0 : Int32))])) (fun t k => XS.iconst X0.here hx rfl (hb hby d5_0) k) ?_
  refine Go.step (T' := s₁) (f' := (mkF m 3 #[.val (.ref bc), .val (.int (0 : Int32)), .val (.ref bb), .val (.int (0 : Int32)), .val (.int (2 : Int32)), .val (.int (0 : Int32)), .unset] [])) (fun t k => XS.istore X0.here hx rfl (hb hby d5_1) rfl (l' := #[.val (.ref bc), .val (.int (0 : Int32)), .val (.ref bb), .val (.int (0 : Int32)), .val (.int (2 : Int32)), .val (.int (0 : Int32)), .unset]) rfl k) ?_
  refine Go.step (T' := s₁) (f' := (mkF m 5 #[.val (.ref bc), .val (.int (0 : Int32)), .val (.ref bb), .val (.int (0 : Int32)), .val (.int (2 : Int32)), .val (.int (0 : Int32)), .unset] [(.int (0 : Int32))])) (fun t k => XS.iload X0.here hx rfl (hb hby d5_3) rfl k) ?_
  refine Go.step (T' := s₁) (f' := (mkF m 7 #[.val (.ref bc), .val (.int (0 : Int32)), .val (.ref bb), .val (.int (0 : Int32)), .val (.int (2 : Int32)), .val (.int (0 : Int32)), .unset] [(.int (2 : Int32)), (.int (0 : Int32))])) (fun t k => XS.iload X0.here hx rfl (hb hby d5_5) rfl k) ?_
  refine Go.step (T' := s₁) (f' := (mkF m 10 #[.val (.ref bc), .val (.int (0 : Int32)), .val (.ref bb), .val (.int (0 : Int32)), .val (.int (2 : Int32)), .val (.int (0 : Int32)), .unset] [])) (fun t k => XS.icmpNo X0.here hx rfl (hb hby d5_7) rfl (tlt (by decide : (0 : Int32) < (2 : Int32))).2.1 k) ?_
  refine Go.step (T' := s₁) (f' := (mkF m 11 #[.val (.ref bc), .val (.int (0 : Int32)), .val (.ref bb), .val (.int (0 : Int32)), .val (.int (2 : Int32)), .val (.int (0 : Int32)), .unset] [(.ref bc)])) (fun t k => XS.aloadN X0.here hx rfl (hb hby d5_10) rfl rfl k) ?_
  refine Go.step (T' := s₁) (f' := (mkF m 12 #[.val (.ref bc), .val (.int (0 : Int32)), .val (.ref bb), .val (.int (0 : Int32)), .val (.int (2 : Int32)), .val (.int (0 : Int32)), .unset] [(.int (0 : Int32)), (.ref bc)])) (fun t k => XS.iloadN X0.here hx rfl (hb hby d5_11) rfl k) ?_
  obtain ⟨ca1, Aa1, qa1, Sa1, Na1, Ha1, Ga1⟩ := id P0
  have ia1 : ¬ ((0 : Int32) < 0 ∨ ca1.slots.size ≤ ((0 : Int32)).toNatClampNeg) := inb_of Sa1 ⟨by decide, by decide⟩
  have va1 := Ha1.at (v := (.int cc0)) ia1 rfl
  refine Go.step (T' := s₁) (f' := (mkF m 13 #[.val (.ref bc), .val (.int (0 : Int32)), .val (.ref bb), .val (.int (0 : Int32)), .val (.int (2 : Int32)), .val (.int (0 : Int32)), .unset] [(.int cc0)])) (fun t k => X0.caload hx (j := (0 : Int32)) (v := (.int cc0)) (by rw [e0]; exact Aa1.1) (State.isArrayOf_alike hZ.alike Aa1.2.1) Aa1.2.2 ia1 va1 (g := (mkF m 12 #[.val (.ref bc), .val (.int (0 : Int32)), .val (.ref bb), .val (.int (0 : Int32)), .val (.int (2 : Int32)), .val (.int (0 : Int32)), .unset] [(.int (0 : Int32)), (.ref bc)])) rfl rfl (hb hby d5_12) t k) ?_
  refine Go.step (T' := s₁) (f' := (mkF m 15 #[.val (.ref bc), .val (.int (0 : Int32)), .val (.ref bb), .val (.int (0 : Int32)), .val (.int (2 : Int32)), .val (.int (0 : Int32)), .val (.int cc0)] [])) (fun t k => XS.istore X0.here hx rfl (hb hby d5_13) rfl (l' := #[.val (.ref bc), .val (.int (0 : Int32)), .val (.ref bb), .val (.int (0 : Int32)), .val (.int (2 : Int32)), .val (.int (0 : Int32)), .val (.int cc0)]) rfl k) ?_
  refine Go.step (T' := s₁) (f' := (mkF m 17 #[.val (.ref bc), .val (.int (0 : Int32)), .val (.ref bb), .val (.int (0 : Int32)), .val (.int (2 : Int32)), .val (.int (0 : Int32)), .val (.int cc0)] [(.int cc0)])) (fun t k => XS.iload X0.here hx rfl (hb hby d5_15) rfl k) ?_
  refine Go.step (T' := s₁) (f' := (mkF m 20 #[.val (.ref bc), .val (.int (0 : Int32)), .val (.ref bb), .val (.int (0 : Int32)), .val (.int (2 : Int32)), .val (.int (0 : Int32)), .val (.int cc0)] [(.int (255 : Int32)), (.int cc0)])) (fun t k => XS.sipush X0.here hx rfl (hb hby d5_17) k) ?_
  refine Go.step (T' := s₁) (f' := (mkF m 26 #[.val (.ref bc), .val (.int (0 : Int32)), .val (.ref bb), .val (.int (0 : Int32)), .val (.int (2 : Int32)), .val (.int (0 : Int32)), .val (.int cc0)] [])) (fun t k => XS.icmpYes X0.here hx rfl (pc0 := 20) (pc' := 26) rfl (hb hby d5_20) rfl (flt hc0).2.2.2 (by decide) (by decide) k) ?_
  refine Go.step (T' := s₁) (f' := (mkF m 27 #[.val (.ref bc), .val (.int (0 : Int32)), .val (.ref bb), .val (.int (0 : Int32)), .val (.int (2 : Int32)), .val (.int (0 : Int32)), .val (.int cc0)] [(.ref bb)])) (fun t k => XS.aloadN X0.here hx rfl (hb hby d5_26) rfl rfl k) ?_
  refine Go.step (T' := s₁) (f' := (mkF m 28 #[.val (.ref bc), .val (.int (0 : Int32)), .val (.ref bb), .val (.int (0 : Int32)), .val (.int (2 : Int32)), .val (.int (0 : Int32)), .val (.int cc0)] [(.int (0 : Int32)), (.ref bb)])) (fun t k => XS.iloadN X0.here hx rfl (hb hby d5_27) rfl k) ?_
  refine Go.step (T' := s₁) (f' := (mkF m 30 #[.val (.ref bc), .val (.int (0 : Int32)), .val (.ref bb), .val (.int (0 : Int32)), .val (.int (2 : Int32)), .val (.int (0 : Int32)), .val (.int cc0)] [(.int cc0), (.int (0 : Int32)), (.ref bb)])) (fun t k => XS.iload X0.here hx rfl (hb hby d5_28) rfl k) ?_
  refine Go.step (T' := s₁) (f' := (mkF m 31 #[.val (.ref bc), .val (.int (0 : Int32)), .val (.ref bb), .val (.int (0 : Int32)), .val (.int (2 : Int32)), .val (.int (0 : Int32)), .val (.int cc0)] [(.int (cc0.toInt8.toInt32)), (.int (0 : Int32)), (.ref bb)])) (fun t k => XS.i2b X0.here hx rfl (hb hby d5_30) rfl k) ?_
  obtain ⟨ca2, Aa2, qa2, Sa2, Na2, Ha2, Ga2⟩ := id P1
  have ia2 : ¬ ((0 : Int32) < 0 ∨ ca2.slots.size ≤ ((0 : Int32)).toNatClampNeg) := inb_of Sa2 ⟨by decide, by decide⟩
  obtain ⟨T3, h3, X3, e3, W3, st3⟩ := stB X0 hx hZ e0 Aa2 (j := (0 : Int32)) ia2 (g := (mkF m 31 #[.val (.ref bc), .val (.int (0 : Int32)), .val (.ref bb), .val (.int (0 : Int32)), .val (.int (2 : Int32)), .val (.int (0 : Int32)), .val (.int cc0)] [(.int (cc0.toInt8.toInt32)), (.int (0 : Int32)), (.ref bb)])) rfl rfl (hb hby d5_31)
  have f4 := Arv.set Aa2 qa2 Sa2 Na2 Ha2 Ga2 (fits_nar_byte _) W3 0 rfl (Nat.le_of_ble_eq_true rfl)
  rw [own_nar8] at f4
  have f5 : Arv Z h3 bb kb .byte (2 : Int32) [(.int (cc0.toInt8.toInt32)), (.int (0 : Int32))] (.int (0 : Int32)) := f4
  have f6 := P0.other W3 P3
  have O7 := O0.wr W3 P2
  have K8 := K0.wr W3 (Or.inl (List.mem_of_getElem? (i := 0) rfl))
  have N9 := Fr.snoc X3 N0 P2
  refine Go.step (T' := T3) (f' := (mkF m 32 #[.val (.ref bc), .val (.int (0 : Int32)), .val (.ref bb), .val (.int (0 : Int32)), .val (.int (2 : Int32)), .val (.int (0 : Int32)), .val (.int cc0)] [])) st3 ?_
  refine Go.step (T' := T3) (f' := (mkF m 35 #[.val (.ref bc), .val (.int ((0 : Int32) + (1 : Int32))), .val (.ref bb), .val (.int (0 : Int32)), .val (.int (2 : Int32)), .val (.int (0 : Int32)), .val (.int cc0)] [])) (fun t k => XS.iinc X3.here hx rfl (hb hby d5_32) rfl (l' := #[.val (.ref bc), .val (.int ((0 : Int32) + (1 : Int32))), .val (.ref bb), .val (.int (0 : Int32)), .val (.int (2 : Int32)), .val (.int (0 : Int32)), .val (.int cc0)]) rfl k) ?_
  rw [show ((0 : Int32) + (1 : Int32)) = (1 : Int32) from by decide]
  refine Go.step (T' := T3) (f' := (mkF m 38 #[.val (.ref bc), .val (.int (1 : Int32)), .val (.ref bb), .val (.int ((0 : Int32) + (1 : Int32))), .val (.int (2 : Int32)), .val (.int (0 : Int32)), .val (.int cc0)] [])) (fun t k => XS.iinc X3.here hx rfl (hb hby d5_35) rfl (l' := #[.val (.ref bc), .val (.int (1 : Int32)), .val (.ref bb), .val (.int ((0 : Int32) + (1 : Int32))), .val (.int (2 : Int32)), .val (.int (0 : Int32)), .val (.int cc0)]) rfl k) ?_
  rw [show ((0 : Int32) + (1 : Int32)) = (1 : Int32) from by decide]
  refine Go.step (T' := T3) (f' := (mkF m 41 #[.val (.ref bc), .val (.int (1 : Int32)), .val (.ref bb), .val (.int (1 : Int32)), .val (.int (2 : Int32)), .val (.int ((0 : Int32) + (1 : Int32))), .val (.int cc0)] [])) (fun t k => XS.iinc X3.here hx rfl (hb hby d5_38) rfl (l' := #[.val (.ref bc), .val (.int (1 : Int32)), .val (.ref bb), .val (.int (1 : Int32)), .val (.int (2 : Int32)), .val (.int ((0 : Int32) + (1 : Int32))), .val (.int cc0)]) rfl k) ?_
  rw [show ((0 : Int32) + (1 : Int32)) = (1 : Int32) from by decide]
  refine Go.step (T' := T3) (f' := (mkF m 3 #[.val (.ref bc), .val (.int (1 : Int32)), .val (.ref bb), .val (.int (1 : Int32)), .val (.int (2 : Int32)), .val (.int (1 : Int32)), .val (.int cc0)] [])) (fun t k => XS.goto X3.here hx rfl (pc0 := 41) (pc' := 3) rfl (hb hby d5_41) (by decide) (by decide) k) ?_
  refine Go.step (T' := T3) (f' := (mkF m 5 #[.val (.ref bc), .val (.int (1 : Int32)), .val (.ref bb), .val (.int (1 : Int32)), .val (.int (2 : Int32)), .val (.int (1 : Int32)), .val (.int cc0)] [(.int (1 : Int32))])) (fun t k => XS.iload X3.here hx rfl (hb hby d5_3) rfl k) ?_
  refine Go.step (T' := T3) (f' := (mkF m 7 #[.val (.ref bc), .val (.int (1 : Int32)), .val (.ref bb), .val (.int (1 : Int32)), .val (.int (2 : Int32)), .val (.int (1 : Int32)), .val (.int cc0)] [(.int (2 : Int32)), (.int (1 : Int32))])) (fun t k => XS.iload X3.here hx rfl (hb hby d5_5) rfl k) ?_
  refine Go.step (T' := T3) (f' := (mkF m 10 #[.val (.ref bc), .val (.int (1 : Int32)), .val (.ref bb), .val (.int (1 : Int32)), .val (.int (2 : Int32)), .val (.int (1 : Int32)), .val (.int cc0)] [])) (fun t k => XS.icmpNo X3.here hx rfl (hb hby d5_7) rfl (tlt (by decide : (1 : Int32) < (2 : Int32))).2.1 k) ?_
  refine Go.step (T' := T3) (f' := (mkF m 11 #[.val (.ref bc), .val (.int (1 : Int32)), .val (.ref bb), .val (.int (1 : Int32)), .val (.int (2 : Int32)), .val (.int (1 : Int32)), .val (.int cc0)] [(.ref bc)])) (fun t k => XS.aloadN X3.here hx rfl (hb hby d5_10) rfl rfl k) ?_
  refine Go.step (T' := T3) (f' := (mkF m 12 #[.val (.ref bc), .val (.int (1 : Int32)), .val (.ref bb), .val (.int (1 : Int32)), .val (.int (2 : Int32)), .val (.int (1 : Int32)), .val (.int cc0)] [(.int (1 : Int32)), (.ref bc)])) (fun t k => XS.iloadN X3.here hx rfl (hb hby d5_11) rfl k) ?_
  obtain ⟨ca10, Aa10, qa10, Sa10, Na10, Ha10, Ga10⟩ := id f6
  have ia10 : ¬ ((1 : Int32) < 0 ∨ ca10.slots.size ≤ ((1 : Int32)).toNatClampNeg) := inb_of Sa10 ⟨by decide, by decide⟩
  have va10 := Ha10.at (v := (.int cc1)) ia10 rfl
  refine Go.step (T' := T3) (f' := (mkF m 13 #[.val (.ref bc), .val (.int (1 : Int32)), .val (.ref bb), .val (.int (1 : Int32)), .val (.int (2 : Int32)), .val (.int (1 : Int32)), .val (.int cc0)] [(.int cc1)])) (fun t k => X3.caload hx (j := (1 : Int32)) (v := (.int cc1)) (by rw [e3]; exact Aa10.1) (State.isArrayOf_alike hZ.alike Aa10.2.1) Aa10.2.2 ia10 va10 (g := (mkF m 12 #[.val (.ref bc), .val (.int (1 : Int32)), .val (.ref bb), .val (.int (1 : Int32)), .val (.int (2 : Int32)), .val (.int (1 : Int32)), .val (.int cc0)] [(.int (1 : Int32)), (.ref bc)])) rfl rfl (hb hby d5_12) t k) ?_
  refine Go.step (T' := T3) (f' := (mkF m 15 #[.val (.ref bc), .val (.int (1 : Int32)), .val (.ref bb), .val (.int (1 : Int32)), .val (.int (2 : Int32)), .val (.int (1 : Int32)), .val (.int cc1)] [])) (fun t k => XS.istore X3.here hx rfl (hb hby d5_13) rfl (l' := #[.val (.ref bc), .val (.int (1 : Int32)), .val (.ref bb), .val (.int (1 : Int32)), .val (.int (2 : Int32)), .val (.int (1 : Int32)), .val (.int cc1)]) rfl k) ?_
  refine Go.step (T' := T3) (f' := (mkF m 17 #[.val (.ref bc), .val (.int (1 : Int32)), .val (.ref bb), .val (.int (1 : Int32)), .val (.int (2 : Int32)), .val (.int (1 : Int32)), .val (.int cc1)] [(.int cc1)])) (fun t k => XS.iload X3.here hx rfl (hb hby d5_15) rfl k) ?_
  refine Go.step (T' := T3) (f' := (mkF m 20 #[.val (.ref bc), .val (.int (1 : Int32)), .val (.ref bb), .val (.int (1 : Int32)), .val (.int (2 : Int32)), .val (.int (1 : Int32)), .val (.int cc1)] [(.int (255 : Int32)), (.int cc1)])) (fun t k => XS.sipush X3.here hx rfl (hb hby d5_17) k) ?_
  refine Go.step (T' := T3) (f' := (mkF m 26 #[.val (.ref bc), .val (.int (1 : Int32)), .val (.ref bb), .val (.int (1 : Int32)), .val (.int (2 : Int32)), .val (.int (1 : Int32)), .val (.int cc1)] [])) (fun t k => XS.icmpYes X3.here hx rfl (pc0 := 20) (pc' := 26) rfl (hb hby d5_20) rfl (flt hc1).2.2.2 (by decide) (by decide) k) ?_
  refine Go.step (T' := T3) (f' := (mkF m 27 #[.val (.ref bc), .val (.int (1 : Int32)), .val (.ref bb), .val (.int (1 : Int32)), .val (.int (2 : Int32)), .val (.int (1 : Int32)), .val (.int cc1)] [(.ref bb)])) (fun t k => XS.aloadN X3.here hx rfl (hb hby d5_26) rfl rfl k) ?_
  refine Go.step (T' := T3) (f' := (mkF m 28 #[.val (.ref bc), .val (.int (1 : Int32)), .val (.ref bb), .val (.int (1 : Int32)), .val (.int (2 : Int32)), .val (.int (1 : Int32)), .val (.int cc1)] [(.int (1 : Int32)), (.ref bb)])) (fun t k => XS.iloadN X3.here hx rfl (hb hby d5_27) rfl k) ?_
  refine Go.step (T' := T3) (f' := (mkF m 30 #[.val (.ref bc), .val (.int (1 : Int32)), .val (.ref bb), .val (.int (1 : Int32)), .val (.int (2 : Int32)), .val (.int (1 : Int32)), .val (.int cc1)] [(.int cc1), (.int (1 : Int32)), (.ref bb)])) (fun t k => XS.iload X3.here hx rfl (hb hby d5_28) rfl k) ?_
  refine Go.step (T' := T3) (f' := (mkF m 31 #[.val (.ref bc), .val (.int (1 : Int32)), .val (.ref bb), .val (.int (1 : Int32)), .val (.int (2 : Int32)), .val (.int (1 : Int32)), .val (.int cc1)] [(.int (cc1.toInt8.toInt32)), (.int (1 : Int32)), (.ref bb)])) (fun t k => XS.i2b X3.here hx rfl (hb hby d5_30) rfl k) ?_
  obtain ⟨ca11, Aa11, qa11, Sa11, Na11, Ha11, Ga11⟩ := id f5
  have ia11 : ¬ ((1 : Int32) < 0 ∨ ca11.slots.size ≤ ((1 : Int32)).toNatClampNeg) := inb_of Sa11 ⟨by decide, by decide⟩
  obtain ⟨T12, h12, X12, e12, W12, st12⟩ := stB X3 hx hZ e3 Aa11 (j := (1 : Int32)) ia11 (g := (mkF m 31 #[.val (.ref bc), .val (.int (1 : Int32)), .val (.ref bb), .val (.int (1 : Int32)), .val (.int (2 : Int32)), .val (.int (1 : Int32)), .val (.int cc1)] [(.int (cc1.toInt8.toInt32)), (.int (1 : Int32)), (.ref bb)])) rfl rfl (hb hby d5_31)
  have f13 := Arv.set Aa11 qa11 Sa11 Na11 Ha11 Ga11 (fits_nar_byte _) W12 1 rfl (Nat.le_of_ble_eq_true rfl)
  rw [own_nar8] at f13
  have f14 : Arv Z h12 bb kb .byte (2 : Int32) [(.int (cc0.toInt8.toInt32)), (.int (cc1.toInt8.toInt32))] (.int (0 : Int32)) := f13
  have f15 := f6.other W12 P3
  have O16 := O7.wr W12 P2
  have K17 := K8.wr W12 (Or.inl (List.mem_of_getElem? (i := 0) rfl))
  have N18 := Fr.snoc X12 N9 P2
  refine Go.step (T' := T12) (f' := (mkF m 32 #[.val (.ref bc), .val (.int (1 : Int32)), .val (.ref bb), .val (.int (1 : Int32)), .val (.int (2 : Int32)), .val (.int (1 : Int32)), .val (.int cc1)] [])) st12 ?_
  refine Go.step (T' := T12) (f' := (mkF m 35 #[.val (.ref bc), .val (.int ((1 : Int32) + (1 : Int32))), .val (.ref bb), .val (.int (1 : Int32)), .val (.int (2 : Int32)), .val (.int (1 : Int32)), .val (.int cc1)] [])) (fun t k => XS.iinc X12.here hx rfl (hb hby d5_32) rfl (l' := #[.val (.ref bc), .val (.int ((1 : Int32) + (1 : Int32))), .val (.ref bb), .val (.int (1 : Int32)), .val (.int (2 : Int32)), .val (.int (1 : Int32)), .val (.int cc1)]) rfl k) ?_
  rw [show ((1 : Int32) + (1 : Int32)) = (2 : Int32) from by decide]
  refine Go.step (T' := T12) (f' := (mkF m 38 #[.val (.ref bc), .val (.int (2 : Int32)), .val (.ref bb), .val (.int ((1 : Int32) + (1 : Int32))), .val (.int (2 : Int32)), .val (.int (1 : Int32)), .val (.int cc1)] [])) (fun t k => XS.iinc X12.here hx rfl (hb hby d5_35) rfl (l' := #[.val (.ref bc), .val (.int (2 : Int32)), .val (.ref bb), .val (.int ((1 : Int32) + (1 : Int32))), .val (.int (2 : Int32)), .val (.int (1 : Int32)), .val (.int cc1)]) rfl k) ?_
  rw [show ((1 : Int32) + (1 : Int32)) = (2 : Int32) from by decide]
  refine Go.step (T' := T12) (f' := (mkF m 41 #[.val (.ref bc), .val (.int (2 : Int32)), .val (.ref bb), .val (.int (2 : Int32)), .val (.int (2 : Int32)), .val (.int ((1 : Int32) + (1 : Int32))), .val (.int cc1)] [])) (fun t k => XS.iinc X12.here hx rfl (hb hby d5_38) rfl (l' := #[.val (.ref bc), .val (.int (2 : Int32)), .val (.ref bb), .val (.int (2 : Int32)), .val (.int (2 : Int32)), .val (.int ((1 : Int32) + (1 : Int32))), .val (.int cc1)]) rfl k) ?_
  rw [show ((1 : Int32) + (1 : Int32)) = (2 : Int32) from by decide]
  refine Go.step (T' := T12) (f' := (mkF m 3 #[.val (.ref bc), .val (.int (2 : Int32)), .val (.ref bb), .val (.int (2 : Int32)), .val (.int (2 : Int32)), .val (.int (2 : Int32)), .val (.int cc1)] [])) (fun t k => XS.goto X12.here hx rfl (pc0 := 41) (pc' := 3) rfl (hb hby d5_41) (by decide) (by decide) k) ?_
  refine Go.step (T' := T12) (f' := (mkF m 5 #[.val (.ref bc), .val (.int (2 : Int32)), .val (.ref bb), .val (.int (2 : Int32)), .val (.int (2 : Int32)), .val (.int (2 : Int32)), .val (.int cc1)] [(.int (2 : Int32))])) (fun t k => XS.iload X12.here hx rfl (hb hby d5_3) rfl k) ?_
  refine Go.step (T' := T12) (f' := (mkF m 7 #[.val (.ref bc), .val (.int (2 : Int32)), .val (.ref bb), .val (.int (2 : Int32)), .val (.int (2 : Int32)), .val (.int (2 : Int32)), .val (.int cc1)] [(.int (2 : Int32)), (.int (2 : Int32))])) (fun t k => XS.iload X12.here hx rfl (hb hby d5_5) rfl k) ?_
  refine Go.step (T' := T12) (f' := (mkF m 44 #[.val (.ref bc), .val (.int (2 : Int32)), .val (.ref bb), .val (.int (2 : Int32)), .val (.int (2 : Int32)), .val (.int (2 : Int32)), .val (.int cc1)] [])) (fun t k => XS.icmpYes X12.here hx rfl (pc0 := 7) (pc' := 44) rfl (hb hby d5_7) rfl (flt (by decide : ¬ ((2 : Int32) < (2 : Int32)))).2.1 (by decide) (by decide) k) ?_
  refine Go.step (T' := T12) (f' := (mkF m 46 #[.val (.ref bc), .val (.int (2 : Int32)), .val (.ref bb), .val (.int (2 : Int32)), .val (.int (2 : Int32)), .val (.int (2 : Int32)), .val (.int cc1)] [(.int (2 : Int32))])) (fun t k => XS.iload X12.here hx rfl (hb hby d5_44) rfl k) ?_
  refine Go.retI X12 hx hlk Bd.returns (hb hby d5_46) e12 ?_ (by decide) (by decide)
  exact ⟨rfl, N18, K17, f14⟩
theorem d4_0 : decode jdk_52_method_16_code 0 = .ok (.iload_n 2, 1) := by decide +kernel
theorem d4_1 : decode jdk_52_method_16_code 1 = .ok (.newarray .byte, 2) := by decide +kernel
theorem d4_3 : decode jdk_52_method_16_code 3 = .ok (.astore_n 3, 1) := by decide +kernel
theorem d4_4 : decode jdk_52_method_16_code 4 = .ok (.aload_n 0, 1) := by decide +kernel
theorem d4_5 : decode jdk_52_method_16_code 5 = .ok (.iload_n 1, 1) := by decide +kernel
theorem d4_6 : decode jdk_52_method_16_code 6 = .ok (.aload_n 3, 1) := by decide +kernel
theorem d4_7 : decode jdk_52_method_16_code 7 = .ok (.iconst 0, 1) := by decide +kernel
theorem d4_8 : decode jdk_52_method_16_code 8 = .ok (.iload_n 2, 1) := by decide +kernel
theorem d4_9 : decode jdk_52_method_16_code 9 = .ok (.invokestatic 115, 3) := by decide +kernel
theorem d4_12 : decode jdk_52_method_16_code 12 = .ok (.istore 4, 2) := by decide +kernel
theorem d4_14 : decode jdk_52_method_16_code 14 = .ok (.iload 4, 2) := by decide +kernel
theorem d4_16 : decode jdk_52_method_16_code 16 = .ok (.iload_n 2, 1) := by decide +kernel
theorem d4_17 : decode jdk_52_method_16_code 17 = .ok (.if_icmp .eq 40, 3) := by decide +kernel
theorem d4_57 : decode jdk_52_method_16_code 57 = .ok (.aload_n 3, 1) := by decide +kernel
theorem d4_58 : decode jdk_52_method_16_code 58 = .ok (.areturn, 1) := by decide +kernel
theorem pd0 : parseMethodDescriptor "([CI[BII)I" = some ⟨[(.array .char), .int, (.array .byte), .int, .int], some .int⟩ := by decide +kernel
theorem ef_cmp2 (m : MethodId) (bc : Addr) : entryFrame m #[(.ref bc), (.int (0 : Int32)), (.int (2 : Int32))] 6 = mkF m 0 #[.val (.ref bc), .val (.int (0 : Int32)), .val (.int (2 : Int32)), .unset, .unset, .unset] [] := by first | (simp [entryFrame, mkF, argsToLocals, Value.category]; done) | rfl
def Q_cmp2 (Z : State) (bc : Addr) (kc : ClassId) (cc0 : Int32) (cc1 : Int32) (h0 : Heap) (n0 : Nat) (v : Option Value) (h : Heap) (L : List Loc) : Prop := ∃ bb : Addr, ∃ kb : ClassId, v = some (.ref bb) ∧ Fr n0 L ∧ Keep h0 h [] ∧ h0.size ≤ bb ∧ Arv Z h bb kb .byte (2 : Int32) [(.int (cc0.toInt8.toInt32)), (.int (cc1.toInt8.toInt32))] (.int (0 : Int32))
set_option maxRecDepth 65536 in
set_option maxHeartbeats 40000000 in
theorem rm_cmp2 (l : Launch) (Z : State) (a0 : Array Value) (hw : ∀ d ∈ tables_1, d.before a0 Z = true) (ws : List Jvm.Cond) (bc : Addr) (kc : ClassId) (cc0 : Int32) (cc1 : Int32) (h0 : Heap) (n0 : Nat) (O0 : Old Z n0 h0) (P0 : Arv Z h0 bc kc .char (2 : Int32) [(.int cc0), (.int cc1)] (.int (0 : Int32))) (hc0 : ¬ ((255 : Int32) < cc0)) (hc1 : ¬ ((255 : Int32) < cc1)) :
    MetFree l (⟨"java/lang/StringUTF16", "compress", "([CII)[B"⟩ : MethodName) (head1 (Jvm.Cond.code (⟨"java/lang/StringUTF16", "compress", "([CII)[B"⟩ : MethodName) jdk_52_method_16_code 6 (some (.array .byte)) :: ws) ({ frames := 1, cells := 1, slots := 2, locals := 18 } : Room)) (fun a U => a = #[(.ref bc), (.int (0 : Int32)), (.int (2 : Int32))] ∧ Z.Warmed39 U.vm ∧ U.heap = h0) (fun _ _ _ _ _ => True) (fun _ U o U' => ∃ v L, o = .returned v ∧ Q_cmp2 Z bc kc cc0 cc1 h0 n0 v U'.heap L ∧ FrameEnd U o U' L ({ frames := 1, cells := 1, slots := 2, locals := 18 } : Room).cells ({ frames := 1, cells := 1, slots := 2, locals := 18 } : Room).slots) := by
  refine MetFree.of_bodySF (plainFor_of_name pn_java_lang_StringUTF16) hisR ?_
  intro p e s m args below meth c s₁ Bd hml0 hP hK
  obtain ⟨rfl, hZ, hh⟩ := hP
  have hx := Bd.exec
  have hby := Bd.bytes
  have hml : c.maxLocals = 6 := hml0
  have hown : s.vm.findClass "java/lang/StringUTF16" = some m.cls := findClass_of_methodNamed Bd.named
  have hnm := (name_of_methodNamed Bd.named Bd.method).1
  have hlk : meth.locks = false := BodyLoose.notSynchronized Bd
  have X0 : Stand p l e ({ frames := 1, cells := 1, slots := 2, locals := 18 } : Room) s m #[(.ref bc), (.int (0 : Int32)), (.int (2 : Int32))] below meth c s₁ [] 0 0 := Stand.of_body Bd
  have e0 : s₁.heap = h0 := by rw [← hh, Bd.state]; rfl
  have N0 := Fr.nil n0
  have K0 := Keep.refl h0 []
  rw [ef_cmp2 m bc]
  show Go p e below s (fun v h L => Q_cmp2 Z bc kc cc0 cc1 h0 n0 v h L) ({ frames := 1, cells := 1, slots := 2, locals := 18 } : Room).cells ({ frames := 1, cells := 1, slots := 2, locals := 18 } : Room).slots s₁ (mkF m 0 #[.val (.ref bc), .val (.int (0 : Int32)), .val (.int (2 : Int32)), .unset, .unset, .unset] [])
  refine Go.step (T' := s₁) (f' := (mkF m 1 #[.val (.ref bc), .val (.int (0 : Int32)), .val (.int (2 : Int32)), .unset, .unset, .unset] [(.int (2 : Int32))])) (fun t k => XS.iloadN X0.here hx rfl (hb hby d4_0) rfl k) ?_
  obtain ⟨T19, h19, k19, X19, e19, E19, A19, Y19, st19⟩ := newPE X0 hx hZ (hw _ (List.mem_of_getElem? (i := 19) rfl)) e0 (g := (mkF m 1 #[.val (.ref bc), .val (.int (0 : Int32)), .val (.int (2 : Int32)), .unset, .unset, .unset] [(.int (2 : Int32))])) rfl (hb hby d4_1) rfl (by decide) (cap := 2) (by decide) (by decide) (by decide) (by decide) (ad := "[B") (by decide)
  obtain ⟨b19, g19⟩ : ∃ z, z = h0.size := ⟨_, rfl⟩
  rw [← g19] at A19 Y19 st19
  have g20 : n0 ≤ b19 := Nat.le_trans (own_old_le O0) (Nat.le_of_eq g19.symm)
  have g21 : h0.size ≤ b19 := Nat.le_trans K0.1 (Nat.le_of_eq g19.symm)
  have ne22 : bc ≠ b19 := Nat.ne_of_lt (Nat.lt_of_lt_of_le P0.lt (Nat.le_of_eq g19.symm))
  have f23 := P0.ext E19
  have O24 := O0.ext E19
  have K25 := K0.ext E19
  have f26 : Arv Z h19 b19 k19 .byte (2 : Int32) [(.int (0 : Int32)), (.int (0 : Int32))] (.int (0 : Int32)) := (Arv.new A19 (by decide)).pad (pad_rep [] (.int (0 : Int32)) 2)
  refine Go.step (T' := T19) (f' := (mkF m 3 #[.val (.ref bc), .val (.int (0 : Int32)), .val (.int (2 : Int32)), .unset, .unset, .unset] [(.ref b19)])) st19 ?_
  refine Go.step (T' := T19) (f' := (mkF m 4 #[.val (.ref bc), .val (.int (0 : Int32)), .val (.int (2 : Int32)), .val (.ref b19), .unset, .unset] [])) (fun t k => XS.astoreN X19.here hx rfl (hb hby d4_3) rfl rfl (l' := #[.val (.ref bc), .val (.int (0 : Int32)), .val (.int (2 : Int32)), .val (.ref b19), .unset, .unset]) rfl k) ?_
  refine Go.step (T' := T19) (f' := (mkF m 5 #[.val (.ref bc), .val (.int (0 : Int32)), .val (.int (2 : Int32)), .val (.ref b19), .unset, .unset] [(.ref bc)])) (fun t k => XS.aloadN X19.here hx rfl (hb hby d4_4) rfl rfl k) ?_
  refine Go.step (T' := T19) (f' := (mkF m 6 #[.val (.ref bc), .val (.int (0 : Int32)), .val (.int (2 : Int32)), .val (.ref b19), .unset, .unset] [(.int (0 : Int32)), (.ref bc)])) (fun t k => XS.iloadN X19.here hx rfl (hb hby d4_5) rfl k) ?_
  refine Go.step (T' := T19) (f' := (mkF m 7 #[.val (.ref bc), .val (.int (0 : Int32)), .val (.int (2 : Int32)), .val (.ref b19), .unset, .unset] [(.ref b19), (.int (0 : Int32)), (.ref bc)])) (fun t k => XS.aloadN X19.here hx rfl (hb hby d4_6) rfl rfl k) ?_
  refine Go.step (T' := T19) (f' := (mkF m 8 #[.val (.ref bc), .val (.int (0 : Int32)), .val (.int (2 : Int32)), .val (.ref b19), .unset, .unset] [(.int (0 : Int32)), (.ref b19), (.int (0 : Int32)), (.ref bc)])) (fun t k => XS.iconst X19.here hx rfl (hb hby d4_7) k) ?_
  refine Go.step (T' := T19) (f' := (mkF m 9 #[.val (.ref bc), .val (.int (0 : Int32)), .val (.int (2 : Int32)), .val (.ref b19), .unset, .unset] [(.int (2 : Int32)), (.int (0 : Int32)), (.ref b19), (.int (0 : Int32)), (.ref bc)])) (fun t k => XS.iloadN X19.here hx rfl (hb hby d4_8) rfl k) ?_
  obtain ⟨_, _, ⟨T27, L27, k27, n27⟩, -, X27, ⟨Lc27, hQ27, l27, y27, z27⟩, st27⟩ := Jvm.LawKit.callS X19 hx (y := (⟨"java/lang/StringUTF16", "compress", "([CI[BII)I"⟩ : MethodName)) hown (mvT hZ (hw _ (List.mem_of_getElem? (i := 20) rfl))) (mvT hZ (hw _ (List.mem_of_getElem? (i := 21) rfl))) (mvT hZ (hw _ (List.mem_of_getElem? (i := 17) rfl))) (mvT hZ (hw _ (List.mem_of_getElem? (i := 22) rfl))) (by decide) (backOf (W := 0) (rm_cpr2 l Z a0 hw [] bc b19 kc cc0 cc1 k19 h19 n0 O24 f23 f26 g20 ne22 hc0 hc1) hZ (hw _ (List.mem_of_getElem? (i := 22) rfl)) (hw _ (List.mem_of_getElem? (i := 17) rfl)) (by decide) (by decide)) (g := (mkF m 9 #[.val (.ref bc), .val (.int (0 : Int32)), .val (.int (2 : Int32)), .val (.ref b19), .unset, .unset] [(.int (2 : Int32)), (.int (0 : Int32)), (.ref b19), (.int (0 : Int32)), (.ref bc)])) rfl (by rw [hml]; rfl) (argsL := [(.ref bc), (.int (0 : Int32)), (.ref b19), (.int (0 : Int32)), (.int (2 : Int32))]) (rest := []) (lenOf pd0 rfl) rfl (by show 2 * 0 + _ ≤ _; exact Nat.le_of_eq rfl) (hb hby d4_9) (fun _ _ => ⟨rfl, e19, (by decide : 1 + 0 ≤ _), (by decide : 2 + 0 ≤ _)⟩)
  dsimp only [Pt.U, Pt.locs, Pt.cells, Pt.slots] at X27 l27 y27 z27 st27 hQ27
  subst l27 y27 z27
  obtain ⟨rfl, Nq27, hh27, p28⟩ := hQ27
  have N29 := Fr.app N0 Nq27
  have f30 := f23.keep hh27 (ninS ne22 nin0)
  have f31 := Y19.keep hh27
  have O32 := O24.keep hh27 (allS g20 all0)
  have K33 := K25.trans hh27 (allS (Or.inr g21) all0)
  refine Go.step (T' := T27) (f' := (mkF m 12 #[.val (.ref bc), .val (.int (0 : Int32)), .val (.int (2 : Int32)), .val (.ref b19), .unset, .unset] [(.int (2 : Int32))])) st27 ?_
  refine Go.step (T' := T27) (f' := (mkF m 14 #[.val (.ref bc), .val (.int (0 : Int32)), .val (.int (2 : Int32)), .val (.ref b19), .val (.int (2 : Int32)), .unset] [])) (fun t k => XS.istore X27.here hx rfl (hb hby d4_12) rfl (l' := #[.val (.ref bc), .val (.int (0 : Int32)), .val (.int (2 : Int32)), .val (.ref b19), .val (.int (2 : Int32)), .unset]) rfl k) ?_
  refine Go.step (T' := T27) (f' := (mkF m 16 #[.val (.ref bc), .val (.int (0 : Int32)), .val (.int (2 : Int32)), .val (.ref b19), .val (.int (2 : Int32)), .unset] [(.int (2 : Int32))])) (fun t k => XS.iload X27.here hx rfl (hb hby d4_14) rfl k) ?_
  refine Go.step (T' := T27) (f' := (mkF m 17 #[.val (.ref bc), .val (.int (0 : Int32)), .val (.int (2 : Int32)), .val (.ref b19), .val (.int (2 : Int32)), .unset] [(.int (2 : Int32)), (.int (2 : Int32))])) (fun t k => XS.iloadN X27.here hx rfl (hb hby d4_16) rfl k) ?_
  refine Go.step (T' := T27) (f' := (mkF m 57 #[.val (.ref bc), .val (.int (0 : Int32)), .val (.int (2 : Int32)), .val (.ref b19), .val (.int (2 : Int32)), .unset] [])) (fun t k => XS.icmpYes X27.here hx rfl (pc0 := 17) (pc' := 57) rfl (hb hby d4_17) rfl (teq (by decide : (2 : Int32) = (2 : Int32))).1 (by decide) (by decide) k) ?_
  refine Go.step (T' := T27) (f' := (mkF m 58 #[.val (.ref bc), .val (.int (0 : Int32)), .val (.int (2 : Int32)), .val (.ref b19), .val (.int (2 : Int32)), .unset] [(.ref b19)])) (fun t k => XS.aloadN X27.here hx rfl (hb hby d4_57) rfl rfl k) ?_
  refine Go.retA X27 hx hlk Bd.returns rfl rfl (hb hby d4_58) rfl ?_ (by decide) (by decide)
  exact ⟨b19, k19, rfl, N29, K33, g21, p28⟩
theorem d6_0 : decode jdk_52_method_15_code 0 = .ok (.iload_n 1, 1) := by decide +kernel
theorem d6_1 : decode jdk_52_method_15_code 1 = .ok (.aload_n 0, 1) := by decide +kernel
theorem d6_2 : decode jdk_52_method_15_code 2 = .ok (.arraylength, 1) := by decide +kernel
theorem d6_3 : decode jdk_52_method_15_code 3 = .ok (.isub, 1) := by decide +kernel
theorem d6_4 : decode jdk_52_method_15_code 4 = .ok (.bipush 31, 2) := by decide +kernel
theorem d6_6 : decode jdk_52_method_15_code 6 = .ok (.iushr, 1) := by decide +kernel
theorem d6_7 : decode jdk_52_method_15_code 7 = .ok (.i2b, 1) := by decide +kernel
theorem d6_8 : decode jdk_52_method_15_code 8 = .ok (.ireturn, 1) := by decide +kernel
theorem ef_cod2 (m : MethodId) (bb : Addr) : entryFrame m #[(.ref bb), (.int (2 : Int32))] 2 = mkF m 0 #[.val (.ref bb), .val (.int (2 : Int32))] [] := by first | (simp [entryFrame, mkF, argsToLocals, Value.category]; done) | rfl
def Q_cod2 (Z : State) (bb : Addr) (kb : ClassId) (v0 : Int32) (v1 : Int32) (h0 : Heap) (n0 : Nat) (v : Option Value) (h : Heap) (L : List Loc) : Prop := v = some (.int (0 : Int32)) ∧ Fr n0 L ∧ h = h0
set_option maxRecDepth 65536 in
set_option maxHeartbeats 40000000 in
theorem rm_cod2 (l : Launch) (Z : State) (a0 : Array Value) (hw : ∀ d ∈ tables_1, d.before a0 Z = true) (ws : List Jvm.Cond) (bb : Addr) (kb : ClassId) (v0 : Int32) (v1 : Int32) (h0 : Heap) (n0 : Nat) (O0 : Old Z n0 h0) (P0 : Arv Z h0 bb kb .byte (2 : Int32) [(.int v0), (.int v1)] (.int (0 : Int32))) :
    MetFree l (⟨"java/lang/StringUTF16", "coderFromArrayLen", "([BI)B"⟩ : MethodName) (head1 (Jvm.Cond.code (⟨"java/lang/StringUTF16", "coderFromArrayLen", "([BI)B"⟩ : MethodName) jdk_52_method_15_code 2 (some .byte) :: ws) ({ frames := 0, cells := 0, slots := 0, locals := 0 } : Room)) (fun a U => a = #[(.ref bb), (.int (2 : Int32))] ∧ Z.Warmed39 U.vm ∧ U.heap = h0) (fun _ _ _ _ _ => True) (fun _ U o U' => ∃ v L, o = .returned v ∧ Q_cod2 Z bb kb v0 v1 h0 n0 v U'.heap L ∧ FrameEnd U o U' L ({ frames := 0, cells := 0, slots := 0, locals := 0 } : Room).cells ({ frames := 0, cells := 0, slots := 0, locals := 0 } : Room).slots) := by
  refine MetFree.of_bodySF (plainFor_of_name pn_java_lang_StringUTF16) hisR ?_
  intro p e s m args below meth c s₁ Bd hml0 hP hK
  obtain ⟨rfl, hZ, hh⟩ := hP
  have hx := Bd.exec
  have hby := Bd.bytes
  have hml : c.maxLocals = 2 := hml0
  have hown : s.vm.findClass "java/lang/StringUTF16" = some m.cls := findClass_of_methodNamed Bd.named
  have hnm := (name_of_methodNamed Bd.named Bd.method).1
  have hlk : meth.locks = false := BodyLoose.notSynchronized Bd
  have X0 : Stand p l e ({ frames := 0, cells := 0, slots := 0, locals := 0 } : Room) s m #[(.ref bb), (.int (2 : Int32))] below meth c s₁ [] 0 0 := Stand.of_body Bd
  have e0 : s₁.heap = h0 := by rw [← hh, Bd.state]; rfl
  have N0 := Fr.nil n0
  rw [ef_cod2 m bb]
  show Go p e below s (fun v h L => Q_cod2 Z bb kb v0 v1 h0 n0 v h L) ({ frames := 0, cells := 0, slots := 0, locals := 0 } : Room).cells ({ frames := 0, cells := 0, slots := 0, locals := 0 } : Room).slots s₁ (mkF m 0 #[.val (.ref bb), .val (.int (2 : Int32))] [])
  refine Go.step (T' := s₁) (f' := (mkF m 1 #[.val (.ref bb), .val (.int (2 : Int32))] [(.int (2 : Int32))])) (fun t k => XS.iloadN X0.here hx rfl (hb hby d6_0) rfl k) ?_
  refine Go.step (T' := s₁) (f' := (mkF m 2 #[.val (.ref bb), .val (.int (2 : Int32))] [(.ref bb), (.int (2 : Int32))])) (fun t k => XS.aloadN X0.here hx rfl (hb hby d6_1) rfl rfl k) ?_
  obtain ⟨ca34, Aa34, qa34, Sa34, Na34, Ha34, Ga34⟩ := id P0
  refine Go.step (T' := s₁) (f' := (mkF m 3 #[.val (.ref bb), .val (.int (2 : Int32))] [(.int (2 : Int32)), (.int (2 : Int32))])) (fun t k => own_alen X0 hx hZ e0 Aa34 Sa34 Na34 (g := (mkF m 2 #[.val (.ref bb), .val (.int (2 : Int32))] [(.ref bb), (.int (2 : Int32))])) rfl rfl (hb hby d6_2) k) ?_
  refine Go.step (T' := s₁) (f' := (mkF m 4 #[.val (.ref bb), .val (.int (2 : Int32))] [(.int ((2 : Int32) - (2 : Int32)))])) (fun t k => XS.isub X0.here hx rfl (hb hby d6_3) rfl k) ?_
  rw [show ((2 : Int32) - (2 : Int32)) = (0 : Int32) from by decide]
  refine Go.step (T' := s₁) (f' := (mkF m 6 #[.val (.ref bb), .val (.int (2 : Int32))] [(.int (31 : Int32)), (.int (0 : Int32))])) (fun t k => XS.bipush X0.here hx rfl (hb hby d6_4) k) ?_
  refine Go.step (T' := s₁) (f' := (mkF m 7 #[.val (.ref bb), .val (.int (2 : Int32))] [(.int (((0 : Int32).toUInt32 >>> ((31 : Int32) &&& 31).toUInt32).toInt32))])) (fun t k => XS.iushr X0.here hx rfl (hb hby d6_6) rfl k) ?_
  rw [show (((0 : Int32).toUInt32 >>> ((31 : Int32) &&& 31).toUInt32).toInt32) = (0 : Int32) from by decide]
  refine Go.step (T' := s₁) (f' := (mkF m 8 #[.val (.ref bb), .val (.int (2 : Int32))] [(.int ((0 : Int32).toInt8.toInt32))])) (fun t k => XS.i2b X0.here hx rfl (hb hby d6_7) rfl k) ?_
  rw [show ((0 : Int32).toInt8.toInt32) = (0 : Int32) from by decide]
  refine Go.retZ X0 hx hlk (t := .byte) Bd.returns (by simp) (hb hby d6_8) e0 ?_ (by decide) (by decide)
  exact ⟨rfl, N0, rfl⟩
theorem d2_0 : decode jdk_42_method_149_code 0 = .ok (.aload_n 0, 1) := by decide +kernel
theorem d2_1 : decode jdk_42_method_149_code 1 = .ok (.invokespecial 1, 3) := by decide +kernel
theorem d2_4 : decode jdk_42_method_149_code 4 = .ok (.iload_n 3, 1) := by decide +kernel
theorem d2_5 : decode jdk_42_method_149_code 5 = .ok (.ifCond .ne 22, 3) := by decide +kernel
theorem d2_27 : decode jdk_42_method_149_code 27 = .ok (.getstatic 38, 3) := by decide +kernel
theorem d2_30 : decode jdk_42_method_149_code 30 = .ok (.ifCond .eq 28, 3) := by decide +kernel
theorem d2_33 : decode jdk_42_method_149_code 33 = .ok (.aload_n 1, 1) := by decide +kernel
theorem d2_34 : decode jdk_42_method_149_code 34 = .ok (.iload_n 2, 1) := by decide +kernel
theorem d2_35 : decode jdk_42_method_149_code 35 = .ok (.iload_n 3, 1) := by decide +kernel
theorem d2_36 : decode jdk_42_method_149_code 36 = .ok (.invokestatic 177, 3) := by decide +kernel
theorem d2_39 : decode jdk_42_method_149_code 39 = .ok (.astore 5, 2) := by decide +kernel
theorem d2_41 : decode jdk_42_method_149_code 41 = .ok (.aload_n 0, 1) := by decide +kernel
theorem d2_42 : decode jdk_42_method_149_code 42 = .ok (.aload 5, 2) := by decide +kernel
theorem d2_44 : decode jdk_42_method_149_code 44 = .ok (.iload_n 3, 1) := by decide +kernel
theorem d2_45 : decode jdk_42_method_149_code 45 = .ok (.invokestatic 47, 3) := by decide +kernel
theorem d2_48 : decode jdk_42_method_149_code 48 = .ok (.putfield 15, 3) := by decide +kernel
theorem d2_51 : decode jdk_42_method_149_code 51 = .ok (.aload_n 0, 1) := by decide +kernel
theorem d2_52 : decode jdk_42_method_149_code 52 = .ok (.aload 5, 2) := by decide +kernel
theorem d2_54 : decode jdk_42_method_149_code 54 = .ok (.putfield 9, 3) := by decide +kernel
theorem d2_57 : decode jdk_42_method_149_code 57 = .ok (.return_, 1) := by decide +kernel
theorem pn_java_lang_String : plainName "java/lang/String" = true := by first | (simp [plainName, overriddenIn]; done) | decide +kernel
theorem pd1 : parseMethodDescriptor "([CII)[B" = some ⟨[(.array .char), .int, .int], some (.array .byte)⟩ := by decide +kernel
theorem pd2 : parseMethodDescriptor "([BI)B" = some ⟨[(.array .byte), .int], some .byte⟩ := by decide +kernel
theorem ef_ini4_2 (m : MethodId) (ba : Addr) (bc : Addr) : entryFrame m #[(.ref ba), (.ref bc), (.int (0 : Int32)), (.int (2 : Int32)), .null] 6 = mkF m 0 #[.val (.ref ba), .val (.ref bc), .val (.int (0 : Int32)), .val (.int (2 : Int32)), .val .null, .unset] [] := by first | (simp [entryFrame, mkF, argsToLocals, Value.category]; done) | rfl
def Q_ini4_2 (Z : State) (ba : Addr) (bc : Addr) (kc : ClassId) (cc0 : Int32) (cc1 : Int32) (u0 : Value) (u1 : Value) (wz : Int32) (h0 : Heap) (n0 : Nat) (v : Option Value) (h : Heap) (L : List Loc) : Prop := ∃ bb : Addr, ∃ kb : ClassId, v = none ∧ Fr n0 L ∧ Keep h0 h [ba] ∧ Exa Z h ba "java/lang/String" ∧ Fld Z h ba "java/lang/String" "value" "[B" (.ref bb) ∧ Fld Z h ba "java/lang/String" "coder" "B" (.int (0 : Int32)) ∧ h0.size ≤ bb ∧ Arv Z h bb kb .byte (2 : Int32) [(.int (cc0.toInt8.toInt32)), (.int (cc1.toInt8.toInt32))] (.int (0 : Int32))
set_option maxRecDepth 65536 in
set_option maxHeartbeats 40000000 in
theorem rm_ini4_2 (l : Launch) (Z : State) (a0 : Array Value) (hw : ∀ d ∈ tables_1, d.before a0 Z = true) (ws : List Jvm.Cond) (ba : Addr) (bc : Addr) (kc : ClassId) (cc0 : Int32) (cc1 : Int32) (u0 : Value) (u1 : Value) (wz : Int32) (h0 : Heap) (n0 : Nat) (O0 : Old Z n0 h0) (P0 : Exa Z h0 ba "java/lang/String") (P1 : Fld Z h0 ba "java/lang/String" "value" "[B" u0) (P2 : Fld Z h0 ba "java/lang/String" "coder" "B" u1) (P3 : n0 ≤ ba) (P4 : Arv Z h0 bc kc .char (2 : Int32) [(.int cc0), (.int cc1)] (.int (0 : Int32))) (P5 : bc ≠ ba) (P6 : Sta Z Z.heap "java/lang/String" "COMPACT_STRINGS" "Z" (.int wz)) (hwz : ¬ (wz = (0 : Int32))) (hc0 : ¬ ((255 : Int32) < cc0)) (hc1 : ¬ ((255 : Int32) < cc1)) :
    MetFree l (⟨"java/lang/String", "<init>", "([CIILjava/lang/Void;)V"⟩ : MethodName) (head1 (Jvm.Cond.code (⟨"java/lang/String", "<init>", "([CIILjava/lang/Void;)V"⟩ : MethodName) jdk_42_method_149_code 6 none :: ws) ({ frames := 2, cells := 1, slots := 2, locals := 35 } : Room)) (fun a U => a = #[(.ref ba), (.ref bc), (.int (0 : Int32)), (.int (2 : Int32)), .null] ∧ Z.Warmed39 U.vm ∧ U.heap = h0) (fun _ _ _ _ _ => True) (fun _ U o U' => ∃ v L, o = .returned v ∧ Q_ini4_2 Z ba bc kc cc0 cc1 u0 u1 wz h0 n0 v U'.heap L ∧ FrameEnd U o U' L ({ frames := 2, cells := 1, slots := 2, locals := 35 } : Room).cells ({ frames := 2, cells := 1, slots := 2, locals := 35 } : Room).slots) := by
  refine MetFree.of_bodySF (plainFor_of_name pn_java_lang_String) hisR ?_
  intro p e s m args below meth c s₁ Bd hml0 hP hK
  obtain ⟨rfl, hZ, hh⟩ := hP
  have hx := Bd.exec
  have hby := Bd.bytes
  have hml : c.maxLocals = 6 := hml0
  have hown : s.vm.findClass "java/lang/String" = some m.cls := findClass_of_methodNamed Bd.named
  have hnm := (name_of_methodNamed Bd.named Bd.method).1
  have hlk : meth.locks = false := BodyLoose.notSynchronized Bd
  have X0 : Stand p l e ({ frames := 2, cells := 1, slots := 2, locals := 35 } : Room) s m #[(.ref ba), (.ref bc), (.int (0 : Int32)), (.int (2 : Int32)), .null] below meth c s₁ [] 0 0 := Stand.of_body Bd
  have e0 : s₁.heap = h0 := by rw [← hh, Bd.state]; rfl
  have N0 := Fr.nil n0
  have K0 := Keep.refl h0 [ba]
  rw [ef_ini4_2 m ba bc]
  show Go p e below s (fun v h L => Q_ini4_2 Z ba bc kc cc0 cc1 u0 u1 wz h0 n0 v h L) ({ frames := 2, cells := 1, slots := 2, locals := 35 } : Room).cells ({ frames := 2, cells := 1, slots := 2, locals := 35 } : Room).slots s₁ (mkF m 0 #[.val (.ref ba), .val (.ref bc), .val (.int (0 : Int32)), .val (.int (2 : Int32)), .val .null, .unset] [])
  refine Go.step (T' := s₁) (f' := (mkF m 1 #[.val (.ref ba), .val (.ref bc), .val (.int (0 : Int32)), .val (.int (2 : Int32)), .val .null, .unset] [(.ref ba)])) (fun t k => XS.aloadN X0.here hx rfl (hb hby d2_0) rfl rfl k) ?_
  obtain ⟨T35, X35, e35, st35⟩ := initO X0 hx hZ hown (hw _ (List.mem_of_getElem? (i := 11) rfl)) (hw _ (List.mem_of_getElem? (i := 12) rfl)) (hw _ (List.mem_of_getElem? (i := 13) rfl)) e0 (g := (mkF m 1 #[.val (.ref ba), .val (.ref bc), .val (.int (0 : Int32)), .val (.int (2 : Int32)), .val .null, .unset] [(.ref ba)])) rfl (by rw [hml]; rfl) rfl (hb hby d2_1) (by decide) (W := 0) (by show 2 * 0 + _ ≤ _; exact Nat.le_of_eq rfl) (by decide)
  refine Go.step (T' := T35) (f' := (mkF m 4 #[.val (.ref ba), .val (.ref bc), .val (.int (0 : Int32)), .val (.int (2 : Int32)), .val .null, .unset] [])) st35 ?_
  refine Go.step (T' := T35) (f' := (mkF m 5 #[.val (.ref ba), .val (.ref bc), .val (.int (0 : Int32)), .val (.int (2 : Int32)), .val .null, .unset] [(.int (2 : Int32))])) (fun t k => XS.iloadN X35.here hx rfl (hb hby d2_4) rfl k) ?_
  refine Go.step (T' := T35) (f' := (mkF m 27 #[.val (.ref ba), .val (.ref bc), .val (.int (0 : Int32)), .val (.int (2 : Int32)), .val .null, .unset] [])) (fun t k => XS.ifYes X35.here hx rfl (pc0 := 5) (pc' := 27) rfl (hb hby d2_5) rfl ((if0 _ _).trans (feq (by decide : ¬ ((2 : Int32) = (0 : Int32)))).2) (by decide) (by decide) k) ?_
  obtain ⟨T36, X36, e36, st36⟩ := getS2 X35 hx hZ hown (host := "") (Or.inl (hw _ (List.mem_of_getElem? (i := 14) rfl))) Via.refl e35 (P6.ext O0.2) (g := (mkF m 27 #[.val (.ref ba), .val (.ref bc), .val (.int (0 : Int32)), .val (.int (2 : Int32)), .val .null, .unset] [])) rfl (hb hby d2_27)
  refine Go.step (T' := T36) (f' := (mkF m 30 #[.val (.ref ba), .val (.ref bc), .val (.int (0 : Int32)), .val (.int (2 : Int32)), .val .null, .unset] [(.int wz)])) st36 ?_
  refine Go.step (T' := T36) (f' := (mkF m 33 #[.val (.ref ba), .val (.ref bc), .val (.int (0 : Int32)), .val (.int (2 : Int32)), .val .null, .unset] [])) (fun t k => XS.ifNo X36.here hx rfl (hb hby d2_30) rfl ((if0 _ _).trans (feq hwz).1) k) ?_
  refine Go.step (T' := T36) (f' := (mkF m 34 #[.val (.ref ba), .val (.ref bc), .val (.int (0 : Int32)), .val (.int (2 : Int32)), .val .null, .unset] [(.ref bc)])) (fun t k => XS.aloadN X36.here hx rfl (hb hby d2_33) rfl rfl k) ?_
  refine Go.step (T' := T36) (f' := (mkF m 35 #[.val (.ref ba), .val (.ref bc), .val (.int (0 : Int32)), .val (.int (2 : Int32)), .val .null, .unset] [(.int (0 : Int32)), (.ref bc)])) (fun t k => XS.iloadN X36.here hx rfl (hb hby d2_34) rfl k) ?_
  refine Go.step (T' := T36) (f' := (mkF m 36 #[.val (.ref ba), .val (.ref bc), .val (.int (0 : Int32)), .val (.int (2 : Int32)), .val .null, .unset] [(.int (2 : Int32)), (.int (0 : Int32)), (.ref bc)])) (fun t k => XS.iloadN X36.here hx rfl (hb hby d2_35) rfl k) ?_
  obtain ⟨_, _, ⟨T37, L37, k37, n37⟩, -, X37, ⟨Lc37, hQ37, l37, y37, z37⟩, st37⟩ := Jvm.LawKit.callS X36 hx (y := (⟨"java/lang/StringUTF16", "compress", "([CII)[B"⟩ : MethodName)) hown (mvT hZ (hw _ (List.mem_of_getElem? (i := 15) rfl))) (mvT hZ (hw _ (List.mem_of_getElem? (i := 16) rfl))) (mvT hZ (hw _ (List.mem_of_getElem? (i := 17) rfl))) (mvT hZ (hw _ (List.mem_of_getElem? (i := 18) rfl))) (by decide) (backOf (W := 0) (rm_cmp2 l Z a0 hw [] bc kc cc0 cc1 h0 n0 O0 P4 hc0 hc1) hZ (hw _ (List.mem_of_getElem? (i := 18) rfl)) (hw _ (List.mem_of_getElem? (i := 17) rfl)) (by decide) (by decide)) (g := (mkF m 36 #[.val (.ref ba), .val (.ref bc), .val (.int (0 : Int32)), .val (.int (2 : Int32)), .val .null, .unset] [(.int (2 : Int32)), (.int (0 : Int32)), (.ref bc)])) rfl (by rw [hml]; rfl) (argsL := [(.ref bc), (.int (0 : Int32)), (.int (2 : Int32))]) (rest := []) (lenOf pd1 rfl) rfl (by show 2 * 0 + _ ≤ _; exact Nat.le_of_eq rfl) (hb hby d2_36) (fun _ _ => ⟨rfl, e36, (by decide : 0 + 1 ≤ _), (by decide : 0 + 2 ≤ _)⟩)
  dsimp only [Pt.U, Pt.locs, Pt.cells, Pt.slots] at X37 l37 y37 z37 st37 hQ37
  subst l37 y37 z37
  obtain ⟨u38, u39, rfl, Nq37, hh37, p40, p41⟩ := hQ37
  have N42 := Fr.app N0 Nq37
  have f43 := P0.keep hh37
  have f44 := P1.keep hh37 nin0
  have f45 := P2.keep hh37 nin0
  have f46 := P4.keep hh37 nin0
  have O47 := O0.keep hh37 all0
  have K48 := K0.trans hh37 all0
  have g49 : n0 ≤ u38 := Nat.le_trans (own_old_le O0) p40
  have g50 : h0.size ≤ u38 := Nat.le_trans K0.1 p40
  have ne51 : ba ≠ u38 := Nat.ne_of_lt (Nat.lt_of_lt_of_le P0.lt p40)
  have ne52 : bc ≠ u38 := Nat.ne_of_lt (Nat.lt_of_lt_of_le P4.lt p40)
  refine Go.step (T' := T37) (f' := (mkF m 39 #[.val (.ref ba), .val (.ref bc), .val (.int (0 : Int32)), .val (.int (2 : Int32)), .val .null, .unset] [(.ref u38)])) st37 ?_
  refine Go.step (T' := T37) (f' := (mkF m 41 #[.val (.ref ba), .val (.ref bc), .val (.int (0 : Int32)), .val (.int (2 : Int32)), .val .null, .val (.ref u38)] [])) (fun t k => XS.astore X37.here hx rfl (hb hby d2_39) rfl rfl (l' := #[.val (.ref ba), .val (.ref bc), .val (.int (0 : Int32)), .val (.int (2 : Int32)), .val .null, .val (.ref u38)]) rfl k) ?_
  refine Go.step (T' := T37) (f' := (mkF m 42 #[.val (.ref ba), .val (.ref bc), .val (.int (0 : Int32)), .val (.int (2 : Int32)), .val .null, .val (.ref u38)] [(.ref ba)])) (fun t k => XS.aloadN X37.here hx rfl (hb hby d2_41) rfl rfl k) ?_
  refine Go.step (T' := T37) (f' := (mkF m 44 #[.val (.ref ba), .val (.ref bc), .val (.int (0 : Int32)), .val (.int (2 : Int32)), .val .null, .val (.ref u38)] [(.ref u38), (.ref ba)])) (fun t k => XS.aload X37.here hx rfl (hb hby d2_42) rfl rfl k) ?_
  refine Go.step (T' := T37) (f' := (mkF m 45 #[.val (.ref ba), .val (.ref bc), .val (.int (0 : Int32)), .val (.int (2 : Int32)), .val .null, .val (.ref u38)] [(.int (2 : Int32)), (.ref u38), (.ref ba)])) (fun t k => XS.iloadN X37.here hx rfl (hb hby d2_44) rfl k) ?_
  obtain ⟨_, _, ⟨T53, L53, k53, n53⟩, -, X53, ⟨Lc53, hQ53, l53, y53, z53⟩, st53⟩ := Jvm.LawKit.callS X37 hx (y := (⟨"java/lang/StringUTF16", "coderFromArrayLen", "([BI)B"⟩ : MethodName)) hown (mvT hZ (hw _ (List.mem_of_getElem? (i := 23) rfl))) (mvT hZ (hw _ (List.mem_of_getElem? (i := 24) rfl))) (mvT hZ (hw _ (List.mem_of_getElem? (i := 17) rfl))) (mvT hZ (hw _ (List.mem_of_getElem? (i := 25) rfl))) (by decide) (backOf (W := 1) (rm_cod2 l Z a0 hw [] u38 u39 (cc0.toInt8.toInt32) (cc1.toInt8.toInt32) T37.heap n0 O47 p41) hZ (hw _ (List.mem_of_getElem? (i := 25) rfl)) (hw _ (List.mem_of_getElem? (i := 17) rfl)) (by decide) (by decide)) (g := (mkF m 45 #[.val (.ref ba), .val (.ref bc), .val (.int (0 : Int32)), .val (.int (2 : Int32)), .val .null, .val (.ref u38)] [(.int (2 : Int32)), (.ref u38), (.ref ba)])) rfl (by rw [hml]; rfl) (argsL := [(.ref u38), (.int (2 : Int32))]) (rest := [(.ref ba)]) (lenOf pd2 rfl) rfl (by show 2 * 0 + _ ≤ _; exact Nat.le_of_eq rfl) (hb hby d2_45) (fun _ _ => ⟨rfl, rfl, (by decide : 1 + 0 ≤ _), (by decide : 2 + 0 ≤ _)⟩)
  dsimp only [Pt.U, Pt.locs, Pt.cells, Pt.slots] at X53 l53 y53 z53 st53 hQ53
  subst l53 y53 z53
  obtain ⟨rfl, Nq53, hh53⟩ := hQ53
  have N54 := Fr.app N42 Nq53
  refine Go.step (T' := T53) (f' := (mkF m 48 #[.val (.ref ba), .val (.ref bc), .val (.int (0 : Int32)), .val (.int (2 : Int32)), .val .null, .val (.ref u38)] [(.int (0 : Int32)), (.ref ba)])) st53 ?_
  obtain ⟨T55, h55, X55, e55, W55, st55⟩ := putFN X53 hx hZ hown (hw _ (List.mem_of_getElem? (i := 26) rfl)) Via.refl hh53 f45 f43 (Or.inr ⟨(hw _ (List.mem_of_getElem? (i := 27) rfl)), rfl, hnm⟩) (hw _ (List.mem_of_getElem? (i := 2) rfl)) (ty := .byte) (v' := (.int (0 : Int32))) (by decide) rfl (by decide) (g := (mkF m 48 #[.val (.ref ba), .val (.ref bc), .val (.int (0 : Int32)), .val (.int (2 : Int32)), .val .null, .val (.ref u38)] [(.int (0 : Int32)), (.ref ba)])) rfl rfl (hb hby d2_48)
  have f56 := f45.same W55
  have f57 := f43.wr W55
  have f58 := f44.other W55 (Or.inr (slot_ne (Or.inr (hw _ (List.mem_of_getElem? (i := 29) rfl))) (Or.inr (hw _ (List.mem_of_getElem? (i := 27) rfl))) (by decide) (t := (.array .byte)) (t' := .byte) (by decide) (by decide)))
  have f59 := f46.other W55 P5
  have f60 := p41.other W55 (Ne.symm ne51)
  have O61 := O47.wr W55 P3
  have K62 := K48.wr W55 (Or.inl (List.mem_of_getElem? (i := 0) rfl))
  have N63 := Fr.snoc X55 N54 P3
  refine Go.step (T' := T55) (f' := (mkF m 51 #[.val (.ref ba), .val (.ref bc), .val (.int (0 : Int32)), .val (.int (2 : Int32)), .val .null, .val (.ref u38)] [])) st55 ?_
  refine Go.step (T' := T55) (f' := (mkF m 52 #[.val (.ref ba), .val (.ref bc), .val (.int (0 : Int32)), .val (.int (2 : Int32)), .val .null, .val (.ref u38)] [(.ref ba)])) (fun t k => XS.aloadN X55.here hx rfl (hb hby d2_51) rfl rfl k) ?_
  refine Go.step (T' := T55) (f' := (mkF m 54 #[.val (.ref ba), .val (.ref bc), .val (.int (0 : Int32)), .val (.int (2 : Int32)), .val .null, .val (.ref u38)] [(.ref u38), (.ref ba)])) (fun t k => XS.aload X55.here hx rfl (hb hby d2_52) rfl rfl k) ?_
  obtain ⟨T64, h64, X64, e64, W64, st64⟩ := putF X55 hx hZ hown (host := "") (Or.inl (hw _ (List.mem_of_getElem? (i := 28) rfl))) Via.refl e55 f58 f57 (Or.inr ⟨(hw _ (List.mem_of_getElem? (i := 29) rfl)), rfl, hnm⟩) (hw _ (List.mem_of_getElem? (i := 2) rfl)) (ty := (.array .byte)) (by decide) rfl rfl (g := (mkF m 54 #[.val (.ref ba), .val (.ref bc), .val (.int (0 : Int32)), .val (.int (2 : Int32)), .val .null, .val (.ref u38)] [(.ref u38), (.ref ba)])) rfl rfl (hb hby d2_54)
  have f65 := f58.same W64
  have f66 := f57.wr W64
  have f67 := f59.other W64 P5
  have f68 := f60.other W64 (Ne.symm ne51)
  have f69 := f56.other W64 (Or.inr (slot_ne (Or.inr (hw _ (List.mem_of_getElem? (i := 27) rfl))) (Or.inr (hw _ (List.mem_of_getElem? (i := 29) rfl))) (by decide) (t := .byte) (t' := (.array .byte)) (by decide) (by decide)))
  have O70 := O61.wr W64 P3
  have K71 := K62.wr W64 (Or.inl (List.mem_of_getElem? (i := 0) rfl))
  have N72 := Fr.snoc X64 N63 P3
  refine Go.step (T' := T64) (f' := (mkF m 57 #[.val (.ref ba), .val (.ref bc), .val (.int (0 : Int32)), .val (.int (2 : Int32)), .val .null, .val (.ref u38)] [])) st64 ?_
  refine Go.retV X64 hx hlk Bd.returns (hb hby d2_57) e64 ?_ (by decide) (by decide)
  exact ⟨u38, u39, rfl, N72, K71, f66, f65, f69, g50, f68⟩
theorem d1_0 : decode jdk_42_method_3_code 0 = .ok (.aload_n 0, 1) := by decide +kernel
theorem d1_1 : decode jdk_42_method_3_code 1 = .ok (.aload_n 1, 1) := by decide +kernel
theorem d1_2 : decode jdk_42_method_3_code 2 = .ok (.iconst 0, 1) := by decide +kernel
theorem d1_3 : decode jdk_42_method_3_code 3 = .ok (.aload_n 1, 1) := by decide +kernel
theorem d1_4 : decode jdk_42_method_3_code 4 = .ok (.arraylength, 1) := by decide +kernel
theorem d1_5 : decode jdk_42_method_3_code 5 = .ok (.aconst_null, 1) := by decide +kernel
theorem d1_6 : decode jdk_42_method_3_code 6 = .ok (.invokespecial 27, 3) := by decide +kernel
theorem d1_9 : decode jdk_42_method_3_code 9 = .ok (.return_, 1) := by decide +kernel
theorem pd3 : parseMethodDescriptor "([CIILjava/lang/Void;)V" = some ⟨[(.array .char), .int, .int, (.object "java/lang/Void")], none⟩ := by decide +kernel
theorem ef_ini1_2 (m : MethodId) (ba : Addr) (bc : Addr) : entryFrame m #[(.ref ba), (.ref bc)] 2 = mkF m 0 #[.val (.ref ba), .val (.ref bc)] [] := by first | (simp [entryFrame, mkF, argsToLocals, Value.category]; done) | rfl
def Q_ini1_2 (Z : State) (ba : Addr) (bc : Addr) (kc : ClassId) (cc0 : Int32) (cc1 : Int32) (u0 : Value) (u1 : Value) (wz : Int32) (h0 : Heap) (n0 : Nat) (v : Option Value) (h : Heap) (L : List Loc) : Prop := ∃ bb : Addr, ∃ kb : ClassId, v = none ∧ Fr n0 L ∧ Keep h0 h [ba] ∧ Exa Z h ba "java/lang/String" ∧ Fld Z h ba "java/lang/String" "value" "[B" (.ref bb) ∧ Fld Z h ba "java/lang/String" "coder" "B" (.int (0 : Int32)) ∧ h0.size ≤ bb ∧ Arv Z h bb kb .byte (2 : Int32) [(.int (cc0.toInt8.toInt32)), (.int (cc1.toInt8.toInt32))] (.int (0 : Int32))
set_option maxRecDepth 65536 in
set_option maxHeartbeats 40000000 in
theorem rm_ini1_2 (l : Launch) (Z : State) (a0 : Array Value) (hw : ∀ d ∈ tables_1, d.before a0 Z = true) (ws : List Jvm.Cond) (ba : Addr) (bc : Addr) (kc : ClassId) (cc0 : Int32) (cc1 : Int32) (u0 : Value) (u1 : Value) (wz : Int32) (h0 : Heap) (n0 : Nat) (O0 : Old Z n0 h0) (P0 : Exa Z h0 ba "java/lang/String") (P1 : Fld Z h0 ba "java/lang/String" "value" "[B" u0) (P2 : Fld Z h0 ba "java/lang/String" "coder" "B" u1) (P3 : n0 ≤ ba) (P4 : Arv Z h0 bc kc .char (2 : Int32) [(.int cc0), (.int cc1)] (.int (0 : Int32))) (P5 : bc ≠ ba) (P6 : Sta Z Z.heap "java/lang/String" "COMPACT_STRINGS" "Z" (.int wz)) (hwz : ¬ (wz = (0 : Int32))) (hc0 : ¬ ((255 : Int32) < cc0)) (hc1 : ¬ ((255 : Int32) < cc1)) :
    MetFree l (⟨"java/lang/String", "<init>", "([C)V"⟩ : MethodName) (head1 (Jvm.Cond.code (⟨"java/lang/String", "<init>", "([C)V"⟩ : MethodName) jdk_42_method_3_code 2 none :: ws) ({ frames := 3, cells := 1, slots := 2, locals := 52 } : Room)) (fun a U => a = #[(.ref ba), (.ref bc)] ∧ Z.Warmed39 U.vm ∧ U.heap = h0) (fun _ _ _ _ _ => True) (fun _ U o U' => ∃ v L, o = .returned v ∧ Q_ini1_2 Z ba bc kc cc0 cc1 u0 u1 wz h0 n0 v U'.heap L ∧ FrameEnd U o U' L ({ frames := 3, cells := 1, slots := 2, locals := 52 } : Room).cells ({ frames := 3, cells := 1, slots := 2, locals := 52 } : Room).slots) := by
  refine MetFree.of_bodySF (plainFor_of_name pn_java_lang_String) hisR ?_
  intro p e s m args below meth c s₁ Bd hml0 hP hK
  obtain ⟨rfl, hZ, hh⟩ := hP
  have hx := Bd.exec
  have hby := Bd.bytes
  have hml : c.maxLocals = 2 := hml0
  have hown : s.vm.findClass "java/lang/String" = some m.cls := findClass_of_methodNamed Bd.named
  have hnm := (name_of_methodNamed Bd.named Bd.method).1
  have hlk : meth.locks = false := BodyLoose.notSynchronized Bd
  have X0 : Stand p l e ({ frames := 3, cells := 1, slots := 2, locals := 52 } : Room) s m #[(.ref ba), (.ref bc)] below meth c s₁ [] 0 0 := Stand.of_body Bd
  have e0 : s₁.heap = h0 := by rw [← hh, Bd.state]; rfl
  have N0 := Fr.nil n0
  have K0 := Keep.refl h0 [ba]
  rw [ef_ini1_2 m ba bc]
  show Go p e below s (fun v h L => Q_ini1_2 Z ba bc kc cc0 cc1 u0 u1 wz h0 n0 v h L) ({ frames := 3, cells := 1, slots := 2, locals := 52 } : Room).cells ({ frames := 3, cells := 1, slots := 2, locals := 52 } : Room).slots s₁ (mkF m 0 #[.val (.ref ba), .val (.ref bc)] [])
  refine Go.step (T' := s₁) (f' := (mkF m 1 #[.val (.ref ba), .val (.ref bc)] [(.ref ba)])) (fun t k => XS.aloadN X0.here hx rfl (hb hby d1_0) rfl rfl k) ?_
  refine Go.step (T' := s₁) (f' := (mkF m 2 #[.val (.ref ba), .val (.ref bc)] [(.ref bc), (.ref ba)])) (fun t k => XS.aloadN X0.here hx rfl (hb hby d1_1) rfl rfl k) ?_
  refine Go.step (T' := s₁) (f' := (mkF m 3 #[.val (.ref ba), .val (.ref bc)] [(.int (0 : Int32)), (.ref bc), (.ref ba)])) (fun t k => XS.iconst X0.here hx rfl (hb hby d1_2) k) ?_
  refine Go.step (T' := s₁) (f' := (mkF m 4 #[.val (.ref ba), .val (.ref bc)] [(.ref bc), (.int (0 : Int32)), (.ref bc), (.ref ba)])) (fun t k => XS.aloadN X0.here hx rfl (hb hby d1_3) rfl rfl k) ?_
  obtain ⟨ca73, Aa73, qa73, Sa73, Na73, Ha73, Ga73⟩ := id P4
  refine Go.step (T' := s₁) (f' := (mkF m 5 #[.val (.ref ba), .val (.ref bc)] [(.int (2 : Int32)), (.int (0 : Int32)), (.ref bc), (.ref ba)])) (fun t k => own_alen X0 hx hZ e0 Aa73 Sa73 Na73 (g := (mkF m 4 #[.val (.ref ba), .val (.ref bc)] [(.ref bc), (.int (0 : Int32)), (.ref bc), (.ref ba)])) rfl rfl (hb hby d1_4) k) ?_
  refine Go.step (T' := s₁) (f' := (mkF m 6 #[.val (.ref ba), .val (.ref bc)] [.null, (.int (2 : Int32)), (.int (0 : Int32)), (.ref bc), (.ref ba)])) (fun t k => XS.aconstNull X0.here hx rfl (hb hby d1_5) k) ?_
  obtain ⟨_, _, ⟨T74, L74, k74, n74⟩, -, X74, ⟨Lc74, hQ74, l74, y74, z74⟩, st74⟩ := X0.specialBack hx (y := (⟨"java/lang/String", "<init>", "([CIILjava/lang/Void;)V"⟩ : MethodName)) rfl hown (mvT hZ (hw _ (List.mem_of_getElem? (i := 7) rfl))) (mvT hZ (hw _ (List.mem_of_getElem? (i := 8) rfl))) (mvT hZ (hw _ (List.mem_of_getElem? (i := 10) rfl))) (by decide) (backOf (W := 0) (rm_ini4_2 l Z a0 hw [] ba bc kc cc0 cc1 u0 u1 wz h0 n0 O0 P0 P1 P2 P3 P4 P5 P6 hwz hc0 hc1) hZ (hw _ (List.mem_of_getElem? (i := 10) rfl)) (hw _ (List.mem_of_getElem? (i := 3) rfl)) (by decide) (by decide)) (g := (mkF m 6 #[.val (.ref ba), .val (.ref bc)] [.null, (.int (2 : Int32)), (.int (0 : Int32)), (.ref bc), (.ref ba)])) rfl (by rw [hml]; rfl) (Steps.refl _) (a := ba) (argsL := [(.ref bc), (.int (0 : Int32)), (.int (2 : Int32)), .null]) (rest := []) (lenOf pd3 rfl) rfl (by show 2 * 0 + _ ≤ _; exact Nat.le_of_eq rfl) (hb hby d1_6) (fun _ _ => ⟨rfl, e0, (by decide : 0 + 1 ≤ _), (by decide : 0 + 2 ≤ _)⟩)
  dsimp only [Pt.U, Pt.locs, Pt.cells, Pt.slots] at X74 l74 y74 z74 st74 hQ74
  subst l74 y74 z74
  obtain ⟨u75, u76, rfl, Nq74, hh74, p77, p78, p79, p80, p81⟩ := hQ74
  have N82 := Fr.app N0 Nq74
  have f83 := P0.keep hh74
  have f84 := P4.keep hh74 (ninS P5 nin0)
  have O85 := O0.keep hh74 (allS P3 all0)
  have K86 := K0.trans hh74 (allS (Or.inl (List.mem_of_getElem? (i := 0) rfl)) all0)
  have g87 : n0 ≤ u75 := Nat.le_trans (own_old_le O0) p80
  have g88 : h0.size ≤ u75 := Nat.le_trans K0.1 p80
  have ne89 : ba ≠ u75 := Nat.ne_of_lt (Nat.lt_of_lt_of_le P0.lt p80)
  have ne90 : bc ≠ u75 := Nat.ne_of_lt (Nat.lt_of_lt_of_le P4.lt p80)
  refine Go.via (T' := T74) (f' := (mkF m 9 #[.val (.ref ba), .val (.ref bc)] [])) st74 ?_
  refine Go.retV X74 hx hlk Bd.returns (hb hby d1_9) rfl ?_ (by decide) (by decide)
  exact ⟨u75, u76, rfl, N82, K86, p77, p78, p79, g88, p81⟩
theorem d8_0 : decode jdk_30_method_1_code 0 = .ok (.aload_n 0, 1) := by decide +kernel
theorem d8_1 : decode jdk_30_method_1_code 1 = .ok (.invokespecial 1, 3) := by decide +kernel
theorem d8_4 : decode jdk_30_method_1_code 4 = .ok (.return_, 1) := by decide +kernel
theorem pn_java_lang_Record : plainName "java/lang/Record" = true := by first | (simp [plainName, overriddenIn]; done) | decide +kernel
theorem ef_rec (m : MethodId) (ba : Addr) : entryFrame m #[(.ref ba)] 1 = mkF m 0 #[.val (.ref ba)] [] := by first | (simp [entryFrame, mkF, argsToLocals, Value.category]; done) | rfl
def Q_rec (Z : State) (ba : Addr) (h0 : Heap) (n0 : Nat) (v : Option Value) (h : Heap) (L : List Loc) : Prop := v = none ∧ Fr n0 L ∧ h = h0
set_option maxRecDepth 65536 in
set_option maxHeartbeats 40000000 in
theorem rm_rec (l : Launch) (Z : State) (a0 : Array Value) (hw : ∀ d ∈ tables_1, d.before a0 Z = true) (ws : List Jvm.Cond) (ba : Addr) (h0 : Heap) (n0 : Nat) (O0 : Old Z n0 h0) :
    MetFree l (⟨"java/lang/Record", "<init>", "()V"⟩ : MethodName) (head1 (Jvm.Cond.code (⟨"java/lang/Record", "<init>", "()V"⟩ : MethodName) jdk_30_method_1_code 1 none :: ws) ({ frames := 1, cells := 0, slots := 0, locals := 12 } : Room)) (fun a U => a = #[(.ref ba)] ∧ Z.Warmed39 U.vm ∧ U.heap = h0) (fun _ _ _ _ _ => True) (fun _ U o U' => ∃ v L, o = .returned v ∧ Q_rec Z ba h0 n0 v U'.heap L ∧ FrameEnd U o U' L ({ frames := 1, cells := 0, slots := 0, locals := 12 } : Room).cells ({ frames := 1, cells := 0, slots := 0, locals := 12 } : Room).slots) := by
  refine MetFree.of_bodySF (plainFor_of_name pn_java_lang_Record) hisR ?_
  intro p e s m args below meth c s₁ Bd hml0 hP hK
  obtain ⟨rfl, hZ, hh⟩ := hP
  have hx := Bd.exec
  have hby := Bd.bytes
  have hml : c.maxLocals = 1 := hml0
  have hown : s.vm.findClass "java/lang/Record" = some m.cls := findClass_of_methodNamed Bd.named
  have hnm := (name_of_methodNamed Bd.named Bd.method).1
  have hlk : meth.locks = false := BodyLoose.notSynchronized Bd
  have X0 : Stand p l e ({ frames := 1, cells := 0, slots := 0, locals := 12 } : Room) s m #[(.ref ba)] below meth c s₁ [] 0 0 := Stand.of_body Bd
  have e0 : s₁.heap = h0 := by rw [← hh, Bd.state]; rfl
  have N0 := Fr.nil n0
  rw [ef_rec m ba]
  show Go p e below s (fun v h L => Q_rec Z ba h0 n0 v h L) ({ frames := 1, cells := 0, slots := 0, locals := 12 } : Room).cells ({ frames := 1, cells := 0, slots := 0, locals := 12 } : Room).slots s₁ (mkF m 0 #[.val (.ref ba)] [])
  refine Go.step (T' := s₁) (f' := (mkF m 1 #[.val (.ref ba)] [(.ref ba)])) (fun t k => XS.aloadN X0.here hx rfl (hb hby d8_0) rfl rfl k) ?_
  obtain ⟨T91, X91, e91, st91⟩ := initO X0 hx hZ hown (hw _ (List.mem_of_getElem? (i := 41) rfl)) (hw _ (List.mem_of_getElem? (i := 12) rfl)) (hw _ (List.mem_of_getElem? (i := 13) rfl)) e0 (g := (mkF m 1 #[.val (.ref ba)] [(.ref ba)])) rfl (by rw [hml]; rfl) rfl (hb hby d8_1) (by decide) (W := 0) (by show 2 * 0 + _ ≤ _; exact Nat.le_of_eq rfl) (by decide)
  refine Go.step (T' := T91) (f' := (mkF m 4 #[.val (.ref ba)] [])) st91 ?_
  refine Go.retV X91 hx hlk Bd.returns (hb hby d8_4) e91 ?_ (by decide) (by decide)
  exact ⟨rfl, N0, rfl⟩
theorem d7_0 : decode prog_17_method_1_code 0 = .ok (.aload_n 0, 1) := by decide +kernel
theorem d7_1 : decode prog_17_method_1_code 1 = .ok (.invokespecial 1, 3) := by decide +kernel
theorem d7_4 : decode prog_17_method_1_code 4 = .ok (.aload_n 0, 1) := by decide +kernel
theorem d7_5 : decode prog_17_method_1_code 5 = .ok (.lload_n 1, 1) := by decide +kernel
theorem d7_6 : decode prog_17_method_1_code 6 = .ok (.putfield 7, 3) := by decide +kernel
theorem d7_9 : decode prog_17_method_1_code 9 = .ok (.aload_n 0, 1) := by decide +kernel
theorem d7_10 : decode prog_17_method_1_code 10 = .ok (.iload_n 3, 1) := by decide +kernel
theorem d7_11 : decode prog_17_method_1_code 11 = .ok (.putfield 13, 3) := by decide +kernel
theorem d7_14 : decode prog_17_method_1_code 14 = .ok (.aload_n 0, 1) := by decide +kernel
theorem d7_15 : decode prog_17_method_1_code 15 = .ok (.iload 4, 2) := by decide +kernel
theorem d7_17 : decode prog_17_method_1_code 17 = .ok (.putfield 17, 3) := by decide +kernel
theorem d7_20 : decode prog_17_method_1_code 20 = .ok (.aload_n 0, 1) := by decide +kernel
theorem d7_21 : decode prog_17_method_1_code 21 = .ok (.aload 5, 2) := by decide +kernel
theorem d7_23 : decode prog_17_method_1_code 23 = .ok (.putfield 20, 3) := by decide +kernel
theorem d7_26 : decode prog_17_method_1_code 26 = .ok (.aload_n 0, 1) := by decide +kernel
theorem d7_27 : decode prog_17_method_1_code 27 = .ok (.iload 6, 2) := by decide +kernel
theorem d7_29 : decode prog_17_method_1_code 29 = .ok (.putfield 24, 3) := by decide +kernel
theorem d7_32 : decode prog_17_method_1_code 32 = .ok (.return_, 1) := by decide +kernel
theorem pn_com_example_ferryline_ferryline_core_AttemptEnd : plainName "com/example/ferryline/ferryline/core/AttemptEnd" = true := by first | (simp [plainName, overriddenIn]; done) | decide +kernel
theorem pd4 : parseMethodDescriptor "()V" = some ⟨[], none⟩ := by decide +kernel
theorem ef_init (m : MethodId) (ba : Addr) (ja : Int64) (ia : Int32) (ib : Int32) (bs : Addr) (ic : Int32) : entryFrame m #[(.ref ba), (.long ja), (.int ia), (.int ib), (.ref bs), (.int ic)] 7 = mkF m 0 #[.val (.ref ba), .val (.long ja), .second, .val (.int ia), .val (.int ib), .val (.ref bs), .val (.int ic)] [] := by first | (simp [entryFrame, mkF, argsToLocals, Value.category]; done) | rfl
def Q_init (Z : State) (ba : Addr) (ja : Int64) (ia : Int32) (ib : Int32) (bs : Addr) (ic : Int32) (u0 : Value) (u1 : Value) (u2 : Value) (u3 : Value) (u4 : Value) (h0 : Heap) (n0 : Nat) (v : Option Value) (h : Heap) (L : List Loc) : Prop := v = none ∧ Fr n0 L ∧ Keep h0 h [ba] ∧ Exa Z h ba "com/example/ferryline/ferryline/core/AttemptEnd" ∧ Fld Z h ba "com/example/ferryline/ferryline/core/AttemptEnd" "exitCode" "I" (.int ib) ∧ Fld Z h ba "com/example/ferryline/ferryline/core/AttemptEnd" "atTimeLimit" "Z" (.int (nar .boolean ic))
set_option maxRecDepth 65536 in
set_option maxHeartbeats 40000000 in
theorem rm_init (l : Launch) (Z : State) (a0 : Array Value) (hw : ∀ d ∈ tables_1, d.before a0 Z = true) (ws : List Jvm.Cond) (ba : Addr) (ja : Int64) (ia : Int32) (ib : Int32) (bs : Addr) (ic : Int32) (u0 : Value) (u1 : Value) (u2 : Value) (u3 : Value) (u4 : Value) (h0 : Heap) (n0 : Nat) (O0 : Old Z n0 h0) (P0 : Exa Z h0 ba "com/example/ferryline/ferryline/core/AttemptEnd") (P1 : Fld Z h0 ba "com/example/ferryline/ferryline/core/AttemptEnd" "task" "J" u0) (P2 : Fld Z h0 ba "com/example/ferryline/ferryline/core/AttemptEnd" "attempt" "I" u1) (P3 : Fld Z h0 ba "com/example/ferryline/ferryline/core/AttemptEnd" "exitCode" "I" u2) (P4 : Fld Z h0 ba "com/example/ferryline/ferryline/core/AttemptEnd" "output" "Ljava/lang/String;" u3) (P5 : Fld Z h0 ba "com/example/ferryline/ferryline/core/AttemptEnd" "atTimeLimit" "Z" u4) (P6 : n0 ≤ ba) :
    MetFree l (⟨"com/example/ferryline/ferryline/core/AttemptEnd", "<init>", "(JIILjava/lang/String;Z)V"⟩ : MethodName) (head1 (Jvm.Cond.code (⟨"com/example/ferryline/ferryline/core/AttemptEnd", "<init>", "(JIILjava/lang/String;Z)V"⟩ : MethodName) prog_17_method_1_code 7 none :: ws) ({ frames := 2, cells := 0, slots := 0, locals := 24 } : Room)) (fun a U => a = #[(.ref ba), (.long ja), (.int ia), (.int ib), (.ref bs), (.int ic)] ∧ Z.Warmed39 U.vm ∧ U.heap = h0) (fun _ _ _ _ _ => True) (fun _ U o U' => ∃ v L, o = .returned v ∧ Q_init Z ba ja ia ib bs ic u0 u1 u2 u3 u4 h0 n0 v U'.heap L ∧ FrameEnd U o U' L ({ frames := 2, cells := 0, slots := 0, locals := 24 } : Room).cells ({ frames := 2, cells := 0, slots := 0, locals := 24 } : Room).slots) := by
  refine MetFree.of_bodySF (plainFor_of_name pn_com_example_ferryline_ferryline_core_AttemptEnd) hisR ?_
  intro p e s m args below meth c s₁ Bd hml0 hP hK
  obtain ⟨rfl, hZ, hh⟩ := hP
  have hx := Bd.exec
  have hby := Bd.bytes
  have hml : c.maxLocals = 7 := hml0
  have hown : s.vm.findClass "com/example/ferryline/ferryline/core/AttemptEnd" = some m.cls := findClass_of_methodNamed Bd.named
  have hnm := (name_of_methodNamed Bd.named Bd.method).1
  have hlk : meth.locks = false := BodyLoose.notSynchronized Bd
  have X0 : Stand p l e ({ frames := 2, cells := 0, slots := 0, locals := 24 } : Room) s m #[(.ref ba), (.long ja), (.int ia), (.int ib), (.ref bs), (.int ic)] below meth c s₁ [] 0 0 := Stand.of_body Bd
  have e0 : s₁.heap = h0 := by rw [← hh, Bd.state]; rfl
  have N0 := Fr.nil n0
  have K0 := Keep.refl h0 [ba]
  rw [ef_init m ba ja ia ib bs ic]
  show Go p e below s (fun v h L => Q_init Z ba ja ia ib bs ic u0 u1 u2 u3 u4 h0 n0 v h L) ({ frames := 2, cells := 0, slots := 0, locals := 24 } : Room).cells ({ frames := 2, cells := 0, slots := 0, locals := 24 } : Room).slots s₁ (mkF m 0 #[.val (.ref ba), .val (.long ja), .second, .val (.int ia), .val (.int ib), .val (.ref bs), .val (.int ic)] [])
  refine Go.step (T' := s₁) (f' := (mkF m 1 #[.val (.ref ba), .val (.long ja), .second, .val (.int ia), .val (.int ib), .val (.ref bs), .val (.int ic)] [(.ref ba)])) (fun t k => XS.aloadN X0.here hx rfl (hb hby d7_0) rfl rfl k) ?_
  obtain ⟨_, _, ⟨T92, L92, k92, n92⟩, -, X92, ⟨Lc92, hQ92, l92, y92, z92⟩, st92⟩ := X0.specialBack hx (y := (⟨"java/lang/Record", "<init>", "()V"⟩ : MethodName)) rfl hown (mvT hZ (hw _ (List.mem_of_getElem? (i := 36) rfl))) (mvT hZ (hw _ (List.mem_of_getElem? (i := 37) rfl))) (mvT hZ (hw _ (List.mem_of_getElem? (i := 40) rfl))) (by decide) (backOf (W := 0) (rm_rec l Z a0 hw [] ba h0 n0 O0 ) hZ (hw _ (List.mem_of_getElem? (i := 40) rfl)) (hw _ (List.mem_of_getElem? (i := 39) rfl)) (by decide) (by decide)) (g := (mkF m 1 #[.val (.ref ba), .val (.long ja), .second, .val (.int ia), .val (.int ib), .val (.ref bs), .val (.int ic)] [(.ref ba)])) rfl (by rw [hml]; rfl) (Steps.refl _) (a := ba) (argsL := []) (rest := []) (lenOf pd4 rfl) rfl (by show 2 * 0 + _ ≤ _; exact Nat.le_of_eq rfl) (hb hby d7_1) (fun _ _ => ⟨rfl, e0, (by decide : 0 + 0 ≤ _), (by decide : 0 + 0 ≤ _)⟩)
  dsimp only [Pt.U, Pt.locs, Pt.cells, Pt.slots] at X92 l92 y92 z92 st92 hQ92
  subst l92 y92 z92
  obtain ⟨rfl, Nq92, hh92⟩ := hQ92
  have N93 := Fr.app N0 Nq92
  refine Go.via (T' := T92) (f' := (mkF m 4 #[.val (.ref ba), .val (.long ja), .second, .val (.int ia), .val (.int ib), .val (.ref bs), .val (.int ic)] [])) st92 ?_
  refine Go.step (T' := T92) (f' := (mkF m 5 #[.val (.ref ba), .val (.long ja), .second, .val (.int ia), .val (.int ib), .val (.ref bs), .val (.int ic)] [(.ref ba)])) (fun t k => XS.aloadN X92.here hx rfl (hb hby d7_4) rfl rfl k) ?_
  refine Go.step (T' := T92) (f' := (mkF m 6 #[.val (.ref ba), .val (.long ja), .second, .val (.int ia), .val (.int ib), .val (.ref bs), .val (.int ic)] [(.long ja), (.ref ba)])) (fun t k => XS.lloadN X92.here hx rfl (hb hby d7_5) rfl k) ?_
  obtain ⟨T94, h94, X94, e94, W94, st94⟩ := putF X92 hx hZ hown (host := "") (Or.inl (hw _ (List.mem_of_getElem? (i := 42) rfl))) Via.refl hh92 P1 P0 (Or.inr ⟨(hw _ (List.mem_of_getElem? (i := 43) rfl)), rfl, hnm⟩) (hw _ (List.mem_of_getElem? (i := 31) rfl)) (ty := .long) (by decide) rfl rfl (g := (mkF m 6 #[.val (.ref ba), .val (.long ja), .second, .val (.int ia), .val (.int ib), .val (.ref bs), .val (.int ic)] [(.long ja), (.ref ba)])) rfl rfl (hb hby d7_6)
  have f95 := P1.same W94
  have f96 := P0.wr W94
  have f97 := P2.other W94 (Or.inr (slot_ne (Or.inr (hw _ (List.mem_of_getElem? (i := 45) rfl))) (Or.inr (hw _ (List.mem_of_getElem? (i := 43) rfl))) (by decide) (t := .int) (t' := .long) (by decide) (by decide)))
  have f98 := P3.other W94 (Or.inr (slot_ne (Or.inr (hw _ (List.mem_of_getElem? (i := 47) rfl))) (Or.inr (hw _ (List.mem_of_getElem? (i := 43) rfl))) (by decide) (t := .int) (t' := .long) (by decide) (by decide)))
  have f99 := P4.other W94 (Or.inr (slot_ne (Or.inr (hw _ (List.mem_of_getElem? (i := 49) rfl))) (Or.inr (hw _ (List.mem_of_getElem? (i := 43) rfl))) (by decide) (t := (.object "java/lang/String")) (t' := .long) (by decide) (by decide)))
  have f100 := P5.other W94 (Or.inr (slot_ne (Or.inr (hw _ (List.mem_of_getElem? (i := 51) rfl))) (Or.inr (hw _ (List.mem_of_getElem? (i := 43) rfl))) (by decide) (t := .boolean) (t' := .long) (by decide) (by decide)))
  have O101 := O0.wr W94 P6
  have K102 := K0.wr W94 (Or.inl (List.mem_of_getElem? (i := 0) rfl))
  have N103 := Fr.snoc X94 N93 P6
  refine Go.step (T' := T94) (f' := (mkF m 9 #[.val (.ref ba), .val (.long ja), .second, .val (.int ia), .val (.int ib), .val (.ref bs), .val (.int ic)] [])) st94 ?_
  refine Go.step (T' := T94) (f' := (mkF m 10 #[.val (.ref ba), .val (.long ja), .second, .val (.int ia), .val (.int ib), .val (.ref bs), .val (.int ic)] [(.ref ba)])) (fun t k => XS.aloadN X94.here hx rfl (hb hby d7_9) rfl rfl k) ?_
  refine Go.step (T' := T94) (f' := (mkF m 11 #[.val (.ref ba), .val (.long ja), .second, .val (.int ia), .val (.int ib), .val (.ref bs), .val (.int ic)] [(.int ia), (.ref ba)])) (fun t k => XS.iloadN X94.here hx rfl (hb hby d7_10) rfl k) ?_
  obtain ⟨T104, h104, X104, e104, W104, st104⟩ := putF X94 hx hZ hown (host := "") (Or.inl (hw _ (List.mem_of_getElem? (i := 44) rfl))) Via.refl e94 f97 f96 (Or.inr ⟨(hw _ (List.mem_of_getElem? (i := 45) rfl)), rfl, hnm⟩) (hw _ (List.mem_of_getElem? (i := 31) rfl)) (ty := .int) (by decide) rfl rfl (g := (mkF m 11 #[.val (.ref ba), .val (.long ja), .second, .val (.int ia), .val (.int ib), .val (.ref bs), .val (.int ic)] [(.int ia), (.ref ba)])) rfl rfl (hb hby d7_11)
  have f105 := f97.same W104
  have f106 := f96.wr W104
  have f107 := f98.other W104 (Or.inr (slot_ne (Or.inr (hw _ (List.mem_of_getElem? (i := 47) rfl))) (Or.inr (hw _ (List.mem_of_getElem? (i := 45) rfl))) (by decide) (t := .int) (t' := .int) (by decide) (by decide)))
  have f108 := f99.other W104 (Or.inr (slot_ne (Or.inr (hw _ (List.mem_of_getElem? (i := 49) rfl))) (Or.inr (hw _ (List.mem_of_getElem? (i := 45) rfl))) (by decide) (t := (.object "java/lang/String")) (t' := .int) (by decide) (by decide)))
  have f109 := f100.other W104 (Or.inr (slot_ne (Or.inr (hw _ (List.mem_of_getElem? (i := 51) rfl))) (Or.inr (hw _ (List.mem_of_getElem? (i := 45) rfl))) (by decide) (t := .boolean) (t' := .int) (by decide) (by decide)))
  have f110 := f95.other W104 (Or.inr (slot_ne (Or.inr (hw _ (List.mem_of_getElem? (i := 43) rfl))) (Or.inr (hw _ (List.mem_of_getElem? (i := 45) rfl))) (by decide) (t := .long) (t' := .int) (by decide) (by decide)))
  have O111 := O101.wr W104 P6
  have K112 := K102.wr W104 (Or.inl (List.mem_of_getElem? (i := 0) rfl))
  have N113 := Fr.snoc X104 N103 P6
  refine Go.step (T' := T104) (f' := (mkF m 14 #[.val (.ref ba), .val (.long ja), .second, .val (.int ia), .val (.int ib), .val (.ref bs), .val (.int ic)] [])) st104 ?_
  refine Go.step (T' := T104) (f' := (mkF m 15 #[.val (.ref ba), .val (.long ja), .second, .val (.int ia), .val (.int ib), .val (.ref bs), .val (.int ic)] [(.ref ba)])) (fun t k => XS.aloadN X104.here hx rfl (hb hby d7_14) rfl rfl k) ?_
  refine Go.step (T' := T104) (f' := (mkF m 17 #[.val (.ref ba), .val (.long ja), .second, .val (.int ia), .val (.int ib), .val (.ref bs), .val (.int ic)] [(.int ib), (.ref ba)])) (fun t k => XS.iload X104.here hx rfl (hb hby d7_15) rfl k) ?_
  obtain ⟨T114, h114, X114, e114, W114, st114⟩ := putF X104 hx hZ hown (host := "") (Or.inl (hw _ (List.mem_of_getElem? (i := 46) rfl))) Via.refl e104 f107 f106 (Or.inr ⟨(hw _ (List.mem_of_getElem? (i := 47) rfl)), rfl, hnm⟩) (hw _ (List.mem_of_getElem? (i := 31) rfl)) (ty := .int) (by decide) rfl rfl (g := (mkF m 17 #[.val (.ref ba), .val (.long ja), .second, .val (.int ia), .val (.int ib), .val (.ref bs), .val (.int ic)] [(.int ib), (.ref ba)])) rfl rfl (hb hby d7_17)
  have f115 := f107.same W114
  have f116 := f106.wr W114
  have f117 := f108.other W114 (Or.inr (slot_ne (Or.inr (hw _ (List.mem_of_getElem? (i := 49) rfl))) (Or.inr (hw _ (List.mem_of_getElem? (i := 47) rfl))) (by decide) (t := (.object "java/lang/String")) (t' := .int) (by decide) (by decide)))
  have f118 := f109.other W114 (Or.inr (slot_ne (Or.inr (hw _ (List.mem_of_getElem? (i := 51) rfl))) (Or.inr (hw _ (List.mem_of_getElem? (i := 47) rfl))) (by decide) (t := .boolean) (t' := .int) (by decide) (by decide)))
  have f119 := f110.other W114 (Or.inr (slot_ne (Or.inr (hw _ (List.mem_of_getElem? (i := 43) rfl))) (Or.inr (hw _ (List.mem_of_getElem? (i := 47) rfl))) (by decide) (t := .long) (t' := .int) (by decide) (by decide)))
  have f120 := f105.other W114 (Or.inr (slot_ne (Or.inr (hw _ (List.mem_of_getElem? (i := 45) rfl))) (Or.inr (hw _ (List.mem_of_getElem? (i := 47) rfl))) (by decide) (t := .int) (t' := .int) (by decide) (by decide)))
  have O121 := O111.wr W114 P6
  have K122 := K112.wr W114 (Or.inl (List.mem_of_getElem? (i := 0) rfl))
  have N123 := Fr.snoc X114 N113 P6
  refine Go.step (T' := T114) (f' := (mkF m 20 #[.val (.ref ba), .val (.long ja), .second, .val (.int ia), .val (.int ib), .val (.ref bs), .val (.int ic)] [])) st114 ?_
  refine Go.step (T' := T114) (f' := (mkF m 21 #[.val (.ref ba), .val (.long ja), .second, .val (.int ia), .val (.int ib), .val (.ref bs), .val (.int ic)] [(.ref ba)])) (fun t k => XS.aloadN X114.here hx rfl (hb hby d7_20) rfl rfl k) ?_
  refine Go.step (T' := T114) (f' := (mkF m 23 #[.val (.ref ba), .val (.long ja), .second, .val (.int ia), .val (.int ib), .val (.ref bs), .val (.int ic)] [(.ref bs), (.ref ba)])) (fun t k => XS.aload X114.here hx rfl (hb hby d7_21) rfl rfl k) ?_
  obtain ⟨T124, h124, X124, e124, W124, st124⟩ := putF X114 hx hZ hown (host := "") (Or.inl (hw _ (List.mem_of_getElem? (i := 48) rfl))) Via.refl e114 f117 f116 (Or.inr ⟨(hw _ (List.mem_of_getElem? (i := 49) rfl)), rfl, hnm⟩) (hw _ (List.mem_of_getElem? (i := 31) rfl)) (ty := (.object "java/lang/String")) (by decide) rfl rfl (g := (mkF m 23 #[.val (.ref ba), .val (.long ja), .second, .val (.int ia), .val (.int ib), .val (.ref bs), .val (.int ic)] [(.ref bs), (.ref ba)])) rfl rfl (hb hby d7_23)
  have f125 := f117.same W124
  have f126 := f116.wr W124
  have f127 := f118.other W124 (Or.inr (slot_ne (Or.inr (hw _ (List.mem_of_getElem? (i := 51) rfl))) (Or.inr (hw _ (List.mem_of_getElem? (i := 49) rfl))) (by decide) (t := .boolean) (t' := (.object "java/lang/String")) (by decide) (by decide)))
  have f128 := f119.other W124 (Or.inr (slot_ne (Or.inr (hw _ (List.mem_of_getElem? (i := 43) rfl))) (Or.inr (hw _ (List.mem_of_getElem? (i := 49) rfl))) (by decide) (t := .long) (t' := (.object "java/lang/String")) (by decide) (by decide)))
  have f129 := f120.other W124 (Or.inr (slot_ne (Or.inr (hw _ (List.mem_of_getElem? (i := 45) rfl))) (Or.inr (hw _ (List.mem_of_getElem? (i := 49) rfl))) (by decide) (t := .int) (t' := (.object "java/lang/String")) (by decide) (by decide)))
  have f130 := f115.other W124 (Or.inr (slot_ne (Or.inr (hw _ (List.mem_of_getElem? (i := 47) rfl))) (Or.inr (hw _ (List.mem_of_getElem? (i := 49) rfl))) (by decide) (t := .int) (t' := (.object "java/lang/String")) (by decide) (by decide)))
  have O131 := O121.wr W124 P6
  have K132 := K122.wr W124 (Or.inl (List.mem_of_getElem? (i := 0) rfl))
  have N133 := Fr.snoc X124 N123 P6
  refine Go.step (T' := T124) (f' := (mkF m 26 #[.val (.ref ba), .val (.long ja), .second, .val (.int ia), .val (.int ib), .val (.ref bs), .val (.int ic)] [])) st124 ?_
  refine Go.step (T' := T124) (f' := (mkF m 27 #[.val (.ref ba), .val (.long ja), .second, .val (.int ia), .val (.int ib), .val (.ref bs), .val (.int ic)] [(.ref ba)])) (fun t k => XS.aloadN X124.here hx rfl (hb hby d7_26) rfl rfl k) ?_
  refine Go.step (T' := T124) (f' := (mkF m 29 #[.val (.ref ba), .val (.long ja), .second, .val (.int ia), .val (.int ib), .val (.ref bs), .val (.int ic)] [(.int ic), (.ref ba)])) (fun t k => XS.iload X124.here hx rfl (hb hby d7_27) rfl k) ?_
  obtain ⟨T134, h134, X134, e134, W134, st134⟩ := putFN X124 hx hZ hown (hw _ (List.mem_of_getElem? (i := 50) rfl)) Via.refl e124 f127 f126 (Or.inr ⟨(hw _ (List.mem_of_getElem? (i := 51) rfl)), rfl, hnm⟩) (hw _ (List.mem_of_getElem? (i := 31) rfl)) (ty := .boolean) (v' := (.int (nar .boolean ic))) (by decide) rfl (fits_nar_bool _) (g := (mkF m 29 #[.val (.ref ba), .val (.long ja), .second, .val (.int ia), .val (.int ib), .val (.ref bs), .val (.int ic)] [(.int ic), (.ref ba)])) rfl rfl (hb hby d7_29)
  have f135 := f127.same W134
  have f136 := f126.wr W134
  have f137 := f128.other W134 (Or.inr (slot_ne (Or.inr (hw _ (List.mem_of_getElem? (i := 43) rfl))) (Or.inr (hw _ (List.mem_of_getElem? (i := 51) rfl))) (by decide) (t := .long) (t' := .boolean) (by decide) (by decide)))
  have f138 := f129.other W134 (Or.inr (slot_ne (Or.inr (hw _ (List.mem_of_getElem? (i := 45) rfl))) (Or.inr (hw _ (List.mem_of_getElem? (i := 51) rfl))) (by decide) (t := .int) (t' := .boolean) (by decide) (by decide)))
  have f139 := f130.other W134 (Or.inr (slot_ne (Or.inr (hw _ (List.mem_of_getElem? (i := 47) rfl))) (Or.inr (hw _ (List.mem_of_getElem? (i := 51) rfl))) (by decide) (t := .int) (t' := .boolean) (by decide) (by decide)))
  have f140 := f125.other W134 (Or.inr (slot_ne (Or.inr (hw _ (List.mem_of_getElem? (i := 49) rfl))) (Or.inr (hw _ (List.mem_of_getElem? (i := 51) rfl))) (by decide) (t := (.object "java/lang/String")) (t' := .boolean) (by decide) (by decide)))
  have O141 := O131.wr W134 P6
  have K142 := K132.wr W134 (Or.inl (List.mem_of_getElem? (i := 0) rfl))
  have N143 := Fr.snoc X134 N133 P6
  refine Go.step (T' := T134) (f' := (mkF m 32 #[.val (.ref ba), .val (.long ja), .second, .val (.int ia), .val (.int ib), .val (.ref bs), .val (.int ic)] [])) st134 ?_
  refine Go.retV X134 hx hlk Bd.returns (hb hby d7_32) e134 ?_ (by decide) (by decide)
  exact ⟨rfl, N143, K142, f136, f139, f135⟩
theorem d9_0 : decode prog_17_method_2_code 0 = .ok (.aload_n 0, 1) := by decide +kernel
theorem d9_1 : decode prog_17_method_2_code 1 = .ok (.getfield 24, 3) := by decide +kernel
theorem d9_4 : decode prog_17_method_2_code 4 = .ok (.ifCond .eq 7, 3) := by decide +kernel
theorem d9_7 : decode prog_17_method_2_code 7 = .ok (.getstatic 28, 3) := by decide +kernel
theorem d9_10 : decode prog_17_method_2_code 10 = .ok (.areturn, 1) := by decide +kernel
theorem d9_11 : decode prog_17_method_2_code 11 = .ok (.aload_n 0, 1) := by decide +kernel
theorem d9_12 : decode prog_17_method_2_code 12 = .ok (.getfield 17, 3) := by decide +kernel
theorem d9_15 : decode prog_17_method_2_code 15 = .ok (.ifCond .ne 9, 3) := by decide +kernel
theorem d9_18 : decode prog_17_method_2_code 18 = .ok (.getstatic 34, 3) := by decide +kernel
theorem d9_21 : decode prog_17_method_2_code 21 = .ok (.goto 6, 3) := by decide +kernel
theorem d9_24 : decode prog_17_method_2_code 24 = .ok (.getstatic 37, 3) := by decide +kernel
theorem d9_27 : decode prog_17_method_2_code 27 = .ok (.areturn, 1) := by decide +kernel
theorem ef_outc (m : MethodId) (ba : Addr) : entryFrame m #[(.ref ba)] 1 = mkF m 0 #[.val (.ref ba)] [] := by first | (simp [entryFrame, mkF, argsToLocals, Value.category]; done) | rfl
def Q_outc (Z : State) (ba : Addr) (ie : Int32) (it : Int32) (z_TIME_LIMIT : Addr) (z_DONE : Addr) (z_FAILED : Addr) (h0 : Heap) (n0 : Nat) (v : Option Value) (h : Heap) (L : List Loc) : Prop := ∃ br : Addr, v = some (.ref br) ∧ Fr n0 L ∧ h = h0 ∧ (br = if it = 0 then (if ie = 0 then z_DONE else z_FAILED) else z_TIME_LIMIT)
set_option maxRecDepth 65536 in
set_option maxHeartbeats 40000000 in
theorem rm_outc (l : Launch) (Z : State) (a0 : Array Value) (hw : ∀ d ∈ tables_1, d.before a0 Z = true) (ws : List Jvm.Cond) (ba : Addr) (ie : Int32) (it : Int32) (z_TIME_LIMIT : Addr) (z_DONE : Addr) (z_FAILED : Addr) (h0 : Heap) (n0 : Nat) (O0 : Old Z n0 h0) (P0 : Fld Z h0 ba "com/example/ferryline/ferryline/core/AttemptEnd" "exitCode" "I" (.int ie)) (P1 : Fld Z h0 ba "com/example/ferryline/ferryline/core/AttemptEnd" "atTimeLimit" "Z" (.int it)) (P2 : Sta Z Z.heap "com/example/ferryline/ferryline/core/AttemptOutcome" "TIME_LIMIT" "Lcom/example/ferryline/ferryline/core/AttemptOutcome;" (.ref z_TIME_LIMIT)) (P3 : Sta Z Z.heap "com/example/ferryline/ferryline/core/AttemptOutcome" "DONE" "Lcom/example/ferryline/ferryline/core/AttemptOutcome;" (.ref z_DONE)) (P4 : Sta Z Z.heap "com/example/ferryline/ferryline/core/AttemptOutcome" "FAILED" "Lcom/example/ferryline/ferryline/core/AttemptOutcome;" (.ref z_FAILED)) :
    MetFree l (⟨"com/example/ferryline/ferryline/core/AttemptEnd", "outcome", "()Lcom/example/ferryline/ferryline/core/AttemptOutcome;"⟩ : MethodName) (head1 (Jvm.Cond.code (⟨"com/example/ferryline/ferryline/core/AttemptEnd", "outcome", "()Lcom/example/ferryline/ferryline/core/AttemptOutcome;"⟩ : MethodName) prog_17_method_2_code 1 (some (.object "com/example/ferryline/ferryline/core/AttemptOutcome")) :: ws) ({ frames := 0, cells := 0, slots := 0, locals := 0 } : Room)) (fun a U => a = #[(.ref ba)] ∧ Z.Warmed39 U.vm ∧ U.heap = h0) (fun _ _ _ _ _ => True) (fun _ U o U' => ∃ v L, o = .returned v ∧ Q_outc Z ba ie it z_TIME_LIMIT z_DONE z_FAILED h0 n0 v U'.heap L ∧ FrameEnd U o U' L ({ frames := 0, cells := 0, slots := 0, locals := 0 } : Room).cells ({ frames := 0, cells := 0, slots := 0, locals := 0 } : Room).slots) := by
  refine MetFree.of_bodySF (plainFor_of_name pn_com_example_ferryline_ferryline_core_AttemptEnd) hisR ?_
  intro p e s m args below meth c s₁ Bd hml0 hP hK
  obtain ⟨rfl, hZ, hh⟩ := hP
  have hx := Bd.exec
  have hby := Bd.bytes
  have hml : c.maxLocals = 1 := hml0
  have hown : s.vm.findClass "com/example/ferryline/ferryline/core/AttemptEnd" = some m.cls := findClass_of_methodNamed Bd.named
  have hnm := (name_of_methodNamed Bd.named Bd.method).1
  have hlk : meth.locks = false := BodyLoose.notSynchronized Bd
  have X0 : Stand p l e ({ frames := 0, cells := 0, slots := 0, locals := 0 } : Room) s m #[(.ref ba)] below meth c s₁ [] 0 0 := Stand.of_body Bd
  have e0 : s₁.heap = h0 := by rw [← hh, Bd.state]; rfl
  have N0 := Fr.nil n0
  rw [ef_outc m ba]
  show Go p e below s (fun v h L => Q_outc Z ba ie it z_TIME_LIMIT z_DONE z_FAILED h0 n0 v h L) ({ frames := 0, cells := 0, slots := 0, locals := 0 } : Room).cells ({ frames := 0, cells := 0, slots := 0, locals := 0 } : Room).slots s₁ (mkF m 0 #[.val (.ref ba)] [])
  refine Go.step (T' := s₁) (f' := (mkF m 1 #[.val (.ref ba)] [(.ref ba)])) (fun t k => XS.aloadN X0.here hx rfl (hb hby d9_0) rfl rfl k) ?_
  obtain ⟨T144, X144, e144, st144⟩ := getF X0 hx hZ hown (host := "") (Or.inl (hw _ (List.mem_of_getElem? (i := 50) rfl))) Via.refl e0 P1 (g := (mkF m 1 #[.val (.ref ba)] [(.ref ba)])) rfl rfl (hb hby d9_1)
  refine Go.step (T' := T144) (f' := (mkF m 4 #[.val (.ref ba)] [(.int it)])) st144 ?_
  by_cases hc145 : it = (0 : Int32)
  ·
    refine Go.step (T' := T144) (f' := (mkF m 11 #[.val (.ref ba)] [])) (fun t k => XS.ifYes X144.here hx rfl (pc0 := 4) (pc' := 11) rfl (hb hby d9_4) rfl ((if0 _ _).trans (teq hc145).1) (by decide) (by decide) k) ?_
    refine Go.step (T' := T144) (f' := (mkF m 12 #[.val (.ref ba)] [(.ref ba)])) (fun t k => XS.aloadN X144.here hx rfl (hb hby d9_11) rfl rfl k) ?_
    obtain ⟨T146, X146, e146, st146⟩ := getF X144 hx hZ hown (host := "") (Or.inl (hw _ (List.mem_of_getElem? (i := 46) rfl))) Via.refl e144 P0 (g := (mkF m 12 #[.val (.ref ba)] [(.ref ba)])) rfl rfl (hb hby d9_12)
    refine Go.step (T' := T146) (f' := (mkF m 15 #[.val (.ref ba)] [(.int ie)])) st146 ?_
    by_cases hc147 : ie = (0 : Int32)
    ·
      refine Go.step (T' := T146) (f' := (mkF m 18 #[.val (.ref ba)] [])) (fun t k => XS.ifNo X146.here hx rfl (hb hby d9_15) rfl ((if0 _ _).trans (teq hc147).2) k) ?_
      obtain ⟨T148, X148, e148, st148⟩ := getS2 X146 hx hZ hown (host := "") (Or.inl (hw _ (List.mem_of_getElem? (i := 64) rfl))) Via.refl e146 (P3.ext O0.2) (g := (mkF m 18 #[.val (.ref ba)] [])) rfl (hb hby d9_18)
      refine Go.step (T' := T148) (f' := (mkF m 21 #[.val (.ref ba)] [(.ref z_DONE)])) st148 ?_
      refine Go.step (T' := T148) (f' := (mkF m 27 #[.val (.ref ba)] [(.ref z_DONE)])) (fun t k => XS.goto X148.here hx rfl (pc0 := 21) (pc' := 27) rfl (hb hby d9_21) (by decide) (by decide) k) ?_
      refine Go.retA X148 hx hlk Bd.returns rfl rfl (hb hby d9_27) e148 ?_ (by decide) (by decide)
      exact ⟨_, rfl, N0, rfl, by simp_all⟩
    ·
      refine Go.step (T' := T146) (f' := (mkF m 24 #[.val (.ref ba)] [])) (fun t k => XS.ifYes X146.here hx rfl (pc0 := 15) (pc' := 24) rfl (hb hby d9_15) rfl ((if0 _ _).trans (feq hc147).2) (by decide) (by decide) k) ?_
      obtain ⟨T149, X149, e149, st149⟩ := getS2 X146 hx hZ hown (host := "") (Or.inl (hw _ (List.mem_of_getElem? (i := 57) rfl))) Via.refl e146 (P4.ext O0.2) (g := (mkF m 24 #[.val (.ref ba)] [])) rfl (hb hby d9_24)
      refine Go.step (T' := T149) (f' := (mkF m 27 #[.val (.ref ba)] [(.ref z_FAILED)])) st149 ?_
      refine Go.retA X149 hx hlk Bd.returns rfl rfl (hb hby d9_27) e149 ?_ (by decide) (by decide)
      exact ⟨_, rfl, N0, rfl, by simp_all⟩
  ·
    refine Go.step (T' := T144) (f' := (mkF m 7 #[.val (.ref ba)] [])) (fun t k => XS.ifNo X144.here hx rfl (hb hby d9_4) rfl ((if0 _ _).trans (feq hc145).1) k) ?_
    obtain ⟨T150, X150, e150, st150⟩ := getS2 X144 hx hZ hown (host := "") (Or.inl (hw _ (List.mem_of_getElem? (i := 61) rfl))) Via.refl e144 (P2.ext O0.2) (g := (mkF m 7 #[.val (.ref ba)] [])) rfl (hb hby d9_7)
    refine Go.step (T' := T150) (f' := (mkF m 10 #[.val (.ref ba)] [(.ref z_TIME_LIMIT)])) st150 ?_
    refine Go.retA X150 hx hlk Bd.returns rfl rfl (hb hby d9_10) e150 ?_ (by decide) (by decide)
    exact ⟨_, rfl, N0, rfl, by simp_all⟩
theorem pn_com_example_ferryline_ferryline_core_AttemptEndOutcomePinLaw : plainName "com/example/ferryline/ferryline/core/AttemptEndOutcomePinLaw" = true := by first | (simp [plainName, overriddenIn]; done) | decide +kernel
theorem pd5 : parseMethodDescriptor "([C)V" = some ⟨[(.array .char)], none⟩ := by decide +kernel
theorem pd6 : parseMethodDescriptor "(JIILjava/lang/String;Z)V" = some ⟨[.long, .int, .int, (.object "java/lang/String"), .boolean], none⟩ := by decide +kernel
theorem pd7 : parseMethodDescriptor "()Lcom/example/ferryline/ferryline/core/AttemptOutcome;" = some ⟨[], some (.object "com/example/ferryline/ferryline/core/AttemptOutcome")⟩ := by decide +kernel
theorem ef_law (m : MethodId) (ja : Int64) (ia : Int32) (ib : Int32) (ic : Int32) (ie : Int32) : entryFrame m #[(.long ja), (.int ia), (.int ib), (.int ic), (.int ie)] maxLocals = mkF m 0 #[.val (.long ja), .second, .val (.int ia), .val (.int ib), .val (.int ic), .val (.int ie), .unset, .unset, .unset, .unset, .unset, .unset] [] := by first | (simp [entryFrame, mkF, argsToLocals, Value.category, maxLocals]; done) | rfl
def Q_law (Z : State) (ja : Int64) (ia : Int32) (ib : Int32) (ic : Int32) (ie : Int32) (wz : Int32) (z_TIME_LIMIT : Addr) (z_DONE : Addr) (z_FAILED : Addr) (h0 : Heap) (n0 : Nat) (v : Option Value) (h : Heap) (L : List Loc) : Prop := v = some (.int (1 : Int32)) ∧ Fr n0 L ∧ Keep h0 h []
set_option maxRecDepth 65536 in
set_option maxHeartbeats 40000000 in
theorem rm_law (l : Launch) (Z : State) (a0 : Array Value) (hw : ∀ d ∈ tables_1, d.before a0 Z = true) (ws : List Jvm.Cond) (ja : Int64) (ia : Int32) (ib : Int32) (ic : Int32) (ie : Int32) (wz : Int32) (z_TIME_LIMIT : Addr) (z_DONE : Addr) (z_FAILED : Addr) (h0 : Heap) (n0 : Nat) (O0 : Old Z n0 h0) (P0 : Sta Z Z.heap "java/lang/String" "COMPACT_STRINGS" "Z" (.int wz)) (hwz : ¬ (wz = (0 : Int32))) (P2 : Sta Z Z.heap "com/example/ferryline/ferryline/core/AttemptOutcome" "TIME_LIMIT" "Lcom/example/ferryline/ferryline/core/AttemptOutcome;" (.ref z_TIME_LIMIT)) (P3 : Sta Z Z.heap "com/example/ferryline/ferryline/core/AttemptOutcome" "DONE" "Lcom/example/ferryline/ferryline/core/AttemptOutcome;" (.ref z_DONE)) (P4 : Sta Z Z.heap "com/example/ferryline/ferryline/core/AttemptOutcome" "FAILED" "Lcom/example/ferryline/ferryline/core/AttemptOutcome;" (.ref z_FAILED)) :
    MetFree l x (head1 (Jvm.Cond.code x code maxLocals ret :: ws) room_1) (fun a U => a = #[(.long ja), (.int ia), (.int ib), (.int ic), (.int ie)] ∧ Z.Warmed39 U.vm ∧ U.heap = h0) (fun _ _ _ _ _ => True) (fun _ U o U' => ∃ v L, o = .returned v ∧ Q_law Z ja ia ib ic ie wz z_TIME_LIMIT z_DONE z_FAILED h0 n0 v U'.heap L ∧ FrameEnd U o U' L room_1.cells room_1.slots) := by
  refine MetFree.of_bodySF (plainFor_of_name pn_com_example_ferryline_ferryline_core_AttemptEndOutcomePinLaw) hisR ?_
  intro p e s m args below meth c s₁ Bd hml0 hP hK
  obtain ⟨rfl, hZ, hh⟩ := hP
  have hx := Bd.exec
  have hby := Bd.bytes
  have hml : c.maxLocals = 12 := hml0
  have hown : s.vm.findClass "com/example/ferryline/ferryline/core/AttemptEndOutcomePinLaw" = some m.cls := findClass_of_methodNamed Bd.named
  have hnm := (name_of_methodNamed Bd.named Bd.method).1
  have hlk : meth.locks = false := BodyLoose.notSynchronized Bd
  have X0 : Stand p l e room_1 s m #[(.long ja), (.int ia), (.int ib), (.int ic), (.int ie)] below meth c s₁ [] 0 0 := Stand.of_body Bd
  have e0 : s₁.heap = h0 := by rw [← hh, Bd.state]; rfl
  have N0 := Fr.nil n0
  have K0 := Keep.refl h0 []
  rw [ef_law m ja ia ib ic ie]
  show Go p e below s (fun v h L => Q_law Z ja ia ib ic ie wz z_TIME_LIMIT z_DONE z_FAILED h0 n0 v h L) room_1.cells room_1.slots s₁ (mkF m 0 #[.val (.long ja), .second, .val (.int ia), .val (.int ib), .val (.int ic), .val (.int ie), .unset, .unset, .unset, .unset, .unset, .unset] [])
  refine Go.step (T' := s₁) (f' := (mkF m 2 #[.val (.long ja), .second, .val (.int ia), .val (.int ib), .val (.int ic), .val (.int ie), .unset, .unset, .unset, .unset, .unset, .unset] [(.int ic)])) (fun t k => XS.iload X0.here hx rfl (hb hby at_0) rfl k) ?_
  refine Go.step (T' := s₁) (f' := (mkF m 3 #[.val (.long ja), .second, .val (.int ia), .val (.int ib), .val (.int ic), .val (.int ie), .unset, .unset, .unset, .unset, .unset, .unset] [(.int (1 : Int32)), (.int ic)])) (fun t k => XS.iconst X0.here hx rfl (hb hby at_2) k) ?_
  refine Go.step (T' := s₁) (f' := (mkF m 4 #[.val (.long ja), .second, .val (.int ia), .val (.int ib), .val (.int ic), .val (.int ie), .unset, .unset, .unset, .unset, .unset, .unset] [(.int (ic &&& (1 : Int32)))])) (fun t k => XS.iand X0.here hx rfl (hb hby at_3) rfl k) ?_
  by_cases hc151 : (ic &&& (1 : Int32)) = (0 : Int32)
  ·
    refine Go.step (T' := s₁) (f' := (mkF m 11 #[.val (.long ja), .second, .val (.int ia), .val (.int ib), .val (.int ic), .val (.int ie), .unset, .unset, .unset, .unset, .unset, .unset] [])) (fun t k => XS.ifYes X0.here hx rfl (pc0 := 4) (pc' := 11) rfl (hb hby at_4) rfl ((if0 _ _).trans (teq hc151).1) (by decide) (by decide) k) ?_
    refine Go.step (T' := s₁) (f' := (mkF m 12 #[.val (.long ja), .second, .val (.int ia), .val (.int ib), .val (.int ic), .val (.int ie), .unset, .unset, .unset, .unset, .unset, .unset] [(.int (0 : Int32))])) (fun t k => XS.iconst X0.here hx rfl (hb hby at_11) k) ?_
    refine Go.step (T' := s₁) (f' := (mkF m 14 #[.val (.long ja), .second, .val (.int ia), .val (.int ib), .val (.int ic), .val (.int ie), .val (.int (0 : Int32)), .unset, .unset, .unset, .unset, .unset] [])) (fun t k => XS.istore X0.here hx rfl (hb hby at_12) rfl (l' := #[.val (.long ja), .second, .val (.int ia), .val (.int ib), .val (.int ic), .val (.int ie), .val (.int (0 : Int32)), .unset, .unset, .unset, .unset, .unset]) rfl k) ?_
    refine Go.step (T' := s₁) (f' := (mkF m 15 #[.val (.long ja), .second, .val (.int ia), .val (.int ib), .val (.int ic), .val (.int ie), .val (.int (0 : Int32)), .unset, .unset, .unset, .unset, .unset] [(.int (2 : Int32))])) (fun t k => XS.iconst X0.here hx rfl (hb hby at_14) k) ?_
    obtain ⟨T152, h152, k152, X152, e152, E152, A152, Y152, st152⟩ := newPE X0 hx hZ (hw _ (List.mem_of_getElem? (i := 0) rfl)) e0 (g := (mkF m 15 #[.val (.long ja), .second, .val (.int ia), .val (.int ib), .val (.int ic), .val (.int ie), .val (.int (0 : Int32)), .unset, .unset, .unset, .unset, .unset] [(.int (2 : Int32))])) rfl (hb hby at_15) rfl (by decide) (cap := 2) (by decide) (by decide) (by decide) (by decide) (ad := "[C") (by decide)
    obtain ⟨b152, g152⟩ : ∃ z, z = h0.size := ⟨_, rfl⟩
    rw [← g152] at A152 Y152 st152
    have g153 : n0 ≤ b152 := Nat.le_trans (own_old_le O0) (Nat.le_of_eq g152.symm)
    have g154 : h0.size ≤ b152 := Nat.le_trans K0.1 (Nat.le_of_eq g152.symm)
    have O155 := O0.ext E152
    have K156 := K0.ext E152
    have f157 : Arv Z h152 b152 k152 .char (2 : Int32) [(.int (0 : Int32)), (.int (0 : Int32))] (.int (0 : Int32)) := (Arv.new A152 (by decide)).pad (pad_rep [] (.int (0 : Int32)) 2)
    refine Go.step (T' := T152) (f' := (mkF m 17 #[.val (.long ja), .second, .val (.int ia), .val (.int ib), .val (.int ic), .val (.int ie), .val (.int (0 : Int32)), .unset, .unset, .unset, .unset, .unset] [(.ref b152)])) st152 ?_
    refine Go.step (T' := T152) (f' := (mkF m 19 #[.val (.long ja), .second, .val (.int ia), .val (.int ib), .val (.int ic), .val (.int ie), .val (.int (0 : Int32)), .val (.ref b152), .unset, .unset, .unset, .unset] [])) (fun t k => XS.astore X152.here hx rfl (hb hby at_17) rfl rfl (l' := #[.val (.long ja), .second, .val (.int ia), .val (.int ib), .val (.int ic), .val (.int ie), .val (.int (0 : Int32)), .val (.ref b152), .unset, .unset, .unset, .unset]) rfl k) ?_
    refine Go.step (T' := T152) (f' := (mkF m 21 #[.val (.long ja), .second, .val (.int ia), .val (.int ib), .val (.int ic), .val (.int ie), .val (.int (0 : Int32)), .val (.ref b152), .unset, .unset, .unset, .unset] [(.ref b152)])) (fun t k => XS.aload X152.here hx rfl (hb hby at_19) rfl rfl k) ?_
    refine Go.step (T' := T152) (f' := (mkF m 22 #[.val (.long ja), .second, .val (.int ia), .val (.int ib), .val (.int ic), .val (.int ie), .val (.int (0 : Int32)), .val (.ref b152), .unset, .unset, .unset, .unset] [(.int (0 : Int32)), (.ref b152)])) (fun t k => XS.iconst X152.here hx rfl (hb hby at_21) k) ?_
    refine Go.step (T' := T152) (f' := (mkF m 24 #[.val (.long ja), .second, .val (.int ia), .val (.int ib), .val (.int ic), .val (.int ie), .val (.int (0 : Int32)), .val (.ref b152), .unset, .unset, .unset, .unset] [(.int ie), (.int (0 : Int32)), (.ref b152)])) (fun t k => XS.iload X152.here hx rfl (hb hby at_22) rfl k) ?_
    refine Go.step (T' := T152) (f' := (mkF m 27 #[.val (.long ja), .second, .val (.int ia), .val (.int ib), .val (.int ic), .val (.int ie), .val (.int (0 : Int32)), .val (.ref b152), .unset, .unset, .unset, .unset] [(.int (255 : Int32)), (.int ie), (.int (0 : Int32)), (.ref b152)])) (fun t k => XS.sipush X152.here hx rfl (hb hby at_24) k) ?_
    refine Go.step (T' := T152) (f' := (mkF m 28 #[.val (.long ja), .second, .val (.int ia), .val (.int ib), .val (.int ic), .val (.int ie), .val (.int (0 : Int32)), .val (.ref b152), .unset, .unset, .unset, .unset] [(.int (ie &&& (255 : Int32))), (.int (0 : Int32)), (.ref b152)])) (fun t k => XS.iand X152.here hx rfl (hb hby at_27) rfl k) ?_
    refine Go.step (T' := T152) (f' := (mkF m 29 #[.val (.long ja), .second, .val (.int ia), .val (.int ib), .val (.int ic), .val (.int ie), .val (.int (0 : Int32)), .val (.ref b152), .unset, .unset, .unset, .unset] [(.int ((ie &&& (255 : Int32)).toUInt32.toUInt16.toUInt32.toInt32)), (.int (0 : Int32)), (.ref b152)])) (fun t k => XS.i2c X152.here hx rfl (hb hby at_28) rfl k) ?_
    obtain ⟨ca158, Aa158, qa158, Sa158, Na158, Ha158, Ga158⟩ := id f157
    have ia158 : ¬ ((0 : Int32) < 0 ∨ ca158.slots.size ≤ ((0 : Int32)).toNatClampNeg) := inb_of Sa158 ⟨by decide, by decide⟩
    obtain ⟨T159, h159, X159, e159, W159, st159⟩ := stC X152 hx hZ e152 Aa158 (j := (0 : Int32)) ia158 (g := (mkF m 29 #[.val (.long ja), .second, .val (.int ia), .val (.int ib), .val (.int ic), .val (.int ie), .val (.int (0 : Int32)), .val (.ref b152), .unset, .unset, .unset, .unset] [(.int ((ie &&& (255 : Int32)).toUInt32.toUInt16.toUInt32.toInt32)), (.int (0 : Int32)), (.ref b152)])) rfl rfl (hb hby at_29)
    have f160 := Arv.set Aa158 qa158 Sa158 Na158 Ha158 Ga158 (fits_nar_char _) W159 0 rfl (Nat.le_of_ble_eq_true rfl)
    have f161 : Arv Z h159 b152 k152 .char (2 : Int32) [(.int (nar .char ((ie &&& (255 : Int32)).toUInt32.toUInt16.toUInt32.toInt32))), (.int (0 : Int32))] (.int (0 : Int32)) := f160
    have f162 := Y152.wr W159
    have O163 := O155.wr W159 g153
    have K164 := K156.wr W159 (Or.inr g154)
    have N165 := Fr.snoc X159 N0 g153
    refine Go.step (T' := T159) (f' := (mkF m 30 #[.val (.long ja), .second, .val (.int ia), .val (.int ib), .val (.int ic), .val (.int ie), .val (.int (0 : Int32)), .val (.ref b152), .unset, .unset, .unset, .unset] [])) st159 ?_
    refine Go.step (T' := T159) (f' := (mkF m 32 #[.val (.long ja), .second, .val (.int ia), .val (.int ib), .val (.int ic), .val (.int ie), .val (.int (0 : Int32)), .val (.ref b152), .unset, .unset, .unset, .unset] [(.ref b152)])) (fun t k => XS.aload X159.here hx rfl (hb hby at_30) rfl rfl k) ?_
    refine Go.step (T' := T159) (f' := (mkF m 33 #[.val (.long ja), .second, .val (.int ia), .val (.int ib), .val (.int ic), .val (.int ie), .val (.int (0 : Int32)), .val (.ref b152), .unset, .unset, .unset, .unset] [(.int (1 : Int32)), (.ref b152)])) (fun t k => XS.iconst X159.here hx rfl (hb hby at_32) k) ?_
    refine Go.step (T' := T159) (f' := (mkF m 35 #[.val (.long ja), .second, .val (.int ia), .val (.int ib), .val (.int ic), .val (.int ie), .val (.int (0 : Int32)), .val (.ref b152), .unset, .unset, .unset, .unset] [(.int ie), (.int (1 : Int32)), (.ref b152)])) (fun t k => XS.iload X159.here hx rfl (hb hby at_33) rfl k) ?_
    refine Go.step (T' := T159) (f' := (mkF m 37 #[.val (.long ja), .second, .val (.int ia), .val (.int ib), .val (.int ic), .val (.int ie), .val (.int (0 : Int32)), .val (.ref b152), .unset, .unset, .unset, .unset] [(.int (8 : Int32)), (.int ie), (.int (1 : Int32)), (.ref b152)])) (fun t k => XS.bipush X159.here hx rfl (hb hby at_35) k) ?_
    refine Go.step (T' := T159) (f' := (mkF m 38 #[.val (.long ja), .second, .val (.int ia), .val (.int ib), .val (.int ic), .val (.int ie), .val (.int (0 : Int32)), .val (.ref b152), .unset, .unset, .unset, .unset] [(.int ((ie.toUInt32 >>> ((8 : Int32) &&& 31).toUInt32).toInt32)), (.int (1 : Int32)), (.ref b152)])) (fun t k => XS.iushr X159.here hx rfl (hb hby at_37) rfl k) ?_
    refine Go.step (T' := T159) (f' := (mkF m 41 #[.val (.long ja), .second, .val (.int ia), .val (.int ib), .val (.int ic), .val (.int ie), .val (.int (0 : Int32)), .val (.ref b152), .unset, .unset, .unset, .unset] [(.int (255 : Int32)), (.int ((ie.toUInt32 >>> ((8 : Int32) &&& 31).toUInt32).toInt32)), (.int (1 : Int32)), (.ref b152)])) (fun t k => XS.sipush X159.here hx rfl (hb hby at_38) k) ?_
    refine Go.step (T' := T159) (f' := (mkF m 42 #[.val (.long ja), .second, .val (.int ia), .val (.int ib), .val (.int ic), .val (.int ie), .val (.int (0 : Int32)), .val (.ref b152), .unset, .unset, .unset, .unset] [(.int (((ie.toUInt32 >>> ((8 : Int32) &&& 31).toUInt32).toInt32) &&& (255 : Int32))), (.int (1 : Int32)), (.ref b152)])) (fun t k => XS.iand X159.here hx rfl (hb hby at_41) rfl k) ?_
    refine Go.step (T' := T159) (f' := (mkF m 43 #[.val (.long ja), .second, .val (.int ia), .val (.int ib), .val (.int ic), .val (.int ie), .val (.int (0 : Int32)), .val (.ref b152), .unset, .unset, .unset, .unset] [(.int ((((ie.toUInt32 >>> ((8 : Int32) &&& 31).toUInt32).toInt32) &&& (255 : Int32)).toUInt32.toUInt16.toUInt32.toInt32)), (.int (1 : Int32)), (.ref b152)])) (fun t k => XS.i2c X159.here hx rfl (hb hby at_42) rfl k) ?_
    obtain ⟨ca166, Aa166, qa166, Sa166, Na166, Ha166, Ga166⟩ := id f161
    have ia166 : ¬ ((1 : Int32) < 0 ∨ ca166.slots.size ≤ ((1 : Int32)).toNatClampNeg) := inb_of Sa166 ⟨by decide, by decide⟩
    obtain ⟨T167, h167, X167, e167, W167, st167⟩ := stC X159 hx hZ e159 Aa166 (j := (1 : Int32)) ia166 (g := (mkF m 43 #[.val (.long ja), .second, .val (.int ia), .val (.int ib), .val (.int ic), .val (.int ie), .val (.int (0 : Int32)), .val (.ref b152), .unset, .unset, .unset, .unset] [(.int ((((ie.toUInt32 >>> ((8 : Int32) &&& 31).toUInt32).toInt32) &&& (255 : Int32)).toUInt32.toUInt16.toUInt32.toInt32)), (.int (1 : Int32)), (.ref b152)])) rfl rfl (hb hby at_43)
    have f168 := Arv.set Aa166 qa166 Sa166 Na166 Ha166 Ga166 (fits_nar_char _) W167 1 rfl (Nat.le_of_ble_eq_true rfl)
    have f169 : Arv Z h167 b152 k152 .char (2 : Int32) [(.int (nar .char ((ie &&& (255 : Int32)).toUInt32.toUInt16.toUInt32.toInt32))), (.int (nar .char ((((ie.toUInt32 >>> ((8 : Int32) &&& 31).toUInt32).toInt32) &&& (255 : Int32)).toUInt32.toUInt16.toUInt32.toInt32)))] (.int (0 : Int32)) := f168
    have f170 := f162.wr W167
    have O171 := O163.wr W167 g153
    have K172 := K164.wr W167 (Or.inr g154)
    have N173 := Fr.snoc X167 N165 g153
    refine Go.step (T' := T167) (f' := (mkF m 44 #[.val (.long ja), .second, .val (.int ia), .val (.int ib), .val (.int ic), .val (.int ie), .val (.int (0 : Int32)), .val (.ref b152), .unset, .unset, .unset, .unset] [])) st167 ?_
    obtain ⟨T174, h174, X174, e174, E174, A174, D174, -, st174⟩ := newO X167 hx hZ hown (hw _ (List.mem_of_getElem? (i := 1) rfl)) (hw _ (List.mem_of_getElem? (i := 2) rfl)) (hw _ (List.mem_of_getElem? (i := 3) rfl)) e167 (g := (mkF m 44 #[.val (.long ja), .second, .val (.int ia), .val (.int ib), .val (.int ic), .val (.int ie), .val (.int (0 : Int32)), .val (.ref b152), .unset, .unset, .unset, .unset] [])) rfl (hb hby at_44) (by decide) (by decide)
    obtain ⟨b174, g174⟩ : ∃ z, z = h167.size := ⟨_, rfl⟩
    rw [← g174] at A174 D174 st174
    have g175 : n0 ≤ b174 := Nat.le_trans (own_old_le O171) (Nat.le_of_eq g174.symm)
    have g176 : h0.size ≤ b174 := Nat.le_trans K172.1 (Nat.le_of_eq g174.symm)
    have ne177 : b152 ≠ b174 := Nat.ne_of_lt (Nat.lt_of_lt_of_le f170.lt (Nat.le_of_eq g174.symm))
    have f178 := f170.ext E174
    have f179 := f169.ext E174
    have O180 := O171.ext E174
    have K181 := K172.ext E174
    have f182 : Fld Z h174 b174 "java/lang/String" "coder" "B" (.int (0 : Int32)) := D174 (Or.inr (hw _ (List.mem_of_getElem? (i := 27) rfl))) (ty := .byte) (by decide)
    have f183 : Fld Z h174 b174 "java/lang/String" "value" "[B" .null := D174 (Or.inr (hw _ (List.mem_of_getElem? (i := 29) rfl))) (ty := (.array .byte)) (by decide)
    refine Go.step (T' := T174) (f' := (mkF m 47 #[.val (.long ja), .second, .val (.int ia), .val (.int ib), .val (.int ic), .val (.int ie), .val (.int (0 : Int32)), .val (.ref b152), .unset, .unset, .unset, .unset] [(.ref b174)])) st174 ?_
    refine Go.step (T' := T174) (f' := (mkF m 48 #[.val (.long ja), .second, .val (.int ia), .val (.int ib), .val (.int ic), .val (.int ie), .val (.int (0 : Int32)), .val (.ref b152), .unset, .unset, .unset, .unset] [(.ref b174), (.ref b174)])) (fun t k => XS.dup X174.here hx rfl (hb hby at_47) rfl rfl k) ?_
    refine Go.step (T' := T174) (f' := (mkF m 50 #[.val (.long ja), .second, .val (.int ia), .val (.int ib), .val (.int ic), .val (.int ie), .val (.int (0 : Int32)), .val (.ref b152), .unset, .unset, .unset, .unset] [(.ref b152), (.ref b174), (.ref b174)])) (fun t k => XS.aload X174.here hx rfl (hb hby at_48) rfl rfl k) ?_
    obtain ⟨_, _, ⟨T184, L184, k184, n184⟩, -, X184, ⟨Lc184, hQ184, l184, y184, z184⟩, st184⟩ := X174.specialBack hx (y := (⟨"java/lang/String", "<init>", "([C)V"⟩ : MethodName)) rfl hown (mvT hZ (hw _ (List.mem_of_getElem? (i := 4) rfl))) (mvT hZ (hw _ (List.mem_of_getElem? (i := 5) rfl))) (mvT hZ (hw _ (List.mem_of_getElem? (i := 6) rfl))) (by decide) (backOf (W := 1) (rm_ini1_2 l Z a0 hw [] b174 b152 k152 (nar .char ((ie &&& (255 : Int32)).toUInt32.toUInt16.toUInt32.toInt32)) (nar .char ((((ie.toUInt32 >>> ((8 : Int32) &&& 31).toUInt32).toInt32) &&& (255 : Int32)).toUInt32.toUInt16.toUInt32.toInt32)) .null (.int (0 : Int32)) wz h174 n0 O180 A174 f183 f182 g175 f179 ne177 P0 hwz (own_c8 _) (own_c8 _)) hZ (hw _ (List.mem_of_getElem? (i := 6) rfl)) (hw _ (List.mem_of_getElem? (i := 3) rfl)) (by decide) (by decide)) (g := (mkF m 50 #[.val (.long ja), .second, .val (.int ia), .val (.int ib), .val (.int ic), .val (.int ie), .val (.int (0 : Int32)), .val (.ref b152), .unset, .unset, .unset, .unset] [(.ref b152), (.ref b174), (.ref b174)])) rfl (by rw [hml]; rfl) (Steps.refl _) (a := b174) (argsL := [(.ref b152)]) (rest := [(.ref b174)]) (lenOf pd5 rfl) rfl (by show 2 * 0 + _ ≤ _; exact Nat.le_of_eq rfl) (hb hby at_50) (fun _ _ => ⟨rfl, e174, (by decide : 2 + 1 ≤ _), (by decide : 6 + 2 ≤ _)⟩)
    dsimp only [Pt.U, Pt.locs, Pt.cells, Pt.slots] at X184 l184 y184 z184 st184 hQ184
    subst l184 y184 z184
    obtain ⟨u185, u186, rfl, Nq184, hh184, p187, p188, p189, p190, p191⟩ := hQ184
    have N192 := Fr.app N173 Nq184
    have f193 := f178.keep hh184
    have f194 := f179.keep hh184 (ninS ne177 nin0)
    have f195 := A174.keep hh184
    have O196 := O180.keep hh184 (allS g175 all0)
    have K197 := K181.trans hh184 (allS (Or.inr g176) all0)
    have g198 : n0 ≤ u185 := Nat.le_trans (own_old_le O180) p190
    have g199 : h0.size ≤ u185 := Nat.le_trans K181.1 p190
    have ne200 : b152 ≠ u185 := Nat.ne_of_lt (Nat.lt_of_lt_of_le f178.lt p190)
    have ne201 : b174 ≠ u185 := Nat.ne_of_lt (Nat.lt_of_lt_of_le A174.lt p190)
    refine Go.via (T' := T184) (f' := (mkF m 53 #[.val (.long ja), .second, .val (.int ia), .val (.int ib), .val (.int ic), .val (.int ie), .val (.int (0 : Int32)), .val (.ref b152), .unset, .unset, .unset, .unset] [(.ref b174)])) st184 ?_
    refine Go.step (T' := T184) (f' := (mkF m 55 #[.val (.long ja), .second, .val (.int ia), .val (.int ib), .val (.int ic), .val (.int ie), .val (.int (0 : Int32)), .val (.ref b152), .val (.ref b174), .unset, .unset, .unset] [])) (fun t k => XS.astore X184.here hx rfl (hb hby at_53) rfl rfl (l' := #[.val (.long ja), .second, .val (.int ia), .val (.int ib), .val (.int ic), .val (.int ie), .val (.int (0 : Int32)), .val (.ref b152), .val (.ref b174), .unset, .unset, .unset]) rfl k) ?_
    obtain ⟨T202, h202, X202, e202, E202, A202, D202, -, st202⟩ := newO X184 hx hZ hown (hw _ (List.mem_of_getElem? (i := 30) rfl)) (hw _ (List.mem_of_getElem? (i := 31) rfl)) (hw _ (List.mem_of_getElem? (i := 32) rfl)) rfl (g := (mkF m 55 #[.val (.long ja), .second, .val (.int ia), .val (.int ib), .val (.int ic), .val (.int ie), .val (.int (0 : Int32)), .val (.ref b152), .val (.ref b174), .unset, .unset, .unset] [])) rfl (hb hby at_55) (by decide) (by decide)
    obtain ⟨b202, g202⟩ : ∃ z, z = T184.heap.size := ⟨_, rfl⟩
    rw [← g202] at A202 D202 st202
    have g203 : n0 ≤ b202 := Nat.le_trans (own_old_le O196) (Nat.le_of_eq g202.symm)
    have g204 : h0.size ≤ b202 := Nat.le_trans K197.1 (Nat.le_of_eq g202.symm)
    have ne205 : b152 ≠ b202 := Nat.ne_of_lt (Nat.lt_of_lt_of_le f193.lt (Nat.le_of_eq g202.symm))
    have ne206 : b174 ≠ b202 := Nat.ne_of_lt (Nat.lt_of_lt_of_le p187.lt (Nat.le_of_eq g202.symm))
    have ne207 : u185 ≠ b202 := Nat.ne_of_lt (Nat.lt_of_lt_of_le p191.lt (Nat.le_of_eq g202.symm))
    have f208 := f193.ext E202
    have f209 := f194.ext E202
    have f210 := p187.ext E202
    have f211 := p188.ext E202
    have f212 := p189.ext E202
    have f213 := p191.ext E202
    have O214 := O196.ext E202
    have K215 := K197.ext E202
    have f216 : Fld Z h202 b202 "com/example/ferryline/ferryline/core/AttemptEnd" "task" "J" (.long (0 : Int64)) := D202 (Or.inr (hw _ (List.mem_of_getElem? (i := 43) rfl))) (ty := .long) (by decide)
    have f217 : Fld Z h202 b202 "com/example/ferryline/ferryline/core/AttemptEnd" "attempt" "I" (.int (0 : Int32)) := D202 (Or.inr (hw _ (List.mem_of_getElem? (i := 45) rfl))) (ty := .int) (by decide)
    have f218 : Fld Z h202 b202 "com/example/ferryline/ferryline/core/AttemptEnd" "exitCode" "I" (.int (0 : Int32)) := D202 (Or.inr (hw _ (List.mem_of_getElem? (i := 47) rfl))) (ty := .int) (by decide)
    have f219 : Fld Z h202 b202 "com/example/ferryline/ferryline/core/AttemptEnd" "output" "Ljava/lang/String;" .null := D202 (Or.inr (hw _ (List.mem_of_getElem? (i := 49) rfl))) (ty := (.object "java/lang/String")) (by decide)
    have f220 : Fld Z h202 b202 "com/example/ferryline/ferryline/core/AttemptEnd" "atTimeLimit" "Z" (.int (0 : Int32)) := D202 (Or.inr (hw _ (List.mem_of_getElem? (i := 51) rfl))) (ty := .boolean) (by decide)
    refine Go.step (T' := T202) (f' := (mkF m 58 #[.val (.long ja), .second, .val (.int ia), .val (.int ib), .val (.int ic), .val (.int ie), .val (.int (0 : Int32)), .val (.ref b152), .val (.ref b174), .unset, .unset, .unset] [(.ref b202)])) st202 ?_
    refine Go.step (T' := T202) (f' := (mkF m 59 #[.val (.long ja), .second, .val (.int ia), .val (.int ib), .val (.int ic), .val (.int ie), .val (.int (0 : Int32)), .val (.ref b152), .val (.ref b174), .unset, .unset, .unset] [(.ref b202), (.ref b202)])) (fun t k => XS.dup X202.here hx rfl (hb hby at_58) rfl rfl k) ?_
    refine Go.step (T' := T202) (f' := (mkF m 60 #[.val (.long ja), .second, .val (.int ia), .val (.int ib), .val (.int ic), .val (.int ie), .val (.int (0 : Int32)), .val (.ref b152), .val (.ref b174), .unset, .unset, .unset] [(.long ja), (.ref b202), (.ref b202)])) (fun t k => XS.lloadN X202.here hx rfl (hb hby at_59) rfl k) ?_
    refine Go.step (T' := T202) (f' := (mkF m 61 #[.val (.long ja), .second, .val (.int ia), .val (.int ib), .val (.int ic), .val (.int ie), .val (.int (0 : Int32)), .val (.ref b152), .val (.ref b174), .unset, .unset, .unset] [(.int ia), (.long ja), (.ref b202), (.ref b202)])) (fun t k => XS.iloadN X202.here hx rfl (hb hby at_60) rfl k) ?_
    refine Go.step (T' := T202) (f' := (mkF m 62 #[.val (.long ja), .second, .val (.int ia), .val (.int ib), .val (.int ic), .val (.int ie), .val (.int (0 : Int32)), .val (.ref b152), .val (.ref b174), .unset, .unset, .unset] [(.int ib), (.int ia), (.long ja), (.ref b202), (.ref b202)])) (fun t k => XS.iloadN X202.here hx rfl (hb hby at_61) rfl k) ?_
    refine Go.step (T' := T202) (f' := (mkF m 64 #[.val (.long ja), .second, .val (.int ia), .val (.int ib), .val (.int ic), .val (.int ie), .val (.int (0 : Int32)), .val (.ref b152), .val (.ref b174), .unset, .unset, .unset] [(.ref b174), (.int ib), (.int ia), (.long ja), (.ref b202), (.ref b202)])) (fun t k => XS.aload X202.here hx rfl (hb hby at_62) rfl rfl k) ?_
    refine Go.step (T' := T202) (f' := (mkF m 66 #[.val (.long ja), .second, .val (.int ia), .val (.int ib), .val (.int ic), .val (.int ie), .val (.int (0 : Int32)), .val (.ref b152), .val (.ref b174), .unset, .unset, .unset] [(.int (0 : Int32)), (.ref b174), (.int ib), (.int ia), (.long ja), (.ref b202), (.ref b202)])) (fun t k => XS.iload X202.here hx rfl (hb hby at_64) rfl k) ?_
    obtain ⟨_, _, ⟨T221, L221, k221, n221⟩, -, X221, ⟨Lc221, hQ221, l221, y221, z221⟩, st221⟩ := X202.specialBack hx (y := (⟨"com/example/ferryline/ferryline/core/AttemptEnd", "<init>", "(JIILjava/lang/String;Z)V"⟩ : MethodName)) rfl hown (mvT hZ (hw _ (List.mem_of_getElem? (i := 33) rfl))) (mvT hZ (hw _ (List.mem_of_getElem? (i := 34) rfl))) (mvT hZ (hw _ (List.mem_of_getElem? (i := 35) rfl))) (by decide) (backOf (W := 1) (rm_init l Z a0 hw [] b202 ja ia ib b174 (0 : Int32) (.long (0 : Int64)) (.int (0 : Int32)) (.int (0 : Int32)) .null (.int (0 : Int32)) h202 n0 O214 A202 f216 f217 f218 f219 f220 g203) hZ (hw _ (List.mem_of_getElem? (i := 35) rfl)) (hw _ (List.mem_of_getElem? (i := 32) rfl)) (by decide) (by decide)) (g := (mkF m 66 #[.val (.long ja), .second, .val (.int ia), .val (.int ib), .val (.int ic), .val (.int ie), .val (.int (0 : Int32)), .val (.ref b152), .val (.ref b174), .unset, .unset, .unset] [(.int (0 : Int32)), (.ref b174), (.int ib), (.int ia), (.long ja), (.ref b202), (.ref b202)])) rfl (by rw [hml]; rfl) (Steps.refl _) (a := b202) (argsL := [(.long ja), (.int ia), (.int ib), (.ref b174), (.int (0 : Int32))]) (rest := [(.ref b202)]) (lenOf pd6 rfl) rfl (by show 2 * 0 + _ ≤ _; exact Nat.le_of_eq rfl) (hb hby at_66) (fun _ _ => ⟨rfl, e202, (by decide : 4 + 0 ≤ _), (by decide : 13 + 0 ≤ _)⟩)
    dsimp only [Pt.U, Pt.locs, Pt.cells, Pt.slots] at X221 l221 y221 z221 st221 hQ221
    subst l221 y221 z221
    obtain ⟨rfl, Nq221, hh221, p222, p223, p224⟩ := hQ221
    have N225 := Fr.app N192 Nq221
    have f226 := f208.keep hh221
    have f227 := f209.keep hh221 (ninS ne205 nin0)
    have f228 := f210.keep hh221
    have f229 := f211.keep hh221 (ninS ne206 nin0)
    have f230 := f212.keep hh221 (ninS ne206 nin0)
    have f231 := f213.keep hh221 (ninS ne207 nin0)
    have f232 := A202.keep hh221
    have O233 := O214.keep hh221 (allS g203 all0)
    have K234 := K215.trans hh221 (allS (Or.inr g204) all0)
    refine Go.via (T' := T221) (f' := (mkF m 69 #[.val (.long ja), .second, .val (.int ia), .val (.int ib), .val (.int ic), .val (.int ie), .val (.int (0 : Int32)), .val (.ref b152), .val (.ref b174), .unset, .unset, .unset] [(.ref b202)])) st221 ?_
    refine Go.step (T' := T221) (f' := (mkF m 71 #[.val (.long ja), .second, .val (.int ia), .val (.int ib), .val (.int ic), .val (.int ie), .val (.int (0 : Int32)), .val (.ref b152), .val (.ref b174), .val (.ref b202), .unset, .unset] [])) (fun t k => XS.astore X221.here hx rfl (hb hby at_69) rfl rfl (l' := #[.val (.long ja), .second, .val (.int ia), .val (.int ib), .val (.int ic), .val (.int ie), .val (.int (0 : Int32)), .val (.ref b152), .val (.ref b174), .val (.ref b202), .unset, .unset]) rfl k) ?_
    refine Go.step (T' := T221) (f' := (mkF m 73 #[.val (.long ja), .second, .val (.int ia), .val (.int ib), .val (.int ic), .val (.int ie), .val (.int (0 : Int32)), .val (.ref b152), .val (.ref b174), .val (.ref b202), .unset, .unset] [(.ref b202)])) (fun t k => XS.aload X221.here hx rfl (hb hby at_71) rfl rfl k) ?_
    obtain ⟨cq235, kq235, q235a, q235b, q235c⟩ := isOf hZ rfl p222
    obtain ⟨_, _, ⟨T235, L235, k235, n235⟩, -, X235, ⟨Lc235, hQ235, l235, y235, z235⟩, st235⟩ := X221.virtualBack hx (y := (⟨"com/example/ferryline/ferryline/core/AttemptEnd", "outcome", "()Lcom/example/ferryline/ferryline/core/AttemptOutcome;"⟩ : MethodName)) (z := (⟨"com/example/ferryline/ferryline/core/AttemptEnd", "outcome", "()Lcom/example/ferryline/ferryline/core/AttemptOutcome;"⟩ : MethodName)) hown (mvT hZ (hw _ (List.mem_of_getElem? (i := 52) rfl))) (mvT hZ (hw _ (List.mem_of_getElem? (i := 53) rfl))) (notFace_of_selects (args := #[]) (mvT hZ (hw _ (List.mem_of_getElem? (i := 55) rfl)))) (mvT hZ (hw _ (List.mem_of_getElem? (i := 55) rfl))) (mvT hZ (hw _ (List.mem_of_getElem? (i := 54) rfl))) (by decide) (backOf (W := 0) (rm_outc l Z a0 hw [] b202 ib (nar .boolean (0 : Int32)) z_TIME_LIMIT z_DONE z_FAILED T221.heap n0 O233 p223 p224 P2 P3 P4) hZ (hw _ (List.mem_of_getElem? (i := 56) rfl)) (hw _ (List.mem_of_getElem? (i := 32) rfl)) (by decide) (by decide)) q235a q235c (g := (mkF m 73 #[.val (.long ja), .second, .val (.int ia), .val (.int ib), .val (.int ic), .val (.int ie), .val (.int (0 : Int32)), .val (.ref b152), .val (.ref b174), .val (.ref b202), .unset, .unset] [(.ref b202)])) rfl (by rw [hml]; rfl) (Steps.refl _) (argsL := []) (rest := []) (lenOf pd7 rfl) rfl (by show 2 * 0 + _ ≤ _; exact Nat.le_of_eq rfl) (hb hby at_73) (fun _ _ => ⟨rfl, rfl, (by decide : 4 + 0 ≤ _), (by decide : 13 + 0 ≤ _)⟩)
    dsimp only [Pt.U, Pt.locs, Pt.cells, Pt.slots] at X235 l235 y235 z235 st235 hQ235
    subst l235 y235 z235
    obtain ⟨u236, rfl, Nq235, hh235, p237⟩ := hQ235
    have N238 := Fr.app N225 Nq235
    refine Go.via (T' := T235) (f' := (mkF m 76 #[.val (.long ja), .second, .val (.int ia), .val (.int ib), .val (.int ic), .val (.int ie), .val (.int (0 : Int32)), .val (.ref b152), .val (.ref b174), .val (.ref b202), .unset, .unset] [(.ref u236)])) st235 ?_
    refine Go.step (T' := T235) (f' := (mkF m 78 #[.val (.long ja), .second, .val (.int ia), .val (.int ib), .val (.int ic), .val (.int ie), .val (.int (0 : Int32)), .val (.ref b152), .val (.ref b174), .val (.ref b202), .val (.ref u236), .unset] [])) (fun t k => XS.astore X235.here hx rfl (hb hby at_76) rfl rfl (l' := #[.val (.long ja), .second, .val (.int ia), .val (.int ib), .val (.int ic), .val (.int ie), .val (.int (0 : Int32)), .val (.ref b152), .val (.ref b174), .val (.ref b202), .val (.ref u236), .unset]) rfl k) ?_
    refine Go.step (T' := T235) (f' := (mkF m 80 #[.val (.long ja), .second, .val (.int ia), .val (.int ib), .val (.int ic), .val (.int ie), .val (.int (0 : Int32)), .val (.ref b152), .val (.ref b174), .val (.ref b202), .val (.ref u236), .unset] [(.int (0 : Int32))])) (fun t k => XS.iload X235.here hx rfl (hb hby at_78) rfl k) ?_
    refine Go.step (T' := T235) (f' := (mkF m 91 #[.val (.long ja), .second, .val (.int ia), .val (.int ib), .val (.int ic), .val (.int ie), .val (.int (0 : Int32)), .val (.ref b152), .val (.ref b174), .val (.ref b202), .val (.ref u236), .unset] [])) (fun t k => XS.ifYes X235.here hx rfl (pc0 := 80) (pc' := 91) rfl (hb hby at_80) rfl ((if0 _ _).trans (teq (by decide : (0 : Int32) = (0 : Int32))).1) (by decide) (by decide) k) ?_
    refine Go.step (T' := T235) (f' := (mkF m 92 #[.val (.long ja), .second, .val (.int ia), .val (.int ib), .val (.int ic), .val (.int ie), .val (.int (0 : Int32)), .val (.ref b152), .val (.ref b174), .val (.ref b202), .val (.ref u236), .unset] [(.int ib)])) (fun t k => XS.iloadN X235.here hx rfl (hb hby at_91) rfl k) ?_
    by_cases hc239 : ib = (0 : Int32)
    ·
      refine Go.step (T' := T235) (f' := (mkF m 95 #[.val (.long ja), .second, .val (.int ia), .val (.int ib), .val (.int ic), .val (.int ie), .val (.int (0 : Int32)), .val (.ref b152), .val (.ref b174), .val (.ref b202), .val (.ref u236), .unset] [])) (fun t k => XS.ifNo X235.here hx rfl (hb hby at_92) rfl ((if0 _ _).trans (teq hc239).2) k) ?_
      obtain ⟨T240, X240, e240, st240⟩ := getS2 X235 hx hZ hown (host := "") (Or.inl (hw _ (List.mem_of_getElem? (i := 66) rfl))) Via.refl hh235 (P3.ext O233.2) (g := (mkF m 95 #[.val (.long ja), .second, .val (.int ia), .val (.int ib), .val (.int ic), .val (.int ie), .val (.int (0 : Int32)), .val (.ref b152), .val (.ref b174), .val (.ref b202), .val (.ref u236), .unset] [])) rfl (hb hby at_95)
      refine Go.step (T' := T240) (f' := (mkF m 98 #[.val (.long ja), .second, .val (.int ia), .val (.int ib), .val (.int ic), .val (.int ie), .val (.int (0 : Int32)), .val (.ref b152), .val (.ref b174), .val (.ref b202), .val (.ref u236), .unset] [(.ref z_DONE)])) st240 ?_
      refine Go.step (T' := T240) (f' := (mkF m 100 #[.val (.long ja), .second, .val (.int ia), .val (.int ib), .val (.int ic), .val (.int ie), .val (.int (0 : Int32)), .val (.ref b152), .val (.ref b174), .val (.ref b202), .val (.ref u236), .val (.ref z_DONE)] [])) (fun t k => XS.astore X240.here hx rfl (hb hby at_98) rfl rfl (l' := #[.val (.long ja), .second, .val (.int ia), .val (.int ib), .val (.int ic), .val (.int ie), .val (.int (0 : Int32)), .val (.ref b152), .val (.ref b174), .val (.ref b202), .val (.ref u236), .val (.ref z_DONE)]) rfl k) ?_
      refine Go.step (T' := T240) (f' := (mkF m 108 #[.val (.long ja), .second, .val (.int ia), .val (.int ib), .val (.int ic), .val (.int ie), .val (.int (0 : Int32)), .val (.ref b152), .val (.ref b174), .val (.ref b202), .val (.ref u236), .val (.ref z_DONE)] [])) (fun t k => XS.goto X240.here hx rfl (pc0 := 100) (pc' := 108) rfl (hb hby at_100) (by decide) (by decide) k) ?_
      refine Go.step (T' := T240) (f' := (mkF m 110 #[.val (.long ja), .second, .val (.int ia), .val (.int ib), .val (.int ic), .val (.int ie), .val (.int (0 : Int32)), .val (.ref b152), .val (.ref b174), .val (.ref b202), .val (.ref u236), .val (.ref z_DONE)] [(.ref u236)])) (fun t k => XS.aload X240.here hx rfl (hb hby at_108) rfl rfl k) ?_
      refine Go.step (T' := T240) (f' := (mkF m 112 #[.val (.long ja), .second, .val (.int ia), .val (.int ib), .val (.int ic), .val (.int ie), .val (.int (0 : Int32)), .val (.ref b152), .val (.ref b174), .val (.ref b202), .val (.ref u236), .val (.ref z_DONE)] [(.ref z_DONE), (.ref u236)])) (fun t k => XS.aload X240.here hx rfl (hb hby at_110) rfl rfl k) ?_
      have ha241 : u236 = z_DONE := by rw [p237]; simp_all [nar]
      refine Go.step (T' := T240) (f' := (mkF m 115 #[.val (.long ja), .second, .val (.int ia), .val (.int ib), .val (.int ic), .val (.int ie), .val (.int (0 : Int32)), .val (.ref b152), .val (.ref b174), .val (.ref b202), .val (.ref u236), .val (.ref z_DONE)] [])) (fun t k => Jvm.RoadKit.acmp (g := (mkF m 112 #[.val (.long ja), .second, .val (.int ia), .val (.int ib), .val (.int ic), .val (.int ie), .val (.int (0 : Int32)), .val (.ref b152), .val (.ref b174), .val (.ref b202), .val (.ref u236), .val (.ref z_DONE)] [(.ref z_DONE), (.ref u236)])) X240 hx rfl rfl rfl (pc0 := 112) (pc' := 115) (same := true) rfl (hb hby at_112) rfl (decide_eq_true (congrArg Value.ref ha241)) (by decide) (by decide) k) ?_
      refine Go.step (T' := T240) (f' := (mkF m 116 #[.val (.long ja), .second, .val (.int ia), .val (.int ib), .val (.int ic), .val (.int ie), .val (.int (0 : Int32)), .val (.ref b152), .val (.ref b174), .val (.ref b202), .val (.ref u236), .val (.ref z_DONE)] [(.int (1 : Int32))])) (fun t k => XS.iconst X240.here hx rfl (hb hby at_115) k) ?_
      refine Go.step (T' := T240) (f' := (mkF m 120 #[.val (.long ja), .second, .val (.int ia), .val (.int ib), .val (.int ic), .val (.int ie), .val (.int (0 : Int32)), .val (.ref b152), .val (.ref b174), .val (.ref b202), .val (.ref u236), .val (.ref z_DONE)] [(.int (1 : Int32))])) (fun t k => XS.goto X240.here hx rfl (pc0 := 116) (pc' := 120) rfl (hb hby at_116) (by decide) (by decide) k) ?_
      refine Go.retZ X240 hx hlk (t := .boolean) Bd.returns (by simp) (hb hby at_120) e240 ?_ (by decide) (by decide)
      exact ⟨rfl, N238, K234⟩
    ·
      refine Go.step (T' := T235) (f' := (mkF m 103 #[.val (.long ja), .second, .val (.int ia), .val (.int ib), .val (.int ic), .val (.int ie), .val (.int (0 : Int32)), .val (.ref b152), .val (.ref b174), .val (.ref b202), .val (.ref u236), .unset] [])) (fun t k => XS.ifYes X235.here hx rfl (pc0 := 92) (pc' := 103) rfl (hb hby at_92) rfl ((if0 _ _).trans (feq hc239).2) (by decide) (by decide) k) ?_
      obtain ⟨T242, X242, e242, st242⟩ := getS2 X235 hx hZ hown (host := "") (Or.inl (hw _ (List.mem_of_getElem? (i := 60) rfl))) Via.refl hh235 (P4.ext O233.2) (g := (mkF m 103 #[.val (.long ja), .second, .val (.int ia), .val (.int ib), .val (.int ic), .val (.int ie), .val (.int (0 : Int32)), .val (.ref b152), .val (.ref b174), .val (.ref b202), .val (.ref u236), .unset] [])) rfl (hb hby at_103)
      refine Go.step (T' := T242) (f' := (mkF m 106 #[.val (.long ja), .second, .val (.int ia), .val (.int ib), .val (.int ic), .val (.int ie), .val (.int (0 : Int32)), .val (.ref b152), .val (.ref b174), .val (.ref b202), .val (.ref u236), .unset] [(.ref z_FAILED)])) st242 ?_
      refine Go.step (T' := T242) (f' := (mkF m 108 #[.val (.long ja), .second, .val (.int ia), .val (.int ib), .val (.int ic), .val (.int ie), .val (.int (0 : Int32)), .val (.ref b152), .val (.ref b174), .val (.ref b202), .val (.ref u236), .val (.ref z_FAILED)] [])) (fun t k => XS.astore X242.here hx rfl (hb hby at_106) rfl rfl (l' := #[.val (.long ja), .second, .val (.int ia), .val (.int ib), .val (.int ic), .val (.int ie), .val (.int (0 : Int32)), .val (.ref b152), .val (.ref b174), .val (.ref b202), .val (.ref u236), .val (.ref z_FAILED)]) rfl k) ?_
      refine Go.step (T' := T242) (f' := (mkF m 110 #[.val (.long ja), .second, .val (.int ia), .val (.int ib), .val (.int ic), .val (.int ie), .val (.int (0 : Int32)), .val (.ref b152), .val (.ref b174), .val (.ref b202), .val (.ref u236), .val (.ref z_FAILED)] [(.ref u236)])) (fun t k => XS.aload X242.here hx rfl (hb hby at_108) rfl rfl k) ?_
      refine Go.step (T' := T242) (f' := (mkF m 112 #[.val (.long ja), .second, .val (.int ia), .val (.int ib), .val (.int ic), .val (.int ie), .val (.int (0 : Int32)), .val (.ref b152), .val (.ref b174), .val (.ref b202), .val (.ref u236), .val (.ref z_FAILED)] [(.ref z_FAILED), (.ref u236)])) (fun t k => XS.aload X242.here hx rfl (hb hby at_110) rfl rfl k) ?_
      have ha243 : u236 = z_FAILED := by rw [p237]; simp_all [nar]
      refine Go.step (T' := T242) (f' := (mkF m 115 #[.val (.long ja), .second, .val (.int ia), .val (.int ib), .val (.int ic), .val (.int ie), .val (.int (0 : Int32)), .val (.ref b152), .val (.ref b174), .val (.ref b202), .val (.ref u236), .val (.ref z_FAILED)] [])) (fun t k => Jvm.RoadKit.acmp (g := (mkF m 112 #[.val (.long ja), .second, .val (.int ia), .val (.int ib), .val (.int ic), .val (.int ie), .val (.int (0 : Int32)), .val (.ref b152), .val (.ref b174), .val (.ref b202), .val (.ref u236), .val (.ref z_FAILED)] [(.ref z_FAILED), (.ref u236)])) X242 hx rfl rfl rfl (pc0 := 112) (pc' := 115) (same := true) rfl (hb hby at_112) rfl (decide_eq_true (congrArg Value.ref ha243)) (by decide) (by decide) k) ?_
      refine Go.step (T' := T242) (f' := (mkF m 116 #[.val (.long ja), .second, .val (.int ia), .val (.int ib), .val (.int ic), .val (.int ie), .val (.int (0 : Int32)), .val (.ref b152), .val (.ref b174), .val (.ref b202), .val (.ref u236), .val (.ref z_FAILED)] [(.int (1 : Int32))])) (fun t k => XS.iconst X242.here hx rfl (hb hby at_115) k) ?_
      refine Go.step (T' := T242) (f' := (mkF m 120 #[.val (.long ja), .second, .val (.int ia), .val (.int ib), .val (.int ic), .val (.int ie), .val (.int (0 : Int32)), .val (.ref b152), .val (.ref b174), .val (.ref b202), .val (.ref u236), .val (.ref z_FAILED)] [(.int (1 : Int32))])) (fun t k => XS.goto X242.here hx rfl (pc0 := 116) (pc' := 120) rfl (hb hby at_116) (by decide) (by decide) k) ?_
      refine Go.retZ X242 hx hlk (t := .boolean) Bd.returns (by simp) (hb hby at_120) e242 ?_ (by decide) (by decide)
      exact ⟨rfl, N238, K234⟩
  ·
    refine Go.step (T' := s₁) (f' := (mkF m 7 #[.val (.long ja), .second, .val (.int ia), .val (.int ib), .val (.int ic), .val (.int ie), .unset, .unset, .unset, .unset, .unset, .unset] [])) (fun t k => XS.ifNo X0.here hx rfl (hb hby at_4) rfl ((if0 _ _).trans (feq hc151).1) k) ?_
    refine Go.step (T' := s₁) (f' := (mkF m 8 #[.val (.long ja), .second, .val (.int ia), .val (.int ib), .val (.int ic), .val (.int ie), .unset, .unset, .unset, .unset, .unset, .unset] [(.int (1 : Int32))])) (fun t k => XS.iconst X0.here hx rfl (hb hby at_7) k) ?_
    refine Go.step (T' := s₁) (f' := (mkF m 12 #[.val (.long ja), .second, .val (.int ia), .val (.int ib), .val (.int ic), .val (.int ie), .unset, .unset, .unset, .unset, .unset, .unset] [(.int (1 : Int32))])) (fun t k => XS.goto X0.here hx rfl (pc0 := 8) (pc' := 12) rfl (hb hby at_8) (by decide) (by decide) k) ?_
    refine Go.step (T' := s₁) (f' := (mkF m 14 #[.val (.long ja), .second, .val (.int ia), .val (.int ib), .val (.int ic), .val (.int ie), .val (.int (1 : Int32)), .unset, .unset, .unset, .unset, .unset] [])) (fun t k => XS.istore X0.here hx rfl (hb hby at_12) rfl (l' := #[.val (.long ja), .second, .val (.int ia), .val (.int ib), .val (.int ic), .val (.int ie), .val (.int (1 : Int32)), .unset, .unset, .unset, .unset, .unset]) rfl k) ?_
    refine Go.step (T' := s₁) (f' := (mkF m 15 #[.val (.long ja), .second, .val (.int ia), .val (.int ib), .val (.int ic), .val (.int ie), .val (.int (1 : Int32)), .unset, .unset, .unset, .unset, .unset] [(.int (2 : Int32))])) (fun t k => XS.iconst X0.here hx rfl (hb hby at_14) k) ?_
    obtain ⟨T244, h244, k244, X244, e244, E244, A244, Y244, st244⟩ := newPE X0 hx hZ (hw _ (List.mem_of_getElem? (i := 0) rfl)) e0 (g := (mkF m 15 #[.val (.long ja), .second, .val (.int ia), .val (.int ib), .val (.int ic), .val (.int ie), .val (.int (1 : Int32)), .unset, .unset, .unset, .unset, .unset] [(.int (2 : Int32))])) rfl (hb hby at_15) rfl (by decide) (cap := 2) (by decide) (by decide) (by decide) (by decide) (ad := "[C") (by decide)
    obtain ⟨b244, g244⟩ : ∃ z, z = h0.size := ⟨_, rfl⟩
    rw [← g244] at A244 Y244 st244
    have g245 : n0 ≤ b244 := Nat.le_trans (own_old_le O0) (Nat.le_of_eq g244.symm)
    have g246 : h0.size ≤ b244 := Nat.le_trans K0.1 (Nat.le_of_eq g244.symm)
    have O247 := O0.ext E244
    have K248 := K0.ext E244
    have f249 : Arv Z h244 b244 k244 .char (2 : Int32) [(.int (0 : Int32)), (.int (0 : Int32))] (.int (0 : Int32)) := (Arv.new A244 (by decide)).pad (pad_rep [] (.int (0 : Int32)) 2)
    refine Go.step (T' := T244) (f' := (mkF m 17 #[.val (.long ja), .second, .val (.int ia), .val (.int ib), .val (.int ic), .val (.int ie), .val (.int (1 : Int32)), .unset, .unset, .unset, .unset, .unset] [(.ref b244)])) st244 ?_
    refine Go.step (T' := T244) (f' := (mkF m 19 #[.val (.long ja), .second, .val (.int ia), .val (.int ib), .val (.int ic), .val (.int ie), .val (.int (1 : Int32)), .val (.ref b244), .unset, .unset, .unset, .unset] [])) (fun t k => XS.astore X244.here hx rfl (hb hby at_17) rfl rfl (l' := #[.val (.long ja), .second, .val (.int ia), .val (.int ib), .val (.int ic), .val (.int ie), .val (.int (1 : Int32)), .val (.ref b244), .unset, .unset, .unset, .unset]) rfl k) ?_
    refine Go.step (T' := T244) (f' := (mkF m 21 #[.val (.long ja), .second, .val (.int ia), .val (.int ib), .val (.int ic), .val (.int ie), .val (.int (1 : Int32)), .val (.ref b244), .unset, .unset, .unset, .unset] [(.ref b244)])) (fun t k => XS.aload X244.here hx rfl (hb hby at_19) rfl rfl k) ?_
    refine Go.step (T' := T244) (f' := (mkF m 22 #[.val (.long ja), .second, .val (.int ia), .val (.int ib), .val (.int ic), .val (.int ie), .val (.int (1 : Int32)), .val (.ref b244), .unset, .unset, .unset, .unset] [(.int (0 : Int32)), (.ref b244)])) (fun t k => XS.iconst X244.here hx rfl (hb hby at_21) k) ?_
    refine Go.step (T' := T244) (f' := (mkF m 24 #[.val (.long ja), .second, .val (.int ia), .val (.int ib), .val (.int ic), .val (.int ie), .val (.int (1 : Int32)), .val (.ref b244), .unset, .unset, .unset, .unset] [(.int ie), (.int (0 : Int32)), (.ref b244)])) (fun t k => XS.iload X244.here hx rfl (hb hby at_22) rfl k) ?_
    refine Go.step (T' := T244) (f' := (mkF m 27 #[.val (.long ja), .second, .val (.int ia), .val (.int ib), .val (.int ic), .val (.int ie), .val (.int (1 : Int32)), .val (.ref b244), .unset, .unset, .unset, .unset] [(.int (255 : Int32)), (.int ie), (.int (0 : Int32)), (.ref b244)])) (fun t k => XS.sipush X244.here hx rfl (hb hby at_24) k) ?_
    refine Go.step (T' := T244) (f' := (mkF m 28 #[.val (.long ja), .second, .val (.int ia), .val (.int ib), .val (.int ic), .val (.int ie), .val (.int (1 : Int32)), .val (.ref b244), .unset, .unset, .unset, .unset] [(.int (ie &&& (255 : Int32))), (.int (0 : Int32)), (.ref b244)])) (fun t k => XS.iand X244.here hx rfl (hb hby at_27) rfl k) ?_
    refine Go.step (T' := T244) (f' := (mkF m 29 #[.val (.long ja), .second, .val (.int ia), .val (.int ib), .val (.int ic), .val (.int ie), .val (.int (1 : Int32)), .val (.ref b244), .unset, .unset, .unset, .unset] [(.int ((ie &&& (255 : Int32)).toUInt32.toUInt16.toUInt32.toInt32)), (.int (0 : Int32)), (.ref b244)])) (fun t k => XS.i2c X244.here hx rfl (hb hby at_28) rfl k) ?_
    obtain ⟨ca250, Aa250, qa250, Sa250, Na250, Ha250, Ga250⟩ := id f249
    have ia250 : ¬ ((0 : Int32) < 0 ∨ ca250.slots.size ≤ ((0 : Int32)).toNatClampNeg) := inb_of Sa250 ⟨by decide, by decide⟩
    obtain ⟨T251, h251, X251, e251, W251, st251⟩ := stC X244 hx hZ e244 Aa250 (j := (0 : Int32)) ia250 (g := (mkF m 29 #[.val (.long ja), .second, .val (.int ia), .val (.int ib), .val (.int ic), .val (.int ie), .val (.int (1 : Int32)), .val (.ref b244), .unset, .unset, .unset, .unset] [(.int ((ie &&& (255 : Int32)).toUInt32.toUInt16.toUInt32.toInt32)), (.int (0 : Int32)), (.ref b244)])) rfl rfl (hb hby at_29)
    have f252 := Arv.set Aa250 qa250 Sa250 Na250 Ha250 Ga250 (fits_nar_char _) W251 0 rfl (Nat.le_of_ble_eq_true rfl)
    have f253 : Arv Z h251 b244 k244 .char (2 : Int32) [(.int (nar .char ((ie &&& (255 : Int32)).toUInt32.toUInt16.toUInt32.toInt32))), (.int (0 : Int32))] (.int (0 : Int32)) := f252
    have f254 := Y244.wr W251
    have O255 := O247.wr W251 g245
    have K256 := K248.wr W251 (Or.inr g246)
    have N257 := Fr.snoc X251 N0 g245
    refine Go.step (T' := T251) (f' := (mkF m 30 #[.val (.long ja), .second, .val (.int ia), .val (.int ib), .val (.int ic), .val (.int ie), .val (.int (1 : Int32)), .val (.ref b244), .unset, .unset, .unset, .unset] [])) st251 ?_
    refine Go.step (T' := T251) (f' := (mkF m 32 #[.val (.long ja), .second, .val (.int ia), .val (.int ib), .val (.int ic), .val (.int ie), .val (.int (1 : Int32)), .val (.ref b244), .unset, .unset, .unset, .unset] [(.ref b244)])) (fun t k => XS.aload X251.here hx rfl (hb hby at_30) rfl rfl k) ?_
    refine Go.step (T' := T251) (f' := (mkF m 33 #[.val (.long ja), .second, .val (.int ia), .val (.int ib), .val (.int ic), .val (.int ie), .val (.int (1 : Int32)), .val (.ref b244), .unset, .unset, .unset, .unset] [(.int (1 : Int32)), (.ref b244)])) (fun t k => XS.iconst X251.here hx rfl (hb hby at_32) k) ?_
    refine Go.step (T' := T251) (f' := (mkF m 35 #[.val (.long ja), .second, .val (.int ia), .val (.int ib), .val (.int ic), .val (.int ie), .val (.int (1 : Int32)), .val (.ref b244), .unset, .unset, .unset, .unset] [(.int ie), (.int (1 : Int32)), (.ref b244)])) (fun t k => XS.iload X251.here hx rfl (hb hby at_33) rfl k) ?_
    refine Go.step (T' := T251) (f' := (mkF m 37 #[.val (.long ja), .second, .val (.int ia), .val (.int ib), .val (.int ic), .val (.int ie), .val (.int (1 : Int32)), .val (.ref b244), .unset, .unset, .unset, .unset] [(.int (8 : Int32)), (.int ie), (.int (1 : Int32)), (.ref b244)])) (fun t k => XS.bipush X251.here hx rfl (hb hby at_35) k) ?_
    refine Go.step (T' := T251) (f' := (mkF m 38 #[.val (.long ja), .second, .val (.int ia), .val (.int ib), .val (.int ic), .val (.int ie), .val (.int (1 : Int32)), .val (.ref b244), .unset, .unset, .unset, .unset] [(.int ((ie.toUInt32 >>> ((8 : Int32) &&& 31).toUInt32).toInt32)), (.int (1 : Int32)), (.ref b244)])) (fun t k => XS.iushr X251.here hx rfl (hb hby at_37) rfl k) ?_
    refine Go.step (T' := T251) (f' := (mkF m 41 #[.val (.long ja), .second, .val (.int ia), .val (.int ib), .val (.int ic), .val (.int ie), .val (.int (1 : Int32)), .val (.ref b244), .unset, .unset, .unset, .unset] [(.int (255 : Int32)), (.int ((ie.toUInt32 >>> ((8 : Int32) &&& 31).toUInt32).toInt32)), (.int (1 : Int32)), (.ref b244)])) (fun t k => XS.sipush X251.here hx rfl (hb hby at_38) k) ?_
    refine Go.step (T' := T251) (f' := (mkF m 42 #[.val (.long ja), .second, .val (.int ia), .val (.int ib), .val (.int ic), .val (.int ie), .val (.int (1 : Int32)), .val (.ref b244), .unset, .unset, .unset, .unset] [(.int (((ie.toUInt32 >>> ((8 : Int32) &&& 31).toUInt32).toInt32) &&& (255 : Int32))), (.int (1 : Int32)), (.ref b244)])) (fun t k => XS.iand X251.here hx rfl (hb hby at_41) rfl k) ?_
    refine Go.step (T' := T251) (f' := (mkF m 43 #[.val (.long ja), .second, .val (.int ia), .val (.int ib), .val (.int ic), .val (.int ie), .val (.int (1 : Int32)), .val (.ref b244), .unset, .unset, .unset, .unset] [(.int ((((ie.toUInt32 >>> ((8 : Int32) &&& 31).toUInt32).toInt32) &&& (255 : Int32)).toUInt32.toUInt16.toUInt32.toInt32)), (.int (1 : Int32)), (.ref b244)])) (fun t k => XS.i2c X251.here hx rfl (hb hby at_42) rfl k) ?_
    obtain ⟨ca258, Aa258, qa258, Sa258, Na258, Ha258, Ga258⟩ := id f253
    have ia258 : ¬ ((1 : Int32) < 0 ∨ ca258.slots.size ≤ ((1 : Int32)).toNatClampNeg) := inb_of Sa258 ⟨by decide, by decide⟩
    obtain ⟨T259, h259, X259, e259, W259, st259⟩ := stC X251 hx hZ e251 Aa258 (j := (1 : Int32)) ia258 (g := (mkF m 43 #[.val (.long ja), .second, .val (.int ia), .val (.int ib), .val (.int ic), .val (.int ie), .val (.int (1 : Int32)), .val (.ref b244), .unset, .unset, .unset, .unset] [(.int ((((ie.toUInt32 >>> ((8 : Int32) &&& 31).toUInt32).toInt32) &&& (255 : Int32)).toUInt32.toUInt16.toUInt32.toInt32)), (.int (1 : Int32)), (.ref b244)])) rfl rfl (hb hby at_43)
    have f260 := Arv.set Aa258 qa258 Sa258 Na258 Ha258 Ga258 (fits_nar_char _) W259 1 rfl (Nat.le_of_ble_eq_true rfl)
    have f261 : Arv Z h259 b244 k244 .char (2 : Int32) [(.int (nar .char ((ie &&& (255 : Int32)).toUInt32.toUInt16.toUInt32.toInt32))), (.int (nar .char ((((ie.toUInt32 >>> ((8 : Int32) &&& 31).toUInt32).toInt32) &&& (255 : Int32)).toUInt32.toUInt16.toUInt32.toInt32)))] (.int (0 : Int32)) := f260
    have f262 := f254.wr W259
    have O263 := O255.wr W259 g245
    have K264 := K256.wr W259 (Or.inr g246)
    have N265 := Fr.snoc X259 N257 g245
    refine Go.step (T' := T259) (f' := (mkF m 44 #[.val (.long ja), .second, .val (.int ia), .val (.int ib), .val (.int ic), .val (.int ie), .val (.int (1 : Int32)), .val (.ref b244), .unset, .unset, .unset, .unset] [])) st259 ?_
    obtain ⟨T266, h266, X266, e266, E266, A266, D266, -, st266⟩ := newO X259 hx hZ hown (hw _ (List.mem_of_getElem? (i := 1) rfl)) (hw _ (List.mem_of_getElem? (i := 2) rfl)) (hw _ (List.mem_of_getElem? (i := 3) rfl)) e259 (g := (mkF m 44 #[.val (.long ja), .second, .val (.int ia), .val (.int ib), .val (.int ic), .val (.int ie), .val (.int (1 : Int32)), .val (.ref b244), .unset, .unset, .unset, .unset] [])) rfl (hb hby at_44) (by decide) (by decide)
    obtain ⟨b266, g266⟩ : ∃ z, z = h259.size := ⟨_, rfl⟩
    rw [← g266] at A266 D266 st266
    have g267 : n0 ≤ b266 := Nat.le_trans (own_old_le O263) (Nat.le_of_eq g266.symm)
    have g268 : h0.size ≤ b266 := Nat.le_trans K264.1 (Nat.le_of_eq g266.symm)
    have ne269 : b244 ≠ b266 := Nat.ne_of_lt (Nat.lt_of_lt_of_le f262.lt (Nat.le_of_eq g266.symm))
    have f270 := f262.ext E266
    have f271 := f261.ext E266
    have O272 := O263.ext E266
    have K273 := K264.ext E266
    have f274 : Fld Z h266 b266 "java/lang/String" "coder" "B" (.int (0 : Int32)) := D266 (Or.inr (hw _ (List.mem_of_getElem? (i := 27) rfl))) (ty := .byte) (by decide)
    have f275 : Fld Z h266 b266 "java/lang/String" "value" "[B" .null := D266 (Or.inr (hw _ (List.mem_of_getElem? (i := 29) rfl))) (ty := (.array .byte)) (by decide)
    refine Go.step (T' := T266) (f' := (mkF m 47 #[.val (.long ja), .second, .val (.int ia), .val (.int ib), .val (.int ic), .val (.int ie), .val (.int (1 : Int32)), .val (.ref b244), .unset, .unset, .unset, .unset] [(.ref b266)])) st266 ?_
    refine Go.step (T' := T266) (f' := (mkF m 48 #[.val (.long ja), .second, .val (.int ia), .val (.int ib), .val (.int ic), .val (.int ie), .val (.int (1 : Int32)), .val (.ref b244), .unset, .unset, .unset, .unset] [(.ref b266), (.ref b266)])) (fun t k => XS.dup X266.here hx rfl (hb hby at_47) rfl rfl k) ?_
    refine Go.step (T' := T266) (f' := (mkF m 50 #[.val (.long ja), .second, .val (.int ia), .val (.int ib), .val (.int ic), .val (.int ie), .val (.int (1 : Int32)), .val (.ref b244), .unset, .unset, .unset, .unset] [(.ref b244), (.ref b266), (.ref b266)])) (fun t k => XS.aload X266.here hx rfl (hb hby at_48) rfl rfl k) ?_
    obtain ⟨_, _, ⟨T276, L276, k276, n276⟩, -, X276, ⟨Lc276, hQ276, l276, y276, z276⟩, st276⟩ := X266.specialBack hx (y := (⟨"java/lang/String", "<init>", "([C)V"⟩ : MethodName)) rfl hown (mvT hZ (hw _ (List.mem_of_getElem? (i := 4) rfl))) (mvT hZ (hw _ (List.mem_of_getElem? (i := 5) rfl))) (mvT hZ (hw _ (List.mem_of_getElem? (i := 6) rfl))) (by decide) (backOf (W := 1) (rm_ini1_2 l Z a0 hw [] b266 b244 k244 (nar .char ((ie &&& (255 : Int32)).toUInt32.toUInt16.toUInt32.toInt32)) (nar .char ((((ie.toUInt32 >>> ((8 : Int32) &&& 31).toUInt32).toInt32) &&& (255 : Int32)).toUInt32.toUInt16.toUInt32.toInt32)) .null (.int (0 : Int32)) wz h266 n0 O272 A266 f275 f274 g267 f271 ne269 P0 hwz (own_c8 _) (own_c8 _)) hZ (hw _ (List.mem_of_getElem? (i := 6) rfl)) (hw _ (List.mem_of_getElem? (i := 3) rfl)) (by decide) (by decide)) (g := (mkF m 50 #[.val (.long ja), .second, .val (.int ia), .val (.int ib), .val (.int ic), .val (.int ie), .val (.int (1 : Int32)), .val (.ref b244), .unset, .unset, .unset, .unset] [(.ref b244), (.ref b266), (.ref b266)])) rfl (by rw [hml]; rfl) (Steps.refl _) (a := b266) (argsL := [(.ref b244)]) (rest := [(.ref b266)]) (lenOf pd5 rfl) rfl (by show 2 * 0 + _ ≤ _; exact Nat.le_of_eq rfl) (hb hby at_50) (fun _ _ => ⟨rfl, e266, (by decide : 2 + 1 ≤ _), (by decide : 6 + 2 ≤ _)⟩)
    dsimp only [Pt.U, Pt.locs, Pt.cells, Pt.slots] at X276 l276 y276 z276 st276 hQ276
    subst l276 y276 z276
    obtain ⟨u277, u278, rfl, Nq276, hh276, p279, p280, p281, p282, p283⟩ := hQ276
    have N284 := Fr.app N265 Nq276
    have f285 := f270.keep hh276
    have f286 := f271.keep hh276 (ninS ne269 nin0)
    have f287 := A266.keep hh276
    have O288 := O272.keep hh276 (allS g267 all0)
    have K289 := K273.trans hh276 (allS (Or.inr g268) all0)
    have g290 : n0 ≤ u277 := Nat.le_trans (own_old_le O272) p282
    have g291 : h0.size ≤ u277 := Nat.le_trans K273.1 p282
    have ne292 : b244 ≠ u277 := Nat.ne_of_lt (Nat.lt_of_lt_of_le f270.lt p282)
    have ne293 : b266 ≠ u277 := Nat.ne_of_lt (Nat.lt_of_lt_of_le A266.lt p282)
    refine Go.via (T' := T276) (f' := (mkF m 53 #[.val (.long ja), .second, .val (.int ia), .val (.int ib), .val (.int ic), .val (.int ie), .val (.int (1 : Int32)), .val (.ref b244), .unset, .unset, .unset, .unset] [(.ref b266)])) st276 ?_
    refine Go.step (T' := T276) (f' := (mkF m 55 #[.val (.long ja), .second, .val (.int ia), .val (.int ib), .val (.int ic), .val (.int ie), .val (.int (1 : Int32)), .val (.ref b244), .val (.ref b266), .unset, .unset, .unset] [])) (fun t k => XS.astore X276.here hx rfl (hb hby at_53) rfl rfl (l' := #[.val (.long ja), .second, .val (.int ia), .val (.int ib), .val (.int ic), .val (.int ie), .val (.int (1 : Int32)), .val (.ref b244), .val (.ref b266), .unset, .unset, .unset]) rfl k) ?_
    obtain ⟨T294, h294, X294, e294, E294, A294, D294, -, st294⟩ := newO X276 hx hZ hown (hw _ (List.mem_of_getElem? (i := 30) rfl)) (hw _ (List.mem_of_getElem? (i := 31) rfl)) (hw _ (List.mem_of_getElem? (i := 32) rfl)) rfl (g := (mkF m 55 #[.val (.long ja), .second, .val (.int ia), .val (.int ib), .val (.int ic), .val (.int ie), .val (.int (1 : Int32)), .val (.ref b244), .val (.ref b266), .unset, .unset, .unset] [])) rfl (hb hby at_55) (by decide) (by decide)
    obtain ⟨b294, g294⟩ : ∃ z, z = T276.heap.size := ⟨_, rfl⟩
    rw [← g294] at A294 D294 st294
    have g295 : n0 ≤ b294 := Nat.le_trans (own_old_le O288) (Nat.le_of_eq g294.symm)
    have g296 : h0.size ≤ b294 := Nat.le_trans K289.1 (Nat.le_of_eq g294.symm)
    have ne297 : b244 ≠ b294 := Nat.ne_of_lt (Nat.lt_of_lt_of_le f285.lt (Nat.le_of_eq g294.symm))
    have ne298 : b266 ≠ b294 := Nat.ne_of_lt (Nat.lt_of_lt_of_le p279.lt (Nat.le_of_eq g294.symm))
    have ne299 : u277 ≠ b294 := Nat.ne_of_lt (Nat.lt_of_lt_of_le p283.lt (Nat.le_of_eq g294.symm))
    have f300 := f285.ext E294
    have f301 := f286.ext E294
    have f302 := p279.ext E294
    have f303 := p280.ext E294
    have f304 := p281.ext E294
    have f305 := p283.ext E294
    have O306 := O288.ext E294
    have K307 := K289.ext E294
    have f308 : Fld Z h294 b294 "com/example/ferryline/ferryline/core/AttemptEnd" "task" "J" (.long (0 : Int64)) := D294 (Or.inr (hw _ (List.mem_of_getElem? (i := 43) rfl))) (ty := .long) (by decide)
    have f309 : Fld Z h294 b294 "com/example/ferryline/ferryline/core/AttemptEnd" "attempt" "I" (.int (0 : Int32)) := D294 (Or.inr (hw _ (List.mem_of_getElem? (i := 45) rfl))) (ty := .int) (by decide)
    have f310 : Fld Z h294 b294 "com/example/ferryline/ferryline/core/AttemptEnd" "exitCode" "I" (.int (0 : Int32)) := D294 (Or.inr (hw _ (List.mem_of_getElem? (i := 47) rfl))) (ty := .int) (by decide)
    have f311 : Fld Z h294 b294 "com/example/ferryline/ferryline/core/AttemptEnd" "output" "Ljava/lang/String;" .null := D294 (Or.inr (hw _ (List.mem_of_getElem? (i := 49) rfl))) (ty := (.object "java/lang/String")) (by decide)
    have f312 : Fld Z h294 b294 "com/example/ferryline/ferryline/core/AttemptEnd" "atTimeLimit" "Z" (.int (0 : Int32)) := D294 (Or.inr (hw _ (List.mem_of_getElem? (i := 51) rfl))) (ty := .boolean) (by decide)
    refine Go.step (T' := T294) (f' := (mkF m 58 #[.val (.long ja), .second, .val (.int ia), .val (.int ib), .val (.int ic), .val (.int ie), .val (.int (1 : Int32)), .val (.ref b244), .val (.ref b266), .unset, .unset, .unset] [(.ref b294)])) st294 ?_
    refine Go.step (T' := T294) (f' := (mkF m 59 #[.val (.long ja), .second, .val (.int ia), .val (.int ib), .val (.int ic), .val (.int ie), .val (.int (1 : Int32)), .val (.ref b244), .val (.ref b266), .unset, .unset, .unset] [(.ref b294), (.ref b294)])) (fun t k => XS.dup X294.here hx rfl (hb hby at_58) rfl rfl k) ?_
    refine Go.step (T' := T294) (f' := (mkF m 60 #[.val (.long ja), .second, .val (.int ia), .val (.int ib), .val (.int ic), .val (.int ie), .val (.int (1 : Int32)), .val (.ref b244), .val (.ref b266), .unset, .unset, .unset] [(.long ja), (.ref b294), (.ref b294)])) (fun t k => XS.lloadN X294.here hx rfl (hb hby at_59) rfl k) ?_
    refine Go.step (T' := T294) (f' := (mkF m 61 #[.val (.long ja), .second, .val (.int ia), .val (.int ib), .val (.int ic), .val (.int ie), .val (.int (1 : Int32)), .val (.ref b244), .val (.ref b266), .unset, .unset, .unset] [(.int ia), (.long ja), (.ref b294), (.ref b294)])) (fun t k => XS.iloadN X294.here hx rfl (hb hby at_60) rfl k) ?_
    refine Go.step (T' := T294) (f' := (mkF m 62 #[.val (.long ja), .second, .val (.int ia), .val (.int ib), .val (.int ic), .val (.int ie), .val (.int (1 : Int32)), .val (.ref b244), .val (.ref b266), .unset, .unset, .unset] [(.int ib), (.int ia), (.long ja), (.ref b294), (.ref b294)])) (fun t k => XS.iloadN X294.here hx rfl (hb hby at_61) rfl k) ?_
    refine Go.step (T' := T294) (f' := (mkF m 64 #[.val (.long ja), .second, .val (.int ia), .val (.int ib), .val (.int ic), .val (.int ie), .val (.int (1 : Int32)), .val (.ref b244), .val (.ref b266), .unset, .unset, .unset] [(.ref b266), (.int ib), (.int ia), (.long ja), (.ref b294), (.ref b294)])) (fun t k => XS.aload X294.here hx rfl (hb hby at_62) rfl rfl k) ?_
    refine Go.step (T' := T294) (f' := (mkF m 66 #[.val (.long ja), .second, .val (.int ia), .val (.int ib), .val (.int ic), .val (.int ie), .val (.int (1 : Int32)), .val (.ref b244), .val (.ref b266), .unset, .unset, .unset] [(.int (1 : Int32)), (.ref b266), (.int ib), (.int ia), (.long ja), (.ref b294), (.ref b294)])) (fun t k => XS.iload X294.here hx rfl (hb hby at_64) rfl k) ?_
    obtain ⟨_, _, ⟨T313, L313, k313, n313⟩, -, X313, ⟨Lc313, hQ313, l313, y313, z313⟩, st313⟩ := X294.specialBack hx (y := (⟨"com/example/ferryline/ferryline/core/AttemptEnd", "<init>", "(JIILjava/lang/String;Z)V"⟩ : MethodName)) rfl hown (mvT hZ (hw _ (List.mem_of_getElem? (i := 33) rfl))) (mvT hZ (hw _ (List.mem_of_getElem? (i := 34) rfl))) (mvT hZ (hw _ (List.mem_of_getElem? (i := 35) rfl))) (by decide) (backOf (W := 1) (rm_init l Z a0 hw [] b294 ja ia ib b266 (1 : Int32) (.long (0 : Int64)) (.int (0 : Int32)) (.int (0 : Int32)) .null (.int (0 : Int32)) h294 n0 O306 A294 f308 f309 f310 f311 f312 g295) hZ (hw _ (List.mem_of_getElem? (i := 35) rfl)) (hw _ (List.mem_of_getElem? (i := 32) rfl)) (by decide) (by decide)) (g := (mkF m 66 #[.val (.long ja), .second, .val (.int ia), .val (.int ib), .val (.int ic), .val (.int ie), .val (.int (1 : Int32)), .val (.ref b244), .val (.ref b266), .unset, .unset, .unset] [(.int (1 : Int32)), (.ref b266), (.int ib), (.int ia), (.long ja), (.ref b294), (.ref b294)])) rfl (by rw [hml]; rfl) (Steps.refl _) (a := b294) (argsL := [(.long ja), (.int ia), (.int ib), (.ref b266), (.int (1 : Int32))]) (rest := [(.ref b294)]) (lenOf pd6 rfl) rfl (by show 2 * 0 + _ ≤ _; exact Nat.le_of_eq rfl) (hb hby at_66) (fun _ _ => ⟨rfl, e294, (by decide : 4 + 0 ≤ _), (by decide : 13 + 0 ≤ _)⟩)
    dsimp only [Pt.U, Pt.locs, Pt.cells, Pt.slots] at X313 l313 y313 z313 st313 hQ313
    subst l313 y313 z313
    obtain ⟨rfl, Nq313, hh313, p314, p315, p316⟩ := hQ313
    have N317 := Fr.app N284 Nq313
    have f318 := f300.keep hh313
    have f319 := f301.keep hh313 (ninS ne297 nin0)
    have f320 := f302.keep hh313
    have f321 := f303.keep hh313 (ninS ne298 nin0)
    have f322 := f304.keep hh313 (ninS ne298 nin0)
    have f323 := f305.keep hh313 (ninS ne299 nin0)
    have f324 := A294.keep hh313
    have O325 := O306.keep hh313 (allS g295 all0)
    have K326 := K307.trans hh313 (allS (Or.inr g296) all0)
    refine Go.via (T' := T313) (f' := (mkF m 69 #[.val (.long ja), .second, .val (.int ia), .val (.int ib), .val (.int ic), .val (.int ie), .val (.int (1 : Int32)), .val (.ref b244), .val (.ref b266), .unset, .unset, .unset] [(.ref b294)])) st313 ?_
    refine Go.step (T' := T313) (f' := (mkF m 71 #[.val (.long ja), .second, .val (.int ia), .val (.int ib), .val (.int ic), .val (.int ie), .val (.int (1 : Int32)), .val (.ref b244), .val (.ref b266), .val (.ref b294), .unset, .unset] [])) (fun t k => XS.astore X313.here hx rfl (hb hby at_69) rfl rfl (l' := #[.val (.long ja), .second, .val (.int ia), .val (.int ib), .val (.int ic), .val (.int ie), .val (.int (1 : Int32)), .val (.ref b244), .val (.ref b266), .val (.ref b294), .unset, .unset]) rfl k) ?_
    refine Go.step (T' := T313) (f' := (mkF m 73 #[.val (.long ja), .second, .val (.int ia), .val (.int ib), .val (.int ic), .val (.int ie), .val (.int (1 : Int32)), .val (.ref b244), .val (.ref b266), .val (.ref b294), .unset, .unset] [(.ref b294)])) (fun t k => XS.aload X313.here hx rfl (hb hby at_71) rfl rfl k) ?_
    obtain ⟨cq327, kq327, q327a, q327b, q327c⟩ := isOf hZ rfl p314
    obtain ⟨_, _, ⟨T327, L327, k327, n327⟩, -, X327, ⟨Lc327, hQ327, l327, y327, z327⟩, st327⟩ := X313.virtualBack hx (y := (⟨"com/example/ferryline/ferryline/core/AttemptEnd", "outcome", "()Lcom/example/ferryline/ferryline/core/AttemptOutcome;"⟩ : MethodName)) (z := (⟨"com/example/ferryline/ferryline/core/AttemptEnd", "outcome", "()Lcom/example/ferryline/ferryline/core/AttemptOutcome;"⟩ : MethodName)) hown (mvT hZ (hw _ (List.mem_of_getElem? (i := 52) rfl))) (mvT hZ (hw _ (List.mem_of_getElem? (i := 53) rfl))) (notFace_of_selects (args := #[]) (mvT hZ (hw _ (List.mem_of_getElem? (i := 55) rfl)))) (mvT hZ (hw _ (List.mem_of_getElem? (i := 55) rfl))) (mvT hZ (hw _ (List.mem_of_getElem? (i := 54) rfl))) (by decide) (backOf (W := 0) (rm_outc l Z a0 hw [] b294 ib (nar .boolean (1 : Int32)) z_TIME_LIMIT z_DONE z_FAILED T313.heap n0 O325 p315 p316 P2 P3 P4) hZ (hw _ (List.mem_of_getElem? (i := 56) rfl)) (hw _ (List.mem_of_getElem? (i := 32) rfl)) (by decide) (by decide)) q327a q327c (g := (mkF m 73 #[.val (.long ja), .second, .val (.int ia), .val (.int ib), .val (.int ic), .val (.int ie), .val (.int (1 : Int32)), .val (.ref b244), .val (.ref b266), .val (.ref b294), .unset, .unset] [(.ref b294)])) rfl (by rw [hml]; rfl) (Steps.refl _) (argsL := []) (rest := []) (lenOf pd7 rfl) rfl (by show 2 * 0 + _ ≤ _; exact Nat.le_of_eq rfl) (hb hby at_73) (fun _ _ => ⟨rfl, rfl, (by decide : 4 + 0 ≤ _), (by decide : 13 + 0 ≤ _)⟩)
    dsimp only [Pt.U, Pt.locs, Pt.cells, Pt.slots] at X327 l327 y327 z327 st327 hQ327
    subst l327 y327 z327
    obtain ⟨u328, rfl, Nq327, hh327, p329⟩ := hQ327
    have N330 := Fr.app N317 Nq327
    refine Go.via (T' := T327) (f' := (mkF m 76 #[.val (.long ja), .second, .val (.int ia), .val (.int ib), .val (.int ic), .val (.int ie), .val (.int (1 : Int32)), .val (.ref b244), .val (.ref b266), .val (.ref b294), .unset, .unset] [(.ref u328)])) st327 ?_
    refine Go.step (T' := T327) (f' := (mkF m 78 #[.val (.long ja), .second, .val (.int ia), .val (.int ib), .val (.int ic), .val (.int ie), .val (.int (1 : Int32)), .val (.ref b244), .val (.ref b266), .val (.ref b294), .val (.ref u328), .unset] [])) (fun t k => XS.astore X327.here hx rfl (hb hby at_76) rfl rfl (l' := #[.val (.long ja), .second, .val (.int ia), .val (.int ib), .val (.int ic), .val (.int ie), .val (.int (1 : Int32)), .val (.ref b244), .val (.ref b266), .val (.ref b294), .val (.ref u328), .unset]) rfl k) ?_
    refine Go.step (T' := T327) (f' := (mkF m 80 #[.val (.long ja), .second, .val (.int ia), .val (.int ib), .val (.int ic), .val (.int ie), .val (.int (1 : Int32)), .val (.ref b244), .val (.ref b266), .val (.ref b294), .val (.ref u328), .unset] [(.int (1 : Int32))])) (fun t k => XS.iload X327.here hx rfl (hb hby at_78) rfl k) ?_
    refine Go.step (T' := T327) (f' := (mkF m 83 #[.val (.long ja), .second, .val (.int ia), .val (.int ib), .val (.int ic), .val (.int ie), .val (.int (1 : Int32)), .val (.ref b244), .val (.ref b266), .val (.ref b294), .val (.ref u328), .unset] [])) (fun t k => XS.ifNo X327.here hx rfl (hb hby at_80) rfl ((if0 _ _).trans (feq (by decide : ¬ ((1 : Int32) = (0 : Int32)))).1) k) ?_
    obtain ⟨T331, X331, e331, st331⟩ := getS2 X327 hx hZ hown (host := "") (Or.inl (hw _ (List.mem_of_getElem? (i := 63) rfl))) Via.refl hh327 (P2.ext O325.2) (g := (mkF m 83 #[.val (.long ja), .second, .val (.int ia), .val (.int ib), .val (.int ic), .val (.int ie), .val (.int (1 : Int32)), .val (.ref b244), .val (.ref b266), .val (.ref b294), .val (.ref u328), .unset] [])) rfl (hb hby at_83)
    refine Go.step (T' := T331) (f' := (mkF m 86 #[.val (.long ja), .second, .val (.int ia), .val (.int ib), .val (.int ic), .val (.int ie), .val (.int (1 : Int32)), .val (.ref b244), .val (.ref b266), .val (.ref b294), .val (.ref u328), .unset] [(.ref z_TIME_LIMIT)])) st331 ?_
    refine Go.step (T' := T331) (f' := (mkF m 88 #[.val (.long ja), .second, .val (.int ia), .val (.int ib), .val (.int ic), .val (.int ie), .val (.int (1 : Int32)), .val (.ref b244), .val (.ref b266), .val (.ref b294), .val (.ref u328), .val (.ref z_TIME_LIMIT)] [])) (fun t k => XS.astore X331.here hx rfl (hb hby at_86) rfl rfl (l' := #[.val (.long ja), .second, .val (.int ia), .val (.int ib), .val (.int ic), .val (.int ie), .val (.int (1 : Int32)), .val (.ref b244), .val (.ref b266), .val (.ref b294), .val (.ref u328), .val (.ref z_TIME_LIMIT)]) rfl k) ?_
    refine Go.step (T' := T331) (f' := (mkF m 108 #[.val (.long ja), .second, .val (.int ia), .val (.int ib), .val (.int ic), .val (.int ie), .val (.int (1 : Int32)), .val (.ref b244), .val (.ref b266), .val (.ref b294), .val (.ref u328), .val (.ref z_TIME_LIMIT)] [])) (fun t k => XS.goto X331.here hx rfl (pc0 := 88) (pc' := 108) rfl (hb hby at_88) (by decide) (by decide) k) ?_
    refine Go.step (T' := T331) (f' := (mkF m 110 #[.val (.long ja), .second, .val (.int ia), .val (.int ib), .val (.int ic), .val (.int ie), .val (.int (1 : Int32)), .val (.ref b244), .val (.ref b266), .val (.ref b294), .val (.ref u328), .val (.ref z_TIME_LIMIT)] [(.ref u328)])) (fun t k => XS.aload X331.here hx rfl (hb hby at_108) rfl rfl k) ?_
    refine Go.step (T' := T331) (f' := (mkF m 112 #[.val (.long ja), .second, .val (.int ia), .val (.int ib), .val (.int ic), .val (.int ie), .val (.int (1 : Int32)), .val (.ref b244), .val (.ref b266), .val (.ref b294), .val (.ref u328), .val (.ref z_TIME_LIMIT)] [(.ref z_TIME_LIMIT), (.ref u328)])) (fun t k => XS.aload X331.here hx rfl (hb hby at_110) rfl rfl k) ?_
    have ha332 : u328 = z_TIME_LIMIT := by rw [p329]; simp_all [nar]
    refine Go.step (T' := T331) (f' := (mkF m 115 #[.val (.long ja), .second, .val (.int ia), .val (.int ib), .val (.int ic), .val (.int ie), .val (.int (1 : Int32)), .val (.ref b244), .val (.ref b266), .val (.ref b294), .val (.ref u328), .val (.ref z_TIME_LIMIT)] [])) (fun t k => Jvm.RoadKit.acmp (g := (mkF m 112 #[.val (.long ja), .second, .val (.int ia), .val (.int ib), .val (.int ic), .val (.int ie), .val (.int (1 : Int32)), .val (.ref b244), .val (.ref b266), .val (.ref b294), .val (.ref u328), .val (.ref z_TIME_LIMIT)] [(.ref z_TIME_LIMIT), (.ref u328)])) X331 hx rfl rfl rfl (pc0 := 112) (pc' := 115) (same := true) rfl (hb hby at_112) rfl (decide_eq_true (congrArg Value.ref ha332)) (by decide) (by decide) k) ?_
    refine Go.step (T' := T331) (f' := (mkF m 116 #[.val (.long ja), .second, .val (.int ia), .val (.int ib), .val (.int ic), .val (.int ie), .val (.int (1 : Int32)), .val (.ref b244), .val (.ref b266), .val (.ref b294), .val (.ref u328), .val (.ref z_TIME_LIMIT)] [(.int (1 : Int32))])) (fun t k => XS.iconst X331.here hx rfl (hb hby at_115) k) ?_
    refine Go.step (T' := T331) (f' := (mkF m 120 #[.val (.long ja), .second, .val (.int ia), .val (.int ib), .val (.int ic), .val (.int ie), .val (.int (1 : Int32)), .val (.ref b244), .val (.ref b266), .val (.ref b294), .val (.ref u328), .val (.ref z_TIME_LIMIT)] [(.int (1 : Int32))])) (fun t k => XS.goto X331.here hx rfl (pc0 := 116) (pc' := 120) rfl (hb hby at_116) (by decide) (by decide) k) ?_
    refine Go.retZ X331 hx hlk (t := .boolean) Bd.returns (by simp) (hb hby at_120) e331 ?_ (by decide) (by decide)
    exact ⟨rfl, N330, K326⟩
set_option maxRecDepth 65536 in
set_option maxHeartbeats 40000000 in
theorem comes_1 {Post : Tables → Env → Array Value → State → Outcome → State → Prop} (hpost : ∀ tb e args s v u, (limb_1_1.after args s (.returned v) u = true ∧ limb_1_2.after args s (.returned v) u = true ∧ True) → FrameEnd s (.returned v) u (Jvm.fieldLocs frame_1_writes args s ++ Jvm.arrayLocs frame_1_arrays args s ++ Jvm.staticLocs frame_1_statics s) 16 128 → Post tb e args s (.returned v) u) :
    ArmFor flags0 classFile x code maxLocals ret World_1 tables_1 room_1 Calls_1 rest_1 Pre_1 Post := by
  intro l hfl _ _ p e ha hc hk s m args below hf hA hF happ hP
  obtain ⟨hcalls, hrest, hpre⟩ := hP
  obtain ⟨-, -, -, hnamed, -, -, -, hat⟩ := (Spec.applies_iff hf).mp happ
  obtain ⟨hg, hn⟩ := and_e (Cond.before_iff.mp (show (Jvm.Cond.and given_1 narrow_1).before args s = true from hpre))
  obtain ⟨c1, c2⟩ := and_e hg
  obtain ⟨c3, c4⟩ := and_e c2
  obtain ⟨c5, c6⟩ := and_e c4
  obtain ⟨c7, c8⟩ := and_e c6
  obtain ⟨c9, c10⟩ := and_e c8
  obtain ⟨c11, c12⟩ := and_e hn
  obtain ⟨c13, c14⟩ := and_e c12
  obtain ⟨w0, w1, w2, w3, w4, rfl⟩ : ∃ w0 w1 w2 w3 w4 : Value, args = #[w0, w1, w2, w3, w4] := by
    have hs : args.size = 5 := by simpa [Cond.value, given_1] using c1
    obtain ⟨L⟩ := args
    match L, hs with
    | [w0, w1, w2, w3, w4], _ => exact ⟨w0, w1, w2, w3, w4, rfl⟩
  have hw := fun d (hd : d ∈ tables_1) => atoms_spec (ws := Jvm.Cond.code x code maxLocals ret :: tables_1) hat d (List.mem_cons_of_mem _ hd)
  have hfit : Fit s := fun {y c} hc i hi => by
    obtain ⟨ha, rfl⟩ := Array.getElem?_eq_some_iff.mp hc
    have q := List.all_eq_true.mp ((Array.all_eq_true_iff_forall_mem.mp hF) _ (Array.getElem_mem ha)) i (List.mem_range.mpr hi)
    simpa [Array.getElem?_eq_getElem hi] using q
  obtain ⟨i0, ei0⟩ := isL_v c3
  obtain rfl : w0 = (.long i0) := Option.some.inj ei0
  obtain ⟨i1, ei1⟩ := is_v c5
  obtain rfl : w1 = (.int i1) := Option.some.inj ei1
  obtain ⟨i2, ei2⟩ := is_v c7
  obtain rfl : w2 = (.int i2) := Option.some.inj ei2
  obtain ⟨i3, ei3⟩ := is_v c9
  obtain rfl : w3 = (.int i3) := Option.some.inj ei3
  obtain ⟨i4, ei4⟩ := is_v c10
  obtain rfl : w4 = (.int i4) := Option.some.inj ei4
  obtain ⟨hsets, hown0⟩ := atoms_of _ (rest_1_c_eq ▸ (show rest_1_c.before _ s = true from hrest))
  obtain ⟨zcs, evcs⟩ := is_v (Cond.before_iff.mp (hsets _ (List.mem_of_getElem? (i := 1) rfl)))
  have Scs := Sta.start evcs (Or.inl (hsets _ (List.mem_of_getElem? (i := 0) rfl)))
  have hcs : ¬ zcs = (0 : Int32) := gotF (Jvm.Cond.eq_ints evcs (Term.int_eval (0))) (not_v (Cond.before_iff.mp (hsets _ (List.mem_of_getElem? (i := 2) rfl))))
  obtain ⟨z_FAILED, ev_z_FAILED⟩ := exa_v c11
  have S_z_FAILED := Sta.start ev_z_FAILED (Or.inr ⟨(hw _ (List.mem_of_getElem? (i := 58) rfl)), (hw _ (List.mem_of_getElem? (i := 59) rfl))⟩)
  have E_z_FAILED := Exa.start ev_z_FAILED c11
  obtain ⟨z_TIME_LIMIT, ev_z_TIME_LIMIT⟩ := exa_v c13
  have S_z_TIME_LIMIT := Sta.start ev_z_TIME_LIMIT (Or.inr ⟨(hw _ (List.mem_of_getElem? (i := 58) rfl)), (hw _ (List.mem_of_getElem? (i := 62) rfl))⟩)
  have E_z_TIME_LIMIT := Exa.start ev_z_TIME_LIMIT c13
  obtain ⟨z_DONE, ev_z_DONE⟩ := exa_v c14
  have S_z_DONE := Sta.start ev_z_DONE (Or.inr ⟨(hw _ (List.mem_of_getElem? (i := 58) rfl)), (hw _ (List.mem_of_getElem? (i := 65) rfl))⟩)
  have E_z_DONE := Exa.start ev_z_DONE c14
  obtain ⟨n, o, h1, h2, h3, _, L, rfl, ⟨rfl, N, -⟩, hq⟩ := rm_law l s _ hw tables_1 i0 i1 i2 i3 i4 zcs z_TIME_LIMIT z_DONE z_FAILED s.heap s.heap.size (Old.start s) Scs hcs S_z_TIME_LIMIT S_z_DONE S_z_FAILED p e ha hc hk s m _ below hf ((Spec.applies_iff_loose hf).mp happ).1 ⟨rfl, State.Warmed39.refl s, rfl⟩ trivial
  refine ⟨n, _, h1, h2, h3, hpost _ _ _ _ _ _ ⟨Cond.after_iff.mpr rfl, Cond.after_iff.mpr (eq_i res_at (Term.int_eval (1)) rfl), trivial⟩ ⟨hq.1, hq.2.1, (hq.2.2.sift fun y hy => Or.inr (N y hy)).mono (by decide) (by decide)⟩⟩
theorem main_1_1 : Claimed_1_1 := comes_1 fun _ _ _ _ _ _ h hF => ⟨h.1, hF⟩
theorem main_1_2 : Claimed_1_2 := comes_1 fun _ _ _ _ _ _ h hF => ⟨h.2.1, hF⟩
end Jvm.Pilot.@@N@@
namespace Jvm.Pilot.@@N@@
open Jvm Jvm.ClassFile Sem Op Lib Jvm.Free Jvm.Stand Jvm.Pilot.@@N@@.Jvm.D
/-! MADE BY PROGRAM (witnessworld.py) out of the Statement's table words and the real class files: 23 classes; the members and pool entries that the words name. The judged class is class 1, her method 1. -/
namespace start1
open Jvm.ClassFile
def u (s : String) : CpInfo := .utf8 (stringToUtf16 s)
/-- a pool by its gaps: so many unusable entries, then the entry; so many at the end -/
def gap : Nat → List CpInfo → List CpInfo
  | 0, r => r
  | n + 1, r => .unusable :: gap n r
def poolList (es : List (Nat × CpInfo)) (last : Nat) : List CpInfo := es.foldr (fun e r => gap e.1 (e.2 :: r)) (gap last [])
def pool (es : List (Nat × CpInfo)) (last : Nat) : Array CpInfo := ⟨poolList es last⟩
def fileOf (pool : Array CpInfo) (this : Nat) (attrs : Array Attribute := #[]) (ms : Array MethodInfo := #[]) (fl : Nat := 33) (sup : Nat := 0) (ifs : Array Nat := #[]) (fds : Array FieldInfo := #[]) : ClassFile where
  minorVersion := 0
  majorVersion := 65
  constantPool := pool
  accessFlags := fl
  thisClass := this
  superClass := sup
  interfaces := ifs
  fields := fds
  methods := ms
  attributes := attrs
def plain (name : String) (sup : Option ClassId) : Class where
  name := name
  kind := .ordinary
  loader := none
  accessFlags := 33
  super := sup
  interfaces := #[]
  cf := none
  fields := #[]
  methods := #[]
  instanceTypes := #[]
  staticTypes := #[]
  resolved := #[]
  callSites := []
  init := .initialized
  statics := none
  mirror := none

def pool0 : Array CpInfo := pool [(5, u "<init>"), (0, u "()V"), (1, .class_ 10), (1, u "java/lang/Object")] 113

def k0c0 : Code := { maxStack := 0, maxLocals := 1, code := object_method_1_code, exceptionTable := #[], attributes := #[] }
def k0m0 : Method := { name := "<init>", desc := "()V", sig := { parameters := [], returnType := none }, accessFlags := 1, code := some k0c0 }
/-- java/lang/Object -/
def k0 : Class := { plain "java/lang/Object" none with
  accessFlags := 33
  interfaces := #[]
  cf := some (fileOf pool0 8 #[] #[{ accessFlags := 1, nameIndex := 5, descriptorIndex := 6, attributes := #[] }] 33 0 #[] #[])
  fields := #[]
  methods := #[k0m0]
  instanceTypes := #[]
  staticTypes := #[]
  resolved := Array.replicate 124 none
  statics := none }

def pool1 : Array CpInfo := pool [(2, .class_ 4), (1, u "java/lang/Object"), (0, u "<init>"), (0, u "()V"), (0, .class_ 8), (0, u "java/lang/String"), (0, .methodref 7 10), (0, .nameAndType 5 11), (0, u "([C)V"), (0, .class_ 13), (0, u "com/example/ferryline/ferryline/core/AttemptEnd"), (0, .methodref 12 15), (0, .nameAndType 5 16), (0, u "(JIILjava/lang/String;Z)V"), (0, .methodref 12 18), (0, .nameAndType 19 20), (0, u "outcome"), (0, u "()Lcom/example/ferryline/ferryline/core/AttemptOutcome;"), (0, .fieldref 22 23), (0, .class_ 24), (0, .nameAndType 25 26), (0, u "com/example/ferryline/ferryline/core/AttemptOutcome"), (0, u "TIME_LIMIT"), (0, u "Lcom/example/ferryline/ferryline/core/AttemptOutcome;"), (0, .fieldref 22 28), (0, .nameAndType 29 26), (0, u "DONE"), (0, .fieldref 22 31), (0, .nameAndType 32 26), (0, u "FAILED"), (0, .class_ 34), (0, u "com/example/ferryline/ferryline/core/AttemptEndOutcomePinLaw"), (2, u "law"), (0, u "(JIIII)Z")] 5

def k1m0 : Method := { name := "<init>", desc := "()V", sig := { parameters := [], returnType := none }, accessFlags := 1, code := none }
def k1c1 : Code := { maxStack := 8, maxLocals := 12, code := code, exceptionTable := #[], attributes := #[] }
def k1m1 : Method := { name := "law", desc := "(JIIII)Z", sig := { parameters := [.long, .int, .int, .int, .int], returnType := some .boolean }, accessFlags := 9, code := some k1c1 }
/-- com/example/ferryline/ferryline/core/AttemptEndOutcomePinLaw -/
def k1 : Class := { plain "com/example/ferryline/ferryline/core/AttemptEndOutcomePinLaw" (some 0) with
  accessFlags := 49
  interfaces := #[]
  cf := some (fileOf pool1 33 #[] #[{ accessFlags := 1, nameIndex := 5, descriptorIndex := 6, attributes := #[] }, { accessFlags := 9, nameIndex := 37, descriptorIndex := 38, attributes := #[] }] 49 2 #[] #[])
  fields := #[]
  methods := #[k1m0, k1m1]
  instanceTypes := #[]
  staticTypes := #[]
  resolved := Array.replicate 44 none
  statics := none }

def pool2 : Array CpInfo := pool [(1, .class_ 2), (0, u "java/io/Serializable"), (0, .class_ 4), (0, u "java/lang/Object")] 2

/-- java/io/Serializable -/
def k2 : Class := { plain "java/io/Serializable" (some 0) with
  accessFlags := 1537
  interfaces := #[]
  cf := some (fileOf pool2 1 #[] #[] 1537 3 #[] #[])
  fields := #[]
  methods := #[]
  instanceTypes := #[]
  staticTypes := #[]
  resolved := Array.replicate 7 none
  statics := none }

def pool3 : Array CpInfo := pool [(1, .class_ 2), (0, u "java/lang/Comparable"), (0, .class_ 4), (0, u "java/lang/Object")] 7

/-- java/lang/Comparable -/
def k3 : Class := { plain "java/lang/Comparable" (some 0) with
  accessFlags := 1537
  interfaces := #[]
  cf := some (fileOf pool3 1 #[] #[] 1537 3 #[] #[])
  fields := #[]
  methods := #[]
  instanceTypes := #[]
  staticTypes := #[]
  resolved := Array.replicate 12 none
  statics := none }

def pool4 : Array CpInfo := pool [(2, .class_ 4), (1, u "java/lang/CharSequence"), (42, .class_ 48), (0, u "java/lang/CharSequence$1CodePointIterator"), (10, .class_ 60), (0, u "java/lang/CharSequence$1CharIterator"), (5, .class_ 67), (0, u "java/lang/Object")] 63

/-- java/lang/CharSequence -/
def k4 : Class := { plain "java/lang/CharSequence" (some 0) with
  accessFlags := 1537
  interfaces := #[]
  cf := some (fileOf pool4 2 #[.nestMembers #[47, 59]] #[] 1537 66 #[] #[])
  fields := #[]
  methods := #[]
  instanceTypes := #[]
  staticTypes := #[]
  resolved := Array.replicate 131 none
  statics := none }

def pool5 : Array CpInfo := pool [(1, .class_ 2), (0, u "java/lang/constant/Constable"), (0, .class_ 4), (0, u "java/lang/Object")] 6

/-- java/lang/constant/Constable -/
def k5 : Class := { plain "java/lang/constant/Constable" (some 0) with
  accessFlags := 1537
  interfaces := #[]
  cf := some (fileOf pool5 1 #[] #[] 1537 3 #[] #[])
  fields := #[]
  methods := #[]
  instanceTypes := #[]
  staticTypes := #[]
  resolved := Array.replicate 11 none
  statics := none }

def pool6 : Array CpInfo := pool [(1, .class_ 2), (0, u "java/lang/constant/ConstantDesc"), (0, .class_ 4), (0, u "java/lang/Object")] 32

/-- java/lang/constant/ConstantDesc -/
def k6 : Class := { plain "java/lang/constant/ConstantDesc" (some 0) with
  accessFlags := 1537
  interfaces := #[]
  cf := some (fileOf pool6 1 #[] #[] 1537 3 #[] #[])
  fields := #[]
  methods := #[]
  instanceTypes := #[]
  staticTypes := #[]
  resolved := Array.replicate 37 none
  statics := none }

def pool7 : Array CpInfo := pool [(1, .methodref 2 3), (0, .class_ 4), (0, .nameAndType 5 6), (0, u "java/lang/Object"), (0, u "<init>"), (0, u "()V"), (2, .fieldref 10 11), (0, .class_ 12), (0, .nameAndType 13 14), (0, u "java/lang/String"), (0, u "value"), (0, u "[B"), (0, .fieldref 10 16), (0, .nameAndType 17 18), (0, u "coder"), (0, u "B"), (2, u "hash"), (0, u "I"), (2, u "hashIsZero"), (0, u "Z"), (0, .methodref 10 28), (0, .nameAndType 5 29), (0, u "([CIILjava/lang/Void;)V"), (8, .fieldref 10 39), (0, .nameAndType 40 26), (0, u "COMPACT_STRINGS"), (1, .class_ 44), (1, u "java/lang/StringUTF16"), (0, u "compress"), (1, .methodref 42 48), (0, .nameAndType 49 50), (0, u "coderFromArrayLen"), (0, u "([BI)B"), (126, .methodref 42 178), (0, .nameAndType 45 179), (0, u "([CII)[B"), (395, .class_ 576), (0, u "java/lang/CharSequence"), (22, u "CASE_INSENSITIVE_ORDER"), (0, u "Ljava/util/Comparator;"), (409, u "([C)V"), (90, u "serialPersistentFields"), (0, u "[Ljava/io/ObjectStreamField;"), (0, .class_ 1104), (0, u "java/lang/String$CaseInsensitiveComparator"), (1, .class_ 1107), (0, u "java/io/Serializable"), (0, .class_ 1109), (0, u "java/lang/Comparable"), (0, .class_ 1111), (0, u "java/lang/constant/Constable"), (0, .class_ 1113), (0, u "java/lang/constant/ConstantDesc"), (2, u "serialVersionUID"), (0, u "J"), (3, u "REPL"), (0, u "C"), (2, u "LATIN1"), (1, u "UTF16")] 323

def k7m0 : Method := { name := "<init>", desc := "()V", sig := { parameters := [], returnType := none }, accessFlags := 1, code := none }
def k7c1 : Code := { maxStack := 5, maxLocals := 2, code := jdk_42_method_3_code, exceptionTable := #[], attributes := #[] }
def k7m1 : Method := { name := "<init>", desc := "([C)V", sig := { parameters := [(.array .char)], returnType := none }, accessFlags := 1, code := some k7c1 }
def k7c2 : Code := { maxStack := 4, maxLocals := 6, code := jdk_42_method_149_code, exceptionTable := #[], attributes := #[] }
def k7m2 : Method := { name := "<init>", desc := "([CIILjava/lang/Void;)V", sig := { parameters := [(.array .char), .int, .int, (.object "java/lang/Void")], returnType := none }, accessFlags := 2, code := some k7c2 }
/-- java/lang/String -/
def k7 : Class := { plain "java/lang/String" (some 0) with
  accessFlags := 49
  interfaces := #[2, 3, 4, 5, 6]
  cf := some (fileOf pool7 10 #[.nestMembers #[1103]] #[{ accessFlags := 1, nameIndex := 5, descriptorIndex := 6, attributes := #[] }, { accessFlags := 1, nameIndex := 5, descriptorIndex := 1010, attributes := #[] }, { accessFlags := 2, nameIndex := 5, descriptorIndex := 29, attributes := #[] }] 49 2 #[1106, 1108, 575, 1110, 1112] #[{ accessFlags := 18, nameIndex := 13, descriptorIndex := 14, attributes := #[] }, { accessFlags := 18, nameIndex := 17, descriptorIndex := 18, attributes := #[] }, { accessFlags := 2, nameIndex := 21, descriptorIndex := 22, attributes := #[] }, { accessFlags := 2, nameIndex := 25, descriptorIndex := 26, attributes := #[] }, { accessFlags := 26, nameIndex := 1116, descriptorIndex := 1117, attributes := #[] }, { accessFlags := 24, nameIndex := 40, descriptorIndex := 26, attributes := #[] }, { accessFlags := 26, nameIndex := 1101, descriptorIndex := 1102, attributes := #[] }, { accessFlags := 26, nameIndex := 1121, descriptorIndex := 1122, attributes := #[] }, { accessFlags := 25, nameIndex := 599, descriptorIndex := 600, attributes := #[] }, { accessFlags := 24, nameIndex := 1125, descriptorIndex := 18, attributes := #[] }, { accessFlags := 24, nameIndex := 1127, descriptorIndex := 18, attributes := #[] }])
  fields := #[{ name := "value", type := (.array .byte), accessFlags := 18, slot := 0, constantValue := 0 }, { name := "coder", type := .byte, accessFlags := 18, slot := 1, constantValue := 0 }, { name := "hash", type := .int, accessFlags := 2, slot := 2, constantValue := 0 }, { name := "hashIsZero", type := .boolean, accessFlags := 2, slot := 3, constantValue := 0 }, { name := "serialVersionUID", type := .long, accessFlags := 26, slot := 0, constantValue := 0 }, { name := "COMPACT_STRINGS", type := .boolean, accessFlags := 24, slot := 1, constantValue := 0 }, { name := "serialPersistentFields", type := (.array (.object "java/io/ObjectStreamField")), accessFlags := 26, slot := 2, constantValue := 0 }, { name := "REPL", type := .char, accessFlags := 26, slot := 3, constantValue := 0 }, { name := "CASE_INSENSITIVE_ORDER", type := (.object "java/util/Comparator"), accessFlags := 25, slot := 4, constantValue := 0 }, { name := "LATIN1", type := .byte, accessFlags := 24, slot := 5, constantValue := 0 }, { name := "UTF16", type := .byte, accessFlags := 24, slot := 6, constantValue := 0 }]
  methods := #[k7m0, k7m1, k7m2]
  instanceTypes := #[(.array .byte), .byte, .int, .boolean]
  staticTypes := #[.long, .boolean, (.array (.object "java/io/ObjectStreamField")), .char, (.object "java/util/Comparator"), .byte, .byte]
  resolved := Array.replicate 1451 none
  statics := some 0 }

def pool8 : Array CpInfo := pool [(6, .class_ 8), (1, u "java/lang/Object"), (0, u "<init>"), (0, u "()V"), (1, .class_ 14), (1, u "java/lang/StringUTF16"), (31, u "$assertionsDisabled"), (0, u "Z"), (13, u "HI_BYTE_SHIFT"), (0, u "I"), (2, u "LO_BYTE_SHIFT"), (49, .methodref 12 116), (0, .nameAndType 117 118), (0, u "compress"), (0, u "([CI[BII)I"), (3, u "([CII)[B"), (138, u "coderFromArrayLen"), (0, u "([BI)B"), (106, .class_ 371), (1, u "java/lang/StringUTF16$LinesSpliterator"), (58, u "MAX_LENGTH"), (196, .class_ 628), (0, u "java/lang/StringUTF16$CodePointsSpliterator"), (0, .class_ 630), (0, u "java/lang/StringUTF16$CharsSpliterator")] 4

def k8m0 : Method := { name := "<init>", desc := "()V", sig := { parameters := [], returnType := none }, accessFlags := 0, code := none }
def k8c1 : Code := { maxStack := 2, maxLocals := 2, code := jdk_52_method_15_code, exceptionTable := #[], attributes := #[] }
def k8m1 : Method := { name := "coderFromArrayLen", desc := "([BI)B", sig := { parameters := [(.array .byte), .int], returnType := some .byte }, accessFlags := 8, code := some k8c1 }
def k8c2 : Code := { maxStack := 5, maxLocals := 6, code := jdk_52_method_16_code, exceptionTable := #[], attributes := #[] }
def k8m2 : Method := { name := "compress", desc := "([CII)[B", sig := { parameters := [(.array .char), .int, .int], returnType := some (.array .byte) }, accessFlags := 9, code := some k8c2 }
def k8c3 : Code := { maxStack := 3, maxLocals := 7, code := jdk_52_method_21_code, exceptionTable := #[], attributes := #[] }
def k8m3 : Method := { name := "compress", desc := "([CI[BII)I", sig := { parameters := [(.array .char), .int, (.array .byte), .int, .int], returnType := some .int }, accessFlags := 9, code := some k8c3 }
/-- java/lang/StringUTF16 -/
def k8 : Class := { plain "java/lang/StringUTF16" (some 0) with
  accessFlags := 48
  interfaces := #[]
  cf := some (fileOf pool8 12 #[.nestMembers #[627, 629, 369]] #[{ accessFlags := 0, nameIndex := 9, descriptorIndex := 10, attributes := #[] }, { accessFlags := 8, nameIndex := 261, descriptorIndex := 262, attributes := #[] }, { accessFlags := 9, nameIndex := 117, descriptorIndex := 122, attributes := #[] }, { accessFlags := 9, nameIndex := 117, descriptorIndex := 118, attributes := #[] }] 48 6 #[] #[{ accessFlags := 26, nameIndex := 61, descriptorIndex := 62, attributes := #[] }, { accessFlags := 26, nameIndex := 65, descriptorIndex := 62, attributes := #[] }, { accessFlags := 24, nameIndex := 430, descriptorIndex := 62, attributes := #[] }, { accessFlags := 4120, nameIndex := 46, descriptorIndex := 47, attributes := #[] }])
  fields := #[{ name := "HI_BYTE_SHIFT", type := .int, accessFlags := 26, slot := 0, constantValue := 0 }, { name := "LO_BYTE_SHIFT", type := .int, accessFlags := 26, slot := 1, constantValue := 0 }, { name := "MAX_LENGTH", type := .int, accessFlags := 24, slot := 2, constantValue := 0 }, { name := "$assertionsDisabled", type := .boolean, accessFlags := 4120, slot := 3, constantValue := 0 }]
  methods := #[k8m0, k8m1, k8m2, k8m3]
  instanceTypes := #[]
  staticTypes := #[.int, .int, .int, .boolean]
  resolved := Array.replicate 635 none
  statics := none }

def pool9 : Array CpInfo := pool [(1, .methodref 2 3), (0, .class_ 4), (0, .nameAndType 5 6), (0, u "java/lang/Object"), (0, u "<init>"), (0, u "()V"), (0, .class_ 8), (0, u "java/lang/Record")] 13

def k9c0 : Code := { maxStack := 1, maxLocals := 1, code := jdk_30_method_1_code, exceptionTable := #[], attributes := #[] }
def k9m0 : Method := { name := "<init>", desc := "()V", sig := { parameters := [], returnType := none }, accessFlags := 4, code := some k9c0 }
/-- java/lang/Record -/
def k9 : Class := { plain "java/lang/Record" (some 0) with
  accessFlags := 1057
  interfaces := #[]
  cf := some (fileOf pool9 7 #[] #[{ accessFlags := 4, nameIndex := 5, descriptorIndex := 6, attributes := #[] }] 1057 2 #[] #[])
  fields := #[]
  methods := #[k9m0]
  instanceTypes := #[]
  staticTypes := #[]
  resolved := Array.replicate 22 none
  statics := none }

def pool10 : Array CpInfo := pool [(1, .methodref 2 3), (0, .class_ 4), (0, .nameAndType 5 6), (0, u "java/lang/Record"), (0, u "<init>"), (0, u "()V"), (0, .fieldref 8 9), (0, .class_ 10), (0, .nameAndType 11 12), (0, u "com/example/ferryline/ferryline/core/AttemptEnd"), (0, u "task"), (0, u "J"), (0, .fieldref 8 14), (0, .nameAndType 15 16), (0, u "attempt"), (0, u "I"), (0, .fieldref 8 18), (0, .nameAndType 19 16), (0, u "exitCode"), (0, .fieldref 8 21), (0, .nameAndType 22 23), (0, u "output"), (0, u "Ljava/lang/String;"), (0, .fieldref 8 25), (0, .nameAndType 26 27), (0, u "atTimeLimit"), (0, u "Z"), (0, .fieldref 29 30), (0, .class_ 31), (0, .nameAndType 32 33), (0, u "com/example/ferryline/ferryline/core/AttemptOutcome"), (0, u "TIME_LIMIT"), (0, u "Lcom/example/ferryline/ferryline/core/AttemptOutcome;"), (0, .fieldref 29 35), (0, .nameAndType 36 33), (0, u "DONE"), (0, .fieldref 29 38), (0, .nameAndType 39 33), (0, u "FAILED"), (12, u "(JIILjava/lang/String;Z)V"), (3, u "outcome"), (0, u "()Lcom/example/ferryline/ferryline/core/AttemptOutcome;")] 30

def k10c0 : Code := { maxStack := 3, maxLocals := 7, code := prog_17_method_1_code, exceptionTable := #[], attributes := #[] }
def k10m0 : Method := { name := "<init>", desc := "(JIILjava/lang/String;Z)V", sig := { parameters := [.long, .int, .int, (.object "java/lang/String"), .boolean], returnType := none }, accessFlags := 1, code := some k10c0 }
def k10c1 : Code := { maxStack := 1, maxLocals := 1, code := prog_17_method_2_code, exceptionTable := #[], attributes := #[] }
def k10m1 : Method := { name := "outcome", desc := "()Lcom/example/ferryline/ferryline/core/AttemptOutcome;", sig := { parameters := [], returnType := some (.object "com/example/ferryline/ferryline/core/AttemptOutcome") }, accessFlags := 1, code := some k10c1 }
/-- com/example/ferryline/ferryline/core/AttemptEnd -/
def k10 : Class := { plain "com/example/ferryline/ferryline/core/AttemptEnd" (some 9) with
  accessFlags := 49
  interfaces := #[]
  cf := some (fileOf pool10 8 #[] #[{ accessFlags := 1, nameIndex := 5, descriptorIndex := 52, attributes := #[] }, { accessFlags := 1, nameIndex := 56, descriptorIndex := 57, attributes := #[] }] 49 2 #[] #[{ accessFlags := 18, nameIndex := 11, descriptorIndex := 12, attributes := #[] }, { accessFlags := 18, nameIndex := 15, descriptorIndex := 16, attributes := #[] }, { accessFlags := 18, nameIndex := 19, descriptorIndex := 16, attributes := #[] }, { accessFlags := 18, nameIndex := 22, descriptorIndex := 23, attributes := #[] }, { accessFlags := 18, nameIndex := 26, descriptorIndex := 27, attributes := #[] }])
  fields := #[{ name := "task", type := .long, accessFlags := 18, slot := 0, constantValue := 0 }, { name := "attempt", type := .int, accessFlags := 18, slot := 1, constantValue := 0 }, { name := "exitCode", type := .int, accessFlags := 18, slot := 2, constantValue := 0 }, { name := "output", type := (.object "java/lang/String"), accessFlags := 18, slot := 3, constantValue := 0 }, { name := "atTimeLimit", type := .boolean, accessFlags := 18, slot := 4, constantValue := 0 }]
  methods := #[k10m0, k10m1]
  instanceTypes := #[.long, .int, .int, (.object "java/lang/String"), .boolean]
  staticTypes := #[]
  resolved := Array.replicate 88 none
  statics := none }

def pool11 : Array CpInfo := pool [(2, .class_ 4), (1, u "java/lang/Enum"), (0, u "name"), (0, u "Ljava/lang/String;"), (2, u "ordinal"), (0, u "I"), (1, .class_ 14), (1, u "java/lang/Object"), (4, u "hash"), (86, .class_ 108), (1, u "java/lang/Enum$EnumDesc"), (2, .class_ 112), (0, u "java/lang/constant/Constable"), (0, .class_ 114), (0, u "java/lang/Comparable"), (0, .class_ 116), (0, u "java/io/Serializable")] 87

/-- java/lang/Enum -/
def k11 : Class := { plain "java/lang/Enum" (some 0) with
  accessFlags := 1057
  interfaces := #[5, 3, 2]
  cf := some (fileOf pool11 2 #[.nestMembers #[106]] #[] 1057 12 #[111, 113, 115] #[{ accessFlags := 18, nameIndex := 5, descriptorIndex := 6, attributes := #[] }, { accessFlags := 18, nameIndex := 9, descriptorIndex := 10, attributes := #[] }, { accessFlags := 2, nameIndex := 19, descriptorIndex := 10, attributes := #[] }])
  fields := #[{ name := "name", type := (.object "java/lang/String"), accessFlags := 18, slot := 0, constantValue := 0 }, { name := "ordinal", type := .int, accessFlags := 18, slot := 1, constantValue := 0 }, { name := "hash", type := .int, accessFlags := 2, slot := 2, constantValue := 0 }]
  methods := #[]
  instanceTypes := #[(.object "java/lang/String"), .int, .int]
  staticTypes := #[]
  resolved := Array.replicate 204 none
  statics := none }

def pool12 : Array CpInfo := pool [(1, .class_ 2), (0, u "com/example/ferryline/ferryline/core/AttemptOutcome"), (2, u "RUNNING"), (0, u "Lcom/example/ferryline/ferryline/core/AttemptOutcome;"), (2, u "DONE"), (2, u "FAILED"), (2, u "TIME_LIMIT"), (2, u "WORKER_LOST"), (2, u "$VALUES"), (0, u "[Lcom/example/ferryline/ferryline/core/AttemptOutcome;"), (6, .class_ 31), (1, u "java/lang/Enum"), (8, u "reason"), (0, u "Lcom/example/ferryline/ferryline/core/FailReason;")] 47

/-- com/example/ferryline/ferryline/core/AttemptOutcome -/
def k12 : Class := { plain "com/example/ferryline/ferryline/core/AttemptOutcome" (some 11) with
  accessFlags := 16433
  interfaces := #[]
  cf := some (fileOf pool12 1 #[] #[] 16433 29 #[] #[{ accessFlags := 16409, nameIndex := 5, descriptorIndex := 6, attributes := #[] }, { accessFlags := 16409, nameIndex := 9, descriptorIndex := 6, attributes := #[] }, { accessFlags := 16409, nameIndex := 12, descriptorIndex := 6, attributes := #[] }, { accessFlags := 16409, nameIndex := 15, descriptorIndex := 6, attributes := #[] }, { accessFlags := 16409, nameIndex := 18, descriptorIndex := 6, attributes := #[] }, { accessFlags := 18, nameIndex := 40, descriptorIndex := 41, attributes := #[] }, { accessFlags := 4122, nameIndex := 21, descriptorIndex := 22, attributes := #[] }])
  fields := #[{ name := "RUNNING", type := (.object "com/example/ferryline/ferryline/core/AttemptOutcome"), accessFlags := 16409, slot := 0, constantValue := 0 }, { name := "DONE", type := (.object "com/example/ferryline/ferryline/core/AttemptOutcome"), accessFlags := 16409, slot := 1, constantValue := 0 }, { name := "FAILED", type := (.object "com/example/ferryline/ferryline/core/AttemptOutcome"), accessFlags := 16409, slot := 2, constantValue := 0 }, { name := "TIME_LIMIT", type := (.object "com/example/ferryline/ferryline/core/AttemptOutcome"), accessFlags := 16409, slot := 3, constantValue := 0 }, { name := "WORKER_LOST", type := (.object "com/example/ferryline/ferryline/core/AttemptOutcome"), accessFlags := 16409, slot := 4, constantValue := 0 }, { name := "reason", type := (.object "com/example/ferryline/ferryline/core/FailReason"), accessFlags := 18, slot := 3, constantValue := 0 }, { name := "$VALUES", type := (.array (.object "com/example/ferryline/ferryline/core/AttemptOutcome")), accessFlags := 4122, slot := 5, constantValue := 0 }]
  methods := #[]
  instanceTypes := #[(.object "java/lang/String"), .int, .int, (.object "com/example/ferryline/ferryline/core/FailReason")]
  staticTypes := #[(.object "com/example/ferryline/ferryline/core/AttemptOutcome"), (.object "com/example/ferryline/ferryline/core/AttemptOutcome"), (.object "com/example/ferryline/ferryline/core/AttemptOutcome"), (.object "com/example/ferryline/ferryline/core/AttemptOutcome"), (.object "com/example/ferryline/ferryline/core/AttemptOutcome"), (.array (.object "com/example/ferryline/ferryline/core/AttemptOutcome"))]
  resolved := Array.replicate 89 none
  statics := some 1 }

def pool13 : Array CpInfo := pool [(4, .class_ 6), (1, u "java/lang/Object"), (0, u "<init>"), (0, u "()V"), (5, .class_ 16), (1, u "java/lang/StringLatin1"), (104, u "$assertionsDisabled"), (0, u "Z"), (98, .class_ 223), (1, u "java/lang/StringLatin1$LinesSpliterator"), (166, .class_ 391), (0, u "java/lang/StringLatin1$CharsSpliterator")] 3

def k13m0 : Method := { name := "<init>", desc := "()V", sig := { parameters := [], returnType := none }, accessFlags := 0, code := none }
/-- java/lang/StringLatin1 -/
def k13 : Class := { plain "java/lang/StringLatin1" (some 0) with
  accessFlags := 48
  interfaces := #[]
  cf := some (fileOf pool13 14 #[.nestMembers #[390, 221]] #[{ accessFlags := 0, nameIndex := 7, descriptorIndex := 8, attributes := #[] }] 48 4 #[] #[{ accessFlags := 4120, nameIndex := 121, descriptorIndex := 122, attributes := #[] }])
  fields := #[{ name := "$assertionsDisabled", type := .boolean, accessFlags := 4120, slot := 0, constantValue := 0 }]
  methods := #[k13m0]
  instanceTypes := #[]
  staticTypes := #[.boolean]
  resolved := Array.replicate 395 none
  statics := none }

def pool14 : Array CpInfo := pool [(2, .class_ 4), (1, u "java/lang/Object"), (0, u "<init>"), (0, u "()V"), (17, .class_ 26), (1, u "jdk/internal/util/Preconditions"), (28, .class_ 56), (0, u "jdk/internal/util/Preconditions$4"), (57, .class_ 115), (0, u "jdk/internal/util/Preconditions$1"), (7, u "SIOOBE_FORMATTER"), (0, u "Ljava/util/function/BiFunction;"), (0, .class_ 126), (0, u "jdk/internal/util/Preconditions$2"), (3, u "AIOOBE_FORMATTER"), (0, .class_ 132), (0, u "jdk/internal/util/Preconditions$3"), (3, u "IOOBE_FORMATTER")] 57

def k14m0 : Method := { name := "<init>", desc := "()V", sig := { parameters := [], returnType := none }, accessFlags := 1, code := none }
/-- jdk/internal/util/Preconditions -/
def k14 : Class := { plain "jdk/internal/util/Preconditions" (some 0) with
  accessFlags := 33
  interfaces := #[]
  cf := some (fileOf pool14 24 #[.nestMembers #[55, 131, 125, 114]] #[{ accessFlags := 1, nameIndex := 5, descriptorIndex := 6, attributes := #[] }] 33 2 #[] #[{ accessFlags := 25, nameIndex := 123, descriptorIndex := 124, attributes := #[] }, { accessFlags := 25, nameIndex := 130, descriptorIndex := 124, attributes := #[] }, { accessFlags := 25, nameIndex := 136, descriptorIndex := 124, attributes := #[] }])
  fields := #[{ name := "SIOOBE_FORMATTER", type := (.object "java/util/function/BiFunction"), accessFlags := 25, slot := 0, constantValue := 0 }, { name := "AIOOBE_FORMATTER", type := (.object "java/util/function/BiFunction"), accessFlags := 25, slot := 1, constantValue := 0 }, { name := "IOOBE_FORMATTER", type := (.object "java/util/function/BiFunction"), accessFlags := 25, slot := 2, constantValue := 0 }]
  methods := #[k14m0]
  instanceTypes := #[]
  staticTypes := #[(.object "java/util/function/BiFunction"), (.object "java/util/function/BiFunction"), (.object "java/util/function/BiFunction")]
  resolved := Array.replicate 194 none
  statics := some 2 }

def pool15 : Array CpInfo := pool [(9, u "<init>"), (6, .class_ 18), (1, u "java/lang/Object"), (0, u "()V"), (1, .class_ 23), (1, u "jdk/internal/util/ArraysSupport"), (0, u "LOG2_ARRAY_LONG_INDEX_SCALE"), (0, u "I"), (2, u "U"), (0, u "Ljdk/internal/misc/Unsafe;"), (8, u "BIG_ENDIAN"), (0, u "Z"), (8, u "LOG2_BYTE_BIT_SIZE"), (4, u "LOG2_ARRAY_INT_INDEX_SCALE"), (54, u "JLA"), (0, u "Ljdk/internal/access/JavaLangAccess;"), (11, u "LOG2_ARRAY_BOOLEAN_INDEX_SCALE"), (9, u "LOG2_ARRAY_BYTE_INDEX_SCALE"), (5, u "LOG2_ARRAY_CHAR_INDEX_SCALE"), (5, u "LOG2_ARRAY_SHORT_INDEX_SCALE"), (18, u "LOG2_ARRAY_FLOAT_INDEX_SCALE"), (24, u "LOG2_ARRAY_DOUBLE_INDEX_SCALE"), (89, u "T_BOOLEAN"), (2, u "T_CHAR"), (1, u "T_FLOAT"), (1, u "T_DOUBLE"), (1, u "T_BYTE"), (1, u "T_SHORT"), (1, u "T_INT"), (1, u "T_LONG"), (1, u "SOFT_MAX_ARRAY_LENGTH")] 83

def k15m0 : Method := { name := "<init>", desc := "()V", sig := { parameters := [], returnType := none }, accessFlags := 2, code := none }
/-- jdk/internal/util/ArraysSupport -/
def k15 : Class := { plain "jdk/internal/util/ArraysSupport" (some 0) with
  accessFlags := 33
  interfaces := #[]
  cf := some (fileOf pool15 21 #[] #[{ accessFlags := 2, nameIndex := 9, descriptorIndex := 19, attributes := #[] }] 33 16 #[] #[{ accessFlags := 24, nameIndex := 28, descriptorIndex := 29, attributes := #[] }, { accessFlags := 26, nameIndex := 38, descriptorIndex := 39, attributes := #[] }, { accessFlags := 25, nameIndex := 121, descriptorIndex := 25, attributes := #[] }, { accessFlags := 25, nameIndex := 131, descriptorIndex := 25, attributes := #[] }, { accessFlags := 25, nameIndex := 137, descriptorIndex := 25, attributes := #[] }, { accessFlags := 25, nameIndex := 143, descriptorIndex := 25, attributes := #[] }, { accessFlags := 25, nameIndex := 53, descriptorIndex := 25, attributes := #[] }, { accessFlags := 25, nameIndex := 24, descriptorIndex := 25, attributes := #[] }, { accessFlags := 25, nameIndex := 162, descriptorIndex := 25, attributes := #[] }, { accessFlags := 25, nameIndex := 187, descriptorIndex := 25, attributes := #[] }, { accessFlags := 26, nameIndex := 48, descriptorIndex := 25, attributes := #[] }, { accessFlags := 25, nameIndex := 277, descriptorIndex := 25, attributes := #[] }, { accessFlags := 25, nameIndex := 280, descriptorIndex := 25, attributes := #[] }, { accessFlags := 25, nameIndex := 282, descriptorIndex := 25, attributes := #[] }, { accessFlags := 25, nameIndex := 284, descriptorIndex := 25, attributes := #[] }, { accessFlags := 25, nameIndex := 286, descriptorIndex := 25, attributes := #[] }, { accessFlags := 25, nameIndex := 288, descriptorIndex := 25, attributes := #[] }, { accessFlags := 25, nameIndex := 290, descriptorIndex := 25, attributes := #[] }, { accessFlags := 25, nameIndex := 292, descriptorIndex := 25, attributes := #[] }, { accessFlags := 26, nameIndex := 108, descriptorIndex := 109, attributes := #[] }, { accessFlags := 25, nameIndex := 294, descriptorIndex := 25, attributes := #[] }])
  fields := #[{ name := "U", type := (.object "jdk/internal/misc/Unsafe"), accessFlags := 24, slot := 0, constantValue := 0 }, { name := "BIG_ENDIAN", type := .boolean, accessFlags := 26, slot := 1, constantValue := 0 }, { name := "LOG2_ARRAY_BOOLEAN_INDEX_SCALE", type := .int, accessFlags := 25, slot := 2, constantValue := 0 }, { name := "LOG2_ARRAY_BYTE_INDEX_SCALE", type := .int, accessFlags := 25, slot := 3, constantValue := 0 }, { name := "LOG2_ARRAY_CHAR_INDEX_SCALE", type := .int, accessFlags := 25, slot := 4, constantValue := 0 }, { name := "LOG2_ARRAY_SHORT_INDEX_SCALE", type := .int, accessFlags := 25, slot := 5, constantValue := 0 }, { name := "LOG2_ARRAY_INT_INDEX_SCALE", type := .int, accessFlags := 25, slot := 6, constantValue := 0 }, { name := "LOG2_ARRAY_LONG_INDEX_SCALE", type := .int, accessFlags := 25, slot := 7, constantValue := 0 }, { name := "LOG2_ARRAY_FLOAT_INDEX_SCALE", type := .int, accessFlags := 25, slot := 8, constantValue := 0 }, { name := "LOG2_ARRAY_DOUBLE_INDEX_SCALE", type := .int, accessFlags := 25, slot := 9, constantValue := 0 }, { name := "LOG2_BYTE_BIT_SIZE", type := .int, accessFlags := 26, slot := 10, constantValue := 0 }, { name := "T_BOOLEAN", type := .int, accessFlags := 25, slot := 11, constantValue := 0 }, { name := "T_CHAR", type := .int, accessFlags := 25, slot := 12, constantValue := 0 }, { name := "T_FLOAT", type := .int, accessFlags := 25, slot := 13, constantValue := 0 }, { name := "T_DOUBLE", type := .int, accessFlags := 25, slot := 14, constantValue := 0 }, { name := "T_BYTE", type := .int, accessFlags := 25, slot := 15, constantValue := 0 }, { name := "T_SHORT", type := .int, accessFlags := 25, slot := 16, constantValue := 0 }, { name := "T_INT", type := .int, accessFlags := 25, slot := 17, constantValue := 0 }, { name := "T_LONG", type := .int, accessFlags := 25, slot := 18, constantValue := 0 }, { name := "JLA", type := (.object "jdk/internal/access/JavaLangAccess"), accessFlags := 26, slot := 19, constantValue := 0 }, { name := "SOFT_MAX_ARRAY_LENGTH", type := .int, accessFlags := 25, slot := 20, constantValue := 0 }]
  methods := #[k15m0]
  instanceTypes := #[]
  staticTypes := #[(.object "jdk/internal/misc/Unsafe"), .boolean, .int, .int, .int, .int, .int, .int, .int, .int, .int, .int, .int, .int, .int, .int, .int, .int, .int, (.object "jdk/internal/access/JavaLangAccess"), .int]
  resolved := Array.replicate 378 none
  statics := none }

def pool16 : Array CpInfo := pool [(1, u "java/lang/Cloneable"), (0, .class_ 1), (0, u "java/lang/Object"), (0, .class_ 3)] 3

/-- java/lang/Cloneable -/
def k16 : Class := { plain "java/lang/Cloneable" (some 0) with
  accessFlags := 1537
  interfaces := #[]
  cf := some (fileOf pool16 2 #[] #[] 1537 4 #[] #[])
  fields := #[]
  methods := #[]
  instanceTypes := #[]
  staticTypes := #[]
  resolved := Array.replicate 8 none
  statics := none }

/-- the primitive byte -/
def k17 : Class := { plain "byte" none with kind := .primitive 'B', accessFlags := 0x411 }
/-- [B -/
def k18 : Class := { plain "[B" (some 0) with kind := .array 17 .byte, interfaces := #[16, 2], accessFlags := 1041 }

/-- the primitive char -/
def k19 : Class := { plain "char" none with kind := .primitive 'C', accessFlags := 0x411 }
/-- [C -/
def k20 : Class := { plain "[C" (some 0) with kind := .array 19 .char, interfaces := #[16, 2], accessFlags := 1041 }

/-- the primitive int -/
def k21 : Class := { plain "int" none with kind := .primitive 'I', accessFlags := 0x411 }
/-- [I -/
def k22 : Class := { plain "[I" (some 0) with kind := .array 21 .int, interfaces := #[16, 2], accessFlags := 1041 }

def heap : Heap := #[{ cls := 7, slots := #[.long 0, .int 1, .null, .int 0, .null, .int 0, .int 0], vm := .statics 7 },
  { cls := 12, slots := #[.null, .ref 5, .ref 3, .ref 4, .null, .null], vm := .statics 12 },
  { cls := 14, slots := #[.null, .null, .null], vm := .statics 14 },
  { cls := 12, slots := #[.null, .int 0, .int 0, .null], vm := .none },
  { cls := 12, slots := #[.null, .int 0, .int 0, .null], vm := .none },
  { cls := 12, slots := #[.null, .int 0, .int 0, .null], vm := .none }]
def classes : Array Class := #[k0, k1, k2, k3, k4, k5, k6, k7, k8, k9, k10, k11, k12, k13, k14, k15, k16, k17, k18, k19, k20, k21, k22]
def interned : List (Array UInt16 × Addr) := []
def slotsUsed : Nat := 28
def theMethod : MethodId := ⟨1, 1⟩
def args0 : Array Value := #[.long 5, .int 5, .int 5, .int 5, .int 5]
def aboutOver (below : List Frame) : State where
  vm := { classes := classes, interned := interned.toArray }
  heap := heap
  slotsUsed := slotsUsed
  threads := #[{ frames := .invoking theMethod args0 :: below }]
def below0 : List Frame := [.native { method := ⟨0, 0⟩, args := #[] }]
def about1 : State := aboutOver below0
def p0 : Program := .bare "" "" ""
def e0 : Env := launch0.env 0 0 0
theorem w_frames : about1.frames = Frame.invoking theMethod args0 :: below0 := rfl
set_option maxRecDepth 65536 in
theorem w_args : argsFit about1.vm theMethod args0 = true := by decide +kernel
set_option maxRecDepth 65536 in
theorem w_heap : heapFits about1 = true := by decide +kernel
set_option maxRecDepth 65536 in
theorem w_runnable : about1.curStatus? = some .runnable := by decide +kernel
set_option maxRecDepth 65536 in
theorem w_alone : about1.alone = true := by decide +kernel
set_option maxRecDepth 65536 in
theorem w_named : about1.methodNamed? x = some theMethod := by decide +kernel
set_option maxRecDepth 65536 in
theorem w_hears : about1.hears theMethod below0 = true := by decide +kernel
set_option maxRecDepth 65536 in
theorem w_ripe : about1.ripe theMethod args0 below0 = true := by decide +kernel
theorem w_running : about1.status = .running := rfl
set_option maxRecDepth 65536 in
theorem w_room : about1.hasRoom e0.platform room_1 = true :=
  launch0.hasRoom_least _ room_1 (by decide +kernel) (by decide +kernel) (by decide +kernel) (by decide +kernel) (by decide +kernel) (by decide +kernel)
theorem allAtoms_all (ts : List Jvm.Cond) (a : Array Jvm.Value) (st : Jvm.State) : (allAtoms ts).before a st = ts.all (fun c => c.before a st) := by
  induction ts with
  | nil => rfl
  | cons c t ih =>
    show (Jvm.Cond.and c (allAtoms t)).before a st = _
    rw [Jvm.Cond.before_and, ih, List.all_cons]
def words1 : List Jvm.Cond := Jvm.Cond.code x code maxLocals ret :: tables_1
/-- a 'code' word, met by the world's own term for the bytes: nothing is compared byte by byte -/
theorem code_word {y : MethodName} {bytes : ByteArray} {mx : Nat} {rt : Option FieldType} {a : Array Value} {s : State} {m : MethodId} {meth : Method} {c : Code} (h1 : s.methodNamed? y = some m) (h2 : s.vm.method? m = some meth) (h3 : meth.code = some c) (h4 : c.code = bytes)
    (h5 : (c.maxLocals == mx && c.exceptionTable.isEmpty && decide (c.maxStack ≤ mostOperands) && decide (meth.sig.returnType = rt) && !meth.locks && decide (parseMethodDescriptor y.desc = some meth.sig)) = true) : (Jvm.Cond.code y bytes mx rt).before a s = true := by
  simp only [Bool.and_eq_true, beq_iff_eq, Bool.not_eq_true', decide_eq_true_eq] at h5
  obtain ⟨⟨⟨⟨⟨g1, g2⟩, g3⟩, g4⟩, g5⟩, g6⟩ := h5
  simp [Cond.before, Cond.holds, Cond.value, h1, h2, h3, h4, g1, g2, g3, g4, g5, g6]
def isCode : Jvm.Cond → Bool
  | .code _ _ _ _ => true
  | _ => false
theorem all_split {L : List Jvm.Cond} {P : Jvm.Cond → Bool} (h1 : L.all (fun c => isCode c || P c) = true) (h2 : ∀ c ∈ L.filter isCode, P c = true) : L.all P = true := by
  refine List.all_eq_true.mpr fun c hc => ?_
  have h := List.all_eq_true.mp h1 c hc
  rcases Bool.eq_false_or_eq_true (isCode c) with hi | hi
  · exact h2 c (List.mem_filter.mpr ⟨hc, hi⟩)
  · simpa [hi] using h
set_option maxRecDepth 65536 in
theorem w_c0 : (Jvm.Cond.code x code maxLocals ret).before args0 about1 = true := code_word (m := ⟨1, 1⟩) (meth := k1m1) (c := k1c1) (by decide +kernel) rfl rfl rfl (by decide +kernel)
set_option maxRecDepth 65536 in
theorem w_c1 : (Jvm.Cond.code ({ cls := "java/lang/String", name := "<init>", desc := "([C)V" } : Jvm.MethodName) jdk_42_method_3_code (2 : Nat) (Option.none : Option Jvm.ClassFile.FieldType)).before args0 about1 = true := code_word (m := ⟨7, 1⟩) (meth := k7m1) (c := k7c1) (by decide +kernel) rfl rfl rfl (by decide +kernel)
set_option maxRecDepth 65536 in
theorem w_c2 : (Jvm.Cond.code ({ cls := "java/lang/String", name := "<init>", desc := "([CIILjava/lang/Void;)V" } : Jvm.MethodName) jdk_42_method_149_code (6 : Nat) (Option.none : Option Jvm.ClassFile.FieldType)).before args0 about1 = true := code_word (m := ⟨7, 2⟩) (meth := k7m2) (c := k7c2) (by decide +kernel) rfl rfl rfl (by decide +kernel)
set_option maxRecDepth 65536 in
theorem w_c3 : (Jvm.Cond.code ({ cls := "java/lang/Object", name := "<init>", desc := "()V" } : Jvm.MethodName) object_method_1_code (1 : Nat) (Option.none : Option Jvm.ClassFile.FieldType)).before args0 about1 = true := code_word (m := ⟨0, 0⟩) (meth := k0m0) (c := k0c0) (by decide +kernel) rfl rfl rfl (by decide +kernel)
set_option maxRecDepth 65536 in
theorem w_c4 : (Jvm.Cond.code ({ cls := "java/lang/StringUTF16", name := "compress", desc := "([CII)[B" } : Jvm.MethodName) jdk_52_method_16_code (6 : Nat) (Option.some (Jvm.ClassFile.FieldType.array Jvm.ClassFile.FieldType.byte))).before args0 about1 = true := code_word (m := ⟨8, 2⟩) (meth := k8m2) (c := k8c2) (by decide +kernel) rfl rfl rfl (by decide +kernel)
set_option maxRecDepth 65536 in
theorem w_c5 : (Jvm.Cond.code ({ cls := "java/lang/StringUTF16", name := "compress", desc := "([CI[BII)I" } : Jvm.MethodName) jdk_52_method_21_code (7 : Nat) (Option.some Jvm.ClassFile.FieldType.int)).before args0 about1 = true := code_word (m := ⟨8, 3⟩) (meth := k8m3) (c := k8c3) (by decide +kernel) rfl rfl rfl (by decide +kernel)
set_option maxRecDepth 65536 in
theorem w_c6 : (Jvm.Cond.code ({ cls := "java/lang/StringUTF16", name := "coderFromArrayLen", desc := "([BI)B" } : Jvm.MethodName) jdk_52_method_15_code (2 : Nat) (Option.some Jvm.ClassFile.FieldType.byte)).before args0 about1 = true := code_word (m := ⟨8, 1⟩) (meth := k8m1) (c := k8c1) (by decide +kernel) rfl rfl rfl (by decide +kernel)
set_option maxRecDepth 65536 in
theorem w_c7 : (Jvm.Cond.code ({ cls := "com/example/ferryline/ferryline/core/AttemptEnd", name := "<init>", desc := "(JIILjava/lang/String;Z)V" } : Jvm.MethodName) prog_17_method_1_code (7 : Nat) (Option.none : Option Jvm.ClassFile.FieldType)).before args0 about1 = true := code_word (m := ⟨10, 0⟩) (meth := k10m0) (c := k10c0) (by decide +kernel) rfl rfl rfl (by decide +kernel)
set_option maxRecDepth 65536 in
theorem w_c8 : (Jvm.Cond.code ({ cls := "java/lang/Record", name := "<init>", desc := "()V" } : Jvm.MethodName) jdk_30_method_1_code (1 : Nat) (Option.none : Option Jvm.ClassFile.FieldType)).before args0 about1 = true := code_word (m := ⟨9, 0⟩) (meth := k9m0) (c := k9c0) (by decide +kernel) rfl rfl rfl (by decide +kernel)
set_option maxRecDepth 65536 in
theorem w_c9 : (Jvm.Cond.code ({ cls := "com/example/ferryline/ferryline/core/AttemptEnd", name := "outcome", desc := "()Lcom/example/ferryline/ferryline/core/AttemptOutcome;" } : Jvm.MethodName) prog_17_method_2_code (1 : Nat) (Option.some (Jvm.ClassFile.FieldType.object "com/example/ferryline/ferryline/core/AttemptOutcome"))).before args0 about1 = true := code_word (m := ⟨10, 1⟩) (meth := k10m1) (c := k10c1) (by decide +kernel) rfl rfl rfl (by decide +kernel)
def codes1 : List Jvm.Cond := [Jvm.Cond.code x code maxLocals ret, Jvm.Cond.code ({ cls := "java/lang/String", name := "<init>", desc := "([C)V" } : Jvm.MethodName) jdk_42_method_3_code (2 : Nat) (Option.none : Option Jvm.ClassFile.FieldType), Jvm.Cond.code ({ cls := "java/lang/String", name := "<init>", desc := "([CIILjava/lang/Void;)V" } : Jvm.MethodName) jdk_42_method_149_code (6 : Nat) (Option.none : Option Jvm.ClassFile.FieldType), Jvm.Cond.code ({ cls := "java/lang/Object", name := "<init>", desc := "()V" } : Jvm.MethodName) object_method_1_code (1 : Nat) (Option.none : Option Jvm.ClassFile.FieldType), Jvm.Cond.code ({ cls := "java/lang/StringUTF16", name := "compress", desc := "([CII)[B" } : Jvm.MethodName) jdk_52_method_16_code (6 : Nat) (Option.some (Jvm.ClassFile.FieldType.array Jvm.ClassFile.FieldType.byte)), Jvm.Cond.code ({ cls := "java/lang/StringUTF16", name := "compress", desc := "([CI[BII)I" } : Jvm.MethodName) jdk_52_method_21_code (7 : Nat) (Option.some Jvm.ClassFile.FieldType.int), Jvm.Cond.code ({ cls := "java/lang/StringUTF16", name := "coderFromArrayLen", desc := "([BI)B" } : Jvm.MethodName) jdk_52_method_15_code (2 : Nat) (Option.some Jvm.ClassFile.FieldType.byte), Jvm.Cond.code ({ cls := "com/example/ferryline/ferryline/core/AttemptEnd", name := "<init>", desc := "(JIILjava/lang/String;Z)V" } : Jvm.MethodName) prog_17_method_1_code (7 : Nat) (Option.none : Option Jvm.ClassFile.FieldType), Jvm.Cond.code ({ cls := "java/lang/Record", name := "<init>", desc := "()V" } : Jvm.MethodName) jdk_30_method_1_code (1 : Nat) (Option.none : Option Jvm.ClassFile.FieldType), Jvm.Cond.code ({ cls := "com/example/ferryline/ferryline/core/AttemptEnd", name := "outcome", desc := "()Lcom/example/ferryline/ferryline/core/AttemptOutcome;" } : Jvm.MethodName) prog_17_method_2_code (1 : Nat) (Option.some (Jvm.ClassFile.FieldType.object "com/example/ferryline/ferryline/core/AttemptOutcome"))]
set_option maxRecDepth 65536 in
theorem codes_eq : words1.filter isCode = codes1 := rfl
theorem w_codes : ∀ c ∈ words1.filter isCode, c.before args0 about1 = true := by
  rw [codes_eq]
  intro c hc
  simp only [codes1, List.mem_cons, List.not_mem_nil, or_false] at hc
  rcases hc with rfl | rfl | rfl | rfl | rfl | rfl | rfl | rfl | rfl | rfl
  · exact w_c0
  · exact w_c1
  · exact w_c2
  · exact w_c3
  · exact w_c4
  · exact w_c5
  · exact w_c6
  · exact w_c7
  · exact w_c8
  · exact w_c9
set_option maxRecDepth 65536 in
theorem w_t1 : (words1.take 24).all (fun c => isCode c || c.before args0 about1) = true := by decide +kernel
set_option maxRecDepth 65536 in
theorem w_t2 : ((words1.drop 24).take 24).all (fun c => isCode c || c.before args0 about1) = true := by decide +kernel
set_option maxRecDepth 65536 in
theorem w_t3 : ((words1.drop 24).drop 24).all (fun c => isCode c || c.before args0 about1) = true := by decide +kernel
theorem w_tables : (allAtoms (Jvm.Cond.code x code maxLocals ret :: tables_1)).before args0 about1 = true := by
  rw [allAtoms_all]
  show words1.all (fun c => c.before args0 about1) = true
  refine all_split ?_ w_codes
  rw [← List.take_append_drop 24 words1, List.all_append, w_t1, ← List.take_append_drop 24 (words1.drop 24), List.all_append, w_t2, w_t3]
  rfl
set_option maxRecDepth 65536 in
theorem w_rest : rest_1_c.before args0 about1 = true := by decide +kernel
set_option maxRecDepth 65536 in
theorem w_case : (Jvm.Cond.and given_1 narrow_1).before args0 about1 = true := by decide +kernel
theorem w_applies : (headSpec (Jvm.Cond.code x code maxLocals ret :: tables_1) room_1).applies x e0.platform about1 = true :=
  (Spec.applies_iff w_frames).mpr ⟨w_running, w_runnable, w_alone, w_named, w_hears, w_ripe, w_room, w_tables⟩
theorem atStart : AtStart classFile x code maxLocals ret World_1 tables_1 room_1 Calls_1 rest_1 Pre_1 launch0 p0 e0 about1 theMethod args0 below0 :=
  ⟨lists_1, trivial, launch0.admits_env _ _ _, launch0.least_env, fairChoices_fair.cas, fairChoices_fair.clock, w_frames, w_args, w_heap, w_applies, trivial, w_rest, w_case⟩
end start1
theorem witness_1 : WitnessClaimed_1 := ⟨start1.p0, start1.e0, start1.about1, start1.theMethod, start1.args0, start1.below0, start1.atStart⟩
end Jvm.Pilot.@@N@@
