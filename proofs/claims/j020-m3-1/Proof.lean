import JvmDerived
import JvmDerived.Pilot.@@N@@Statement
import JvmDerived.Pilot.@@N@@Code
set_option linter.unusedVariables false
set_option linter.unusedSimpArgs false
@@BLOCK:TracedD.lean.txt@@
namespace Jvm.RoadKit
open Sem ClassFile Op Lib Jvm.Stand Jvm.Free Jvm.LawKit
section New
variable {p : Program} {l : Launch} {e : Env} {R : Room} {s : State} {m : MethodId} {args : Array Value} {below : List Frame} {meth : Method} {c : Code} {T : State} {locs : List Loc} {cells slots : Nat}
theorem retI (X : Stand p l e R s m args below meth c T locs cells slots) (hx : p.tables.exec = Jvm.exec) {pc : Nat} {Ls : Array Slot} {z : Int32} {rest : List Value} (hret : meth.sig.returnType = some .int) (hd : decode c.code pc = .ok (.ireturn, 1)) {fs : List Frame}
    (hl : ∀ (f : JFrame) (acts : List Action), f.method = m → f.locked = none → f.entered = [] → (doReturn e (T.setTop f) acts (some (.int z))).1 = T.setFrames fs) : Steps p.tables e below (T.setTop (mkF m pc Ls (.int z :: rest))) (T.setFrames fs) := by
  have hm' : T.vm.method? m = some meth := X.method'
  have hn : narrow .int (.int z) = .int z := rfl
  show Steps p.tables e below (T.setTop { method := m, pc := pc, locals := Ls, stack := _ :: rest, locked := none }) _
  jvm_step X.here [X.here.top, hx, hd, hm', hret, hn]
  first | (intro acts; rw [hl _ acts rfl rfl rfl]) | rw [hl _ _ rfl rfl rfl]
  exact Steps.refl _
end New
end Jvm.RoadKit
namespace Jvm.Pilot.@@N@@
open Jvm Jvm.ClassFile Sem Op Lib Jvm.Free Jvm.Stand Jvm.LawKit Jvm.RoadKit Bundle Jvm.Pilot.@@N@@.Jvm.D
section Own
variable {p : Program} {l : Launch} {e : Env} {R : Room} {s : State} {m : MethodId} {args : Array Value} {below : List Frame} {meth : Method} {c : Code} {T T' : State} {locs : List Loc} {cells slots : Nat} {f f' : JFrame} {Q : Option Value → Heap → List Loc → Prop} {ck sk : Nat} {h : Heap} {Z : State}
/-- from here the run comes to its end, and leaves what Q says -/
def Go (p : Program) (e : Env) (below : List Frame) (s : State) (Q : Option Value → Heap → List Loc → Prop) (ck sk : Nat) (T : State) (f : JFrame) : Prop :=
  ∃ s₂ o, Steps p.tables e below (T.setTop f) s₂ ∧ s₂.status = .running ∧ Ended s₂ below o ∧ ∃ v L, o = .returned v ∧ Q v s₂.heap L ∧ FrameEnd s o s₂ L ck sk
theorem Go.step (st : ∀ t, Steps p.tables e below (T'.setTop f') t → Steps p.tables e below (T.setTop f) t) (k : Go p e below s Q ck sk T' f') : Go p e below s Q ck sk T f := by
  obtain ⟨s₂, o, h1, r⟩ := k; exact ⟨s₂, o, st _ h1, r⟩
theorem Go.via (st : Steps p.tables e below (T.setTop f) (T'.setTop f')) (k : Go p e below s Q ck sk T' f') : Go p e below s Q ck sk T f := by
  obtain ⟨s₂, o, h1, r⟩ := k; exact ⟨s₂, o, st.trans h1, r⟩
theorem Go.retI (X : Stand p l e R s m args below meth c T locs cells slots) (hx : p.tables.exec = Jvm.exec) (hlk : meth.locks = false) {pc : Nat} {Ls : Array Slot} {z : Int32} {rest : List Value} (hret : meth.sig.returnType = some .int) (hd : decode c.code pc = .ok (.ireturn, 1)) (eT : T.heap = h) (hq : Q (some (.int z)) h locs) (hck : cells ≤ ck) (hsk : slots ≤ sk) : Go p e below s Q ck sk T (mkF m pc Ls (.int z :: rest)) := by
  subst eT
  obtain ⟨fs, hr, hrun, hended, hW, hsame⟩ := X.leave (v := some (.int z)) (fun h => by rw [hret] at h; cases h) hlk
  exact ⟨_, _, Jvm.RoadKit.retI X hx hret hd hr, hrun, hended, _, _, rfl, hq, ⟨_, rfl⟩, hW, hsame.mono hck hsk⟩
theorem Go.retZ (X : Stand p l e R s m args below meth c T locs cells slots) (hx : p.tables.exec = Jvm.exec) (hlk : meth.locks = false) {pc : Nat} {Ls : Array Slot} {z : Int32} {rest : List Value} {t : FieldType} (hret : meth.sig.returnType = some t) (ht : t = .boolean ∨ t = .byte ∨ t = .char ∨ t = .short) (hd : decode c.code pc = .ok (.ireturn, 1)) (eT : T.heap = h) (hq : Q (some (.int (nar t z))) h locs) (hck : cells ≤ ck) (hsk : slots ≤ sk) : Go p e below s Q ck sk T (mkF m pc Ls (.int z :: rest)) := by
  subst eT
  obtain ⟨fs, hr, hrun, hended, hW, hsame⟩ := X.leave (v := some (.int (nar t z))) (fun h => by rw [hret] at h; cases h) hlk
  exact ⟨_, _, retN X hx hret ht hd hr, hrun, hended, _, _, rfl, hq, ⟨_, rfl⟩, hW, hsame.mono hck hsk⟩
theorem Go.retV (X : Stand p l e R s m args below meth c T locs cells slots) (hx : p.tables.exec = Jvm.exec) (hlk : meth.locks = false) {pc : Nat} {Ls : Array Slot} (hret : meth.sig.returnType = none) (hd : decode c.code pc = .ok (.return_, 1)) (eT : T.heap = h) (hq : Q none h locs) (hck : cells ≤ ck) (hsk : slots ≤ sk) : Go p e below s Q ck sk T (mkF m pc Ls []) := by
  subst eT
  obtain ⟨fs, hr, hrun, hended, hW, hsame⟩ := X.leave (v := none) (fun _ => rfl) hlk
  exact ⟨_, _, X.returnOut hx hret hd hr, hrun, hended, _, _, rfl, hq, ⟨_, rfl⟩, hW, hsame.mono hck hsk⟩
theorem Go.retJ (X : Stand p l e R s m args below meth c T locs cells slots) (hx : p.tables.exec = Jvm.exec) (hlk : meth.locks = false) {pc : Nat} {Ls : Array Slot} {z : Int64} {rest : List Value} (hret : meth.sig.returnType = some .long) (hd : decode c.code pc = .ok (.lreturn, 1)) (eT : T.heap = h) (hq : Q (some (.long z)) h locs) (hck : cells ≤ ck) (hsk : slots ≤ sk) : Go p e below s Q ck sk T (mkF m pc Ls (.long z :: rest)) := by
  subst eT
  obtain ⟨fs, hr, hrun, hended, hW, hsame⟩ := X.leave (v := some (.long z)) (fun h => by rw [hret] at h; cases h) hlk
  exact ⟨_, _, retOut X hx hret rfl (Or.inr (Or.inl ⟨rfl, rfl, _, rfl⟩)) hd hr, hrun, hended, _, _, rfl, hq, ⟨_, rfl⟩, hW, hsame.mono hck hsk⟩
theorem own_nar_ref {t : FieldType} {w : Value} (h1 : t.isReference = true) (h2 : w.isRef = true) : narrow t w = w := by
  cases t <;> first | (cases h1; done) | (cases w <;> first | rfl | (cases h2; done))
theorem Go.retA (X : Stand p l e R s m args below meth c T locs cells slots) (hx : p.tables.exec = Jvm.exec) (hlk : meth.locks = false) {pc : Nat} {Ls : Array Slot} {w : Value} {rest : List Value} {t : FieldType} (hret : meth.sig.returnType = some t) (ht : t.isReference = true) (hw : w.isRef = true) (hd : decode c.code pc = .ok (.areturn, 1)) (eT : T.heap = h) (hq : Q (some w) h locs) (hck : cells ≤ ck) (hsk : slots ≤ sk) : Go p e below s Q ck sk T (mkF m pc Ls (w :: rest)) := by
  subst eT
  obtain ⟨fs, hr, hrun, hended, hW, hsame⟩ := X.leave (v := some w) (fun h => by rw [hret] at h; cases h) hlk
  exact ⟨_, _, retOut X hx hret (own_nar_ref ht hw) (Or.inr (Or.inr (Or.inr (Or.inr ⟨rfl, ht, hw⟩)))) hd hr, hrun, hended, _, _, rfl, hq, ⟨_, rfl⟩, hW, hsame.mono hck hsk⟩
theorem own_old_le {n0 : Nat} (o : Old Z n0 h) : n0 ≤ h.size := o.1 ▸ o.2.1
theorem own_alen (X : Stand p l e R s m args below meth c T locs cells slots) (hx : p.tables.exec = Jvm.exec) (hZ : Z.Warmed39 s.vm) (eT : T.heap = h) {a : Addr} {cl : Cell} {ty : FieldType} (A : Arr Z h a cl ty) {z : Int32} (S : cl.slots.size = z.toNatClampNeg) (N : ¬ z < 0) {g : JFrame} (hg : g.method = m) {rest : List Value} (hs : g.stack = .ref a :: rest) (hd : decode c.code g.pc = .ok (.arraylength, 1)) {t : State}
    (k : Steps p.tables e below (T.setTop { g with pc := g.pc + 1, stack := .int z :: rest }) t) : Steps p.tables e below (T.setTop g) t :=
  X.arraylength hx (by rw [eT]; exact A.1) (State.isArrayOf_alike hZ.alike A.2.1) hg hs hd _ (by rw [len_of S N]; exact k)
theorem own_fld_start {args : Array Value} {s : State} {t : Term} {a : Addr} {C n d : String} {k : Int32} (ev : t.eval args s none [] s = some (.ref a)) (h : (Jvm.Cond.eq (.field t C n d) (.int k)).value args s none s [] = some true) : Fld s s.heap a C n d (.int k) := by
  refine Fld.start ?_
  rw [← fld_at ev]
  obtain ⟨x, y, h1, h2, h3, h4⟩ := cmp_v (Or.inl h)
  have h2' : (Value.int k) = y := Option.some.inj h2
  subst h2'
  obtain ⟨z, rfl⟩ := h4
  have q := gotT (Jvm.Cond.eq_ints h1 h2) h
  rw [h1, q]
theorem own_nar8 (z : Int32) : z.toInt8.toInt32.toInt8.toInt32 = z.toInt8.toInt32 := by simp
end Own
section OwnH
variable {p : Program} {l : Launch} {e : Env} {R : Room} {s : State} {m : MethodId} {args : Array Value} {below : List Frame} {meth : Method} {c : Code} {T T' : State} {locs : List Loc} {cells slots : Nat} {f f' : JFrame} {Q : Option Value → Heap → List Loc → Prop} {ck sk : Nat} {h : Heap} {Z : State} {EL : List (String × Nat)} {a0 : Array Value} {vm0 : Vm} {k0 : Nat}
/-- as Go, where String constants may be loaded on the way -/
def GoH (p : Program) (e : Env) (below : List Frame) (s : State) (Z : State) (EL : List (String × Nat)) (Q : Option Value → Heap → List Loc → Prop) (ck sk : Nat) (T : State) (f : JFrame) : Prop :=
  ∃ s₂ o, Steps p.tables e below (T.setTop f) s₂ ∧ s₂.status = .running ∧ Ended s₂ below o ∧ ∃ v L, o = .returned v ∧ Q v s₂.heap L ∧ CHr Z EL s.vm s.heap s₂.vm s₂.heap ∧ ReturnedEndW s o s₂ L ck sk
theorem GoH.step (st : ∀ t, Steps p.tables e below (T'.setTop f') t → Steps p.tables e below (T.setTop f) t) (k : GoH p e below s Z EL Q ck sk T' f') : GoH p e below s Z EL Q ck sk T f := by
  obtain ⟨s₂, o, h1, r⟩ := k; exact ⟨s₂, o, st _ h1, r⟩
theorem GoH.via (st : Steps p.tables e below (T.setTop f) (T'.setTop f')) (k : GoH p e below s Z EL Q ck sk T' f') : GoH p e below s Z EL Q ck sk T f := by
  obtain ⟨s₂, o, h1, r⟩ := k; exact ⟨s₂, o, st.trans h1, r⟩
theorem GoH.fin (X : Stand p l e R (s.setVm vm0) m args below meth c T locs cells slots) (hZ : Z.Warmed39 vm0) (hEL : EW Z a0 EL) (hS : s.Since vm0 k0) (hk : k0 ≤ h.size) (hC : CHr Z EL s.vm s.heap vm0 h) (hlk : meth.locks = false) {v : Option Value} (hv : meth.sig.returnType = none → v = none)
    (hst : ∀ fs, (∀ (f : JFrame) (acts : List Action), f.method = m → f.locked = none → f.entered = [] → (doReturn e (T.setTop f) acts v).1 = T.setFrames fs) → Steps p.tables e below (T.setTop f) (T.setFrames fs)) (eT : T.heap = h) (hq : Q v h locs) (hck : cells ≤ ck) (hsk : slots ≤ sk) : GoH p e below s Z EL Q ck sk T f := by
  subst eT
  obtain ⟨fs, hr, hrun, hended, hE⟩ := X.leaveW hS hk hv hlk
  exact ⟨_, _, hst fs hr, hrun, hended, _, _, rfl, hq, (show CHr Z EL s.vm s.heap (T.setFrames fs).vm (T.setFrames fs).heap from (hC.trans (CHv.at X hZ hEL hC.1) : CHr Z EL s.vm s.heap T.vm T.heap)), hE.1, hE.2.1, hE.2.2.1, hE.2.2.2.mono hck hsk⟩
theorem own_wS (hw : ∀ d ∈ tables_1, d.before a0 Z = true) : ∀ a ∈ Bundle.stringAtoms, a.before a0 Z = true := fun d hd => hw d ((by decide +kernel : ∀ w ∈ Bundle.stringAtoms, w ∈ tables_1) d hd)
theorem own_fcast {a : Addr} {C n d : String} {v w : Value} (e : v = w) (F : Fld Z h a C n d v) : Fld Z h a C n d w := e ▸ F
end OwnH
def own_EL : List (String × Nat) := [("java/lang/String", 7)]
/-- a String whose array isn't laid yet is no constant's -/
theorem own_safe_null {Z : State} {EL : List (String × Nat)} {vm : Vm} {h : Heap} {x : Addr} (hal : Z.vm.Alike vm) (E : Exa Z h x "java/lang/String") (F : Fld Z h x "java/lang/String" "value" "[B" .null) : Safe Z EL vm h x := fun B => by
  obtain ⟨cell, k, e1, e2, e3, -, -⟩ := E
  have nm : ∀ {n : String} {c : ClassId}, vm.findClass n = some c → c = cell.cls → n = "java/lang/String" := fun {n c} f e => by
    subst e
    rw [hal.findClass] at f
    obtain ⟨k1, q1, q2⟩ := Vm.findClass_spec f
    obtain ⟨k2, q3, q4⟩ := Vm.findClass_spec e2
    cases q1.symm.trans q3
    exact q2.symm.trans q4
  obtain ⟨p, -, u, a, -, q, -, G, rfl | rfl⟩ := B
  · have ha := G.ha
    obtain ⟨cS, ⟨⟨-, -, -, ⟨c1, k1, i1, f1, -⟩, -, -, -, v1, -⟩, -⟩, -⟩ := G
    obtain ⟨cell', cf, kk, i, f, g1, g2, -, -, -, -, g7⟩ := F
    cases (show h[q.sa]? = some q.sC from ha).symm.trans g1
    obtain ⟨k3, g3, -⟩ := State.fieldFound?_setVm (s := Z) hal g2
    have g4 := (show (Wst Z vm h).fieldFound? _ _ _ = _ from g3).symm.trans f1
    simp only [Option.some.injEq, Prod.mk.injEq] at g4
    rw [← g4.2.2.2, g7] at v1
    cases v1
  · cases (show h[q.sd]? = some q.SA from G.hd).symm.trans e1
    obtain ⟨cS, -, -, f, -⟩ := G
    exact absurd (nm f rfl) (by decide)
theorem own_i2c (x : Int32) : nar .char ((x &&& (255 : Int32)).toUInt32.toUInt16.toUInt32.toInt32) = x &&& (255 : Int32) := by
  rw [i2c_mask]; exact i2c_mask x
theorem own_c8 (x : Int32) : ¬ ((255 : Int32) < nar .char ((x &&& (255 : Int32)).toUInt32.toUInt16.toUInt32.toInt32)) := by
  rw [own_i2c, Int32.lt_iff_toInt_lt]
  have h := c_and x 255 (by decide)
  omega
open Jvm.Free.Exc
section OwnThr
open Jvm.Lib.Cold LibCode.Throwable
variable {s : State} {args : Array Value} {pl : Platform}
theorem own_pars {x : MethodName} {sig : MethodDescriptor} {ps : List FieldType} (h1 : parseMethodDescriptor x.desc = some sig) (h2 : (parseMethodDescriptor x.desc).map (·.parameters) = some ps) : sig.parameters = ps := by
  rw [h1] at h2; exact Option.some.inj h2
/-- what a trace's record asks of Throwable's tables; the sheet lays 'suppressedExceptions' in the subclass alone -/
theorem own_thr (howns : pl.frameOwnsMonitors = true) (hfin : pl.finalization = false) (hpl : pl.magicAccessors = ({} : Platform).magicAccessors) (a : ∀ (i : Nat) (d : Jvm.Cond), tables_1[i]? = some d → xOk d = true → d.holds args s none s [] = true) :
    ∃ T : ThrowableC, T.Links pl s ∧ s.vm.findClass tN = some T.cT ∧ s.methodNamed? tFill = some T.fill ∧ s.methodNamed? tFill0 = some T.fill0 ∧ s.fieldFound? tN "stackTrace" steD = some (T.cT, T.kT, T.i17, T.fStack) ∧ T.fStack.type = .array (.object "java/lang/StackTraceElement") ∧
      s.fieldFound? tN "UNASSIGNED_STACK" steD = some (T.cT, T.kT, T.i13, T.fUnassigned) := by
  -- the fields
  obtain ⟨cT, kA, _, _, aS, _, hc, hfU, _, _, _, _, _, _, _⟩ := Cond.laysStatic_spec (a 86 (.laysStatic tN "UNASSIGNED_STACK" steD) rfl rfl)
  obtain ⟨k, hk, hname⟩ := Vm.findClass_spec hc
  obtain ⟨ciU, iU, fU, aU, cellU, lU, rU, atU, sU, -, -, stU, -, -, -, -, foU⟩ := Cond.ownStatic (t := .array (.object "java/lang/StackTraceElement")) hc hk (by decide +kernel) (a 60 (.fieldLink tN 13 tN "UNASSIGNED_STACK" steD) rfl rfl) (a 86 (.laysStatic tN "UNASSIGNED_STACK" steD) rfl rfl) pl hpl
  obtain ⟨ciN, iN, fN, aN, cellN, lN, rN, atN, sN, -, -, -, -, -, -, -, foN⟩ := Cond.ownStatic (t := .object "java/util/List") hc hk (by decide +kernel) (a 63 (.fieldLink tN 20 tN "SUPPRESSED_SENTINEL" listD) rfl rfl) (a 87 (.laysStatic tN "SUPPRESSED_SENTINEL" listD) rfl rfl) pl hpl
  obtain ⟨ciC, iC, fC, lC, rC, atC, sC, nfC, nmC, tyC, foC⟩ := Cond.ownField (t := .object tN) hc hk (by decide +kernel) (a 58 (.fieldLink tN 7 tN "cause" thD) rfl rfl) (a 59 (.lays "com/example/ferryline/ferryline/server/ApiError" tN "cause" thD) rfl rfl) pl hpl
  obtain ⟨ciS, iS, fS, lS, rS, atS, sS, nfS, nmS, tyS, foS⟩ := Cond.ownField (t := .array (.object "java/lang/StackTraceElement")) hc hk (by decide +kernel) (a 61 (.fieldLink tN 17 tN "stackTrace" steD) rfl rfl) (a 62 (.lays "com/example/ferryline/ferryline/server/ApiError" tN "stackTrace" steD) rfl rfl) pl hpl
  obtain ⟨ciP, iP, fP, lP, rP, atP, sP, nfP, nmP, tyP, foP⟩ := Cond.ownField (t := .object "java/util/List") hc hk (by decide +kernel) (a 64 (.fieldLink tN 24 tN "suppressedExceptions" listD) rfl rfl) (a 65 (.lays "com/example/ferryline/ferryline/server/ApiError" tN "suppressedExceptions" listD) rfl rfl) pl hpl
  obtain ⟨_, _, _, lM, rM, atM, sM, nfM, -, -, -⟩ := Cond.ownField (t := .object "java/lang/String") hc hk (by decide +kernel) (a 93 (.fieldLink tN 31 tN "detailMessage" msgD) rfl rfl) (a 89 (.lays "com/example/ferryline/ferryline/server/ApiError" tN "detailMessage" msgD) rfl rfl) pl hpl
  rename_i ciM iM fM
  obtain ⟨cR, kR, _, _, _, _, hcR, hkR, -⟩ := Cond.lays_spec (a 62 (.lays "com/example/ferryline/ferryline/server/ApiError" tN "stackTrace" steD) rfl rfl)
  obtain ⟨-, dS, qS, eS⟩ := Cond.laysAt hcR hkR foS (a 62 (.lays "com/example/ferryline/ferryline/server/ApiError" tN "stackTrace" steD) rfl rfl)
  obtain ⟨-, dP, qP, eP⟩ := Cond.laysAt hcR hkR foP (a 65 (.lays "com/example/ferryline/ferryline/server/ApiError" tN "suppressedExceptions" listD) rfl rfl)
  have hapart := Cond.laysApart qS qP eS eP (by rw [nmS, nmP]; decide)
  -- the methods
  obtain ⟨_, k1, _, -, hk1, -, -, hord, -, hni⟩ := Cond.superclass_spec hc (a 73 (.superclass tN "java/lang/Object") rfl rfl)
  obtain rfl : k = k1 := Option.some.inj (hk.symm.trans hk1)
  obtain ⟨iF, mF, nF, qF, aF, zF, bF, -, -⟩ := Cond.ownMethod (x := tFill) hc hk (a 68 (.instanceMethod tFill) rfl rfl)
  obtain ⟨mF', cF, qF', oF, byF, loF, reF, lkF, -, sgF⟩ := Cond.codeSync_spec nF (a 74 (.codeSync tFill Fill.code 1 (some (.object tN))) rfl rfl)
  obtain rfl : mF = mF' := Option.some.inj (qF.symm.trans qF')
  obtain ⟨iG, mG, nG, qG, aG, zG, bG, dG, eG⟩ := Cond.ownMethod (x := tFill0) hc hk (a 75 (.instanceMethod tFill0) rfl rfl)
  obtain ⟨i', mG', nG', qG', natG, oG, lkG, sgG⟩ := Cond.native_spec (a 76 (.native tFill0) rfl rfl)
  obtain rfl : i' = ⟨cT, iG⟩ := Option.some.inj (nG'.symm.trans nG)
  obtain rfl : mG = mG' := Option.some.inj (qG.symm.trans qG')
  obtain ⟨mo, mO, nO, qO, zO, bO⟩ := Cond.instanceMethod_spec (a 16 (.instanceMethod oInit) rfl rfl)
  obtain ⟨mO', cO, qO', oO, byO, loO, -, lkO, -, sgO⟩ := Cond.code_spec nO (a 17 (.code oInit ⟨#[0xb1]⟩ 1 none) rfl rfl)
  obtain rfl : mO = mO' := Option.some.inj (qO.symm.trans qO')
  obtain ⟨kO, hkO, hnO⟩ := Vm.findClass_spec (findClass_of_methodNamed nO)
  obtain ⟨xO, yO⟩ := name_of_methodNamed nO qO
  obtain ⟨ci1, n1, cf, l1, r1, hcf, p1⟩ := Cond.linkedMethod hc hk nO (a 57 (.methodLink tN 1 oInit) rfl rfl) pl hpl
  obtain ⟨ci2, n2, cf2, l2, r2, hcf2, p2⟩ := Cond.linkedMethod hc hk nF (a 66 (.methodLink tN 27 tFill) rfl rfl) pl hpl
  obtain ⟨ci3, n3, cf3, l3, r3, hcf3, p3⟩ := Cond.linkedMethod hc hk nG (a 79 (.methodLink tN 202 tFill0) rfl rfl) pl hpl
  obtain rfl : cf = cf2 := Option.some.inj (hcf.symm.trans hcf2)
  obtain rfl : cf = cf3 := Option.some.inj (hcf.symm.trans hcf3)
  have hO0 : mO.sig.parameters = [] := own_pars sgO (by decide +kernel)
  refine ⟨{ cT := cT, kT := k, cO := cT, aS := aU, fillIdx := iF, fill0Idx := iG, initSIdx := iF, obj := mo, kObj := kO, methFill := mF, methFill0 := mG, methInitS := mF, methObj := mO, codeFill := cF, codeInitS := cF, codeObj := cO, fBack := fC, fDepth := fC, fStack := fS, fCause := fC, fSupp := fP, fMsg := fM, fUnassigned := fU, fSentinel := fN, cfT := cf, ci1 := ci1, n1 := n1, ci27 := ci2, n27 := n2, ci202 := ci3, n202 := n3, ci7 := ciC, i7 := iC, ci13 := ciU, i13 := iU, ci17 := ciS, i17 := iS, ci20 := ciN, i20 := iN, ci24 := ciP, i24 := iP }, ?_, hc, nF, nG, foS, tyS, foU⟩
  constructor <;> first | assumption | exact Vm.findClass_boot hc hk | exact Cond.initialized_spec hc hk (a 55 (.initialized tN) rfl rfl) | exact own_pars sgF (by decide +kernel) | exact own_pars sgG (by decide +kernel) | (rw [hO0]; rfl) | (rw [yO]; exact lookupSpecial_of_named nO qO zO) | skip
end OwnThr
section OwnFill
open Jvm.Lib.Cold LibCode.Throwable
variable {p : Program} {l : Launch} {e : Env} {R : Room} {s : State} {m : MethodId} {args : Array Value} {below : List Frame} {meth : Method} {c : Code} {T : State} {locs : List Loc} {cells slots : Nat} {Z : State} {a0 : Array Value} {h : Heap}
theorem own_found {C n d : String} {cf i : Nat} {k : Class} {f : Field} (hal : Z.vm.Alike s.vm) (q : Z.fieldFound? C n d = some (cf, k, i, f)) : ∃ k', s.fieldFound? C n d = some (cf, k', i, f) ∧ k'.statics = k.statics := by
  obtain ⟨k', q1, q2⟩ := State.fieldFound?_setVm (s := Z) hal q
  exact ⟨k', q1, by rw [q2]⟩
/-- the cell at a is the same but at the three places that a trace's record writes -/
def own_R (Z : State) (h h' : Heap) (a : Addr) : Prop := ∃ C cell : Cell, h'[a]? = some C ∧ h[a]? = some cell ∧ C.cls = cell.cls ∧ C.vm = cell.vm ∧ C.slots.size = cell.slots.size ∧ ∀ i, i ≠ Jvm.RoadKit.slotOf Z tN "backtrace" obD → i ≠ Jvm.RoadKit.slotOf Z tN "depth" "I" → i ≠ Jvm.RoadKit.slotOf Z tN "stackTrace" steD → C.slots[i]? = cell.slots[i]?
theorem own_R.exa {h' : Heap} {a : Addr} {C : String} (r : own_R Z h h' a) (E : Exa Z h a C) : Exa Z h' a C := by
  obtain ⟨C1, cell, r1, r2, r3, r4, r5, -⟩ := r
  obtain ⟨c2, k, h1, h2, h3, h4, h5⟩ := E
  cases r2.symm.trans h1
  exact ⟨C1, k, r1, by rw [r3]; exact h2, by rw [r3]; exact h3, by rw [r4]; exact h4, by rw [r5]; exact h5⟩
theorem own_R.fld {h' : Heap} {a : Addr} {O n d : String} {v : Value} (r : own_R Z h h' a) (F : Fld Z h a O n d v) (n1 : Jvm.RoadKit.slotOf Z O n d ≠ Jvm.RoadKit.slotOf Z tN "backtrace" obD) (n2 : Jvm.RoadKit.slotOf Z O n d ≠ Jvm.RoadKit.slotOf Z tN "depth" "I") (n3 : Jvm.RoadKit.slotOf Z O n d ≠ Jvm.RoadKit.slotOf Z tN "stackTrace" steD) : Fld Z h' a O n d v := by
  obtain ⟨C1, cell, r1, r2, r3, r4, -, r6⟩ := r
  obtain ⟨c2, cf, k, i, f, h1, h2, h3, h4, h5, h6, h7⟩ := F
  cases r2.symm.trans h1
  have e : Jvm.RoadKit.slotOf Z O n d = f.slot := by simp [Jvm.RoadKit.slotOf, h2]
  rw [e] at n1 n2 n3
  exact ⟨C1, cf, k, i, f, r1, h2, h3, by rw [r4]; exact h4, by rw [r4]; exact h5, by rw [r3]; exact h6, by rw [r6 _ n1 n2 n3]; exact h7⟩
theorem own_keepS {a : Addr} (X : Stand p l e R s m args below meth c T locs cells slots) (hb : ∀ x ∈ locs, x.base = a) : Keep s.heap T.heap [a] := by
  refine ⟨X.same.2.1, fun x cx q ne => ?_, fun x cx q => ?_⟩
  · obtain ⟨c', q1, q2, -, q4⟩ := X.same.2.2.2.2.2 x cx q
    have q1 : T.heap[x]? = some c' := q1
    have e : c'.slots = cx.slots := Array.ext_getElem? fun i => q4 i fun hm => ne (by rw [← hb _ hm]; exact List.mem_singleton.mpr rfl)
    rw [q1, q2, e]
  · obtain ⟨c', q1, q2, q3, -⟩ := X.same.2.2.2.2.2 x cx q
    exact ⟨c', q1, by rw [q2], by rw [q2], q3⟩
theorem own_fill (X : Stand p l e R s m args below meth c T locs cells slots) (hx : p.tables.exec = Jvm.exec) (hl : l.stackTraces = true) (hZ : Z.Warmed39 s.vm) (hw : ∀ d ∈ tables_1, d.before a0 Z = true) (hown : s.vm.findClass tN = some m.cls)
    (hT0 : ThS Z s.heap) (hT : ThS Z h) (hTK : s.vm.MethodsKnown) (hBelow : s.vm.FramesKnown below) (eT : T.heap = h) {a bu : Addr} (E : Exa Z h a "com/example/ferryline/ferryline/server/ApiError") (N : Unt h a)
    (FS : Fld Z h a tN "stackTrace" steD (.ref bu)) (FB : Fld Z h a tN "backtrace" obD .null) (SU : Sta Z Z.heap tN "UNASSIGNED_STACK" steD (.ref bu))
    {g : JFrame} (hg : g.method = m) (hsize : g.locals.size = c.maxLocals) {rest : List Value} (hs : g.stack = .ref a :: rest) (hd : decode c.code g.pc = .ok (.invokevirtual 27, 3))
    (hf : 3 ≤ R.frames) (hlo : 2 * g.monitorRoom + (rest.map fun v => v.category).sum + 42 ≤ R.locals) (hc : cells + 1 ≤ R.cells) (hsl : slots + 2752 ≤ R.slots) :
    ∃ (T' : State) (L : List Loc), Stand p l e R s m args below meth c T' (locs ++ L) (cells + 1) (slots + 2752) ∧ (∀ x ∈ L, x.base = a) ∧
      own_R Z h T'.heap a ∧
      ∀ target, Steps p.tables e below (T'.setTop { g with pc := g.pc + 3, stack := .ref a :: rest }) target → Steps p.tables e below (T.setTop g) target := by
  have hal : Z.vm.Alike s.vm := hZ.alike
  have al : ∀ (i : Nat) (d : Jvm.Cond), tables_1[i]? = some d → xOk d = true → d.holds args s none s [] = true := fun i d q ok => mvX (args := args) hT0 hZ ok (hw d (List.mem_of_getElem? q))
  have hpl : e.platform.magicAccessors = ({} : Platform).magicAccessors := by rw [X.admits.platform]
  obtain ⟨T0, L, hfT, hF, hF0, foS, tyS, foU⟩ := own_thr (args := args) (s := s) (pl := e.platform) (by rw [X.admits.platform]) (by rw [X.admits.platform]) hpl al
  obtain ⟨cell, kX, h1, h2, h3, h4, h5⟩ := E
  obtain ⟨c2, u1, u2, u3⟩ := N
  cases h1.symm.trans u1
  -- the three fields
  obtain ⟨cS, cfS, kS, iS, fS, b1, zS, b3, -, -, -, vS⟩ := FS
  cases h1.symm.trans b1
  obtain ⟨kS', rS, -⟩ := own_found hal zS
  cases rS.symm.trans foS
  obtain ⟨cB, cfB, kB, iB, fB, d1, zB, d3, -, -, -, vB⟩ := FB
  cases h1.symm.trans d1
  obtain ⟨kB', rB, -⟩ := own_found hal zB
  obtain ⟨ci198, i198, fB', lB, wB, atB, sB, -, nmB, tyB, foB⟩ := Cond.ownField (t := .object "java/lang/Object") hfT L.cls (by decide +kernel) (al 84 (.fieldLink tN 198 tN "backtrace" obD) rfl rfl) (al 85 (.lays tN tN "backtrace" obD) rfl rfl) e.platform hpl
  cases rB.symm.trans foB
  obtain ⟨-, -, cfD, kD, iD, fD, -, -, zD, sD, -⟩ := Cond.lays_spec (hw (.lays "com/example/ferryline/ferryline/server/ApiError" tN "depth" "I") (List.mem_of_getElem? (i := 91) rfl))
  obtain ⟨kD', rD, -⟩ := own_found hal zD
  cases Option.some.inj ((Cond.lays_declared (al 91 (.lays "com/example/ferryline/ferryline/server/ApiError" tN "depth" "I") rfl rfl) rD).symm.trans hfT)
  obtain ⟨eD, atD⟩ := State.fieldFound?_spec rD
  cases Option.some.inj (eD.symm.trans L.cls)
  obtain ⟨nmD, tyD⟩ := State.fieldFound?_type rD (t := .int) (by decide +kernel)
  have hfb := Cond.soleField_find hfT L.cls (al 71 (.soleField tN "backtrace") rfl rfl) atB nmB sB
  have hfd := Cond.soleField_find hfT L.cls (al 72 (.soleField tN "depth") rfl rfl) atD nmD sD
  obtain ⟨comp, cO, kO, -, -, hkO, hkindO, hO⟩ := Cond.arrayOver_spec (al 70 (.arrayOver (.object "java/lang/Object")) rfl rfl)
  -- the receiver's class
  have hfound : s.vm.findClass "com/example/ferryline/ferryline/server/ApiError" = some cell.cls := by rw [hal.findClass]; exact h2
  obtain ⟨kx, q1, q2⟩ := hal.2.2 _ _ h3
  obtain ⟨cI, kI, i1, i2, hord, -⟩ := Cond.instantiable_spec (al 35 (.instantiable "com/example/ferryline/ferryline/server/ApiError" 8) rfl rfl)
  cases Option.some.inj (i1.symm.trans hfound)
  cases Option.some.inj (i2.symm.trans q1)
  have hsz : cell.slots.size = kx.instanceTypes.size := by rw [q2] at hord ⊢; exact h5 hord
  have tk : ∀ {f : Field} {v : Value}, kx.instanceTypes[f.slot]? = some f.type → fits f.type v = true → Jvm.Takes s cell f v := fun {f v} y1 y2 => by
    obtain ⟨z1, z2⟩ := Takes.of_laid (v := v) q1 hord y1 y2
    exact ⟨by rw [hsz]; simpa using z1, by rw [u2]; exact z2⟩
  have tyS' := (Cond.laysAt hfound q1 foS (al 62 (.lays "com/example/ferryline/ferryline/server/ApiError" tN "stackTrace" steD) rfl rfl)).1
  have tyB' := (Cond.laysAt hfound q1 foB (al 90 (.lays "com/example/ferryline/ferryline/server/ApiError" tN "backtrace" obD) rfl rfl)).1
  have tyD' := (Cond.laysAt hfound q1 rD (al 91 (.lays "com/example/ferryline/ferryline/server/ApiError" tN "depth" "I") rfl rfl)).1
  have hsel0 : selectMethod e.platform s.vm cell.cls T0.fill0 = .method T0.fill0 := by
    obtain ⟨c5, r5, m5, y1, y2, y3, y4, -⟩ := Cond.selects_spec (al 88 (.selects "com/example/ferryline/ferryline/server/ApiError" tFill0 tFill0) rfl rfl)
    cases Option.some.inj (y1.symm.trans hfound)
    cases Option.some.inj (y2.symm.trans (State.methodFound?_of_named hF0 (by decide)))
    cases Option.some.inj (y3.symm.trans hF0)
    rw [Launch.admits_selectMethod X.admits]; exact y4
  -- the static
  obtain ⟨cfU, iU, kU, fU, st, cellS, zU, sU, -, stU, hpS, isS, vU⟩ := SU
  obtain ⟨kU', rU, eU⟩ := own_found hal zU
  cases rU.symm.trans foU
  have hst : st = T0.aS := Option.some.inj ((stU.symm.trans eU.symm).trans L.statics)
  subst hst
  have hS : h[T0.aS]? = some cellS := hT _ _ _ _ (by rw [← hal.findClass]; exact hfT) (State.fieldFound?_class zU) stU hpS isS
  have hne : T0.aS ≠ a := fun q => by
    rw [q, h1] at hS; rw [← Option.some.inj hS, u2] at isS; cases isS
  have hSE := al 69 (.selects "com/example/ferryline/ferryline/server/ApiError" tFill tFill) rfl rfl
  obtain ⟨v6, vm6, ⟨T6, L6, c6, n6⟩, -, X6, ⟨hv6, C6, n, hn, hD6, q3, q4, q5, q6, hL6, hc6, hn6⟩, come⟩ := X.virtualBack hx (own := tN) (C := "com/example/ferryline/ferryline/server/ApiError") (index := 27) (y := tFill) (z := tFill) hown (al 66 (.methodLink tN 27 tFill) rfl rfl) (al 67 (.declares tFill) rfl rfl) (notFace_of_selects hSE) hSE (al 68 (.instanceMethod tFill) rfl rfl) (by decide)
    (fillPaysAny (l := l) (W := 2 * g.monitorRoom + (rest.map fun v => v.category).sum) hx (by rw [X.admits.platform]; exact hl) T0 L hF (u0 := ⟨.ref bu, rfl⟩) (self := a) (cell := cell) (cellS := cellS) (fun _ => by rw [u2]; simp) (by rw [u2]; simp) (by rw [u3]) (by rw [u3]) vS hsel0 hne (fun q => by rw [q] at isS; cases isS) vU (tk tyS' (by rw [tyS]; exact fits_refV_array _ ⟨.ref bu, rfl⟩))
      ⟨{ ci198 := ci198, i198 := iB, fBack := fB }, ⟨lB, wB, atB, sB⟩, vB⟩ hTK hBelow hfT hO hkO hkindO hfb hfd (fun x => tk tyB' (by rw [tyB]; rfl)) (fun x => tk tyD' (by rw [tyD]; rfl)) (by omega) hlo)
    (b := a) (cB := cell.cls) hfound ⟨cell, by rw [eT]; exact h1, rfl, h4⟩ (g := g) hg hsize (Steps.refl _) (argsL := []) (rest := rest)
    (fun sig y => by rw [show parseMethodDescriptor tFill.desc = some ⟨[], some (.object tN)⟩ from by decide +kernel] at y; rw [← Option.some.inj y]; rfl) hs (Nat.le_refl _) hd
    (fun vmx hWx => ⟨rfl, hc, hsl, by show T.heap[a]? = _; rw [eT]; exact h1, by show T.heap[T0.aS]? = _; rw [eT]; exact hS⟩)
  dsimp only [Pt.U, Pt.locs, Pt.cells, Pt.slots] at X6 hD6 hL6 hc6 hn6 come
  subst hv6 hL6 hc6 hn6
  refine ⟨T6, _, X6.more (Nat.le_refl _) (Nat.add_le_add_left hn _), fun x hx => ?_, ⟨C6, cell, hD6, h1, q3, q4, q5, fun i i1 i2 i3 => q6 i (by simpa [Jvm.RoadKit.slotOf, zB] using i1) (by simpa [Jvm.RoadKit.slotOf, zD] using i2) (by simpa [Jvm.RoadKit.slotOf, zS] using i3)⟩, fun t k => come.trans k⟩
  simp only [List.mem_cons, List.not_mem_nil, or_false] at hx
  rcases hx with rfl | rfl | rfl <;> rfl
end OwnFill
theorem d6_0 : decode jdk_52_method_21_code 0 = .ok (.iconst 0, 1) := by decide +kernel
theorem d6_1 : decode jdk_52_method_21_code 1 = .ok (.istore 5, 2) := by decide +kernel
theorem d6_3 : decode jdk_52_method_21_code 3 = .ok (.iload 5, 2) := by decide +kernel
theorem d6_5 : decode jdk_52_method_21_code 5 = .ok (.iload 4, 2) := by decide +kernel
theorem d6_7 : decode jdk_52_method_21_code 7 = .ok (.if_icmp .ge 37, 3) := by decide +kernel
theorem d6_10 : decode jdk_52_method_21_code 10 = .ok (.aload_n 0, 1) := by decide +kernel
theorem d6_11 : decode jdk_52_method_21_code 11 = .ok (.iload_n 1, 1) := by decide +kernel
theorem d6_12 : decode jdk_52_method_21_code 12 = .ok (.caload, 1) := by decide +kernel
theorem d6_13 : decode jdk_52_method_21_code 13 = .ok (.istore 6, 2) := by decide +kernel
theorem d6_15 : decode jdk_52_method_21_code 15 = .ok (.iload 6, 2) := by decide +kernel
theorem d6_17 : decode jdk_52_method_21_code 17 = .ok (.sipush 255, 3) := by decide +kernel
theorem d6_20 : decode jdk_52_method_21_code 20 = .ok (.if_icmp .le 6, 3) := by decide +kernel
theorem d6_26 : decode jdk_52_method_21_code 26 = .ok (.aload_n 2, 1) := by decide +kernel
theorem d6_27 : decode jdk_52_method_21_code 27 = .ok (.iload_n 3, 1) := by decide +kernel
theorem d6_28 : decode jdk_52_method_21_code 28 = .ok (.iload 6, 2) := by decide +kernel
theorem d6_30 : decode jdk_52_method_21_code 30 = .ok (.i2b, 1) := by decide +kernel
theorem d6_31 : decode jdk_52_method_21_code 31 = .ok (.bastore, 1) := by decide +kernel
theorem d6_32 : decode jdk_52_method_21_code 32 = .ok (.iinc 1 1, 3) := by decide +kernel
theorem d6_35 : decode jdk_52_method_21_code 35 = .ok (.iinc 3 1, 3) := by decide +kernel
theorem d6_38 : decode jdk_52_method_21_code 38 = .ok (.iinc 5 1, 3) := by decide +kernel
theorem d6_41 : decode jdk_52_method_21_code 41 = .ok (.goto (-38), 3) := by decide +kernel
theorem d6_44 : decode jdk_52_method_21_code 44 = .ok (.iload 4, 2) := by decide +kernel
theorem d6_46 : decode jdk_52_method_21_code 46 = .ok (.ireturn, 1) := by decide +kernel
theorem pn_java_lang_StringUTF16 : plainName "java/lang/StringUTF16" = true := by first | (simp [plainName, overriddenIn]; done) | decide +kernel
theorem ef_cpr1 (m : MethodId) (bc : Addr) (bb : Addr) : entryFrame m #[(.ref bc), (.int (0 : Int32)), (.ref bb), (.int (0 : Int32)), (.int (1 : Int32))] 7 = mkF m 0 #[.val (.ref bc), .val (.int (0 : Int32)), .val (.ref bb), .val (.int (0 : Int32)), .val (.int (1 : Int32)), .unset, .unset] [] := by first | (simp [entryFrame, mkF, argsToLocals, Value.category]; done) | rfl
def Q_cpr1 (Z : State) (bc : Addr) (bb : Addr) (kc : ClassId) (cc0 : Int32) (kb : ClassId) (h0 : Heap) (n0 : Nat) (v : Option Value) (h : Heap) (L : List Loc) : Prop := v = some (.int (1 : Int32)) ∧ Fr n0 L ∧ Keep h0 h [bb] ∧ Arv Z h bb kb .byte (1 : Int32) [(.int (cc0.toInt8.toInt32))] (.int (0 : Int32))
set_option maxRecDepth 65536 in
set_option maxHeartbeats 40000000 in
theorem rm_cpr1 (l : Launch) (Z : State) (a0 : Array Value) (hw : ∀ d ∈ tables_1, d.before a0 Z = true) (ws : List Jvm.Cond) (bc : Addr) (bb : Addr) (kc : ClassId) (cc0 : Int32) (kb : ClassId) (h0 : Heap) (n0 : Nat) (O0 : Old Z n0 h0) (P0 : Arv Z h0 bc kc .char (1 : Int32) [(.int cc0)] (.int (0 : Int32))) (P1 : Arv Z h0 bb kb .byte (1 : Int32) [(.int (0 : Int32))] (.int (0 : Int32))) (P2 : n0 ≤ bb) (P3 : bc ≠ bb) (hc0 : ¬ ((255 : Int32) < cc0)) :
    MetFree l (⟨"java/lang/StringUTF16", "compress", "([CI[BII)I"⟩ : MethodName) (head1 (Jvm.Cond.code (⟨"java/lang/StringUTF16", "compress", "([CI[BII)I"⟩ : MethodName) jdk_52_method_21_code 7 (some .int) :: ws) ({ frames := 0, cells := 0, slots := 0, locals := 0 } : Room)) (fun a U => a = #[(.ref bc), (.int (0 : Int32)), (.ref bb), (.int (0 : Int32)), (.int (1 : Int32))] ∧ Z.Warmed39 U.vm ∧ U.heap = h0) (fun _ _ _ _ _ => True) (fun _ U o U' => ∃ v L, o = .returned v ∧ Q_cpr1 Z bc bb kc cc0 kb h0 n0 v U'.heap L ∧ FrameEnd U o U' L ({ frames := 0, cells := 0, slots := 0, locals := 0 } : Room).cells ({ frames := 0, cells := 0, slots := 0, locals := 0 } : Room).slots) := by
  refine MetFree.of_bodySF (plainFor_of_name pn_java_lang_StringUTF16) hisR ?_
  intro p e s m args below meth c s₁ Bd hml0 hP hK
  obtain ⟨rfl, hZ, hh⟩ := hP
  have hx := Bd.exec
  have hby := Bd.bytes
  have hml : c.maxLocals = 7 := hml0
  have hown : s.vm.findClass "java/lang/StringUTF16" = some m.cls := findClass_of_methodNamed Bd.named
  have hnm := (name_of_methodNamed Bd.named Bd.method).1
  have hlk : meth.locks = false := BodyLoose.notSynchronized Bd
  have X0 : Stand p l e ({ frames := 0, cells := 0, slots := 0, locals := 0 } : Room) s m #[(.ref bc), (.int (0 : Int32)), (.ref bb), (.int (0 : Int32)), (.int (1 : Int32))] below meth c s₁ [] 0 0 := Stand.of_body Bd
  have e0 : s₁.heap = h0 := by rw [← hh, Bd.state]; rfl
  have N0 := Fr.nil n0
  have K0 := Keep.refl h0 [bb]
  rw [ef_cpr1 m bc bb]
  show Go p e below s (fun v h L => Q_cpr1 Z bc bb kc cc0 kb h0 n0 v h L) ({ frames := 0, cells := 0, slots := 0, locals := 0 } : Room).cells ({ frames := 0, cells := 0, slots := 0, locals := 0 } : Room).slots s₁ (mkF m 0 #[.val (.ref bc), .val (.int (0 : Int32)), .val (.ref bb), .val (.int (0 : Int32)), .val (.int (1 : Int32)), .unset, .unset] [])
  refine Go.step (T' := s₁) (f' := (mkF m 1 #[.val (.ref bc), .val (.int (0 : Int32)), .val (.ref bb), .val (.int (0 : Int32)), .val (.int (1 : Int32)), .unset, .unset] [(.int (0 : Int32))])) (fun t k => XS.iconst X0.here hx rfl (hb hby d6_0) k) ?_
  refine Go.step (T' := s₁) (f' := (mkF m 3 #[.val (.ref bc), .val (.int (0 : Int32)), .val (.ref bb), .val (.int (0 : Int32)), .val (.int (1 : Int32)), .val (.int (0 : Int32)), .unset] [])) (fun t k => XS.istore X0.here hx rfl (hb hby d6_1) rfl (l' := #[.val (.ref bc), .val (.int (0 : Int32)), .val (.ref bb), .val (.int (0 : Int32)), .val (.int (1 : Int32)), .val (.int (0 : Int32)), .unset]) rfl k) ?_
  refine Go.step (T' := s₁) (f' := (mkF m 5 #[.val (.ref bc), .val (.int (0 : Int32)), .val (.ref bb), .val (.int (0 : Int32)), .val (.int (1 : Int32)), .val (.int (0 : Int32)), .unset] [(.int (0 : Int32))])) (fun t k => XS.iload X0.here hx rfl (hb hby d6_3) rfl k) ?_
  refine Go.step (T' := s₁) (f' := (mkF m 7 #[.val (.ref bc), .val (.int (0 : Int32)), .val (.ref bb), .val (.int (0 : Int32)), .val (.int (1 : Int32)), .val (.int (0 : Int32)), .unset] [(.int (1 : Int32)), (.int (0 : Int32))])) (fun t k => XS.iload X0.here hx rfl (hb hby d6_5) rfl k) ?_
  refine Go.step (T' := s₁) (f' := (mkF m 10 #[.val (.ref bc), .val (.int (0 : Int32)), .val (.ref bb), .val (.int (0 : Int32)), .val (.int (1 : Int32)), .val (.int (0 : Int32)), .unset] [])) (fun t k => XS.icmpNo X0.here hx rfl (hb hby d6_7) rfl (tlt (by decide : (0 : Int32) < (1 : Int32))).2.1 k) ?_
  refine Go.step (T' := s₁) (f' := (mkF m 11 #[.val (.ref bc), .val (.int (0 : Int32)), .val (.ref bb), .val (.int (0 : Int32)), .val (.int (1 : Int32)), .val (.int (0 : Int32)), .unset] [(.ref bc)])) (fun t k => XS.aloadN X0.here hx rfl (hb hby d6_10) rfl rfl k) ?_
  refine Go.step (T' := s₁) (f' := (mkF m 12 #[.val (.ref bc), .val (.int (0 : Int32)), .val (.ref bb), .val (.int (0 : Int32)), .val (.int (1 : Int32)), .val (.int (0 : Int32)), .unset] [(.int (0 : Int32)), (.ref bc)])) (fun t k => XS.iloadN X0.here hx rfl (hb hby d6_11) rfl k) ?_
  obtain ⟨ca1, Aa1, qa1, Sa1, Na1, Ha1, Ga1⟩ := id P0
  have ia1 : ¬ ((0 : Int32) < 0 ∨ ca1.slots.size ≤ ((0 : Int32)).toNatClampNeg) := inb_of Sa1 ⟨by decide, by decide⟩
  have va1 := Ha1.at (v := (.int cc0)) ia1 rfl
  refine Go.step (T' := s₁) (f' := (mkF m 13 #[.val (.ref bc), .val (.int (0 : Int32)), .val (.ref bb), .val (.int (0 : Int32)), .val (.int (1 : Int32)), .val (.int (0 : Int32)), .unset] [(.int cc0)])) (fun t k => X0.caload hx (j := (0 : Int32)) (v := (.int cc0)) (by rw [e0]; exact Aa1.1) (State.isArrayOf_alike hZ.alike Aa1.2.1) Aa1.2.2 ia1 va1 (g := (mkF m 12 #[.val (.ref bc), .val (.int (0 : Int32)), .val (.ref bb), .val (.int (0 : Int32)), .val (.int (1 : Int32)), .val (.int (0 : Int32)), .unset] [(.int (0 : Int32)), (.ref bc)])) rfl rfl (hb hby d6_12) t k) ?_
  refine Go.step (T' := s₁) (f' := (mkF m 15 #[.val (.ref bc), .val (.int (0 : Int32)), .val (.ref bb), .val (.int (0 : Int32)), .val (.int (1 : Int32)), .val (.int (0 : Int32)), .val (.int cc0)] [])) (fun t k => XS.istore X0.here hx rfl (hb hby d6_13) rfl (l' := #[.val (.ref bc), .val (.int (0 : Int32)), .val (.ref bb), .val (.int (0 : Int32)), .val (.int (1 : Int32)), .val (.int (0 : Int32)), .val (.int cc0)]) rfl k) ?_
  refine Go.step (T' := s₁) (f' := (mkF m 17 #[.val (.ref bc), .val (.int (0 : Int32)), .val (.ref bb), .val (.int (0 : Int32)), .val (.int (1 : Int32)), .val (.int (0 : Int32)), .val (.int cc0)] [(.int cc0)])) (fun t k => XS.iload X0.here hx rfl (hb hby d6_15) rfl k) ?_
  refine Go.step (T' := s₁) (f' := (mkF m 20 #[.val (.ref bc), .val (.int (0 : Int32)), .val (.ref bb), .val (.int (0 : Int32)), .val (.int (1 : Int32)), .val (.int (0 : Int32)), .val (.int cc0)] [(.int (255 : Int32)), (.int cc0)])) (fun t k => XS.sipush X0.here hx rfl (hb hby d6_17) k) ?_
  refine Go.step (T' := s₁) (f' := (mkF m 26 #[.val (.ref bc), .val (.int (0 : Int32)), .val (.ref bb), .val (.int (0 : Int32)), .val (.int (1 : Int32)), .val (.int (0 : Int32)), .val (.int cc0)] [])) (fun t k => XS.icmpYes X0.here hx rfl (pc0 := 20) (pc' := 26) rfl (hb hby d6_20) rfl (flt hc0).2.2.2 (by decide) (by decide) k) ?_
  refine Go.step (T' := s₁) (f' := (mkF m 27 #[.val (.ref bc), .val (.int (0 : Int32)), .val (.ref bb), .val (.int (0 : Int32)), .val (.int (1 : Int32)), .val (.int (0 : Int32)), .val (.int cc0)] [(.ref bb)])) (fun t k => XS.aloadN X0.here hx rfl (hb hby d6_26) rfl rfl k) ?_
  refine Go.step (T' := s₁) (f' := (mkF m 28 #[.val (.ref bc), .val (.int (0 : Int32)), .val (.ref bb), .val (.int (0 : Int32)), .val (.int (1 : Int32)), .val (.int (0 : Int32)), .val (.int cc0)] [(.int (0 : Int32)), (.ref bb)])) (fun t k => XS.iloadN X0.here hx rfl (hb hby d6_27) rfl k) ?_
  refine Go.step (T' := s₁) (f' := (mkF m 30 #[.val (.ref bc), .val (.int (0 : Int32)), .val (.ref bb), .val (.int (0 : Int32)), .val (.int (1 : Int32)), .val (.int (0 : Int32)), .val (.int cc0)] [(.int cc0), (.int (0 : Int32)), (.ref bb)])) (fun t k => XS.iload X0.here hx rfl (hb hby d6_28) rfl k) ?_
  refine Go.step (T' := s₁) (f' := (mkF m 31 #[.val (.ref bc), .val (.int (0 : Int32)), .val (.ref bb), .val (.int (0 : Int32)), .val (.int (1 : Int32)), .val (.int (0 : Int32)), .val (.int cc0)] [(.int (cc0.toInt8.toInt32)), (.int (0 : Int32)), (.ref bb)])) (fun t k => XS.i2b X0.here hx rfl (hb hby d6_30) rfl k) ?_
  obtain ⟨ca2, Aa2, qa2, Sa2, Na2, Ha2, Ga2⟩ := id P1
  have ia2 : ¬ ((0 : Int32) < 0 ∨ ca2.slots.size ≤ ((0 : Int32)).toNatClampNeg) := inb_of Sa2 ⟨by decide, by decide⟩
  obtain ⟨T3, h3, X3, e3, W3, st3⟩ := stB X0 hx hZ e0 Aa2 (j := (0 : Int32)) ia2 (g := (mkF m 31 #[.val (.ref bc), .val (.int (0 : Int32)), .val (.ref bb), .val (.int (0 : Int32)), .val (.int (1 : Int32)), .val (.int (0 : Int32)), .val (.int cc0)] [(.int (cc0.toInt8.toInt32)), (.int (0 : Int32)), (.ref bb)])) rfl rfl (hb hby d6_31)
  have f4 := Arv.set Aa2 qa2 Sa2 Na2 Ha2 Ga2 (fits_nar_byte _) W3 0 rfl (Nat.le_of_ble_eq_true rfl)
  rw [own_nar8] at f4
  have f5 : Arv Z h3 bb kb .byte (1 : Int32) [(.int (cc0.toInt8.toInt32))] (.int (0 : Int32)) := f4
  have f6 := P0.other W3 P3
  have O7 := O0.wr W3 P2
  have K8 := K0.wr W3 (Or.inl (List.mem_of_getElem? (i := 0) rfl))
  have N9 := Fr.snoc X3 N0 P2
  refine Go.step (T' := T3) (f' := (mkF m 32 #[.val (.ref bc), .val (.int (0 : Int32)), .val (.ref bb), .val (.int (0 : Int32)), .val (.int (1 : Int32)), .val (.int (0 : Int32)), .val (.int cc0)] [])) st3 ?_
  clear st3 X0
  refine Go.step (T' := T3) (f' := (mkF m 35 #[.val (.ref bc), .val (.int ((0 : Int32) + (1 : Int32))), .val (.ref bb), .val (.int (0 : Int32)), .val (.int (1 : Int32)), .val (.int (0 : Int32)), .val (.int cc0)] [])) (fun t k => XS.iinc X3.here hx rfl (hb hby d6_32) rfl (l' := #[.val (.ref bc), .val (.int ((0 : Int32) + (1 : Int32))), .val (.ref bb), .val (.int (0 : Int32)), .val (.int (1 : Int32)), .val (.int (0 : Int32)), .val (.int cc0)]) rfl k) ?_
  rw [show ((0 : Int32) + (1 : Int32)) = (1 : Int32) from by decide]
  refine Go.step (T' := T3) (f' := (mkF m 38 #[.val (.ref bc), .val (.int (1 : Int32)), .val (.ref bb), .val (.int ((0 : Int32) + (1 : Int32))), .val (.int (1 : Int32)), .val (.int (0 : Int32)), .val (.int cc0)] [])) (fun t k => XS.iinc X3.here hx rfl (hb hby d6_35) rfl (l' := #[.val (.ref bc), .val (.int (1 : Int32)), .val (.ref bb), .val (.int ((0 : Int32) + (1 : Int32))), .val (.int (1 : Int32)), .val (.int (0 : Int32)), .val (.int cc0)]) rfl k) ?_
  rw [show ((0 : Int32) + (1 : Int32)) = (1 : Int32) from by decide]
  refine Go.step (T' := T3) (f' := (mkF m 41 #[.val (.ref bc), .val (.int (1 : Int32)), .val (.ref bb), .val (.int (1 : Int32)), .val (.int (1 : Int32)), .val (.int ((0 : Int32) + (1 : Int32))), .val (.int cc0)] [])) (fun t k => XS.iinc X3.here hx rfl (hb hby d6_38) rfl (l' := #[.val (.ref bc), .val (.int (1 : Int32)), .val (.ref bb), .val (.int (1 : Int32)), .val (.int (1 : Int32)), .val (.int ((0 : Int32) + (1 : Int32))), .val (.int cc0)]) rfl k) ?_
  rw [show ((0 : Int32) + (1 : Int32)) = (1 : Int32) from by decide]
  refine Go.step (T' := T3) (f' := (mkF m 3 #[.val (.ref bc), .val (.int (1 : Int32)), .val (.ref bb), .val (.int (1 : Int32)), .val (.int (1 : Int32)), .val (.int (1 : Int32)), .val (.int cc0)] [])) (fun t k => XS.goto X3.here hx rfl (pc0 := 41) (pc' := 3) rfl (hb hby d6_41) (by decide) (by decide) k) ?_
  refine Go.step (T' := T3) (f' := (mkF m 5 #[.val (.ref bc), .val (.int (1 : Int32)), .val (.ref bb), .val (.int (1 : Int32)), .val (.int (1 : Int32)), .val (.int (1 : Int32)), .val (.int cc0)] [(.int (1 : Int32))])) (fun t k => XS.iload X3.here hx rfl (hb hby d6_3) rfl k) ?_
  refine Go.step (T' := T3) (f' := (mkF m 7 #[.val (.ref bc), .val (.int (1 : Int32)), .val (.ref bb), .val (.int (1 : Int32)), .val (.int (1 : Int32)), .val (.int (1 : Int32)), .val (.int cc0)] [(.int (1 : Int32)), (.int (1 : Int32))])) (fun t k => XS.iload X3.here hx rfl (hb hby d6_5) rfl k) ?_
  refine Go.step (T' := T3) (f' := (mkF m 44 #[.val (.ref bc), .val (.int (1 : Int32)), .val (.ref bb), .val (.int (1 : Int32)), .val (.int (1 : Int32)), .val (.int (1 : Int32)), .val (.int cc0)] [])) (fun t k => XS.icmpYes X3.here hx rfl (pc0 := 7) (pc' := 44) rfl (hb hby d6_7) rfl (flt (by decide : ¬ ((1 : Int32) < (1 : Int32)))).2.1 (by decide) (by decide) k) ?_
  refine Go.step (T' := T3) (f' := (mkF m 46 #[.val (.ref bc), .val (.int (1 : Int32)), .val (.ref bb), .val (.int (1 : Int32)), .val (.int (1 : Int32)), .val (.int (1 : Int32)), .val (.int cc0)] [(.int (1 : Int32))])) (fun t k => XS.iload X3.here hx rfl (hb hby d6_44) rfl k) ?_
  refine Go.retI X3 hx hlk Bd.returns (hb hby d6_46) e3 ?_ (by decide) (by decide)
  exact ⟨rfl, N9, K8, f5⟩
theorem d5_0 : decode jdk_52_method_16_code 0 = .ok (.iload_n 2, 1) := by decide +kernel
theorem d5_1 : decode jdk_52_method_16_code 1 = .ok (.newarray .byte, 2) := by decide +kernel
theorem d5_3 : decode jdk_52_method_16_code 3 = .ok (.astore_n 3, 1) := by decide +kernel
theorem d5_4 : decode jdk_52_method_16_code 4 = .ok (.aload_n 0, 1) := by decide +kernel
theorem d5_5 : decode jdk_52_method_16_code 5 = .ok (.iload_n 1, 1) := by decide +kernel
theorem d5_6 : decode jdk_52_method_16_code 6 = .ok (.aload_n 3, 1) := by decide +kernel
theorem d5_7 : decode jdk_52_method_16_code 7 = .ok (.iconst 0, 1) := by decide +kernel
theorem d5_8 : decode jdk_52_method_16_code 8 = .ok (.iload_n 2, 1) := by decide +kernel
theorem d5_9 : decode jdk_52_method_16_code 9 = .ok (.invokestatic 115, 3) := by decide +kernel
theorem d5_12 : decode jdk_52_method_16_code 12 = .ok (.istore 4, 2) := by decide +kernel
theorem d5_14 : decode jdk_52_method_16_code 14 = .ok (.iload 4, 2) := by decide +kernel
theorem d5_16 : decode jdk_52_method_16_code 16 = .ok (.iload_n 2, 1) := by decide +kernel
theorem d5_17 : decode jdk_52_method_16_code 17 = .ok (.if_icmp .eq 40, 3) := by decide +kernel
theorem d5_57 : decode jdk_52_method_16_code 57 = .ok (.aload_n 3, 1) := by decide +kernel
theorem d5_58 : decode jdk_52_method_16_code 58 = .ok (.areturn, 1) := by decide +kernel
theorem pd0 : parseMethodDescriptor "([CI[BII)I" = some ⟨[(.array .char), .int, (.array .byte), .int, .int], some .int⟩ := by decide +kernel
theorem ef_cmp1 (m : MethodId) (bc : Addr) : entryFrame m #[(.ref bc), (.int (0 : Int32)), (.int (1 : Int32))] 6 = mkF m 0 #[.val (.ref bc), .val (.int (0 : Int32)), .val (.int (1 : Int32)), .unset, .unset, .unset] [] := by first | (simp [entryFrame, mkF, argsToLocals, Value.category]; done) | rfl
def Q_cmp1 (Z : State) (bc : Addr) (kc : ClassId) (cc0 : Int32) (h0 : Heap) (n0 : Nat) (v : Option Value) (h : Heap) (L : List Loc) : Prop := ∃ bb : Addr, ∃ kb : ClassId, v = some (.ref bb) ∧ Fr n0 L ∧ Keep h0 h [] ∧ h0.size ≤ bb ∧ Arv Z h bb kb .byte (1 : Int32) [(.int (cc0.toInt8.toInt32))] (.int (0 : Int32))
set_option maxRecDepth 65536 in
set_option maxHeartbeats 40000000 in
theorem rm_cmp1 (l : Launch) (Z : State) (a0 : Array Value) (hw : ∀ d ∈ tables_1, d.before a0 Z = true) (ws : List Jvm.Cond) (bc : Addr) (kc : ClassId) (cc0 : Int32) (h0 : Heap) (n0 : Nat) (O0 : Old Z n0 h0) (P0 : Arv Z h0 bc kc .char (1 : Int32) [(.int cc0)] (.int (0 : Int32))) (hc0 : ¬ ((255 : Int32) < cc0)) :
    MetFree l (⟨"java/lang/StringUTF16", "compress", "([CII)[B"⟩ : MethodName) (head1 (Jvm.Cond.code (⟨"java/lang/StringUTF16", "compress", "([CII)[B"⟩ : MethodName) jdk_52_method_16_code 6 (some (.array .byte)) :: ws) ({ frames := 1, cells := 1, slots := 1, locals := 18 } : Room)) (fun a U => a = #[(.ref bc), (.int (0 : Int32)), (.int (1 : Int32))] ∧ Z.Warmed39 U.vm ∧ U.heap = h0) (fun _ _ _ _ _ => True) (fun _ U o U' => ∃ v L, o = .returned v ∧ Q_cmp1 Z bc kc cc0 h0 n0 v U'.heap L ∧ FrameEnd U o U' L ({ frames := 1, cells := 1, slots := 1, locals := 18 } : Room).cells ({ frames := 1, cells := 1, slots := 1, locals := 18 } : Room).slots) := by
  refine MetFree.of_bodySF (plainFor_of_name pn_java_lang_StringUTF16) hisR ?_
  intro p e s m args below meth c s₁ Bd hml0 hP hK
  obtain ⟨rfl, hZ, hh⟩ := hP
  have hx := Bd.exec
  have hby := Bd.bytes
  have hml : c.maxLocals = 6 := hml0
  have hown : s.vm.findClass "java/lang/StringUTF16" = some m.cls := findClass_of_methodNamed Bd.named
  have hnm := (name_of_methodNamed Bd.named Bd.method).1
  have hlk : meth.locks = false := BodyLoose.notSynchronized Bd
  have X0 : Stand p l e ({ frames := 1, cells := 1, slots := 1, locals := 18 } : Room) s m #[(.ref bc), (.int (0 : Int32)), (.int (1 : Int32))] below meth c s₁ [] 0 0 := Stand.of_body Bd
  have e0 : s₁.heap = h0 := by rw [← hh, Bd.state]; rfl
  have N0 := Fr.nil n0
  have K0 := Keep.refl h0 []
  rw [ef_cmp1 m bc]
  show Go p e below s (fun v h L => Q_cmp1 Z bc kc cc0 h0 n0 v h L) ({ frames := 1, cells := 1, slots := 1, locals := 18 } : Room).cells ({ frames := 1, cells := 1, slots := 1, locals := 18 } : Room).slots s₁ (mkF m 0 #[.val (.ref bc), .val (.int (0 : Int32)), .val (.int (1 : Int32)), .unset, .unset, .unset] [])
  refine Go.step (T' := s₁) (f' := (mkF m 1 #[.val (.ref bc), .val (.int (0 : Int32)), .val (.int (1 : Int32)), .unset, .unset, .unset] [(.int (1 : Int32))])) (fun t k => XS.iloadN X0.here hx rfl (hb hby d5_0) rfl k) ?_
  obtain ⟨T10, h10, k10, X10, e10, E10, A10, Y10, st10⟩ := newPE X0 hx hZ (hw _ (List.mem_of_getElem? (i := 23) rfl)) e0 (g := (mkF m 1 #[.val (.ref bc), .val (.int (0 : Int32)), .val (.int (1 : Int32)), .unset, .unset, .unset] [(.int (1 : Int32))])) rfl (hb hby d5_1) rfl (by decide) (cap := 1) (by decide) (by decide) (by decide) (by decide) (ad := "[B") (by decide)
  obtain ⟨b10, g10⟩ : ∃ z, z = h0.size := ⟨_, rfl⟩
  rw [← g10] at A10 Y10 st10
  have g11 : n0 ≤ b10 := Nat.le_trans (own_old_le O0) (Nat.le_of_eq g10.symm)
  have g12 : h0.size ≤ b10 := Nat.le_trans K0.1 (Nat.le_of_eq g10.symm)
  have ne13 : bc ≠ b10 := Nat.ne_of_lt (Nat.lt_of_lt_of_le P0.lt (Nat.le_of_eq g10.symm))
  have f14 := P0.ext E10
  have O15 := O0.ext E10
  have K16 := K0.ext E10
  have f17 : Arv Z h10 b10 k10 .byte (1 : Int32) [(.int (0 : Int32))] (.int (0 : Int32)) := (Arv.new A10 (by decide)).pad (pad_rep [] (.int (0 : Int32)) 1)
  refine Go.step (T' := T10) (f' := (mkF m 3 #[.val (.ref bc), .val (.int (0 : Int32)), .val (.int (1 : Int32)), .unset, .unset, .unset] [(.ref b10)])) st10 ?_
  clear st10 X0
  refine Go.step (T' := T10) (f' := (mkF m 4 #[.val (.ref bc), .val (.int (0 : Int32)), .val (.int (1 : Int32)), .val (.ref b10), .unset, .unset] [])) (fun t k => XS.astoreN X10.here hx rfl (hb hby d5_3) rfl rfl (l' := #[.val (.ref bc), .val (.int (0 : Int32)), .val (.int (1 : Int32)), .val (.ref b10), .unset, .unset]) rfl k) ?_
  refine Go.step (T' := T10) (f' := (mkF m 5 #[.val (.ref bc), .val (.int (0 : Int32)), .val (.int (1 : Int32)), .val (.ref b10), .unset, .unset] [(.ref bc)])) (fun t k => XS.aloadN X10.here hx rfl (hb hby d5_4) rfl rfl k) ?_
  refine Go.step (T' := T10) (f' := (mkF m 6 #[.val (.ref bc), .val (.int (0 : Int32)), .val (.int (1 : Int32)), .val (.ref b10), .unset, .unset] [(.int (0 : Int32)), (.ref bc)])) (fun t k => XS.iloadN X10.here hx rfl (hb hby d5_5) rfl k) ?_
  refine Go.step (T' := T10) (f' := (mkF m 7 #[.val (.ref bc), .val (.int (0 : Int32)), .val (.int (1 : Int32)), .val (.ref b10), .unset, .unset] [(.ref b10), (.int (0 : Int32)), (.ref bc)])) (fun t k => XS.aloadN X10.here hx rfl (hb hby d5_6) rfl rfl k) ?_
  refine Go.step (T' := T10) (f' := (mkF m 8 #[.val (.ref bc), .val (.int (0 : Int32)), .val (.int (1 : Int32)), .val (.ref b10), .unset, .unset] [(.int (0 : Int32)), (.ref b10), (.int (0 : Int32)), (.ref bc)])) (fun t k => XS.iconst X10.here hx rfl (hb hby d5_7) k) ?_
  refine Go.step (T' := T10) (f' := (mkF m 9 #[.val (.ref bc), .val (.int (0 : Int32)), .val (.int (1 : Int32)), .val (.ref b10), .unset, .unset] [(.int (1 : Int32)), (.int (0 : Int32)), (.ref b10), (.int (0 : Int32)), (.ref bc)])) (fun t k => XS.iloadN X10.here hx rfl (hb hby d5_8) rfl k) ?_
  obtain ⟨_, _, ⟨T18, L18, k18, n18⟩, -, X18, ⟨Lc18, hQ18, l18, y18, z18⟩, st18⟩ := Jvm.LawKit.callS X10 hx (y := (⟨"java/lang/StringUTF16", "compress", "([CI[BII)I"⟩ : MethodName)) hown (mvT hZ (hw _ (List.mem_of_getElem? (i := 24) rfl))) (mvT hZ (hw _ (List.mem_of_getElem? (i := 25) rfl))) (mvT hZ (hw _ (List.mem_of_getElem? (i := 21) rfl))) (mvT hZ (hw _ (List.mem_of_getElem? (i := 26) rfl))) (by decide) (backOf (W := 0) (rm_cpr1 l Z a0 hw [] bc b10 kc cc0 k10 h10 n0 O15 f14 f17 g11 ne13 hc0) hZ (hw _ (List.mem_of_getElem? (i := 26) rfl)) (hw _ (List.mem_of_getElem? (i := 21) rfl)) (by decide) (by decide)) (g := (mkF m 9 #[.val (.ref bc), .val (.int (0 : Int32)), .val (.int (1 : Int32)), .val (.ref b10), .unset, .unset] [(.int (1 : Int32)), (.int (0 : Int32)), (.ref b10), (.int (0 : Int32)), (.ref bc)])) rfl (by rw [hml]; rfl) (argsL := [(.ref bc), (.int (0 : Int32)), (.ref b10), (.int (0 : Int32)), (.int (1 : Int32))]) (rest := []) (lenOf pd0 rfl) rfl (by show 2 * 0 + _ ≤ _; exact Nat.le_of_eq rfl) (hb hby d5_9) (fun _ _ => ⟨rfl, e10, (by decide : 1 + 0 ≤ _), (by decide : 1 + 0 ≤ _)⟩)
  dsimp only [Pt.U, Pt.locs, Pt.cells, Pt.slots] at X18 l18 y18 z18 st18 hQ18
  subst l18 y18 z18
  obtain ⟨rfl, Nq18, hh18, p19⟩ := hQ18
  have N20 := Fr.app N0 Nq18
  have f21 := f14.keep hh18 (ninS ne13 nin0)
  have f22 := Y10.keep hh18
  have O23 := O15.keep hh18 (allS g11 all0)
  have K24 := K16.trans hh18 (allS (Or.inr g12) all0)
  refine Go.step (T' := T18) (f' := (mkF m 12 #[.val (.ref bc), .val (.int (0 : Int32)), .val (.int (1 : Int32)), .val (.ref b10), .unset, .unset] [(.int (1 : Int32))])) st18 ?_
  clear st18 X10 Nq18
  refine Go.step (T' := T18) (f' := (mkF m 14 #[.val (.ref bc), .val (.int (0 : Int32)), .val (.int (1 : Int32)), .val (.ref b10), .val (.int (1 : Int32)), .unset] [])) (fun t k => XS.istore X18.here hx rfl (hb hby d5_12) rfl (l' := #[.val (.ref bc), .val (.int (0 : Int32)), .val (.int (1 : Int32)), .val (.ref b10), .val (.int (1 : Int32)), .unset]) rfl k) ?_
  refine Go.step (T' := T18) (f' := (mkF m 16 #[.val (.ref bc), .val (.int (0 : Int32)), .val (.int (1 : Int32)), .val (.ref b10), .val (.int (1 : Int32)), .unset] [(.int (1 : Int32))])) (fun t k => XS.iload X18.here hx rfl (hb hby d5_14) rfl k) ?_
  refine Go.step (T' := T18) (f' := (mkF m 17 #[.val (.ref bc), .val (.int (0 : Int32)), .val (.int (1 : Int32)), .val (.ref b10), .val (.int (1 : Int32)), .unset] [(.int (1 : Int32)), (.int (1 : Int32))])) (fun t k => XS.iloadN X18.here hx rfl (hb hby d5_16) rfl k) ?_
  refine Go.step (T' := T18) (f' := (mkF m 57 #[.val (.ref bc), .val (.int (0 : Int32)), .val (.int (1 : Int32)), .val (.ref b10), .val (.int (1 : Int32)), .unset] [])) (fun t k => XS.icmpYes X18.here hx rfl (pc0 := 17) (pc' := 57) rfl (hb hby d5_17) rfl (teq (by decide : (1 : Int32) = (1 : Int32))).1 (by decide) (by decide) k) ?_
  refine Go.step (T' := T18) (f' := (mkF m 58 #[.val (.ref bc), .val (.int (0 : Int32)), .val (.int (1 : Int32)), .val (.ref b10), .val (.int (1 : Int32)), .unset] [(.ref b10)])) (fun t k => XS.aloadN X18.here hx rfl (hb hby d5_57) rfl rfl k) ?_
  refine Go.retA X18 hx hlk Bd.returns rfl rfl (hb hby d5_58) rfl ?_ (by decide) (by decide)
  exact ⟨b10, k10, rfl, N20, K24, g12, p19⟩
theorem d7_0 : decode jdk_52_method_15_code 0 = .ok (.iload_n 1, 1) := by decide +kernel
theorem d7_1 : decode jdk_52_method_15_code 1 = .ok (.aload_n 0, 1) := by decide +kernel
theorem d7_2 : decode jdk_52_method_15_code 2 = .ok (.arraylength, 1) := by decide +kernel
theorem d7_3 : decode jdk_52_method_15_code 3 = .ok (.isub, 1) := by decide +kernel
theorem d7_4 : decode jdk_52_method_15_code 4 = .ok (.bipush 31, 2) := by decide +kernel
theorem d7_6 : decode jdk_52_method_15_code 6 = .ok (.iushr, 1) := by decide +kernel
theorem d7_7 : decode jdk_52_method_15_code 7 = .ok (.i2b, 1) := by decide +kernel
theorem d7_8 : decode jdk_52_method_15_code 8 = .ok (.ireturn, 1) := by decide +kernel
theorem ef_cod1 (m : MethodId) (bb : Addr) : entryFrame m #[(.ref bb), (.int (1 : Int32))] 2 = mkF m 0 #[.val (.ref bb), .val (.int (1 : Int32))] [] := by first | (simp [entryFrame, mkF, argsToLocals, Value.category]; done) | rfl
def Q_cod1 (Z : State) (bb : Addr) (kb : ClassId) (v0 : Int32) (h0 : Heap) (n0 : Nat) (v : Option Value) (h : Heap) (L : List Loc) : Prop := v = some (.int (0 : Int32)) ∧ Fr n0 L ∧ h = h0
set_option maxRecDepth 65536 in
set_option maxHeartbeats 40000000 in
theorem rm_cod1 (l : Launch) (Z : State) (a0 : Array Value) (hw : ∀ d ∈ tables_1, d.before a0 Z = true) (ws : List Jvm.Cond) (bb : Addr) (kb : ClassId) (v0 : Int32) (h0 : Heap) (n0 : Nat) (O0 : Old Z n0 h0) (P0 : Arv Z h0 bb kb .byte (1 : Int32) [(.int v0)] (.int (0 : Int32))) :
    MetFree l (⟨"java/lang/StringUTF16", "coderFromArrayLen", "([BI)B"⟩ : MethodName) (head1 (Jvm.Cond.code (⟨"java/lang/StringUTF16", "coderFromArrayLen", "([BI)B"⟩ : MethodName) jdk_52_method_15_code 2 (some .byte) :: ws) ({ frames := 0, cells := 0, slots := 0, locals := 0 } : Room)) (fun a U => a = #[(.ref bb), (.int (1 : Int32))] ∧ Z.Warmed39 U.vm ∧ U.heap = h0) (fun _ _ _ _ _ => True) (fun _ U o U' => ∃ v L, o = .returned v ∧ Q_cod1 Z bb kb v0 h0 n0 v U'.heap L ∧ FrameEnd U o U' L ({ frames := 0, cells := 0, slots := 0, locals := 0 } : Room).cells ({ frames := 0, cells := 0, slots := 0, locals := 0 } : Room).slots) := by
  refine MetFree.of_bodySF (plainFor_of_name pn_java_lang_StringUTF16) hisR ?_
  intro p e s m args below meth c s₁ Bd hml0 hP hK
  obtain ⟨rfl, hZ, hh⟩ := hP
  have hx := Bd.exec
  have hby := Bd.bytes
  have hml : c.maxLocals = 2 := hml0
  have hown : s.vm.findClass "java/lang/StringUTF16" = some m.cls := findClass_of_methodNamed Bd.named
  have hnm := (name_of_methodNamed Bd.named Bd.method).1
  have hlk : meth.locks = false := BodyLoose.notSynchronized Bd
  have X0 : Stand p l e ({ frames := 0, cells := 0, slots := 0, locals := 0 } : Room) s m #[(.ref bb), (.int (1 : Int32))] below meth c s₁ [] 0 0 := Stand.of_body Bd
  have e0 : s₁.heap = h0 := by rw [← hh, Bd.state]; rfl
  have N0 := Fr.nil n0
  rw [ef_cod1 m bb]
  show Go p e below s (fun v h L => Q_cod1 Z bb kb v0 h0 n0 v h L) ({ frames := 0, cells := 0, slots := 0, locals := 0 } : Room).cells ({ frames := 0, cells := 0, slots := 0, locals := 0 } : Room).slots s₁ (mkF m 0 #[.val (.ref bb), .val (.int (1 : Int32))] [])
  refine Go.step (T' := s₁) (f' := (mkF m 1 #[.val (.ref bb), .val (.int (1 : Int32))] [(.int (1 : Int32))])) (fun t k => XS.iloadN X0.here hx rfl (hb hby d7_0) rfl k) ?_
  refine Go.step (T' := s₁) (f' := (mkF m 2 #[.val (.ref bb), .val (.int (1 : Int32))] [(.ref bb), (.int (1 : Int32))])) (fun t k => XS.aloadN X0.here hx rfl (hb hby d7_1) rfl rfl k) ?_
  obtain ⟨ca25, Aa25, qa25, Sa25, Na25, Ha25, Ga25⟩ := id P0
  refine Go.step (T' := s₁) (f' := (mkF m 3 #[.val (.ref bb), .val (.int (1 : Int32))] [(.int (1 : Int32)), (.int (1 : Int32))])) (fun t k => own_alen X0 hx hZ e0 Aa25 Sa25 Na25 (g := (mkF m 2 #[.val (.ref bb), .val (.int (1 : Int32))] [(.ref bb), (.int (1 : Int32))])) rfl rfl (hb hby d7_2) k) ?_
  refine Go.step (T' := s₁) (f' := (mkF m 4 #[.val (.ref bb), .val (.int (1 : Int32))] [(.int ((1 : Int32) - (1 : Int32)))])) (fun t k => XS.isub X0.here hx rfl (hb hby d7_3) rfl k) ?_
  rw [show ((1 : Int32) - (1 : Int32)) = (0 : Int32) from by decide]
  refine Go.step (T' := s₁) (f' := (mkF m 6 #[.val (.ref bb), .val (.int (1 : Int32))] [(.int (31 : Int32)), (.int (0 : Int32))])) (fun t k => XS.bipush X0.here hx rfl (hb hby d7_4) k) ?_
  refine Go.step (T' := s₁) (f' := (mkF m 7 #[.val (.ref bb), .val (.int (1 : Int32))] [(.int (((0 : Int32).toUInt32 >>> ((31 : Int32) &&& 31).toUInt32).toInt32))])) (fun t k => XS.iushr X0.here hx rfl (hb hby d7_6) rfl k) ?_
  rw [show (((0 : Int32).toUInt32 >>> ((31 : Int32) &&& 31).toUInt32).toInt32) = (0 : Int32) from by decide]
  refine Go.step (T' := s₁) (f' := (mkF m 8 #[.val (.ref bb), .val (.int (1 : Int32))] [(.int ((0 : Int32).toInt8.toInt32))])) (fun t k => XS.i2b X0.here hx rfl (hb hby d7_7) rfl k) ?_
  rw [show ((0 : Int32).toInt8.toInt32) = (0 : Int32) from by decide]
  refine Go.retZ X0 hx hlk (t := .byte) Bd.returns (by simp) (hb hby d7_8) e0 ?_ (by decide) (by decide)
  exact ⟨rfl, N0, rfl⟩
theorem d3_0 : decode jdk_42_method_149_code 0 = .ok (.aload_n 0, 1) := by decide +kernel
theorem d3_1 : decode jdk_42_method_149_code 1 = .ok (.invokespecial 1, 3) := by decide +kernel
theorem d3_4 : decode jdk_42_method_149_code 4 = .ok (.iload_n 3, 1) := by decide +kernel
theorem d3_5 : decode jdk_42_method_149_code 5 = .ok (.ifCond .ne 22, 3) := by decide +kernel
theorem d3_27 : decode jdk_42_method_149_code 27 = .ok (.getstatic 38, 3) := by decide +kernel
theorem d3_30 : decode jdk_42_method_149_code 30 = .ok (.ifCond .eq 28, 3) := by decide +kernel
theorem d3_33 : decode jdk_42_method_149_code 33 = .ok (.aload_n 1, 1) := by decide +kernel
theorem d3_34 : decode jdk_42_method_149_code 34 = .ok (.iload_n 2, 1) := by decide +kernel
theorem d3_35 : decode jdk_42_method_149_code 35 = .ok (.iload_n 3, 1) := by decide +kernel
theorem d3_36 : decode jdk_42_method_149_code 36 = .ok (.invokestatic 177, 3) := by decide +kernel
theorem d3_39 : decode jdk_42_method_149_code 39 = .ok (.astore 5, 2) := by decide +kernel
theorem d3_41 : decode jdk_42_method_149_code 41 = .ok (.aload_n 0, 1) := by decide +kernel
theorem d3_42 : decode jdk_42_method_149_code 42 = .ok (.aload 5, 2) := by decide +kernel
theorem d3_44 : decode jdk_42_method_149_code 44 = .ok (.iload_n 3, 1) := by decide +kernel
theorem d3_45 : decode jdk_42_method_149_code 45 = .ok (.invokestatic 47, 3) := by decide +kernel
theorem d3_48 : decode jdk_42_method_149_code 48 = .ok (.putfield 15, 3) := by decide +kernel
theorem d3_51 : decode jdk_42_method_149_code 51 = .ok (.aload_n 0, 1) := by decide +kernel
theorem d3_52 : decode jdk_42_method_149_code 52 = .ok (.aload 5, 2) := by decide +kernel
theorem d3_54 : decode jdk_42_method_149_code 54 = .ok (.putfield 9, 3) := by decide +kernel
theorem d3_57 : decode jdk_42_method_149_code 57 = .ok (.return_, 1) := by decide +kernel
theorem pn_java_lang_String : plainName "java/lang/String" = true := by first | (simp [plainName, overriddenIn]; done) | decide +kernel
theorem pd1 : parseMethodDescriptor "([CII)[B" = some ⟨[(.array .char), .int, .int], some (.array .byte)⟩ := by decide +kernel
theorem pd2 : parseMethodDescriptor "([BI)B" = some ⟨[(.array .byte), .int], some .byte⟩ := by decide +kernel
theorem ef_ini4_1 (m : MethodId) (ba : Addr) (bc : Addr) : entryFrame m #[(.ref ba), (.ref bc), (.int (0 : Int32)), (.int (1 : Int32)), .null] 6 = mkF m 0 #[.val (.ref ba), .val (.ref bc), .val (.int (0 : Int32)), .val (.int (1 : Int32)), .val .null, .unset] [] := by first | (simp [entryFrame, mkF, argsToLocals, Value.category]; done) | rfl
def Q_ini4_1 (Z : State) (ba : Addr) (bc : Addr) (kc : ClassId) (cc0 : Int32) (u0 : Value) (u1 : Value) (wz : Int32) (h0 : Heap) (n0 : Nat) (v : Option Value) (h : Heap) (L : List Loc) : Prop := ∃ bb : Addr, ∃ kb : ClassId, v = none ∧ Fr n0 L ∧ Keep h0 h [ba] ∧ Exa Z h ba "java/lang/String" ∧ Fld Z h ba "java/lang/String" "value" "[B" (.ref bb) ∧ Fld Z h ba "java/lang/String" "coder" "B" (.int (0 : Int32)) ∧ h0.size ≤ bb ∧ Arv Z h bb kb .byte (1 : Int32) [(.int (cc0.toInt8.toInt32))] (.int (0 : Int32))
set_option maxRecDepth 65536 in
set_option maxHeartbeats 40000000 in
theorem rm_ini4_1 (l : Launch) (Z : State) (a0 : Array Value) (hw : ∀ d ∈ tables_1, d.before a0 Z = true) (ws : List Jvm.Cond) (ba : Addr) (bc : Addr) (kc : ClassId) (cc0 : Int32) (u0 : Value) (u1 : Value) (wz : Int32) (h0 : Heap) (n0 : Nat) (O0 : Old Z n0 h0) (P0 : Exa Z h0 ba "java/lang/String") (P1 : Fld Z h0 ba "java/lang/String" "value" "[B" u0) (P2 : Fld Z h0 ba "java/lang/String" "coder" "B" u1) (P3 : n0 ≤ ba) (P4 : Arv Z h0 bc kc .char (1 : Int32) [(.int cc0)] (.int (0 : Int32))) (P5 : bc ≠ ba) (P6 : Sta Z Z.heap "java/lang/String" "COMPACT_STRINGS" "Z" (.int wz)) (hwz : ¬ (wz = (0 : Int32))) (hc0 : ¬ ((255 : Int32) < cc0)) :
    MetFree l (⟨"java/lang/String", "<init>", "([CIILjava/lang/Void;)V"⟩ : MethodName) (head1 (Jvm.Cond.code (⟨"java/lang/String", "<init>", "([CIILjava/lang/Void;)V"⟩ : MethodName) jdk_42_method_149_code 6 none :: ws) ({ frames := 2, cells := 1, slots := 1, locals := 35 } : Room)) (fun a U => a = #[(.ref ba), (.ref bc), (.int (0 : Int32)), (.int (1 : Int32)), .null] ∧ Z.Warmed39 U.vm ∧ U.heap = h0) (fun _ _ _ _ _ => True) (fun _ U o U' => ∃ v L, o = .returned v ∧ Q_ini4_1 Z ba bc kc cc0 u0 u1 wz h0 n0 v U'.heap L ∧ FrameEnd U o U' L ({ frames := 2, cells := 1, slots := 1, locals := 35 } : Room).cells ({ frames := 2, cells := 1, slots := 1, locals := 35 } : Room).slots) := by
  refine MetFree.of_bodySF (plainFor_of_name pn_java_lang_String) hisR ?_
  intro p e s m args below meth c s₁ Bd hml0 hP hK
  obtain ⟨rfl, hZ, hh⟩ := hP
  have hx := Bd.exec
  have hby := Bd.bytes
  have hml : c.maxLocals = 6 := hml0
  have hown : s.vm.findClass "java/lang/String" = some m.cls := findClass_of_methodNamed Bd.named
  have hnm := (name_of_methodNamed Bd.named Bd.method).1
  have hlk : meth.locks = false := BodyLoose.notSynchronized Bd
  have X0 : Stand p l e ({ frames := 2, cells := 1, slots := 1, locals := 35 } : Room) s m #[(.ref ba), (.ref bc), (.int (0 : Int32)), (.int (1 : Int32)), .null] below meth c s₁ [] 0 0 := Stand.of_body Bd
  have e0 : s₁.heap = h0 := by rw [← hh, Bd.state]; rfl
  have N0 := Fr.nil n0
  have K0 := Keep.refl h0 [ba]
  rw [ef_ini4_1 m ba bc]
  show Go p e below s (fun v h L => Q_ini4_1 Z ba bc kc cc0 u0 u1 wz h0 n0 v h L) ({ frames := 2, cells := 1, slots := 1, locals := 35 } : Room).cells ({ frames := 2, cells := 1, slots := 1, locals := 35 } : Room).slots s₁ (mkF m 0 #[.val (.ref ba), .val (.ref bc), .val (.int (0 : Int32)), .val (.int (1 : Int32)), .val .null, .unset] [])
  refine Go.step (T' := s₁) (f' := (mkF m 1 #[.val (.ref ba), .val (.ref bc), .val (.int (0 : Int32)), .val (.int (1 : Int32)), .val .null, .unset] [(.ref ba)])) (fun t k => XS.aloadN X0.here hx rfl (hb hby d3_0) rfl rfl k) ?_
  obtain ⟨T26, X26, e26, st26⟩ := initO X0 hx hZ hown (hw _ (List.mem_of_getElem? (i := 15) rfl)) (hw _ (List.mem_of_getElem? (i := 16) rfl)) (hw _ (List.mem_of_getElem? (i := 17) rfl)) e0 (g := (mkF m 1 #[.val (.ref ba), .val (.ref bc), .val (.int (0 : Int32)), .val (.int (1 : Int32)), .val .null, .unset] [(.ref ba)])) rfl (by rw [hml]; rfl) rfl (hb hby d3_1) (by decide) (W := 0) (by show 2 * 0 + _ ≤ _; exact Nat.le_of_eq rfl) (by decide)
  refine Go.step (T' := T26) (f' := (mkF m 4 #[.val (.ref ba), .val (.ref bc), .val (.int (0 : Int32)), .val (.int (1 : Int32)), .val .null, .unset] [])) st26 ?_
  clear st26 X0
  refine Go.step (T' := T26) (f' := (mkF m 5 #[.val (.ref ba), .val (.ref bc), .val (.int (0 : Int32)), .val (.int (1 : Int32)), .val .null, .unset] [(.int (1 : Int32))])) (fun t k => XS.iloadN X26.here hx rfl (hb hby d3_4) rfl k) ?_
  refine Go.step (T' := T26) (f' := (mkF m 27 #[.val (.ref ba), .val (.ref bc), .val (.int (0 : Int32)), .val (.int (1 : Int32)), .val .null, .unset] [])) (fun t k => XS.ifYes X26.here hx rfl (pc0 := 5) (pc' := 27) rfl (hb hby d3_5) rfl ((if0 _ _).trans (feq (by decide : ¬ ((1 : Int32) = (0 : Int32)))).2) (by decide) (by decide) k) ?_
  obtain ⟨T27, X27, e27, st27⟩ := getS2 X26 hx hZ hown (host := "") (Or.inl (hw _ (List.mem_of_getElem? (i := 18) rfl))) Via.refl e26 (P6.ext O0.2) (g := (mkF m 27 #[.val (.ref ba), .val (.ref bc), .val (.int (0 : Int32)), .val (.int (1 : Int32)), .val .null, .unset] [])) rfl (hb hby d3_27)
  refine Go.step (T' := T27) (f' := (mkF m 30 #[.val (.ref ba), .val (.ref bc), .val (.int (0 : Int32)), .val (.int (1 : Int32)), .val .null, .unset] [(.int wz)])) st27 ?_
  clear st27 X26
  refine Go.step (T' := T27) (f' := (mkF m 33 #[.val (.ref ba), .val (.ref bc), .val (.int (0 : Int32)), .val (.int (1 : Int32)), .val .null, .unset] [])) (fun t k => XS.ifNo X27.here hx rfl (hb hby d3_30) rfl ((if0 _ _).trans (feq hwz).1) k) ?_
  refine Go.step (T' := T27) (f' := (mkF m 34 #[.val (.ref ba), .val (.ref bc), .val (.int (0 : Int32)), .val (.int (1 : Int32)), .val .null, .unset] [(.ref bc)])) (fun t k => XS.aloadN X27.here hx rfl (hb hby d3_33) rfl rfl k) ?_
  refine Go.step (T' := T27) (f' := (mkF m 35 #[.val (.ref ba), .val (.ref bc), .val (.int (0 : Int32)), .val (.int (1 : Int32)), .val .null, .unset] [(.int (0 : Int32)), (.ref bc)])) (fun t k => XS.iloadN X27.here hx rfl (hb hby d3_34) rfl k) ?_
  refine Go.step (T' := T27) (f' := (mkF m 36 #[.val (.ref ba), .val (.ref bc), .val (.int (0 : Int32)), .val (.int (1 : Int32)), .val .null, .unset] [(.int (1 : Int32)), (.int (0 : Int32)), (.ref bc)])) (fun t k => XS.iloadN X27.here hx rfl (hb hby d3_35) rfl k) ?_
  obtain ⟨_, _, ⟨T28, L28, k28, n28⟩, -, X28, ⟨Lc28, hQ28, l28, y28, z28⟩, st28⟩ := Jvm.LawKit.callS X27 hx (y := (⟨"java/lang/StringUTF16", "compress", "([CII)[B"⟩ : MethodName)) hown (mvT hZ (hw _ (List.mem_of_getElem? (i := 19) rfl))) (mvT hZ (hw _ (List.mem_of_getElem? (i := 20) rfl))) (mvT hZ (hw _ (List.mem_of_getElem? (i := 21) rfl))) (mvT hZ (hw _ (List.mem_of_getElem? (i := 22) rfl))) (by decide) (backOf (W := 0) (rm_cmp1 l Z a0 hw [] bc kc cc0 h0 n0 O0 P4 hc0) hZ (hw _ (List.mem_of_getElem? (i := 22) rfl)) (hw _ (List.mem_of_getElem? (i := 21) rfl)) (by decide) (by decide)) (g := (mkF m 36 #[.val (.ref ba), .val (.ref bc), .val (.int (0 : Int32)), .val (.int (1 : Int32)), .val .null, .unset] [(.int (1 : Int32)), (.int (0 : Int32)), (.ref bc)])) rfl (by rw [hml]; rfl) (argsL := [(.ref bc), (.int (0 : Int32)), (.int (1 : Int32))]) (rest := []) (lenOf pd1 rfl) rfl (by show 2 * 0 + _ ≤ _; exact Nat.le_of_eq rfl) (hb hby d3_36) (fun _ _ => ⟨rfl, e27, (by decide : 0 + 1 ≤ _), (by decide : 0 + 1 ≤ _)⟩)
  dsimp only [Pt.U, Pt.locs, Pt.cells, Pt.slots] at X28 l28 y28 z28 st28 hQ28
  subst l28 y28 z28
  obtain ⟨u29, u30, rfl, Nq28, hh28, p31, p32⟩ := hQ28
  have N33 := Fr.app N0 Nq28
  have f34 := P0.keep hh28
  have f35 := P1.keep hh28 nin0
  have f36 := P2.keep hh28 nin0
  have f37 := P4.keep hh28 nin0
  have O38 := O0.keep hh28 all0
  have K39 := K0.trans hh28 all0
  have g40 : n0 ≤ u29 := Nat.le_trans (own_old_le O0) p31
  have g41 : h0.size ≤ u29 := Nat.le_trans K0.1 p31
  have ne42 : ba ≠ u29 := Nat.ne_of_lt (Nat.lt_of_lt_of_le P0.lt p31)
  have ne43 : bc ≠ u29 := Nat.ne_of_lt (Nat.lt_of_lt_of_le P4.lt p31)
  refine Go.step (T' := T28) (f' := (mkF m 39 #[.val (.ref ba), .val (.ref bc), .val (.int (0 : Int32)), .val (.int (1 : Int32)), .val .null, .unset] [(.ref u29)])) st28 ?_
  clear st28 X27 Nq28
  refine Go.step (T' := T28) (f' := (mkF m 41 #[.val (.ref ba), .val (.ref bc), .val (.int (0 : Int32)), .val (.int (1 : Int32)), .val .null, .val (.ref u29)] [])) (fun t k => XS.astore X28.here hx rfl (hb hby d3_39) rfl rfl (l' := #[.val (.ref ba), .val (.ref bc), .val (.int (0 : Int32)), .val (.int (1 : Int32)), .val .null, .val (.ref u29)]) rfl k) ?_
  refine Go.step (T' := T28) (f' := (mkF m 42 #[.val (.ref ba), .val (.ref bc), .val (.int (0 : Int32)), .val (.int (1 : Int32)), .val .null, .val (.ref u29)] [(.ref ba)])) (fun t k => XS.aloadN X28.here hx rfl (hb hby d3_41) rfl rfl k) ?_
  refine Go.step (T' := T28) (f' := (mkF m 44 #[.val (.ref ba), .val (.ref bc), .val (.int (0 : Int32)), .val (.int (1 : Int32)), .val .null, .val (.ref u29)] [(.ref u29), (.ref ba)])) (fun t k => XS.aload X28.here hx rfl (hb hby d3_42) rfl rfl k) ?_
  refine Go.step (T' := T28) (f' := (mkF m 45 #[.val (.ref ba), .val (.ref bc), .val (.int (0 : Int32)), .val (.int (1 : Int32)), .val .null, .val (.ref u29)] [(.int (1 : Int32)), (.ref u29), (.ref ba)])) (fun t k => XS.iloadN X28.here hx rfl (hb hby d3_44) rfl k) ?_
  obtain ⟨_, _, ⟨T44, L44, k44, n44⟩, -, X44, ⟨Lc44, hQ44, l44, y44, z44⟩, st44⟩ := Jvm.LawKit.callS X28 hx (y := (⟨"java/lang/StringUTF16", "coderFromArrayLen", "([BI)B"⟩ : MethodName)) hown (mvT hZ (hw _ (List.mem_of_getElem? (i := 27) rfl))) (mvT hZ (hw _ (List.mem_of_getElem? (i := 28) rfl))) (mvT hZ (hw _ (List.mem_of_getElem? (i := 21) rfl))) (mvT hZ (hw _ (List.mem_of_getElem? (i := 29) rfl))) (by decide) (backOf (W := 1) (rm_cod1 l Z a0 hw [] u29 u30 (cc0.toInt8.toInt32) T28.heap n0 O38 p32) hZ (hw _ (List.mem_of_getElem? (i := 29) rfl)) (hw _ (List.mem_of_getElem? (i := 21) rfl)) (by decide) (by decide)) (g := (mkF m 45 #[.val (.ref ba), .val (.ref bc), .val (.int (0 : Int32)), .val (.int (1 : Int32)), .val .null, .val (.ref u29)] [(.int (1 : Int32)), (.ref u29), (.ref ba)])) rfl (by rw [hml]; rfl) (argsL := [(.ref u29), (.int (1 : Int32))]) (rest := [(.ref ba)]) (lenOf pd2 rfl) rfl (by show 2 * 0 + _ ≤ _; exact Nat.le_of_eq rfl) (hb hby d3_45) (fun _ _ => ⟨rfl, rfl, (by decide : 1 + 0 ≤ _), (by decide : 1 + 0 ≤ _)⟩)
  dsimp only [Pt.U, Pt.locs, Pt.cells, Pt.slots] at X44 l44 y44 z44 st44 hQ44
  subst l44 y44 z44
  obtain ⟨rfl, Nq44, hh44⟩ := hQ44
  have N45 := Fr.app N33 Nq44
  refine Go.step (T' := T44) (f' := (mkF m 48 #[.val (.ref ba), .val (.ref bc), .val (.int (0 : Int32)), .val (.int (1 : Int32)), .val .null, .val (.ref u29)] [(.int (0 : Int32)), (.ref ba)])) st44 ?_
  clear st44 X28 N33 Nq44
  obtain ⟨T46, h46, X46, e46, W46, st46⟩ := putFN X44 hx hZ hown (hw _ (List.mem_of_getElem? (i := 30) rfl)) Via.refl hh44 f36 f34 (Or.inr ⟨(hw _ (List.mem_of_getElem? (i := 31) rfl)), rfl, hnm⟩) (hw _ (List.mem_of_getElem? (i := 5) rfl)) (ty := .byte) (v' := (.int (0 : Int32))) (by decide) rfl (by decide) (g := (mkF m 48 #[.val (.ref ba), .val (.ref bc), .val (.int (0 : Int32)), .val (.int (1 : Int32)), .val .null, .val (.ref u29)] [(.int (0 : Int32)), (.ref ba)])) rfl rfl (hb hby d3_48)
  have f47 := f36.same W46
  have f48 := f34.wr W46
  have f49 := f35.other W46 (Or.inr (slot_ne (Or.inr (hw _ (List.mem_of_getElem? (i := 33) rfl))) (Or.inr (hw _ (List.mem_of_getElem? (i := 31) rfl))) (by decide) (t := (.array .byte)) (t' := .byte) (by decide) (by decide)))
  have f50 := f37.other W46 P5
  have f51 := p32.other W46 (Ne.symm ne42)
  have O52 := O38.wr W46 P3
  have K53 := K39.wr W46 (Or.inl (List.mem_of_getElem? (i := 0) rfl))
  have N54 := Fr.snoc X46 N45 P3
  refine Go.step (T' := T46) (f' := (mkF m 51 #[.val (.ref ba), .val (.ref bc), .val (.int (0 : Int32)), .val (.int (1 : Int32)), .val .null, .val (.ref u29)] [])) st46 ?_
  clear st46 X44 f34 f35 f37 p32 O38 K39 N45
  refine Go.step (T' := T46) (f' := (mkF m 52 #[.val (.ref ba), .val (.ref bc), .val (.int (0 : Int32)), .val (.int (1 : Int32)), .val .null, .val (.ref u29)] [(.ref ba)])) (fun t k => XS.aloadN X46.here hx rfl (hb hby d3_51) rfl rfl k) ?_
  refine Go.step (T' := T46) (f' := (mkF m 54 #[.val (.ref ba), .val (.ref bc), .val (.int (0 : Int32)), .val (.int (1 : Int32)), .val .null, .val (.ref u29)] [(.ref u29), (.ref ba)])) (fun t k => XS.aload X46.here hx rfl (hb hby d3_52) rfl rfl k) ?_
  obtain ⟨T55, h55, X55, e55, W55, st55⟩ := putF X46 hx hZ hown (host := "") (Or.inl (hw _ (List.mem_of_getElem? (i := 32) rfl))) Via.refl e46 f49 f48 (Or.inr ⟨(hw _ (List.mem_of_getElem? (i := 33) rfl)), rfl, hnm⟩) (hw _ (List.mem_of_getElem? (i := 5) rfl)) (ty := (.array .byte)) (by decide) rfl rfl (g := (mkF m 54 #[.val (.ref ba), .val (.ref bc), .val (.int (0 : Int32)), .val (.int (1 : Int32)), .val .null, .val (.ref u29)] [(.ref u29), (.ref ba)])) rfl rfl (hb hby d3_54)
  have f56 := f49.same W55
  have f57 := f48.wr W55
  have f58 := f50.other W55 P5
  have f59 := f51.other W55 (Ne.symm ne42)
  have f60 := f47.other W55 (Or.inr (slot_ne (Or.inr (hw _ (List.mem_of_getElem? (i := 31) rfl))) (Or.inr (hw _ (List.mem_of_getElem? (i := 33) rfl))) (by decide) (t := .byte) (t' := (.array .byte)) (by decide) (by decide)))
  have O61 := O52.wr W55 P3
  have K62 := K53.wr W55 (Or.inl (List.mem_of_getElem? (i := 0) rfl))
  have N63 := Fr.snoc X55 N54 P3
  refine Go.step (T' := T55) (f' := (mkF m 57 #[.val (.ref ba), .val (.ref bc), .val (.int (0 : Int32)), .val (.int (1 : Int32)), .val .null, .val (.ref u29)] [])) st55 ?_
  clear st55 X46 f48 f50 f51 f47 O52 K53 N54
  refine Go.retV X55 hx hlk Bd.returns (hb hby d3_57) e55 ?_ (by decide) (by decide)
  exact ⟨u29, u30, rfl, N63, K62, f57, f56, f60, g41, f59⟩
theorem d2_0 : decode jdk_42_method_3_code 0 = .ok (.aload_n 0, 1) := by decide +kernel
theorem d2_1 : decode jdk_42_method_3_code 1 = .ok (.aload_n 1, 1) := by decide +kernel
theorem d2_2 : decode jdk_42_method_3_code 2 = .ok (.iconst 0, 1) := by decide +kernel
theorem d2_3 : decode jdk_42_method_3_code 3 = .ok (.aload_n 1, 1) := by decide +kernel
theorem d2_4 : decode jdk_42_method_3_code 4 = .ok (.arraylength, 1) := by decide +kernel
theorem d2_5 : decode jdk_42_method_3_code 5 = .ok (.aconst_null, 1) := by decide +kernel
theorem d2_6 : decode jdk_42_method_3_code 6 = .ok (.invokespecial 27, 3) := by decide +kernel
theorem d2_9 : decode jdk_42_method_3_code 9 = .ok (.return_, 1) := by decide +kernel
theorem pd3 : parseMethodDescriptor "([CIILjava/lang/Void;)V" = some ⟨[(.array .char), .int, .int, (.object "java/lang/Void")], none⟩ := by decide +kernel
theorem ef_ini1_1 (m : MethodId) (ba : Addr) (bc : Addr) : entryFrame m #[(.ref ba), (.ref bc)] 2 = mkF m 0 #[.val (.ref ba), .val (.ref bc)] [] := by first | (simp [entryFrame, mkF, argsToLocals, Value.category]; done) | rfl
def Q_ini1_1 (Z : State) (ba : Addr) (bc : Addr) (kc : ClassId) (cc0 : Int32) (u0 : Value) (u1 : Value) (wz : Int32) (h0 : Heap) (n0 : Nat) (v : Option Value) (h : Heap) (L : List Loc) : Prop := ∃ bb : Addr, ∃ kb : ClassId, v = none ∧ Fr n0 L ∧ Keep h0 h [ba] ∧ Exa Z h ba "java/lang/String" ∧ Fld Z h ba "java/lang/String" "value" "[B" (.ref bb) ∧ Fld Z h ba "java/lang/String" "coder" "B" (.int (0 : Int32)) ∧ h0.size ≤ bb ∧ Arv Z h bb kb .byte (1 : Int32) [(.int (cc0.toInt8.toInt32))] (.int (0 : Int32))
set_option maxRecDepth 65536 in
set_option maxHeartbeats 40000000 in
theorem rm_ini1_1 (l : Launch) (Z : State) (a0 : Array Value) (hw : ∀ d ∈ tables_1, d.before a0 Z = true) (ws : List Jvm.Cond) (ba : Addr) (bc : Addr) (kc : ClassId) (cc0 : Int32) (u0 : Value) (u1 : Value) (wz : Int32) (h0 : Heap) (n0 : Nat) (O0 : Old Z n0 h0) (P0 : Exa Z h0 ba "java/lang/String") (P1 : Fld Z h0 ba "java/lang/String" "value" "[B" u0) (P2 : Fld Z h0 ba "java/lang/String" "coder" "B" u1) (P3 : n0 ≤ ba) (P4 : Arv Z h0 bc kc .char (1 : Int32) [(.int cc0)] (.int (0 : Int32))) (P5 : bc ≠ ba) (P6 : Sta Z Z.heap "java/lang/String" "COMPACT_STRINGS" "Z" (.int wz)) (hwz : ¬ (wz = (0 : Int32))) (hc0 : ¬ ((255 : Int32) < cc0)) :
    MetFree l (⟨"java/lang/String", "<init>", "([C)V"⟩ : MethodName) (head1 (Jvm.Cond.code (⟨"java/lang/String", "<init>", "([C)V"⟩ : MethodName) jdk_42_method_3_code 2 none :: ws) ({ frames := 3, cells := 1, slots := 1, locals := 52 } : Room)) (fun a U => a = #[(.ref ba), (.ref bc)] ∧ Z.Warmed39 U.vm ∧ U.heap = h0) (fun _ _ _ _ _ => True) (fun _ U o U' => ∃ v L, o = .returned v ∧ Q_ini1_1 Z ba bc kc cc0 u0 u1 wz h0 n0 v U'.heap L ∧ FrameEnd U o U' L ({ frames := 3, cells := 1, slots := 1, locals := 52 } : Room).cells ({ frames := 3, cells := 1, slots := 1, locals := 52 } : Room).slots) := by
  refine MetFree.of_bodySF (plainFor_of_name pn_java_lang_String) hisR ?_
  intro p e s m args below meth c s₁ Bd hml0 hP hK
  obtain ⟨rfl, hZ, hh⟩ := hP
  have hx := Bd.exec
  have hby := Bd.bytes
  have hml : c.maxLocals = 2 := hml0
  have hown : s.vm.findClass "java/lang/String" = some m.cls := findClass_of_methodNamed Bd.named
  have hnm := (name_of_methodNamed Bd.named Bd.method).1
  have hlk : meth.locks = false := BodyLoose.notSynchronized Bd
  have X0 : Stand p l e ({ frames := 3, cells := 1, slots := 1, locals := 52 } : Room) s m #[(.ref ba), (.ref bc)] below meth c s₁ [] 0 0 := Stand.of_body Bd
  have e0 : s₁.heap = h0 := by rw [← hh, Bd.state]; rfl
  have N0 := Fr.nil n0
  have K0 := Keep.refl h0 [ba]
  rw [ef_ini1_1 m ba bc]
  show Go p e below s (fun v h L => Q_ini1_1 Z ba bc kc cc0 u0 u1 wz h0 n0 v h L) ({ frames := 3, cells := 1, slots := 1, locals := 52 } : Room).cells ({ frames := 3, cells := 1, slots := 1, locals := 52 } : Room).slots s₁ (mkF m 0 #[.val (.ref ba), .val (.ref bc)] [])
  refine Go.step (T' := s₁) (f' := (mkF m 1 #[.val (.ref ba), .val (.ref bc)] [(.ref ba)])) (fun t k => XS.aloadN X0.here hx rfl (hb hby d2_0) rfl rfl k) ?_
  refine Go.step (T' := s₁) (f' := (mkF m 2 #[.val (.ref ba), .val (.ref bc)] [(.ref bc), (.ref ba)])) (fun t k => XS.aloadN X0.here hx rfl (hb hby d2_1) rfl rfl k) ?_
  refine Go.step (T' := s₁) (f' := (mkF m 3 #[.val (.ref ba), .val (.ref bc)] [(.int (0 : Int32)), (.ref bc), (.ref ba)])) (fun t k => XS.iconst X0.here hx rfl (hb hby d2_2) k) ?_
  refine Go.step (T' := s₁) (f' := (mkF m 4 #[.val (.ref ba), .val (.ref bc)] [(.ref bc), (.int (0 : Int32)), (.ref bc), (.ref ba)])) (fun t k => XS.aloadN X0.here hx rfl (hb hby d2_3) rfl rfl k) ?_
  obtain ⟨ca64, Aa64, qa64, Sa64, Na64, Ha64, Ga64⟩ := id P4
  refine Go.step (T' := s₁) (f' := (mkF m 5 #[.val (.ref ba), .val (.ref bc)] [(.int (1 : Int32)), (.int (0 : Int32)), (.ref bc), (.ref ba)])) (fun t k => own_alen X0 hx hZ e0 Aa64 Sa64 Na64 (g := (mkF m 4 #[.val (.ref ba), .val (.ref bc)] [(.ref bc), (.int (0 : Int32)), (.ref bc), (.ref ba)])) rfl rfl (hb hby d2_4) k) ?_
  refine Go.step (T' := s₁) (f' := (mkF m 6 #[.val (.ref ba), .val (.ref bc)] [.null, (.int (1 : Int32)), (.int (0 : Int32)), (.ref bc), (.ref ba)])) (fun t k => XS.aconstNull X0.here hx rfl (hb hby d2_5) k) ?_
  obtain ⟨_, _, ⟨T65, L65, k65, n65⟩, -, X65, ⟨Lc65, hQ65, l65, y65, z65⟩, st65⟩ := X0.specialBack hx (y := (⟨"java/lang/String", "<init>", "([CIILjava/lang/Void;)V"⟩ : MethodName)) rfl hown (mvT hZ (hw _ (List.mem_of_getElem? (i := 11) rfl))) (mvT hZ (hw _ (List.mem_of_getElem? (i := 12) rfl))) (mvT hZ (hw _ (List.mem_of_getElem? (i := 14) rfl))) (by decide) (backOf (W := 0) (rm_ini4_1 l Z a0 hw [] ba bc kc cc0 u0 u1 wz h0 n0 O0 P0 P1 P2 P3 P4 P5 P6 hwz hc0) hZ (hw _ (List.mem_of_getElem? (i := 14) rfl)) (hw _ (List.mem_of_getElem? (i := 6) rfl)) (by decide) (by decide)) (g := (mkF m 6 #[.val (.ref ba), .val (.ref bc)] [.null, (.int (1 : Int32)), (.int (0 : Int32)), (.ref bc), (.ref ba)])) rfl (by rw [hml]; rfl) (Steps.refl _) (a := ba) (argsL := [(.ref bc), (.int (0 : Int32)), (.int (1 : Int32)), .null]) (rest := []) (lenOf pd3 rfl) rfl (by show 2 * 0 + _ ≤ _; exact Nat.le_of_eq rfl) (hb hby d2_6) (fun _ _ => ⟨rfl, e0, (by decide : 0 + 1 ≤ _), (by decide : 0 + 1 ≤ _)⟩)
  dsimp only [Pt.U, Pt.locs, Pt.cells, Pt.slots] at X65 l65 y65 z65 st65 hQ65
  subst l65 y65 z65
  obtain ⟨u66, u67, rfl, Nq65, hh65, p68, p69, p70, p71, p72⟩ := hQ65
  have N73 := Fr.app N0 Nq65
  have f74 := P0.keep hh65
  have f75 := P4.keep hh65 (ninS P5 nin0)
  have O76 := O0.keep hh65 (allS P3 all0)
  have K77 := K0.trans hh65 (allS (Or.inl (List.mem_of_getElem? (i := 0) rfl)) all0)
  have g78 : n0 ≤ u66 := Nat.le_trans (own_old_le O0) p71
  have g79 : h0.size ≤ u66 := Nat.le_trans K0.1 p71
  have ne80 : ba ≠ u66 := Nat.ne_of_lt (Nat.lt_of_lt_of_le P0.lt p71)
  have ne81 : bc ≠ u66 := Nat.ne_of_lt (Nat.lt_of_lt_of_le P4.lt p71)
  refine Go.via (T' := T65) (f' := (mkF m 9 #[.val (.ref ba), .val (.ref bc)] [])) st65 ?_
  clear st65 X0 Nq65
  refine Go.retV X65 hx hlk Bd.returns (hb hby d2_9) rfl ?_ (by decide) (by decide)
  exact ⟨u66, u67, rfl, N73, K77, p68, p69, p70, g79, p72⟩
theorem ef_cpr2 (m : MethodId) (bc : Addr) (bb : Addr) : entryFrame m #[(.ref bc), (.int (0 : Int32)), (.ref bb), (.int (0 : Int32)), (.int (2 : Int32))] 7 = mkF m 0 #[.val (.ref bc), .val (.int (0 : Int32)), .val (.ref bb), .val (.int (0 : Int32)), .val (.int (2 : Int32)), .unset, .unset] [] := by first | (simp [entryFrame, mkF, argsToLocals, Value.category]; done) | rfl
def Q_cpr2 (Z : State) (bc : Addr) (bb : Addr) (kc : ClassId) (cc0 : Int32) (cc1 : Int32) (kb : ClassId) (h0 : Heap) (n0 : Nat) (v : Option Value) (h : Heap) (L : List Loc) : Prop := v = some (.int (2 : Int32)) ∧ Fr n0 L ∧ Keep h0 h [bb] ∧ Arv Z h bb kb .byte (2 : Int32) [(.int (cc0.toInt8.toInt32)), (.int (cc1.toInt8.toInt32))] (.int (0 : Int32))
set_option maxRecDepth 65536 in
set_option maxHeartbeats 40000000 in
theorem rm_cpr2 (l : Launch) (Z : State) (a0 : Array Value) (hw : ∀ d ∈ tables_1, d.before a0 Z = true) (ws : List Jvm.Cond) (bc : Addr) (bb : Addr) (kc : ClassId) (cc0 : Int32) (cc1 : Int32) (kb : ClassId) (h0 : Heap) (n0 : Nat) (O0 : Old Z n0 h0) (P0 : Arv Z h0 bc kc .char (2 : Int32) [(.int cc0), (.int cc1)] (.int (0 : Int32))) (P1 : Arv Z h0 bb kb .byte (2 : Int32) [(.int (0 : Int32)), (.int (0 : Int32))] (.int (0 : Int32))) (P2 : n0 ≤ bb) (P3 : bc ≠ bb) (hc0 : ¬ ((255 : Int32) < cc0)) (hc1 : ¬ ((255 : Int32) < cc1)) :
    MetFree l (⟨"java/lang/StringUTF16", "compress", "([CI[BII)I"⟩ : MethodName) (head1 (Jvm.Cond.code (⟨"java/lang/StringUTF16", "compress", "([CI[BII)I"⟩ : MethodName) jdk_52_method_21_code 7 (some .int) :: ws) ({ frames := 0, cells := 0, slots := 0, locals := 0 } : Room)) (fun a U => a = #[(.ref bc), (.int (0 : Int32)), (.ref bb), (.int (0 : Int32)), (.int (2 : Int32))] ∧ Z.Warmed39 U.vm ∧ U.heap = h0) (fun _ _ _ _ _ => True) (fun _ U o U' => ∃ v L, o = .returned v ∧ Q_cpr2 Z bc bb kc cc0 cc1 kb h0 n0 v U'.heap L ∧ FrameEnd U o U' L ({ frames := 0, cells := 0, slots := 0, locals := 0 } : Room).cells ({ frames := 0, cells := 0, slots := 0, locals := 0 } : Room).slots) := by
  refine MetFree.of_bodySF (plainFor_of_name pn_java_lang_StringUTF16) hisR ?_
  intro p e s m args below meth c s₁ Bd hml0 hP hK
  obtain ⟨rfl, hZ, hh⟩ := hP
  have hx := Bd.exec
  have hby := Bd.bytes
  have hml : c.maxLocals = 7 := hml0
  have hown : s.vm.findClass "java/lang/StringUTF16" = some m.cls := findClass_of_methodNamed Bd.named
  have hnm := (name_of_methodNamed Bd.named Bd.method).1
  have hlk : meth.locks = false := BodyLoose.notSynchronized Bd
  have X0 : Stand p l e ({ frames := 0, cells := 0, slots := 0, locals := 0 } : Room) s m #[(.ref bc), (.int (0 : Int32)), (.ref bb), (.int (0 : Int32)), (.int (2 : Int32))] below meth c s₁ [] 0 0 := Stand.of_body Bd
  have e0 : s₁.heap = h0 := by rw [← hh, Bd.state]; rfl
  have N0 := Fr.nil n0
  have K0 := Keep.refl h0 [bb]
  rw [ef_cpr2 m bc bb]
  show Go p e below s (fun v h L => Q_cpr2 Z bc bb kc cc0 cc1 kb h0 n0 v h L) ({ frames := 0, cells := 0, slots := 0, locals := 0 } : Room).cells ({ frames := 0, cells := 0, slots := 0, locals := 0 } : Room).slots s₁ (mkF m 0 #[.val (.ref bc), .val (.int (0 : Int32)), .val (.ref bb), .val (.int (0 : Int32)), .val (.int (2 : Int32)), .unset, .unset] [])
  refine Go.step (T' := s₁) (f' := (mkF m 1 #[.val (.ref bc), .val (.int (0 : Int32)), .val (.ref bb), .val (.int (0 : Int32)), .val (.int (2 : Int32)), .unset, .unset] [(.int (0 : Int32))])) (fun t k => XS.iconst X0.here hx rfl (hb hby d6_0) k) ?_
  refine Go.step (T' := s₁) (f' := (mkF m 3 #[.val (.ref bc), .val (.int (0 : Int32)), .val (.ref bb), .val (.int (0 : Int32)), .val (.int (2 : Int32)), .val (.int (0 : Int32)), .unset] [])) (fun t k => XS.istore X0.here hx rfl (hb hby d6_1) rfl (l' := #[.val (.ref bc), .val (.int (0 : Int32)), .val (.ref bb), .val (.int (0 : Int32)), .val (.int (2 : Int32)), .val (.int (0 : Int32)), .unset]) rfl k) ?_
  refine Go.step (T' := s₁) (f' := (mkF m 5 #[.val (.ref bc), .val (.int (0 : Int32)), .val (.ref bb), .val (.int (0 : Int32)), .val (.int (2 : Int32)), .val (.int (0 : Int32)), .unset] [(.int (0 : Int32))])) (fun t k => XS.iload X0.here hx rfl (hb hby d6_3) rfl k) ?_
  refine Go.step (T' := s₁) (f' := (mkF m 7 #[.val (.ref bc), .val (.int (0 : Int32)), .val (.ref bb), .val (.int (0 : Int32)), .val (.int (2 : Int32)), .val (.int (0 : Int32)), .unset] [(.int (2 : Int32)), (.int (0 : Int32))])) (fun t k => XS.iload X0.here hx rfl (hb hby d6_5) rfl k) ?_
  refine Go.step (T' := s₁) (f' := (mkF m 10 #[.val (.ref bc), .val (.int (0 : Int32)), .val (.ref bb), .val (.int (0 : Int32)), .val (.int (2 : Int32)), .val (.int (0 : Int32)), .unset] [])) (fun t k => XS.icmpNo X0.here hx rfl (hb hby d6_7) rfl (tlt (by decide : (0 : Int32) < (2 : Int32))).2.1 k) ?_
  refine Go.step (T' := s₁) (f' := (mkF m 11 #[.val (.ref bc), .val (.int (0 : Int32)), .val (.ref bb), .val (.int (0 : Int32)), .val (.int (2 : Int32)), .val (.int (0 : Int32)), .unset] [(.ref bc)])) (fun t k => XS.aloadN X0.here hx rfl (hb hby d6_10) rfl rfl k) ?_
  refine Go.step (T' := s₁) (f' := (mkF m 12 #[.val (.ref bc), .val (.int (0 : Int32)), .val (.ref bb), .val (.int (0 : Int32)), .val (.int (2 : Int32)), .val (.int (0 : Int32)), .unset] [(.int (0 : Int32)), (.ref bc)])) (fun t k => XS.iloadN X0.here hx rfl (hb hby d6_11) rfl k) ?_
  obtain ⟨ca82, Aa82, qa82, Sa82, Na82, Ha82, Ga82⟩ := id P0
  have ia82 : ¬ ((0 : Int32) < 0 ∨ ca82.slots.size ≤ ((0 : Int32)).toNatClampNeg) := inb_of Sa82 ⟨by decide, by decide⟩
  have va82 := Ha82.at (v := (.int cc0)) ia82 rfl
  refine Go.step (T' := s₁) (f' := (mkF m 13 #[.val (.ref bc), .val (.int (0 : Int32)), .val (.ref bb), .val (.int (0 : Int32)), .val (.int (2 : Int32)), .val (.int (0 : Int32)), .unset] [(.int cc0)])) (fun t k => X0.caload hx (j := (0 : Int32)) (v := (.int cc0)) (by rw [e0]; exact Aa82.1) (State.isArrayOf_alike hZ.alike Aa82.2.1) Aa82.2.2 ia82 va82 (g := (mkF m 12 #[.val (.ref bc), .val (.int (0 : Int32)), .val (.ref bb), .val (.int (0 : Int32)), .val (.int (2 : Int32)), .val (.int (0 : Int32)), .unset] [(.int (0 : Int32)), (.ref bc)])) rfl rfl (hb hby d6_12) t k) ?_
  refine Go.step (T' := s₁) (f' := (mkF m 15 #[.val (.ref bc), .val (.int (0 : Int32)), .val (.ref bb), .val (.int (0 : Int32)), .val (.int (2 : Int32)), .val (.int (0 : Int32)), .val (.int cc0)] [])) (fun t k => XS.istore X0.here hx rfl (hb hby d6_13) rfl (l' := #[.val (.ref bc), .val (.int (0 : Int32)), .val (.ref bb), .val (.int (0 : Int32)), .val (.int (2 : Int32)), .val (.int (0 : Int32)), .val (.int cc0)]) rfl k) ?_
  refine Go.step (T' := s₁) (f' := (mkF m 17 #[.val (.ref bc), .val (.int (0 : Int32)), .val (.ref bb), .val (.int (0 : Int32)), .val (.int (2 : Int32)), .val (.int (0 : Int32)), .val (.int cc0)] [(.int cc0)])) (fun t k => XS.iload X0.here hx rfl (hb hby d6_15) rfl k) ?_
  refine Go.step (T' := s₁) (f' := (mkF m 20 #[.val (.ref bc), .val (.int (0 : Int32)), .val (.ref bb), .val (.int (0 : Int32)), .val (.int (2 : Int32)), .val (.int (0 : Int32)), .val (.int cc0)] [(.int (255 : Int32)), (.int cc0)])) (fun t k => XS.sipush X0.here hx rfl (hb hby d6_17) k) ?_
  refine Go.step (T' := s₁) (f' := (mkF m 26 #[.val (.ref bc), .val (.int (0 : Int32)), .val (.ref bb), .val (.int (0 : Int32)), .val (.int (2 : Int32)), .val (.int (0 : Int32)), .val (.int cc0)] [])) (fun t k => XS.icmpYes X0.here hx rfl (pc0 := 20) (pc' := 26) rfl (hb hby d6_20) rfl (flt hc0).2.2.2 (by decide) (by decide) k) ?_
  refine Go.step (T' := s₁) (f' := (mkF m 27 #[.val (.ref bc), .val (.int (0 : Int32)), .val (.ref bb), .val (.int (0 : Int32)), .val (.int (2 : Int32)), .val (.int (0 : Int32)), .val (.int cc0)] [(.ref bb)])) (fun t k => XS.aloadN X0.here hx rfl (hb hby d6_26) rfl rfl k) ?_
  refine Go.step (T' := s₁) (f' := (mkF m 28 #[.val (.ref bc), .val (.int (0 : Int32)), .val (.ref bb), .val (.int (0 : Int32)), .val (.int (2 : Int32)), .val (.int (0 : Int32)), .val (.int cc0)] [(.int (0 : Int32)), (.ref bb)])) (fun t k => XS.iloadN X0.here hx rfl (hb hby d6_27) rfl k) ?_
  refine Go.step (T' := s₁) (f' := (mkF m 30 #[.val (.ref bc), .val (.int (0 : Int32)), .val (.ref bb), .val (.int (0 : Int32)), .val (.int (2 : Int32)), .val (.int (0 : Int32)), .val (.int cc0)] [(.int cc0), (.int (0 : Int32)), (.ref bb)])) (fun t k => XS.iload X0.here hx rfl (hb hby d6_28) rfl k) ?_
  refine Go.step (T' := s₁) (f' := (mkF m 31 #[.val (.ref bc), .val (.int (0 : Int32)), .val (.ref bb), .val (.int (0 : Int32)), .val (.int (2 : Int32)), .val (.int (0 : Int32)), .val (.int cc0)] [(.int (cc0.toInt8.toInt32)), (.int (0 : Int32)), (.ref bb)])) (fun t k => XS.i2b X0.here hx rfl (hb hby d6_30) rfl k) ?_
  obtain ⟨ca83, Aa83, qa83, Sa83, Na83, Ha83, Ga83⟩ := id P1
  have ia83 : ¬ ((0 : Int32) < 0 ∨ ca83.slots.size ≤ ((0 : Int32)).toNatClampNeg) := inb_of Sa83 ⟨by decide, by decide⟩
  obtain ⟨T84, h84, X84, e84, W84, st84⟩ := stB X0 hx hZ e0 Aa83 (j := (0 : Int32)) ia83 (g := (mkF m 31 #[.val (.ref bc), .val (.int (0 : Int32)), .val (.ref bb), .val (.int (0 : Int32)), .val (.int (2 : Int32)), .val (.int (0 : Int32)), .val (.int cc0)] [(.int (cc0.toInt8.toInt32)), (.int (0 : Int32)), (.ref bb)])) rfl rfl (hb hby d6_31)
  have f85 := Arv.set Aa83 qa83 Sa83 Na83 Ha83 Ga83 (fits_nar_byte _) W84 0 rfl (Nat.le_of_ble_eq_true rfl)
  rw [own_nar8] at f85
  have f86 : Arv Z h84 bb kb .byte (2 : Int32) [(.int (cc0.toInt8.toInt32)), (.int (0 : Int32))] (.int (0 : Int32)) := f85
  have f87 := P0.other W84 P3
  have O88 := O0.wr W84 P2
  have K89 := K0.wr W84 (Or.inl (List.mem_of_getElem? (i := 0) rfl))
  have N90 := Fr.snoc X84 N0 P2
  refine Go.step (T' := T84) (f' := (mkF m 32 #[.val (.ref bc), .val (.int (0 : Int32)), .val (.ref bb), .val (.int (0 : Int32)), .val (.int (2 : Int32)), .val (.int (0 : Int32)), .val (.int cc0)] [])) st84 ?_
  clear st84 X0
  refine Go.step (T' := T84) (f' := (mkF m 35 #[.val (.ref bc), .val (.int ((0 : Int32) + (1 : Int32))), .val (.ref bb), .val (.int (0 : Int32)), .val (.int (2 : Int32)), .val (.int (0 : Int32)), .val (.int cc0)] [])) (fun t k => XS.iinc X84.here hx rfl (hb hby d6_32) rfl (l' := #[.val (.ref bc), .val (.int ((0 : Int32) + (1 : Int32))), .val (.ref bb), .val (.int (0 : Int32)), .val (.int (2 : Int32)), .val (.int (0 : Int32)), .val (.int cc0)]) rfl k) ?_
  rw [show ((0 : Int32) + (1 : Int32)) = (1 : Int32) from by decide]
  refine Go.step (T' := T84) (f' := (mkF m 38 #[.val (.ref bc), .val (.int (1 : Int32)), .val (.ref bb), .val (.int ((0 : Int32) + (1 : Int32))), .val (.int (2 : Int32)), .val (.int (0 : Int32)), .val (.int cc0)] [])) (fun t k => XS.iinc X84.here hx rfl (hb hby d6_35) rfl (l' := #[.val (.ref bc), .val (.int (1 : Int32)), .val (.ref bb), .val (.int ((0 : Int32) + (1 : Int32))), .val (.int (2 : Int32)), .val (.int (0 : Int32)), .val (.int cc0)]) rfl k) ?_
  rw [show ((0 : Int32) + (1 : Int32)) = (1 : Int32) from by decide]
  refine Go.step (T' := T84) (f' := (mkF m 41 #[.val (.ref bc), .val (.int (1 : Int32)), .val (.ref bb), .val (.int (1 : Int32)), .val (.int (2 : Int32)), .val (.int ((0 : Int32) + (1 : Int32))), .val (.int cc0)] [])) (fun t k => XS.iinc X84.here hx rfl (hb hby d6_38) rfl (l' := #[.val (.ref bc), .val (.int (1 : Int32)), .val (.ref bb), .val (.int (1 : Int32)), .val (.int (2 : Int32)), .val (.int ((0 : Int32) + (1 : Int32))), .val (.int cc0)]) rfl k) ?_
  rw [show ((0 : Int32) + (1 : Int32)) = (1 : Int32) from by decide]
  refine Go.step (T' := T84) (f' := (mkF m 3 #[.val (.ref bc), .val (.int (1 : Int32)), .val (.ref bb), .val (.int (1 : Int32)), .val (.int (2 : Int32)), .val (.int (1 : Int32)), .val (.int cc0)] [])) (fun t k => XS.goto X84.here hx rfl (pc0 := 41) (pc' := 3) rfl (hb hby d6_41) (by decide) (by decide) k) ?_
  refine Go.step (T' := T84) (f' := (mkF m 5 #[.val (.ref bc), .val (.int (1 : Int32)), .val (.ref bb), .val (.int (1 : Int32)), .val (.int (2 : Int32)), .val (.int (1 : Int32)), .val (.int cc0)] [(.int (1 : Int32))])) (fun t k => XS.iload X84.here hx rfl (hb hby d6_3) rfl k) ?_
  refine Go.step (T' := T84) (f' := (mkF m 7 #[.val (.ref bc), .val (.int (1 : Int32)), .val (.ref bb), .val (.int (1 : Int32)), .val (.int (2 : Int32)), .val (.int (1 : Int32)), .val (.int cc0)] [(.int (2 : Int32)), (.int (1 : Int32))])) (fun t k => XS.iload X84.here hx rfl (hb hby d6_5) rfl k) ?_
  refine Go.step (T' := T84) (f' := (mkF m 10 #[.val (.ref bc), .val (.int (1 : Int32)), .val (.ref bb), .val (.int (1 : Int32)), .val (.int (2 : Int32)), .val (.int (1 : Int32)), .val (.int cc0)] [])) (fun t k => XS.icmpNo X84.here hx rfl (hb hby d6_7) rfl (tlt (by decide : (1 : Int32) < (2 : Int32))).2.1 k) ?_
  refine Go.step (T' := T84) (f' := (mkF m 11 #[.val (.ref bc), .val (.int (1 : Int32)), .val (.ref bb), .val (.int (1 : Int32)), .val (.int (2 : Int32)), .val (.int (1 : Int32)), .val (.int cc0)] [(.ref bc)])) (fun t k => XS.aloadN X84.here hx rfl (hb hby d6_10) rfl rfl k) ?_
  refine Go.step (T' := T84) (f' := (mkF m 12 #[.val (.ref bc), .val (.int (1 : Int32)), .val (.ref bb), .val (.int (1 : Int32)), .val (.int (2 : Int32)), .val (.int (1 : Int32)), .val (.int cc0)] [(.int (1 : Int32)), (.ref bc)])) (fun t k => XS.iloadN X84.here hx rfl (hb hby d6_11) rfl k) ?_
  obtain ⟨ca91, Aa91, qa91, Sa91, Na91, Ha91, Ga91⟩ := id f87
  have ia91 : ¬ ((1 : Int32) < 0 ∨ ca91.slots.size ≤ ((1 : Int32)).toNatClampNeg) := inb_of Sa91 ⟨by decide, by decide⟩
  have va91 := Ha91.at (v := (.int cc1)) ia91 rfl
  refine Go.step (T' := T84) (f' := (mkF m 13 #[.val (.ref bc), .val (.int (1 : Int32)), .val (.ref bb), .val (.int (1 : Int32)), .val (.int (2 : Int32)), .val (.int (1 : Int32)), .val (.int cc0)] [(.int cc1)])) (fun t k => X84.caload hx (j := (1 : Int32)) (v := (.int cc1)) (by rw [e84]; exact Aa91.1) (State.isArrayOf_alike hZ.alike Aa91.2.1) Aa91.2.2 ia91 va91 (g := (mkF m 12 #[.val (.ref bc), .val (.int (1 : Int32)), .val (.ref bb), .val (.int (1 : Int32)), .val (.int (2 : Int32)), .val (.int (1 : Int32)), .val (.int cc0)] [(.int (1 : Int32)), (.ref bc)])) rfl rfl (hb hby d6_12) t k) ?_
  refine Go.step (T' := T84) (f' := (mkF m 15 #[.val (.ref bc), .val (.int (1 : Int32)), .val (.ref bb), .val (.int (1 : Int32)), .val (.int (2 : Int32)), .val (.int (1 : Int32)), .val (.int cc1)] [])) (fun t k => XS.istore X84.here hx rfl (hb hby d6_13) rfl (l' := #[.val (.ref bc), .val (.int (1 : Int32)), .val (.ref bb), .val (.int (1 : Int32)), .val (.int (2 : Int32)), .val (.int (1 : Int32)), .val (.int cc1)]) rfl k) ?_
  refine Go.step (T' := T84) (f' := (mkF m 17 #[.val (.ref bc), .val (.int (1 : Int32)), .val (.ref bb), .val (.int (1 : Int32)), .val (.int (2 : Int32)), .val (.int (1 : Int32)), .val (.int cc1)] [(.int cc1)])) (fun t k => XS.iload X84.here hx rfl (hb hby d6_15) rfl k) ?_
  refine Go.step (T' := T84) (f' := (mkF m 20 #[.val (.ref bc), .val (.int (1 : Int32)), .val (.ref bb), .val (.int (1 : Int32)), .val (.int (2 : Int32)), .val (.int (1 : Int32)), .val (.int cc1)] [(.int (255 : Int32)), (.int cc1)])) (fun t k => XS.sipush X84.here hx rfl (hb hby d6_17) k) ?_
  refine Go.step (T' := T84) (f' := (mkF m 26 #[.val (.ref bc), .val (.int (1 : Int32)), .val (.ref bb), .val (.int (1 : Int32)), .val (.int (2 : Int32)), .val (.int (1 : Int32)), .val (.int cc1)] [])) (fun t k => XS.icmpYes X84.here hx rfl (pc0 := 20) (pc' := 26) rfl (hb hby d6_20) rfl (flt hc1).2.2.2 (by decide) (by decide) k) ?_
  refine Go.step (T' := T84) (f' := (mkF m 27 #[.val (.ref bc), .val (.int (1 : Int32)), .val (.ref bb), .val (.int (1 : Int32)), .val (.int (2 : Int32)), .val (.int (1 : Int32)), .val (.int cc1)] [(.ref bb)])) (fun t k => XS.aloadN X84.here hx rfl (hb hby d6_26) rfl rfl k) ?_
  refine Go.step (T' := T84) (f' := (mkF m 28 #[.val (.ref bc), .val (.int (1 : Int32)), .val (.ref bb), .val (.int (1 : Int32)), .val (.int (2 : Int32)), .val (.int (1 : Int32)), .val (.int cc1)] [(.int (1 : Int32)), (.ref bb)])) (fun t k => XS.iloadN X84.here hx rfl (hb hby d6_27) rfl k) ?_
  refine Go.step (T' := T84) (f' := (mkF m 30 #[.val (.ref bc), .val (.int (1 : Int32)), .val (.ref bb), .val (.int (1 : Int32)), .val (.int (2 : Int32)), .val (.int (1 : Int32)), .val (.int cc1)] [(.int cc1), (.int (1 : Int32)), (.ref bb)])) (fun t k => XS.iload X84.here hx rfl (hb hby d6_28) rfl k) ?_
  refine Go.step (T' := T84) (f' := (mkF m 31 #[.val (.ref bc), .val (.int (1 : Int32)), .val (.ref bb), .val (.int (1 : Int32)), .val (.int (2 : Int32)), .val (.int (1 : Int32)), .val (.int cc1)] [(.int (cc1.toInt8.toInt32)), (.int (1 : Int32)), (.ref bb)])) (fun t k => XS.i2b X84.here hx rfl (hb hby d6_30) rfl k) ?_
  obtain ⟨ca92, Aa92, qa92, Sa92, Na92, Ha92, Ga92⟩ := id f86
  have ia92 : ¬ ((1 : Int32) < 0 ∨ ca92.slots.size ≤ ((1 : Int32)).toNatClampNeg) := inb_of Sa92 ⟨by decide, by decide⟩
  obtain ⟨T93, h93, X93, e93, W93, st93⟩ := stB X84 hx hZ e84 Aa92 (j := (1 : Int32)) ia92 (g := (mkF m 31 #[.val (.ref bc), .val (.int (1 : Int32)), .val (.ref bb), .val (.int (1 : Int32)), .val (.int (2 : Int32)), .val (.int (1 : Int32)), .val (.int cc1)] [(.int (cc1.toInt8.toInt32)), (.int (1 : Int32)), (.ref bb)])) rfl rfl (hb hby d6_31)
  have f94 := Arv.set Aa92 qa92 Sa92 Na92 Ha92 Ga92 (fits_nar_byte _) W93 1 rfl (Nat.le_of_ble_eq_true rfl)
  rw [own_nar8] at f94
  have f95 : Arv Z h93 bb kb .byte (2 : Int32) [(.int (cc0.toInt8.toInt32)), (.int (cc1.toInt8.toInt32))] (.int (0 : Int32)) := f94
  have f96 := f87.other W93 P3
  have O97 := O88.wr W93 P2
  have K98 := K89.wr W93 (Or.inl (List.mem_of_getElem? (i := 0) rfl))
  have N99 := Fr.snoc X93 N90 P2
  refine Go.step (T' := T93) (f' := (mkF m 32 #[.val (.ref bc), .val (.int (1 : Int32)), .val (.ref bb), .val (.int (1 : Int32)), .val (.int (2 : Int32)), .val (.int (1 : Int32)), .val (.int cc1)] [])) st93 ?_
  clear st93 X84 f87 O88 K89 N90
  refine Go.step (T' := T93) (f' := (mkF m 35 #[.val (.ref bc), .val (.int ((1 : Int32) + (1 : Int32))), .val (.ref bb), .val (.int (1 : Int32)), .val (.int (2 : Int32)), .val (.int (1 : Int32)), .val (.int cc1)] [])) (fun t k => XS.iinc X93.here hx rfl (hb hby d6_32) rfl (l' := #[.val (.ref bc), .val (.int ((1 : Int32) + (1 : Int32))), .val (.ref bb), .val (.int (1 : Int32)), .val (.int (2 : Int32)), .val (.int (1 : Int32)), .val (.int cc1)]) rfl k) ?_
  rw [show ((1 : Int32) + (1 : Int32)) = (2 : Int32) from by decide]
  refine Go.step (T' := T93) (f' := (mkF m 38 #[.val (.ref bc), .val (.int (2 : Int32)), .val (.ref bb), .val (.int ((1 : Int32) + (1 : Int32))), .val (.int (2 : Int32)), .val (.int (1 : Int32)), .val (.int cc1)] [])) (fun t k => XS.iinc X93.here hx rfl (hb hby d6_35) rfl (l' := #[.val (.ref bc), .val (.int (2 : Int32)), .val (.ref bb), .val (.int ((1 : Int32) + (1 : Int32))), .val (.int (2 : Int32)), .val (.int (1 : Int32)), .val (.int cc1)]) rfl k) ?_
  rw [show ((1 : Int32) + (1 : Int32)) = (2 : Int32) from by decide]
  refine Go.step (T' := T93) (f' := (mkF m 41 #[.val (.ref bc), .val (.int (2 : Int32)), .val (.ref bb), .val (.int (2 : Int32)), .val (.int (2 : Int32)), .val (.int ((1 : Int32) + (1 : Int32))), .val (.int cc1)] [])) (fun t k => XS.iinc X93.here hx rfl (hb hby d6_38) rfl (l' := #[.val (.ref bc), .val (.int (2 : Int32)), .val (.ref bb), .val (.int (2 : Int32)), .val (.int (2 : Int32)), .val (.int ((1 : Int32) + (1 : Int32))), .val (.int cc1)]) rfl k) ?_
  rw [show ((1 : Int32) + (1 : Int32)) = (2 : Int32) from by decide]
  refine Go.step (T' := T93) (f' := (mkF m 3 #[.val (.ref bc), .val (.int (2 : Int32)), .val (.ref bb), .val (.int (2 : Int32)), .val (.int (2 : Int32)), .val (.int (2 : Int32)), .val (.int cc1)] [])) (fun t k => XS.goto X93.here hx rfl (pc0 := 41) (pc' := 3) rfl (hb hby d6_41) (by decide) (by decide) k) ?_
  refine Go.step (T' := T93) (f' := (mkF m 5 #[.val (.ref bc), .val (.int (2 : Int32)), .val (.ref bb), .val (.int (2 : Int32)), .val (.int (2 : Int32)), .val (.int (2 : Int32)), .val (.int cc1)] [(.int (2 : Int32))])) (fun t k => XS.iload X93.here hx rfl (hb hby d6_3) rfl k) ?_
  refine Go.step (T' := T93) (f' := (mkF m 7 #[.val (.ref bc), .val (.int (2 : Int32)), .val (.ref bb), .val (.int (2 : Int32)), .val (.int (2 : Int32)), .val (.int (2 : Int32)), .val (.int cc1)] [(.int (2 : Int32)), (.int (2 : Int32))])) (fun t k => XS.iload X93.here hx rfl (hb hby d6_5) rfl k) ?_
  refine Go.step (T' := T93) (f' := (mkF m 44 #[.val (.ref bc), .val (.int (2 : Int32)), .val (.ref bb), .val (.int (2 : Int32)), .val (.int (2 : Int32)), .val (.int (2 : Int32)), .val (.int cc1)] [])) (fun t k => XS.icmpYes X93.here hx rfl (pc0 := 7) (pc' := 44) rfl (hb hby d6_7) rfl (flt (by decide : ¬ ((2 : Int32) < (2 : Int32)))).2.1 (by decide) (by decide) k) ?_
  refine Go.step (T' := T93) (f' := (mkF m 46 #[.val (.ref bc), .val (.int (2 : Int32)), .val (.ref bb), .val (.int (2 : Int32)), .val (.int (2 : Int32)), .val (.int (2 : Int32)), .val (.int cc1)] [(.int (2 : Int32))])) (fun t k => XS.iload X93.here hx rfl (hb hby d6_44) rfl k) ?_
  refine Go.retI X93 hx hlk Bd.returns (hb hby d6_46) e93 ?_ (by decide) (by decide)
  exact ⟨rfl, N99, K98, f95⟩
theorem ef_cmp2 (m : MethodId) (bc : Addr) : entryFrame m #[(.ref bc), (.int (0 : Int32)), (.int (2 : Int32))] 6 = mkF m 0 #[.val (.ref bc), .val (.int (0 : Int32)), .val (.int (2 : Int32)), .unset, .unset, .unset] [] := by first | (simp [entryFrame, mkF, argsToLocals, Value.category]; done) | rfl
def Q_cmp2 (Z : State) (bc : Addr) (kc : ClassId) (cc0 : Int32) (cc1 : Int32) (h0 : Heap) (n0 : Nat) (v : Option Value) (h : Heap) (L : List Loc) : Prop := ∃ bb : Addr, ∃ kb : ClassId, v = some (.ref bb) ∧ Fr n0 L ∧ Keep h0 h [] ∧ h0.size ≤ bb ∧ Arv Z h bb kb .byte (2 : Int32) [(.int (cc0.toInt8.toInt32)), (.int (cc1.toInt8.toInt32))] (.int (0 : Int32))
set_option maxRecDepth 65536 in
set_option maxHeartbeats 40000000 in
theorem rm_cmp2 (l : Launch) (Z : State) (a0 : Array Value) (hw : ∀ d ∈ tables_1, d.before a0 Z = true) (ws : List Jvm.Cond) (bc : Addr) (kc : ClassId) (cc0 : Int32) (cc1 : Int32) (h0 : Heap) (n0 : Nat) (O0 : Old Z n0 h0) (P0 : Arv Z h0 bc kc .char (2 : Int32) [(.int cc0), (.int cc1)] (.int (0 : Int32))) (hc0 : ¬ ((255 : Int32) < cc0)) (hc1 : ¬ ((255 : Int32) < cc1)) :
    MetFree l (⟨"java/lang/StringUTF16", "compress", "([CII)[B"⟩ : MethodName) (head1 (Jvm.Cond.code (⟨"java/lang/StringUTF16", "compress", "([CII)[B"⟩ : MethodName) jdk_52_method_16_code 6 (some (.array .byte)) :: ws) ({ frames := 1, cells := 1, slots := 2, locals := 18 } : Room)) (fun a U => a = #[(.ref bc), (.int (0 : Int32)), (.int (2 : Int32))] ∧ Z.Warmed39 U.vm ∧ U.heap = h0) (fun _ _ _ _ _ => True) (fun _ U o U' => ∃ v L, o = .returned v ∧ Q_cmp2 Z bc kc cc0 cc1 h0 n0 v U'.heap L ∧ FrameEnd U o U' L ({ frames := 1, cells := 1, slots := 2, locals := 18 } : Room).cells ({ frames := 1, cells := 1, slots := 2, locals := 18 } : Room).slots) := by
  refine MetFree.of_bodySF (plainFor_of_name pn_java_lang_StringUTF16) hisR ?_
  intro p e s m args below meth c s₁ Bd hml0 hP hK
  obtain ⟨rfl, hZ, hh⟩ := hP
  have hx := Bd.exec
  have hby := Bd.bytes
  have hml : c.maxLocals = 6 := hml0
  have hown : s.vm.findClass "java/lang/StringUTF16" = some m.cls := findClass_of_methodNamed Bd.named
  have hnm := (name_of_methodNamed Bd.named Bd.method).1
  have hlk : meth.locks = false := BodyLoose.notSynchronized Bd
  have X0 : Stand p l e ({ frames := 1, cells := 1, slots := 2, locals := 18 } : Room) s m #[(.ref bc), (.int (0 : Int32)), (.int (2 : Int32))] below meth c s₁ [] 0 0 := Stand.of_body Bd
  have e0 : s₁.heap = h0 := by rw [← hh, Bd.state]; rfl
  have N0 := Fr.nil n0
  have K0 := Keep.refl h0 []
  rw [ef_cmp2 m bc]
  show Go p e below s (fun v h L => Q_cmp2 Z bc kc cc0 cc1 h0 n0 v h L) ({ frames := 1, cells := 1, slots := 2, locals := 18 } : Room).cells ({ frames := 1, cells := 1, slots := 2, locals := 18 } : Room).slots s₁ (mkF m 0 #[.val (.ref bc), .val (.int (0 : Int32)), .val (.int (2 : Int32)), .unset, .unset, .unset] [])
  refine Go.step (T' := s₁) (f' := (mkF m 1 #[.val (.ref bc), .val (.int (0 : Int32)), .val (.int (2 : Int32)), .unset, .unset, .unset] [(.int (2 : Int32))])) (fun t k => XS.iloadN X0.here hx rfl (hb hby d5_0) rfl k) ?_
  obtain ⟨T100, h100, k100, X100, e100, E100, A100, Y100, st100⟩ := newPE X0 hx hZ (hw _ (List.mem_of_getElem? (i := 23) rfl)) e0 (g := (mkF m 1 #[.val (.ref bc), .val (.int (0 : Int32)), .val (.int (2 : Int32)), .unset, .unset, .unset] [(.int (2 : Int32))])) rfl (hb hby d5_1) rfl (by decide) (cap := 2) (by decide) (by decide) (by decide) (by decide) (ad := "[B") (by decide)
  obtain ⟨b100, g100⟩ : ∃ z, z = h0.size := ⟨_, rfl⟩
  rw [← g100] at A100 Y100 st100
  have g101 : n0 ≤ b100 := Nat.le_trans (own_old_le O0) (Nat.le_of_eq g100.symm)
  have g102 : h0.size ≤ b100 := Nat.le_trans K0.1 (Nat.le_of_eq g100.symm)
  have ne103 : bc ≠ b100 := Nat.ne_of_lt (Nat.lt_of_lt_of_le P0.lt (Nat.le_of_eq g100.symm))
  have f104 := P0.ext E100
  have O105 := O0.ext E100
  have K106 := K0.ext E100
  have f107 : Arv Z h100 b100 k100 .byte (2 : Int32) [(.int (0 : Int32)), (.int (0 : Int32))] (.int (0 : Int32)) := (Arv.new A100 (by decide)).pad (pad_rep [] (.int (0 : Int32)) 2)
  refine Go.step (T' := T100) (f' := (mkF m 3 #[.val (.ref bc), .val (.int (0 : Int32)), .val (.int (2 : Int32)), .unset, .unset, .unset] [(.ref b100)])) st100 ?_
  clear st100 X0
  refine Go.step (T' := T100) (f' := (mkF m 4 #[.val (.ref bc), .val (.int (0 : Int32)), .val (.int (2 : Int32)), .val (.ref b100), .unset, .unset] [])) (fun t k => XS.astoreN X100.here hx rfl (hb hby d5_3) rfl rfl (l' := #[.val (.ref bc), .val (.int (0 : Int32)), .val (.int (2 : Int32)), .val (.ref b100), .unset, .unset]) rfl k) ?_
  refine Go.step (T' := T100) (f' := (mkF m 5 #[.val (.ref bc), .val (.int (0 : Int32)), .val (.int (2 : Int32)), .val (.ref b100), .unset, .unset] [(.ref bc)])) (fun t k => XS.aloadN X100.here hx rfl (hb hby d5_4) rfl rfl k) ?_
  refine Go.step (T' := T100) (f' := (mkF m 6 #[.val (.ref bc), .val (.int (0 : Int32)), .val (.int (2 : Int32)), .val (.ref b100), .unset, .unset] [(.int (0 : Int32)), (.ref bc)])) (fun t k => XS.iloadN X100.here hx rfl (hb hby d5_5) rfl k) ?_
  refine Go.step (T' := T100) (f' := (mkF m 7 #[.val (.ref bc), .val (.int (0 : Int32)), .val (.int (2 : Int32)), .val (.ref b100), .unset, .unset] [(.ref b100), (.int (0 : Int32)), (.ref bc)])) (fun t k => XS.aloadN X100.here hx rfl (hb hby d5_6) rfl rfl k) ?_
  refine Go.step (T' := T100) (f' := (mkF m 8 #[.val (.ref bc), .val (.int (0 : Int32)), .val (.int (2 : Int32)), .val (.ref b100), .unset, .unset] [(.int (0 : Int32)), (.ref b100), (.int (0 : Int32)), (.ref bc)])) (fun t k => XS.iconst X100.here hx rfl (hb hby d5_7) k) ?_
  refine Go.step (T' := T100) (f' := (mkF m 9 #[.val (.ref bc), .val (.int (0 : Int32)), .val (.int (2 : Int32)), .val (.ref b100), .unset, .unset] [(.int (2 : Int32)), (.int (0 : Int32)), (.ref b100), (.int (0 : Int32)), (.ref bc)])) (fun t k => XS.iloadN X100.here hx rfl (hb hby d5_8) rfl k) ?_
  obtain ⟨_, _, ⟨T108, L108, k108, n108⟩, -, X108, ⟨Lc108, hQ108, l108, y108, z108⟩, st108⟩ := Jvm.LawKit.callS X100 hx (y := (⟨"java/lang/StringUTF16", "compress", "([CI[BII)I"⟩ : MethodName)) hown (mvT hZ (hw _ (List.mem_of_getElem? (i := 24) rfl))) (mvT hZ (hw _ (List.mem_of_getElem? (i := 25) rfl))) (mvT hZ (hw _ (List.mem_of_getElem? (i := 21) rfl))) (mvT hZ (hw _ (List.mem_of_getElem? (i := 26) rfl))) (by decide) (backOf (W := 0) (rm_cpr2 l Z a0 hw [] bc b100 kc cc0 cc1 k100 h100 n0 O105 f104 f107 g101 ne103 hc0 hc1) hZ (hw _ (List.mem_of_getElem? (i := 26) rfl)) (hw _ (List.mem_of_getElem? (i := 21) rfl)) (by decide) (by decide)) (g := (mkF m 9 #[.val (.ref bc), .val (.int (0 : Int32)), .val (.int (2 : Int32)), .val (.ref b100), .unset, .unset] [(.int (2 : Int32)), (.int (0 : Int32)), (.ref b100), (.int (0 : Int32)), (.ref bc)])) rfl (by rw [hml]; rfl) (argsL := [(.ref bc), (.int (0 : Int32)), (.ref b100), (.int (0 : Int32)), (.int (2 : Int32))]) (rest := []) (lenOf pd0 rfl) rfl (by show 2 * 0 + _ ≤ _; exact Nat.le_of_eq rfl) (hb hby d5_9) (fun _ _ => ⟨rfl, e100, (by decide : 1 + 0 ≤ _), (by decide : 2 + 0 ≤ _)⟩)
  dsimp only [Pt.U, Pt.locs, Pt.cells, Pt.slots] at X108 l108 y108 z108 st108 hQ108
  subst l108 y108 z108
  obtain ⟨rfl, Nq108, hh108, p109⟩ := hQ108
  have N110 := Fr.app N0 Nq108
  have f111 := f104.keep hh108 (ninS ne103 nin0)
  have f112 := Y100.keep hh108
  have O113 := O105.keep hh108 (allS g101 all0)
  have K114 := K106.trans hh108 (allS (Or.inr g102) all0)
  refine Go.step (T' := T108) (f' := (mkF m 12 #[.val (.ref bc), .val (.int (0 : Int32)), .val (.int (2 : Int32)), .val (.ref b100), .unset, .unset] [(.int (2 : Int32))])) st108 ?_
  clear st108 X100 Nq108
  refine Go.step (T' := T108) (f' := (mkF m 14 #[.val (.ref bc), .val (.int (0 : Int32)), .val (.int (2 : Int32)), .val (.ref b100), .val (.int (2 : Int32)), .unset] [])) (fun t k => XS.istore X108.here hx rfl (hb hby d5_12) rfl (l' := #[.val (.ref bc), .val (.int (0 : Int32)), .val (.int (2 : Int32)), .val (.ref b100), .val (.int (2 : Int32)), .unset]) rfl k) ?_
  refine Go.step (T' := T108) (f' := (mkF m 16 #[.val (.ref bc), .val (.int (0 : Int32)), .val (.int (2 : Int32)), .val (.ref b100), .val (.int (2 : Int32)), .unset] [(.int (2 : Int32))])) (fun t k => XS.iload X108.here hx rfl (hb hby d5_14) rfl k) ?_
  refine Go.step (T' := T108) (f' := (mkF m 17 #[.val (.ref bc), .val (.int (0 : Int32)), .val (.int (2 : Int32)), .val (.ref b100), .val (.int (2 : Int32)), .unset] [(.int (2 : Int32)), (.int (2 : Int32))])) (fun t k => XS.iloadN X108.here hx rfl (hb hby d5_16) rfl k) ?_
  refine Go.step (T' := T108) (f' := (mkF m 57 #[.val (.ref bc), .val (.int (0 : Int32)), .val (.int (2 : Int32)), .val (.ref b100), .val (.int (2 : Int32)), .unset] [])) (fun t k => XS.icmpYes X108.here hx rfl (pc0 := 17) (pc' := 57) rfl (hb hby d5_17) rfl (teq (by decide : (2 : Int32) = (2 : Int32))).1 (by decide) (by decide) k) ?_
  refine Go.step (T' := T108) (f' := (mkF m 58 #[.val (.ref bc), .val (.int (0 : Int32)), .val (.int (2 : Int32)), .val (.ref b100), .val (.int (2 : Int32)), .unset] [(.ref b100)])) (fun t k => XS.aloadN X108.here hx rfl (hb hby d5_57) rfl rfl k) ?_
  refine Go.retA X108 hx hlk Bd.returns rfl rfl (hb hby d5_58) rfl ?_ (by decide) (by decide)
  exact ⟨b100, k100, rfl, N110, K114, g102, p109⟩
theorem ef_cod2 (m : MethodId) (bb : Addr) : entryFrame m #[(.ref bb), (.int (2 : Int32))] 2 = mkF m 0 #[.val (.ref bb), .val (.int (2 : Int32))] [] := by first | (simp [entryFrame, mkF, argsToLocals, Value.category]; done) | rfl
def Q_cod2 (Z : State) (bb : Addr) (kb : ClassId) (v0 : Int32) (v1 : Int32) (h0 : Heap) (n0 : Nat) (v : Option Value) (h : Heap) (L : List Loc) : Prop := v = some (.int (0 : Int32)) ∧ Fr n0 L ∧ h = h0
set_option maxRecDepth 65536 in
set_option maxHeartbeats 40000000 in
theorem rm_cod2 (l : Launch) (Z : State) (a0 : Array Value) (hw : ∀ d ∈ tables_1, d.before a0 Z = true) (ws : List Jvm.Cond) (bb : Addr) (kb : ClassId) (v0 : Int32) (v1 : Int32) (h0 : Heap) (n0 : Nat) (O0 : Old Z n0 h0) (P0 : Arv Z h0 bb kb .byte (2 : Int32) [(.int v0), (.int v1)] (.int (0 : Int32))) :
    MetFree l (⟨"java/lang/StringUTF16", "coderFromArrayLen", "([BI)B"⟩ : MethodName) (head1 (Jvm.Cond.code (⟨"java/lang/StringUTF16", "coderFromArrayLen", "([BI)B"⟩ : MethodName) jdk_52_method_15_code 2 (some .byte) :: ws) ({ frames := 0, cells := 0, slots := 0, locals := 0 } : Room)) (fun a U => a = #[(.ref bb), (.int (2 : Int32))] ∧ Z.Warmed39 U.vm ∧ U.heap = h0) (fun _ _ _ _ _ => True) (fun _ U o U' => ∃ v L, o = .returned v ∧ Q_cod2 Z bb kb v0 v1 h0 n0 v U'.heap L ∧ FrameEnd U o U' L ({ frames := 0, cells := 0, slots := 0, locals := 0 } : Room).cells ({ frames := 0, cells := 0, slots := 0, locals := 0 } : Room).slots) := by
  refine MetFree.of_bodySF (plainFor_of_name pn_java_lang_StringUTF16) hisR ?_
  intro p e s m args below meth c s₁ Bd hml0 hP hK
  obtain ⟨rfl, hZ, hh⟩ := hP
  have hx := Bd.exec
  have hby := Bd.bytes
  have hml : c.maxLocals = 2 := hml0
  have hown : s.vm.findClass "java/lang/StringUTF16" = some m.cls := findClass_of_methodNamed Bd.named
  have hnm := (name_of_methodNamed Bd.named Bd.method).1
  have hlk : meth.locks = false := BodyLoose.notSynchronized Bd
  have X0 : Stand p l e ({ frames := 0, cells := 0, slots := 0, locals := 0 } : Room) s m #[(.ref bb), (.int (2 : Int32))] below meth c s₁ [] 0 0 := Stand.of_body Bd
  have e0 : s₁.heap = h0 := by rw [← hh, Bd.state]; rfl
  have N0 := Fr.nil n0
  rw [ef_cod2 m bb]
  show Go p e below s (fun v h L => Q_cod2 Z bb kb v0 v1 h0 n0 v h L) ({ frames := 0, cells := 0, slots := 0, locals := 0 } : Room).cells ({ frames := 0, cells := 0, slots := 0, locals := 0 } : Room).slots s₁ (mkF m 0 #[.val (.ref bb), .val (.int (2 : Int32))] [])
  refine Go.step (T' := s₁) (f' := (mkF m 1 #[.val (.ref bb), .val (.int (2 : Int32))] [(.int (2 : Int32))])) (fun t k => XS.iloadN X0.here hx rfl (hb hby d7_0) rfl k) ?_
  refine Go.step (T' := s₁) (f' := (mkF m 2 #[.val (.ref bb), .val (.int (2 : Int32))] [(.ref bb), (.int (2 : Int32))])) (fun t k => XS.aloadN X0.here hx rfl (hb hby d7_1) rfl rfl k) ?_
  obtain ⟨ca115, Aa115, qa115, Sa115, Na115, Ha115, Ga115⟩ := id P0
  refine Go.step (T' := s₁) (f' := (mkF m 3 #[.val (.ref bb), .val (.int (2 : Int32))] [(.int (2 : Int32)), (.int (2 : Int32))])) (fun t k => own_alen X0 hx hZ e0 Aa115 Sa115 Na115 (g := (mkF m 2 #[.val (.ref bb), .val (.int (2 : Int32))] [(.ref bb), (.int (2 : Int32))])) rfl rfl (hb hby d7_2) k) ?_
  refine Go.step (T' := s₁) (f' := (mkF m 4 #[.val (.ref bb), .val (.int (2 : Int32))] [(.int ((2 : Int32) - (2 : Int32)))])) (fun t k => XS.isub X0.here hx rfl (hb hby d7_3) rfl k) ?_
  rw [show ((2 : Int32) - (2 : Int32)) = (0 : Int32) from by decide]
  refine Go.step (T' := s₁) (f' := (mkF m 6 #[.val (.ref bb), .val (.int (2 : Int32))] [(.int (31 : Int32)), (.int (0 : Int32))])) (fun t k => XS.bipush X0.here hx rfl (hb hby d7_4) k) ?_
  refine Go.step (T' := s₁) (f' := (mkF m 7 #[.val (.ref bb), .val (.int (2 : Int32))] [(.int (((0 : Int32).toUInt32 >>> ((31 : Int32) &&& 31).toUInt32).toInt32))])) (fun t k => XS.iushr X0.here hx rfl (hb hby d7_6) rfl k) ?_
  rw [show (((0 : Int32).toUInt32 >>> ((31 : Int32) &&& 31).toUInt32).toInt32) = (0 : Int32) from by decide]
  refine Go.step (T' := s₁) (f' := (mkF m 8 #[.val (.ref bb), .val (.int (2 : Int32))] [(.int ((0 : Int32).toInt8.toInt32))])) (fun t k => XS.i2b X0.here hx rfl (hb hby d7_7) rfl k) ?_
  rw [show ((0 : Int32).toInt8.toInt32) = (0 : Int32) from by decide]
  refine Go.retZ X0 hx hlk (t := .byte) Bd.returns (by simp) (hb hby d7_8) e0 ?_ (by decide) (by decide)
  exact ⟨rfl, N0, rfl⟩
theorem ef_ini4_2 (m : MethodId) (ba : Addr) (bc : Addr) : entryFrame m #[(.ref ba), (.ref bc), (.int (0 : Int32)), (.int (2 : Int32)), .null] 6 = mkF m 0 #[.val (.ref ba), .val (.ref bc), .val (.int (0 : Int32)), .val (.int (2 : Int32)), .val .null, .unset] [] := by first | (simp [entryFrame, mkF, argsToLocals, Value.category]; done) | rfl
def Q_ini4_2 (Z : State) (ba : Addr) (bc : Addr) (kc : ClassId) (cc0 : Int32) (cc1 : Int32) (u0 : Value) (u1 : Value) (wz : Int32) (h0 : Heap) (n0 : Nat) (v : Option Value) (h : Heap) (L : List Loc) : Prop := ∃ bb : Addr, ∃ kb : ClassId, v = none ∧ Fr n0 L ∧ Keep h0 h [ba] ∧ Exa Z h ba "java/lang/String" ∧ Fld Z h ba "java/lang/String" "value" "[B" (.ref bb) ∧ Fld Z h ba "java/lang/String" "coder" "B" (.int (0 : Int32)) ∧ h0.size ≤ bb ∧ Arv Z h bb kb .byte (2 : Int32) [(.int (cc0.toInt8.toInt32)), (.int (cc1.toInt8.toInt32))] (.int (0 : Int32))
set_option maxRecDepth 65536 in
set_option maxHeartbeats 40000000 in
theorem rm_ini4_2 (l : Launch) (Z : State) (a0 : Array Value) (hw : ∀ d ∈ tables_1, d.before a0 Z = true) (ws : List Jvm.Cond) (ba : Addr) (bc : Addr) (kc : ClassId) (cc0 : Int32) (cc1 : Int32) (u0 : Value) (u1 : Value) (wz : Int32) (h0 : Heap) (n0 : Nat) (O0 : Old Z n0 h0) (P0 : Exa Z h0 ba "java/lang/String") (P1 : Fld Z h0 ba "java/lang/String" "value" "[B" u0) (P2 : Fld Z h0 ba "java/lang/String" "coder" "B" u1) (P3 : n0 ≤ ba) (P4 : Arv Z h0 bc kc .char (2 : Int32) [(.int cc0), (.int cc1)] (.int (0 : Int32))) (P5 : bc ≠ ba) (P6 : Sta Z Z.heap "java/lang/String" "COMPACT_STRINGS" "Z" (.int wz)) (hwz : ¬ (wz = (0 : Int32))) (hc0 : ¬ ((255 : Int32) < cc0)) (hc1 : ¬ ((255 : Int32) < cc1)) :
    MetFree l (⟨"java/lang/String", "<init>", "([CIILjava/lang/Void;)V"⟩ : MethodName) (head1 (Jvm.Cond.code (⟨"java/lang/String", "<init>", "([CIILjava/lang/Void;)V"⟩ : MethodName) jdk_42_method_149_code 6 none :: ws) ({ frames := 2, cells := 1, slots := 2, locals := 35 } : Room)) (fun a U => a = #[(.ref ba), (.ref bc), (.int (0 : Int32)), (.int (2 : Int32)), .null] ∧ Z.Warmed39 U.vm ∧ U.heap = h0) (fun _ _ _ _ _ => True) (fun _ U o U' => ∃ v L, o = .returned v ∧ Q_ini4_2 Z ba bc kc cc0 cc1 u0 u1 wz h0 n0 v U'.heap L ∧ FrameEnd U o U' L ({ frames := 2, cells := 1, slots := 2, locals := 35 } : Room).cells ({ frames := 2, cells := 1, slots := 2, locals := 35 } : Room).slots) := by
  refine MetFree.of_bodySF (plainFor_of_name pn_java_lang_String) hisR ?_
  intro p e s m args below meth c s₁ Bd hml0 hP hK
  obtain ⟨rfl, hZ, hh⟩ := hP
  have hx := Bd.exec
  have hby := Bd.bytes
  have hml : c.maxLocals = 6 := hml0
  have hown : s.vm.findClass "java/lang/String" = some m.cls := findClass_of_methodNamed Bd.named
  have hnm := (name_of_methodNamed Bd.named Bd.method).1
  have hlk : meth.locks = false := BodyLoose.notSynchronized Bd
  have X0 : Stand p l e ({ frames := 2, cells := 1, slots := 2, locals := 35 } : Room) s m #[(.ref ba), (.ref bc), (.int (0 : Int32)), (.int (2 : Int32)), .null] below meth c s₁ [] 0 0 := Stand.of_body Bd
  have e0 : s₁.heap = h0 := by rw [← hh, Bd.state]; rfl
  have N0 := Fr.nil n0
  have K0 := Keep.refl h0 [ba]
  rw [ef_ini4_2 m ba bc]
  show Go p e below s (fun v h L => Q_ini4_2 Z ba bc kc cc0 cc1 u0 u1 wz h0 n0 v h L) ({ frames := 2, cells := 1, slots := 2, locals := 35 } : Room).cells ({ frames := 2, cells := 1, slots := 2, locals := 35 } : Room).slots s₁ (mkF m 0 #[.val (.ref ba), .val (.ref bc), .val (.int (0 : Int32)), .val (.int (2 : Int32)), .val .null, .unset] [])
  refine Go.step (T' := s₁) (f' := (mkF m 1 #[.val (.ref ba), .val (.ref bc), .val (.int (0 : Int32)), .val (.int (2 : Int32)), .val .null, .unset] [(.ref ba)])) (fun t k => XS.aloadN X0.here hx rfl (hb hby d3_0) rfl rfl k) ?_
  obtain ⟨T116, X116, e116, st116⟩ := initO X0 hx hZ hown (hw _ (List.mem_of_getElem? (i := 15) rfl)) (hw _ (List.mem_of_getElem? (i := 16) rfl)) (hw _ (List.mem_of_getElem? (i := 17) rfl)) e0 (g := (mkF m 1 #[.val (.ref ba), .val (.ref bc), .val (.int (0 : Int32)), .val (.int (2 : Int32)), .val .null, .unset] [(.ref ba)])) rfl (by rw [hml]; rfl) rfl (hb hby d3_1) (by decide) (W := 0) (by show 2 * 0 + _ ≤ _; exact Nat.le_of_eq rfl) (by decide)
  refine Go.step (T' := T116) (f' := (mkF m 4 #[.val (.ref ba), .val (.ref bc), .val (.int (0 : Int32)), .val (.int (2 : Int32)), .val .null, .unset] [])) st116 ?_
  clear st116 X0
  refine Go.step (T' := T116) (f' := (mkF m 5 #[.val (.ref ba), .val (.ref bc), .val (.int (0 : Int32)), .val (.int (2 : Int32)), .val .null, .unset] [(.int (2 : Int32))])) (fun t k => XS.iloadN X116.here hx rfl (hb hby d3_4) rfl k) ?_
  refine Go.step (T' := T116) (f' := (mkF m 27 #[.val (.ref ba), .val (.ref bc), .val (.int (0 : Int32)), .val (.int (2 : Int32)), .val .null, .unset] [])) (fun t k => XS.ifYes X116.here hx rfl (pc0 := 5) (pc' := 27) rfl (hb hby d3_5) rfl ((if0 _ _).trans (feq (by decide : ¬ ((2 : Int32) = (0 : Int32)))).2) (by decide) (by decide) k) ?_
  obtain ⟨T117, X117, e117, st117⟩ := getS2 X116 hx hZ hown (host := "") (Or.inl (hw _ (List.mem_of_getElem? (i := 18) rfl))) Via.refl e116 (P6.ext O0.2) (g := (mkF m 27 #[.val (.ref ba), .val (.ref bc), .val (.int (0 : Int32)), .val (.int (2 : Int32)), .val .null, .unset] [])) rfl (hb hby d3_27)
  refine Go.step (T' := T117) (f' := (mkF m 30 #[.val (.ref ba), .val (.ref bc), .val (.int (0 : Int32)), .val (.int (2 : Int32)), .val .null, .unset] [(.int wz)])) st117 ?_
  clear st117 X116
  refine Go.step (T' := T117) (f' := (mkF m 33 #[.val (.ref ba), .val (.ref bc), .val (.int (0 : Int32)), .val (.int (2 : Int32)), .val .null, .unset] [])) (fun t k => XS.ifNo X117.here hx rfl (hb hby d3_30) rfl ((if0 _ _).trans (feq hwz).1) k) ?_
  refine Go.step (T' := T117) (f' := (mkF m 34 #[.val (.ref ba), .val (.ref bc), .val (.int (0 : Int32)), .val (.int (2 : Int32)), .val .null, .unset] [(.ref bc)])) (fun t k => XS.aloadN X117.here hx rfl (hb hby d3_33) rfl rfl k) ?_
  refine Go.step (T' := T117) (f' := (mkF m 35 #[.val (.ref ba), .val (.ref bc), .val (.int (0 : Int32)), .val (.int (2 : Int32)), .val .null, .unset] [(.int (0 : Int32)), (.ref bc)])) (fun t k => XS.iloadN X117.here hx rfl (hb hby d3_34) rfl k) ?_
  refine Go.step (T' := T117) (f' := (mkF m 36 #[.val (.ref ba), .val (.ref bc), .val (.int (0 : Int32)), .val (.int (2 : Int32)), .val .null, .unset] [(.int (2 : Int32)), (.int (0 : Int32)), (.ref bc)])) (fun t k => XS.iloadN X117.here hx rfl (hb hby d3_35) rfl k) ?_
  obtain ⟨_, _, ⟨T118, L118, k118, n118⟩, -, X118, ⟨Lc118, hQ118, l118, y118, z118⟩, st118⟩ := Jvm.LawKit.callS X117 hx (y := (⟨"java/lang/StringUTF16", "compress", "([CII)[B"⟩ : MethodName)) hown (mvT hZ (hw _ (List.mem_of_getElem? (i := 19) rfl))) (mvT hZ (hw _ (List.mem_of_getElem? (i := 20) rfl))) (mvT hZ (hw _ (List.mem_of_getElem? (i := 21) rfl))) (mvT hZ (hw _ (List.mem_of_getElem? (i := 22) rfl))) (by decide) (backOf (W := 0) (rm_cmp2 l Z a0 hw [] bc kc cc0 cc1 h0 n0 O0 P4 hc0 hc1) hZ (hw _ (List.mem_of_getElem? (i := 22) rfl)) (hw _ (List.mem_of_getElem? (i := 21) rfl)) (by decide) (by decide)) (g := (mkF m 36 #[.val (.ref ba), .val (.ref bc), .val (.int (0 : Int32)), .val (.int (2 : Int32)), .val .null, .unset] [(.int (2 : Int32)), (.int (0 : Int32)), (.ref bc)])) rfl (by rw [hml]; rfl) (argsL := [(.ref bc), (.int (0 : Int32)), (.int (2 : Int32))]) (rest := []) (lenOf pd1 rfl) rfl (by show 2 * 0 + _ ≤ _; exact Nat.le_of_eq rfl) (hb hby d3_36) (fun _ _ => ⟨rfl, e117, (by decide : 0 + 1 ≤ _), (by decide : 0 + 2 ≤ _)⟩)
  dsimp only [Pt.U, Pt.locs, Pt.cells, Pt.slots] at X118 l118 y118 z118 st118 hQ118
  subst l118 y118 z118
  obtain ⟨u119, u120, rfl, Nq118, hh118, p121, p122⟩ := hQ118
  have N123 := Fr.app N0 Nq118
  have f124 := P0.keep hh118
  have f125 := P1.keep hh118 nin0
  have f126 := P2.keep hh118 nin0
  have f127 := P4.keep hh118 nin0
  have O128 := O0.keep hh118 all0
  have K129 := K0.trans hh118 all0
  have g130 : n0 ≤ u119 := Nat.le_trans (own_old_le O0) p121
  have g131 : h0.size ≤ u119 := Nat.le_trans K0.1 p121
  have ne132 : ba ≠ u119 := Nat.ne_of_lt (Nat.lt_of_lt_of_le P0.lt p121)
  have ne133 : bc ≠ u119 := Nat.ne_of_lt (Nat.lt_of_lt_of_le P4.lt p121)
  refine Go.step (T' := T118) (f' := (mkF m 39 #[.val (.ref ba), .val (.ref bc), .val (.int (0 : Int32)), .val (.int (2 : Int32)), .val .null, .unset] [(.ref u119)])) st118 ?_
  clear st118 X117 Nq118
  refine Go.step (T' := T118) (f' := (mkF m 41 #[.val (.ref ba), .val (.ref bc), .val (.int (0 : Int32)), .val (.int (2 : Int32)), .val .null, .val (.ref u119)] [])) (fun t k => XS.astore X118.here hx rfl (hb hby d3_39) rfl rfl (l' := #[.val (.ref ba), .val (.ref bc), .val (.int (0 : Int32)), .val (.int (2 : Int32)), .val .null, .val (.ref u119)]) rfl k) ?_
  refine Go.step (T' := T118) (f' := (mkF m 42 #[.val (.ref ba), .val (.ref bc), .val (.int (0 : Int32)), .val (.int (2 : Int32)), .val .null, .val (.ref u119)] [(.ref ba)])) (fun t k => XS.aloadN X118.here hx rfl (hb hby d3_41) rfl rfl k) ?_
  refine Go.step (T' := T118) (f' := (mkF m 44 #[.val (.ref ba), .val (.ref bc), .val (.int (0 : Int32)), .val (.int (2 : Int32)), .val .null, .val (.ref u119)] [(.ref u119), (.ref ba)])) (fun t k => XS.aload X118.here hx rfl (hb hby d3_42) rfl rfl k) ?_
  refine Go.step (T' := T118) (f' := (mkF m 45 #[.val (.ref ba), .val (.ref bc), .val (.int (0 : Int32)), .val (.int (2 : Int32)), .val .null, .val (.ref u119)] [(.int (2 : Int32)), (.ref u119), (.ref ba)])) (fun t k => XS.iloadN X118.here hx rfl (hb hby d3_44) rfl k) ?_
  obtain ⟨_, _, ⟨T134, L134, k134, n134⟩, -, X134, ⟨Lc134, hQ134, l134, y134, z134⟩, st134⟩ := Jvm.LawKit.callS X118 hx (y := (⟨"java/lang/StringUTF16", "coderFromArrayLen", "([BI)B"⟩ : MethodName)) hown (mvT hZ (hw _ (List.mem_of_getElem? (i := 27) rfl))) (mvT hZ (hw _ (List.mem_of_getElem? (i := 28) rfl))) (mvT hZ (hw _ (List.mem_of_getElem? (i := 21) rfl))) (mvT hZ (hw _ (List.mem_of_getElem? (i := 29) rfl))) (by decide) (backOf (W := 1) (rm_cod2 l Z a0 hw [] u119 u120 (cc0.toInt8.toInt32) (cc1.toInt8.toInt32) T118.heap n0 O128 p122) hZ (hw _ (List.mem_of_getElem? (i := 29) rfl)) (hw _ (List.mem_of_getElem? (i := 21) rfl)) (by decide) (by decide)) (g := (mkF m 45 #[.val (.ref ba), .val (.ref bc), .val (.int (0 : Int32)), .val (.int (2 : Int32)), .val .null, .val (.ref u119)] [(.int (2 : Int32)), (.ref u119), (.ref ba)])) rfl (by rw [hml]; rfl) (argsL := [(.ref u119), (.int (2 : Int32))]) (rest := [(.ref ba)]) (lenOf pd2 rfl) rfl (by show 2 * 0 + _ ≤ _; exact Nat.le_of_eq rfl) (hb hby d3_45) (fun _ _ => ⟨rfl, rfl, (by decide : 1 + 0 ≤ _), (by decide : 2 + 0 ≤ _)⟩)
  dsimp only [Pt.U, Pt.locs, Pt.cells, Pt.slots] at X134 l134 y134 z134 st134 hQ134
  subst l134 y134 z134
  obtain ⟨rfl, Nq134, hh134⟩ := hQ134
  have N135 := Fr.app N123 Nq134
  refine Go.step (T' := T134) (f' := (mkF m 48 #[.val (.ref ba), .val (.ref bc), .val (.int (0 : Int32)), .val (.int (2 : Int32)), .val .null, .val (.ref u119)] [(.int (0 : Int32)), (.ref ba)])) st134 ?_
  clear st134 X118 N123 Nq134
  obtain ⟨T136, h136, X136, e136, W136, st136⟩ := putFN X134 hx hZ hown (hw _ (List.mem_of_getElem? (i := 30) rfl)) Via.refl hh134 f126 f124 (Or.inr ⟨(hw _ (List.mem_of_getElem? (i := 31) rfl)), rfl, hnm⟩) (hw _ (List.mem_of_getElem? (i := 5) rfl)) (ty := .byte) (v' := (.int (0 : Int32))) (by decide) rfl (by decide) (g := (mkF m 48 #[.val (.ref ba), .val (.ref bc), .val (.int (0 : Int32)), .val (.int (2 : Int32)), .val .null, .val (.ref u119)] [(.int (0 : Int32)), (.ref ba)])) rfl rfl (hb hby d3_48)
  have f137 := f126.same W136
  have f138 := f124.wr W136
  have f139 := f125.other W136 (Or.inr (slot_ne (Or.inr (hw _ (List.mem_of_getElem? (i := 33) rfl))) (Or.inr (hw _ (List.mem_of_getElem? (i := 31) rfl))) (by decide) (t := (.array .byte)) (t' := .byte) (by decide) (by decide)))
  have f140 := f127.other W136 P5
  have f141 := p122.other W136 (Ne.symm ne132)
  have O142 := O128.wr W136 P3
  have K143 := K129.wr W136 (Or.inl (List.mem_of_getElem? (i := 0) rfl))
  have N144 := Fr.snoc X136 N135 P3
  refine Go.step (T' := T136) (f' := (mkF m 51 #[.val (.ref ba), .val (.ref bc), .val (.int (0 : Int32)), .val (.int (2 : Int32)), .val .null, .val (.ref u119)] [])) st136 ?_
  clear st136 X134 f124 f125 f127 p122 O128 K129 N135
  refine Go.step (T' := T136) (f' := (mkF m 52 #[.val (.ref ba), .val (.ref bc), .val (.int (0 : Int32)), .val (.int (2 : Int32)), .val .null, .val (.ref u119)] [(.ref ba)])) (fun t k => XS.aloadN X136.here hx rfl (hb hby d3_51) rfl rfl k) ?_
  refine Go.step (T' := T136) (f' := (mkF m 54 #[.val (.ref ba), .val (.ref bc), .val (.int (0 : Int32)), .val (.int (2 : Int32)), .val .null, .val (.ref u119)] [(.ref u119), (.ref ba)])) (fun t k => XS.aload X136.here hx rfl (hb hby d3_52) rfl rfl k) ?_
  obtain ⟨T145, h145, X145, e145, W145, st145⟩ := putF X136 hx hZ hown (host := "") (Or.inl (hw _ (List.mem_of_getElem? (i := 32) rfl))) Via.refl e136 f139 f138 (Or.inr ⟨(hw _ (List.mem_of_getElem? (i := 33) rfl)), rfl, hnm⟩) (hw _ (List.mem_of_getElem? (i := 5) rfl)) (ty := (.array .byte)) (by decide) rfl rfl (g := (mkF m 54 #[.val (.ref ba), .val (.ref bc), .val (.int (0 : Int32)), .val (.int (2 : Int32)), .val .null, .val (.ref u119)] [(.ref u119), (.ref ba)])) rfl rfl (hb hby d3_54)
  have f146 := f139.same W145
  have f147 := f138.wr W145
  have f148 := f140.other W145 P5
  have f149 := f141.other W145 (Ne.symm ne132)
  have f150 := f137.other W145 (Or.inr (slot_ne (Or.inr (hw _ (List.mem_of_getElem? (i := 31) rfl))) (Or.inr (hw _ (List.mem_of_getElem? (i := 33) rfl))) (by decide) (t := .byte) (t' := (.array .byte)) (by decide) (by decide)))
  have O151 := O142.wr W145 P3
  have K152 := K143.wr W145 (Or.inl (List.mem_of_getElem? (i := 0) rfl))
  have N153 := Fr.snoc X145 N144 P3
  refine Go.step (T' := T145) (f' := (mkF m 57 #[.val (.ref ba), .val (.ref bc), .val (.int (0 : Int32)), .val (.int (2 : Int32)), .val .null, .val (.ref u119)] [])) st145 ?_
  clear st145 X136 f138 f140 f141 f137 O142 K143 N144
  refine Go.retV X145 hx hlk Bd.returns (hb hby d3_57) e145 ?_ (by decide) (by decide)
  exact ⟨u119, u120, rfl, N153, K152, f147, f146, f150, g131, f149⟩
theorem ef_ini1_2 (m : MethodId) (ba : Addr) (bc : Addr) : entryFrame m #[(.ref ba), (.ref bc)] 2 = mkF m 0 #[.val (.ref ba), .val (.ref bc)] [] := by first | (simp [entryFrame, mkF, argsToLocals, Value.category]; done) | rfl
def Q_ini1_2 (Z : State) (ba : Addr) (bc : Addr) (kc : ClassId) (cc0 : Int32) (cc1 : Int32) (u0 : Value) (u1 : Value) (wz : Int32) (h0 : Heap) (n0 : Nat) (v : Option Value) (h : Heap) (L : List Loc) : Prop := ∃ bb : Addr, ∃ kb : ClassId, v = none ∧ Fr n0 L ∧ Keep h0 h [ba] ∧ Exa Z h ba "java/lang/String" ∧ Fld Z h ba "java/lang/String" "value" "[B" (.ref bb) ∧ Fld Z h ba "java/lang/String" "coder" "B" (.int (0 : Int32)) ∧ h0.size ≤ bb ∧ Arv Z h bb kb .byte (2 : Int32) [(.int (cc0.toInt8.toInt32)), (.int (cc1.toInt8.toInt32))] (.int (0 : Int32))
set_option maxRecDepth 65536 in
set_option maxHeartbeats 40000000 in
theorem rm_ini1_2 (l : Launch) (Z : State) (a0 : Array Value) (hw : ∀ d ∈ tables_1, d.before a0 Z = true) (ws : List Jvm.Cond) (ba : Addr) (bc : Addr) (kc : ClassId) (cc0 : Int32) (cc1 : Int32) (u0 : Value) (u1 : Value) (wz : Int32) (h0 : Heap) (n0 : Nat) (O0 : Old Z n0 h0) (P0 : Exa Z h0 ba "java/lang/String") (P1 : Fld Z h0 ba "java/lang/String" "value" "[B" u0) (P2 : Fld Z h0 ba "java/lang/String" "coder" "B" u1) (P3 : n0 ≤ ba) (P4 : Arv Z h0 bc kc .char (2 : Int32) [(.int cc0), (.int cc1)] (.int (0 : Int32))) (P5 : bc ≠ ba) (P6 : Sta Z Z.heap "java/lang/String" "COMPACT_STRINGS" "Z" (.int wz)) (hwz : ¬ (wz = (0 : Int32))) (hc0 : ¬ ((255 : Int32) < cc0)) (hc1 : ¬ ((255 : Int32) < cc1)) :
    MetFree l (⟨"java/lang/String", "<init>", "([C)V"⟩ : MethodName) (head1 (Jvm.Cond.code (⟨"java/lang/String", "<init>", "([C)V"⟩ : MethodName) jdk_42_method_3_code 2 none :: ws) ({ frames := 3, cells := 1, slots := 2, locals := 52 } : Room)) (fun a U => a = #[(.ref ba), (.ref bc)] ∧ Z.Warmed39 U.vm ∧ U.heap = h0) (fun _ _ _ _ _ => True) (fun _ U o U' => ∃ v L, o = .returned v ∧ Q_ini1_2 Z ba bc kc cc0 cc1 u0 u1 wz h0 n0 v U'.heap L ∧ FrameEnd U o U' L ({ frames := 3, cells := 1, slots := 2, locals := 52 } : Room).cells ({ frames := 3, cells := 1, slots := 2, locals := 52 } : Room).slots) := by
  refine MetFree.of_bodySF (plainFor_of_name pn_java_lang_String) hisR ?_
  intro p e s m args below meth c s₁ Bd hml0 hP hK
  obtain ⟨rfl, hZ, hh⟩ := hP
  have hx := Bd.exec
  have hby := Bd.bytes
  have hml : c.maxLocals = 2 := hml0
  have hown : s.vm.findClass "java/lang/String" = some m.cls := findClass_of_methodNamed Bd.named
  have hnm := (name_of_methodNamed Bd.named Bd.method).1
  have hlk : meth.locks = false := BodyLoose.notSynchronized Bd
  have X0 : Stand p l e ({ frames := 3, cells := 1, slots := 2, locals := 52 } : Room) s m #[(.ref ba), (.ref bc)] below meth c s₁ [] 0 0 := Stand.of_body Bd
  have e0 : s₁.heap = h0 := by rw [← hh, Bd.state]; rfl
  have N0 := Fr.nil n0
  have K0 := Keep.refl h0 [ba]
  rw [ef_ini1_2 m ba bc]
  show Go p e below s (fun v h L => Q_ini1_2 Z ba bc kc cc0 cc1 u0 u1 wz h0 n0 v h L) ({ frames := 3, cells := 1, slots := 2, locals := 52 } : Room).cells ({ frames := 3, cells := 1, slots := 2, locals := 52 } : Room).slots s₁ (mkF m 0 #[.val (.ref ba), .val (.ref bc)] [])
  refine Go.step (T' := s₁) (f' := (mkF m 1 #[.val (.ref ba), .val (.ref bc)] [(.ref ba)])) (fun t k => XS.aloadN X0.here hx rfl (hb hby d2_0) rfl rfl k) ?_
  refine Go.step (T' := s₁) (f' := (mkF m 2 #[.val (.ref ba), .val (.ref bc)] [(.ref bc), (.ref ba)])) (fun t k => XS.aloadN X0.here hx rfl (hb hby d2_1) rfl rfl k) ?_
  refine Go.step (T' := s₁) (f' := (mkF m 3 #[.val (.ref ba), .val (.ref bc)] [(.int (0 : Int32)), (.ref bc), (.ref ba)])) (fun t k => XS.iconst X0.here hx rfl (hb hby d2_2) k) ?_
  refine Go.step (T' := s₁) (f' := (mkF m 4 #[.val (.ref ba), .val (.ref bc)] [(.ref bc), (.int (0 : Int32)), (.ref bc), (.ref ba)])) (fun t k => XS.aloadN X0.here hx rfl (hb hby d2_3) rfl rfl k) ?_
  obtain ⟨ca154, Aa154, qa154, Sa154, Na154, Ha154, Ga154⟩ := id P4
  refine Go.step (T' := s₁) (f' := (mkF m 5 #[.val (.ref ba), .val (.ref bc)] [(.int (2 : Int32)), (.int (0 : Int32)), (.ref bc), (.ref ba)])) (fun t k => own_alen X0 hx hZ e0 Aa154 Sa154 Na154 (g := (mkF m 4 #[.val (.ref ba), .val (.ref bc)] [(.ref bc), (.int (0 : Int32)), (.ref bc), (.ref ba)])) rfl rfl (hb hby d2_4) k) ?_
  refine Go.step (T' := s₁) (f' := (mkF m 6 #[.val (.ref ba), .val (.ref bc)] [.null, (.int (2 : Int32)), (.int (0 : Int32)), (.ref bc), (.ref ba)])) (fun t k => XS.aconstNull X0.here hx rfl (hb hby d2_5) k) ?_
  obtain ⟨_, _, ⟨T155, L155, k155, n155⟩, -, X155, ⟨Lc155, hQ155, l155, y155, z155⟩, st155⟩ := X0.specialBack hx (y := (⟨"java/lang/String", "<init>", "([CIILjava/lang/Void;)V"⟩ : MethodName)) rfl hown (mvT hZ (hw _ (List.mem_of_getElem? (i := 11) rfl))) (mvT hZ (hw _ (List.mem_of_getElem? (i := 12) rfl))) (mvT hZ (hw _ (List.mem_of_getElem? (i := 14) rfl))) (by decide) (backOf (W := 0) (rm_ini4_2 l Z a0 hw [] ba bc kc cc0 cc1 u0 u1 wz h0 n0 O0 P0 P1 P2 P3 P4 P5 P6 hwz hc0 hc1) hZ (hw _ (List.mem_of_getElem? (i := 14) rfl)) (hw _ (List.mem_of_getElem? (i := 6) rfl)) (by decide) (by decide)) (g := (mkF m 6 #[.val (.ref ba), .val (.ref bc)] [.null, (.int (2 : Int32)), (.int (0 : Int32)), (.ref bc), (.ref ba)])) rfl (by rw [hml]; rfl) (Steps.refl _) (a := ba) (argsL := [(.ref bc), (.int (0 : Int32)), (.int (2 : Int32)), .null]) (rest := []) (lenOf pd3 rfl) rfl (by show 2 * 0 + _ ≤ _; exact Nat.le_of_eq rfl) (hb hby d2_6) (fun _ _ => ⟨rfl, e0, (by decide : 0 + 1 ≤ _), (by decide : 0 + 2 ≤ _)⟩)
  dsimp only [Pt.U, Pt.locs, Pt.cells, Pt.slots] at X155 l155 y155 z155 st155 hQ155
  subst l155 y155 z155
  obtain ⟨u156, u157, rfl, Nq155, hh155, p158, p159, p160, p161, p162⟩ := hQ155
  have N163 := Fr.app N0 Nq155
  have f164 := P0.keep hh155
  have f165 := P4.keep hh155 (ninS P5 nin0)
  have O166 := O0.keep hh155 (allS P3 all0)
  have K167 := K0.trans hh155 (allS (Or.inl (List.mem_of_getElem? (i := 0) rfl)) all0)
  have g168 : n0 ≤ u156 := Nat.le_trans (own_old_le O0) p161
  have g169 : h0.size ≤ u156 := Nat.le_trans K0.1 p161
  have ne170 : ba ≠ u156 := Nat.ne_of_lt (Nat.lt_of_lt_of_le P0.lt p161)
  have ne171 : bc ≠ u156 := Nat.ne_of_lt (Nat.lt_of_lt_of_le P4.lt p161)
  refine Go.via (T' := T155) (f' := (mkF m 9 #[.val (.ref ba), .val (.ref bc)] [])) st155 ?_
  clear st155 X0 Nq155
  refine Go.retV X155 hx hlk Bd.returns (hb hby d2_9) rfl ?_ (by decide) (by decide)
  exact ⟨u156, u157, rfl, N163, K167, p158, p159, p160, g169, p162⟩
theorem ef_cpr3 (m : MethodId) (bc : Addr) (bb : Addr) : entryFrame m #[(.ref bc), (.int (0 : Int32)), (.ref bb), (.int (0 : Int32)), (.int (3 : Int32))] 7 = mkF m 0 #[.val (.ref bc), .val (.int (0 : Int32)), .val (.ref bb), .val (.int (0 : Int32)), .val (.int (3 : Int32)), .unset, .unset] [] := by first | (simp [entryFrame, mkF, argsToLocals, Value.category]; done) | rfl
def Q_cpr3 (Z : State) (bc : Addr) (bb : Addr) (kc : ClassId) (cc0 : Int32) (cc1 : Int32) (cc2 : Int32) (kb : ClassId) (h0 : Heap) (n0 : Nat) (v : Option Value) (h : Heap) (L : List Loc) : Prop := v = some (.int (3 : Int32)) ∧ Fr n0 L ∧ Keep h0 h [bb] ∧ Arv Z h bb kb .byte (3 : Int32) [(.int (cc0.toInt8.toInt32)), (.int (cc1.toInt8.toInt32)), (.int (cc2.toInt8.toInt32))] (.int (0 : Int32))
set_option maxRecDepth 65536 in
set_option maxHeartbeats 40000000 in
theorem rm_cpr3 (l : Launch) (Z : State) (a0 : Array Value) (hw : ∀ d ∈ tables_1, d.before a0 Z = true) (ws : List Jvm.Cond) (bc : Addr) (bb : Addr) (kc : ClassId) (cc0 : Int32) (cc1 : Int32) (cc2 : Int32) (kb : ClassId) (h0 : Heap) (n0 : Nat) (O0 : Old Z n0 h0) (P0 : Arv Z h0 bc kc .char (3 : Int32) [(.int cc0), (.int cc1), (.int cc2)] (.int (0 : Int32))) (P1 : Arv Z h0 bb kb .byte (3 : Int32) [(.int (0 : Int32)), (.int (0 : Int32)), (.int (0 : Int32))] (.int (0 : Int32))) (P2 : n0 ≤ bb) (P3 : bc ≠ bb) (hc0 : ¬ ((255 : Int32) < cc0)) (hc1 : ¬ ((255 : Int32) < cc1)) (hc2 : ¬ ((255 : Int32) < cc2)) :
    MetFree l (⟨"java/lang/StringUTF16", "compress", "([CI[BII)I"⟩ : MethodName) (head1 (Jvm.Cond.code (⟨"java/lang/StringUTF16", "compress", "([CI[BII)I"⟩ : MethodName) jdk_52_method_21_code 7 (some .int) :: ws) ({ frames := 0, cells := 0, slots := 0, locals := 0 } : Room)) (fun a U => a = #[(.ref bc), (.int (0 : Int32)), (.ref bb), (.int (0 : Int32)), (.int (3 : Int32))] ∧ Z.Warmed39 U.vm ∧ U.heap = h0) (fun _ _ _ _ _ => True) (fun _ U o U' => ∃ v L, o = .returned v ∧ Q_cpr3 Z bc bb kc cc0 cc1 cc2 kb h0 n0 v U'.heap L ∧ FrameEnd U o U' L ({ frames := 0, cells := 0, slots := 0, locals := 0 } : Room).cells ({ frames := 0, cells := 0, slots := 0, locals := 0 } : Room).slots) := by
  refine MetFree.of_bodySF (plainFor_of_name pn_java_lang_StringUTF16) hisR ?_
  intro p e s m args below meth c s₁ Bd hml0 hP hK
  obtain ⟨rfl, hZ, hh⟩ := hP
  have hx := Bd.exec
  have hby := Bd.bytes
  have hml : c.maxLocals = 7 := hml0
  have hown : s.vm.findClass "java/lang/StringUTF16" = some m.cls := findClass_of_methodNamed Bd.named
  have hnm := (name_of_methodNamed Bd.named Bd.method).1
  have hlk : meth.locks = false := BodyLoose.notSynchronized Bd
  have X0 : Stand p l e ({ frames := 0, cells := 0, slots := 0, locals := 0 } : Room) s m #[(.ref bc), (.int (0 : Int32)), (.ref bb), (.int (0 : Int32)), (.int (3 : Int32))] below meth c s₁ [] 0 0 := Stand.of_body Bd
  have e0 : s₁.heap = h0 := by rw [← hh, Bd.state]; rfl
  have N0 := Fr.nil n0
  have K0 := Keep.refl h0 [bb]
  rw [ef_cpr3 m bc bb]
  show Go p e below s (fun v h L => Q_cpr3 Z bc bb kc cc0 cc1 cc2 kb h0 n0 v h L) ({ frames := 0, cells := 0, slots := 0, locals := 0 } : Room).cells ({ frames := 0, cells := 0, slots := 0, locals := 0 } : Room).slots s₁ (mkF m 0 #[.val (.ref bc), .val (.int (0 : Int32)), .val (.ref bb), .val (.int (0 : Int32)), .val (.int (3 : Int32)), .unset, .unset] [])
  refine Go.step (T' := s₁) (f' := (mkF m 1 #[.val (.ref bc), .val (.int (0 : Int32)), .val (.ref bb), .val (.int (0 : Int32)), .val (.int (3 : Int32)), .unset, .unset] [(.int (0 : Int32))])) (fun t k => XS.iconst X0.here hx rfl (hb hby d6_0) k) ?_
  refine Go.step (T' := s₁) (f' := (mkF m 3 #[.val (.ref bc), .val (.int (0 : Int32)), .val (.ref bb), .val (.int (0 : Int32)), .val (.int (3 : Int32)), .val (.int (0 : Int32)), .unset] [])) (fun t k => XS.istore X0.here hx rfl (hb hby d6_1) rfl (l' := #[.val (.ref bc), .val (.int (0 : Int32)), .val (.ref bb), .val (.int (0 : Int32)), .val (.int (3 : Int32)), .val (.int (0 : Int32)), .unset]) rfl k) ?_
  refine Go.step (T' := s₁) (f' := (mkF m 5 #[.val (.ref bc), .val (.int (0 : Int32)), .val (.ref bb), .val (.int (0 : Int32)), .val (.int (3 : Int32)), .val (.int (0 : Int32)), .unset] [(.int (0 : Int32))])) (fun t k => XS.iload X0.here hx rfl (hb hby d6_3) rfl k) ?_
  refine Go.step (T' := s₁) (f' := (mkF m 7 #[.val (.ref bc), .val (.int (0 : Int32)), .val (.ref bb), .val (.int (0 : Int32)), .val (.int (3 : Int32)), .val (.int (0 : Int32)), .unset] [(.int (3 : Int32)), (.int (0 : Int32))])) (fun t k => XS.iload X0.here hx rfl (hb hby d6_5) rfl k) ?_
  refine Go.step (T' := s₁) (f' := (mkF m 10 #[.val (.ref bc), .val (.int (0 : Int32)), .val (.ref bb), .val (.int (0 : Int32)), .val (.int (3 : Int32)), .val (.int (0 : Int32)), .unset] [])) (fun t k => XS.icmpNo X0.here hx rfl (hb hby d6_7) rfl (tlt (by decide : (0 : Int32) < (3 : Int32))).2.1 k) ?_
  refine Go.step (T' := s₁) (f' := (mkF m 11 #[.val (.ref bc), .val (.int (0 : Int32)), .val (.ref bb), .val (.int (0 : Int32)), .val (.int (3 : Int32)), .val (.int (0 : Int32)), .unset] [(.ref bc)])) (fun t k => XS.aloadN X0.here hx rfl (hb hby d6_10) rfl rfl k) ?_
  refine Go.step (T' := s₁) (f' := (mkF m 12 #[.val (.ref bc), .val (.int (0 : Int32)), .val (.ref bb), .val (.int (0 : Int32)), .val (.int (3 : Int32)), .val (.int (0 : Int32)), .unset] [(.int (0 : Int32)), (.ref bc)])) (fun t k => XS.iloadN X0.here hx rfl (hb hby d6_11) rfl k) ?_
  obtain ⟨ca172, Aa172, qa172, Sa172, Na172, Ha172, Ga172⟩ := id P0
  have ia172 : ¬ ((0 : Int32) < 0 ∨ ca172.slots.size ≤ ((0 : Int32)).toNatClampNeg) := inb_of Sa172 ⟨by decide, by decide⟩
  have va172 := Ha172.at (v := (.int cc0)) ia172 rfl
  refine Go.step (T' := s₁) (f' := (mkF m 13 #[.val (.ref bc), .val (.int (0 : Int32)), .val (.ref bb), .val (.int (0 : Int32)), .val (.int (3 : Int32)), .val (.int (0 : Int32)), .unset] [(.int cc0)])) (fun t k => X0.caload hx (j := (0 : Int32)) (v := (.int cc0)) (by rw [e0]; exact Aa172.1) (State.isArrayOf_alike hZ.alike Aa172.2.1) Aa172.2.2 ia172 va172 (g := (mkF m 12 #[.val (.ref bc), .val (.int (0 : Int32)), .val (.ref bb), .val (.int (0 : Int32)), .val (.int (3 : Int32)), .val (.int (0 : Int32)), .unset] [(.int (0 : Int32)), (.ref bc)])) rfl rfl (hb hby d6_12) t k) ?_
  refine Go.step (T' := s₁) (f' := (mkF m 15 #[.val (.ref bc), .val (.int (0 : Int32)), .val (.ref bb), .val (.int (0 : Int32)), .val (.int (3 : Int32)), .val (.int (0 : Int32)), .val (.int cc0)] [])) (fun t k => XS.istore X0.here hx rfl (hb hby d6_13) rfl (l' := #[.val (.ref bc), .val (.int (0 : Int32)), .val (.ref bb), .val (.int (0 : Int32)), .val (.int (3 : Int32)), .val (.int (0 : Int32)), .val (.int cc0)]) rfl k) ?_
  refine Go.step (T' := s₁) (f' := (mkF m 17 #[.val (.ref bc), .val (.int (0 : Int32)), .val (.ref bb), .val (.int (0 : Int32)), .val (.int (3 : Int32)), .val (.int (0 : Int32)), .val (.int cc0)] [(.int cc0)])) (fun t k => XS.iload X0.here hx rfl (hb hby d6_15) rfl k) ?_
  refine Go.step (T' := s₁) (f' := (mkF m 20 #[.val (.ref bc), .val (.int (0 : Int32)), .val (.ref bb), .val (.int (0 : Int32)), .val (.int (3 : Int32)), .val (.int (0 : Int32)), .val (.int cc0)] [(.int (255 : Int32)), (.int cc0)])) (fun t k => XS.sipush X0.here hx rfl (hb hby d6_17) k) ?_
  refine Go.step (T' := s₁) (f' := (mkF m 26 #[.val (.ref bc), .val (.int (0 : Int32)), .val (.ref bb), .val (.int (0 : Int32)), .val (.int (3 : Int32)), .val (.int (0 : Int32)), .val (.int cc0)] [])) (fun t k => XS.icmpYes X0.here hx rfl (pc0 := 20) (pc' := 26) rfl (hb hby d6_20) rfl (flt hc0).2.2.2 (by decide) (by decide) k) ?_
  refine Go.step (T' := s₁) (f' := (mkF m 27 #[.val (.ref bc), .val (.int (0 : Int32)), .val (.ref bb), .val (.int (0 : Int32)), .val (.int (3 : Int32)), .val (.int (0 : Int32)), .val (.int cc0)] [(.ref bb)])) (fun t k => XS.aloadN X0.here hx rfl (hb hby d6_26) rfl rfl k) ?_
  refine Go.step (T' := s₁) (f' := (mkF m 28 #[.val (.ref bc), .val (.int (0 : Int32)), .val (.ref bb), .val (.int (0 : Int32)), .val (.int (3 : Int32)), .val (.int (0 : Int32)), .val (.int cc0)] [(.int (0 : Int32)), (.ref bb)])) (fun t k => XS.iloadN X0.here hx rfl (hb hby d6_27) rfl k) ?_
  refine Go.step (T' := s₁) (f' := (mkF m 30 #[.val (.ref bc), .val (.int (0 : Int32)), .val (.ref bb), .val (.int (0 : Int32)), .val (.int (3 : Int32)), .val (.int (0 : Int32)), .val (.int cc0)] [(.int cc0), (.int (0 : Int32)), (.ref bb)])) (fun t k => XS.iload X0.here hx rfl (hb hby d6_28) rfl k) ?_
  refine Go.step (T' := s₁) (f' := (mkF m 31 #[.val (.ref bc), .val (.int (0 : Int32)), .val (.ref bb), .val (.int (0 : Int32)), .val (.int (3 : Int32)), .val (.int (0 : Int32)), .val (.int cc0)] [(.int (cc0.toInt8.toInt32)), (.int (0 : Int32)), (.ref bb)])) (fun t k => XS.i2b X0.here hx rfl (hb hby d6_30) rfl k) ?_
  obtain ⟨ca173, Aa173, qa173, Sa173, Na173, Ha173, Ga173⟩ := id P1
  have ia173 : ¬ ((0 : Int32) < 0 ∨ ca173.slots.size ≤ ((0 : Int32)).toNatClampNeg) := inb_of Sa173 ⟨by decide, by decide⟩
  obtain ⟨T174, h174, X174, e174, W174, st174⟩ := stB X0 hx hZ e0 Aa173 (j := (0 : Int32)) ia173 (g := (mkF m 31 #[.val (.ref bc), .val (.int (0 : Int32)), .val (.ref bb), .val (.int (0 : Int32)), .val (.int (3 : Int32)), .val (.int (0 : Int32)), .val (.int cc0)] [(.int (cc0.toInt8.toInt32)), (.int (0 : Int32)), (.ref bb)])) rfl rfl (hb hby d6_31)
  have f175 := Arv.set Aa173 qa173 Sa173 Na173 Ha173 Ga173 (fits_nar_byte _) W174 0 rfl (Nat.le_of_ble_eq_true rfl)
  rw [own_nar8] at f175
  have f176 : Arv Z h174 bb kb .byte (3 : Int32) [(.int (cc0.toInt8.toInt32)), (.int (0 : Int32)), (.int (0 : Int32))] (.int (0 : Int32)) := f175
  have f177 := P0.other W174 P3
  have O178 := O0.wr W174 P2
  have K179 := K0.wr W174 (Or.inl (List.mem_of_getElem? (i := 0) rfl))
  have N180 := Fr.snoc X174 N0 P2
  refine Go.step (T' := T174) (f' := (mkF m 32 #[.val (.ref bc), .val (.int (0 : Int32)), .val (.ref bb), .val (.int (0 : Int32)), .val (.int (3 : Int32)), .val (.int (0 : Int32)), .val (.int cc0)] [])) st174 ?_
  clear st174 X0
  refine Go.step (T' := T174) (f' := (mkF m 35 #[.val (.ref bc), .val (.int ((0 : Int32) + (1 : Int32))), .val (.ref bb), .val (.int (0 : Int32)), .val (.int (3 : Int32)), .val (.int (0 : Int32)), .val (.int cc0)] [])) (fun t k => XS.iinc X174.here hx rfl (hb hby d6_32) rfl (l' := #[.val (.ref bc), .val (.int ((0 : Int32) + (1 : Int32))), .val (.ref bb), .val (.int (0 : Int32)), .val (.int (3 : Int32)), .val (.int (0 : Int32)), .val (.int cc0)]) rfl k) ?_
  rw [show ((0 : Int32) + (1 : Int32)) = (1 : Int32) from by decide]
  refine Go.step (T' := T174) (f' := (mkF m 38 #[.val (.ref bc), .val (.int (1 : Int32)), .val (.ref bb), .val (.int ((0 : Int32) + (1 : Int32))), .val (.int (3 : Int32)), .val (.int (0 : Int32)), .val (.int cc0)] [])) (fun t k => XS.iinc X174.here hx rfl (hb hby d6_35) rfl (l' := #[.val (.ref bc), .val (.int (1 : Int32)), .val (.ref bb), .val (.int ((0 : Int32) + (1 : Int32))), .val (.int (3 : Int32)), .val (.int (0 : Int32)), .val (.int cc0)]) rfl k) ?_
  rw [show ((0 : Int32) + (1 : Int32)) = (1 : Int32) from by decide]
  refine Go.step (T' := T174) (f' := (mkF m 41 #[.val (.ref bc), .val (.int (1 : Int32)), .val (.ref bb), .val (.int (1 : Int32)), .val (.int (3 : Int32)), .val (.int ((0 : Int32) + (1 : Int32))), .val (.int cc0)] [])) (fun t k => XS.iinc X174.here hx rfl (hb hby d6_38) rfl (l' := #[.val (.ref bc), .val (.int (1 : Int32)), .val (.ref bb), .val (.int (1 : Int32)), .val (.int (3 : Int32)), .val (.int ((0 : Int32) + (1 : Int32))), .val (.int cc0)]) rfl k) ?_
  rw [show ((0 : Int32) + (1 : Int32)) = (1 : Int32) from by decide]
  refine Go.step (T' := T174) (f' := (mkF m 3 #[.val (.ref bc), .val (.int (1 : Int32)), .val (.ref bb), .val (.int (1 : Int32)), .val (.int (3 : Int32)), .val (.int (1 : Int32)), .val (.int cc0)] [])) (fun t k => XS.goto X174.here hx rfl (pc0 := 41) (pc' := 3) rfl (hb hby d6_41) (by decide) (by decide) k) ?_
  refine Go.step (T' := T174) (f' := (mkF m 5 #[.val (.ref bc), .val (.int (1 : Int32)), .val (.ref bb), .val (.int (1 : Int32)), .val (.int (3 : Int32)), .val (.int (1 : Int32)), .val (.int cc0)] [(.int (1 : Int32))])) (fun t k => XS.iload X174.here hx rfl (hb hby d6_3) rfl k) ?_
  refine Go.step (T' := T174) (f' := (mkF m 7 #[.val (.ref bc), .val (.int (1 : Int32)), .val (.ref bb), .val (.int (1 : Int32)), .val (.int (3 : Int32)), .val (.int (1 : Int32)), .val (.int cc0)] [(.int (3 : Int32)), (.int (1 : Int32))])) (fun t k => XS.iload X174.here hx rfl (hb hby d6_5) rfl k) ?_
  refine Go.step (T' := T174) (f' := (mkF m 10 #[.val (.ref bc), .val (.int (1 : Int32)), .val (.ref bb), .val (.int (1 : Int32)), .val (.int (3 : Int32)), .val (.int (1 : Int32)), .val (.int cc0)] [])) (fun t k => XS.icmpNo X174.here hx rfl (hb hby d6_7) rfl (tlt (by decide : (1 : Int32) < (3 : Int32))).2.1 k) ?_
  refine Go.step (T' := T174) (f' := (mkF m 11 #[.val (.ref bc), .val (.int (1 : Int32)), .val (.ref bb), .val (.int (1 : Int32)), .val (.int (3 : Int32)), .val (.int (1 : Int32)), .val (.int cc0)] [(.ref bc)])) (fun t k => XS.aloadN X174.here hx rfl (hb hby d6_10) rfl rfl k) ?_
  refine Go.step (T' := T174) (f' := (mkF m 12 #[.val (.ref bc), .val (.int (1 : Int32)), .val (.ref bb), .val (.int (1 : Int32)), .val (.int (3 : Int32)), .val (.int (1 : Int32)), .val (.int cc0)] [(.int (1 : Int32)), (.ref bc)])) (fun t k => XS.iloadN X174.here hx rfl (hb hby d6_11) rfl k) ?_
  obtain ⟨ca181, Aa181, qa181, Sa181, Na181, Ha181, Ga181⟩ := id f177
  have ia181 : ¬ ((1 : Int32) < 0 ∨ ca181.slots.size ≤ ((1 : Int32)).toNatClampNeg) := inb_of Sa181 ⟨by decide, by decide⟩
  have va181 := Ha181.at (v := (.int cc1)) ia181 rfl
  refine Go.step (T' := T174) (f' := (mkF m 13 #[.val (.ref bc), .val (.int (1 : Int32)), .val (.ref bb), .val (.int (1 : Int32)), .val (.int (3 : Int32)), .val (.int (1 : Int32)), .val (.int cc0)] [(.int cc1)])) (fun t k => X174.caload hx (j := (1 : Int32)) (v := (.int cc1)) (by rw [e174]; exact Aa181.1) (State.isArrayOf_alike hZ.alike Aa181.2.1) Aa181.2.2 ia181 va181 (g := (mkF m 12 #[.val (.ref bc), .val (.int (1 : Int32)), .val (.ref bb), .val (.int (1 : Int32)), .val (.int (3 : Int32)), .val (.int (1 : Int32)), .val (.int cc0)] [(.int (1 : Int32)), (.ref bc)])) rfl rfl (hb hby d6_12) t k) ?_
  refine Go.step (T' := T174) (f' := (mkF m 15 #[.val (.ref bc), .val (.int (1 : Int32)), .val (.ref bb), .val (.int (1 : Int32)), .val (.int (3 : Int32)), .val (.int (1 : Int32)), .val (.int cc1)] [])) (fun t k => XS.istore X174.here hx rfl (hb hby d6_13) rfl (l' := #[.val (.ref bc), .val (.int (1 : Int32)), .val (.ref bb), .val (.int (1 : Int32)), .val (.int (3 : Int32)), .val (.int (1 : Int32)), .val (.int cc1)]) rfl k) ?_
  refine Go.step (T' := T174) (f' := (mkF m 17 #[.val (.ref bc), .val (.int (1 : Int32)), .val (.ref bb), .val (.int (1 : Int32)), .val (.int (3 : Int32)), .val (.int (1 : Int32)), .val (.int cc1)] [(.int cc1)])) (fun t k => XS.iload X174.here hx rfl (hb hby d6_15) rfl k) ?_
  refine Go.step (T' := T174) (f' := (mkF m 20 #[.val (.ref bc), .val (.int (1 : Int32)), .val (.ref bb), .val (.int (1 : Int32)), .val (.int (3 : Int32)), .val (.int (1 : Int32)), .val (.int cc1)] [(.int (255 : Int32)), (.int cc1)])) (fun t k => XS.sipush X174.here hx rfl (hb hby d6_17) k) ?_
  refine Go.step (T' := T174) (f' := (mkF m 26 #[.val (.ref bc), .val (.int (1 : Int32)), .val (.ref bb), .val (.int (1 : Int32)), .val (.int (3 : Int32)), .val (.int (1 : Int32)), .val (.int cc1)] [])) (fun t k => XS.icmpYes X174.here hx rfl (pc0 := 20) (pc' := 26) rfl (hb hby d6_20) rfl (flt hc1).2.2.2 (by decide) (by decide) k) ?_
  refine Go.step (T' := T174) (f' := (mkF m 27 #[.val (.ref bc), .val (.int (1 : Int32)), .val (.ref bb), .val (.int (1 : Int32)), .val (.int (3 : Int32)), .val (.int (1 : Int32)), .val (.int cc1)] [(.ref bb)])) (fun t k => XS.aloadN X174.here hx rfl (hb hby d6_26) rfl rfl k) ?_
  refine Go.step (T' := T174) (f' := (mkF m 28 #[.val (.ref bc), .val (.int (1 : Int32)), .val (.ref bb), .val (.int (1 : Int32)), .val (.int (3 : Int32)), .val (.int (1 : Int32)), .val (.int cc1)] [(.int (1 : Int32)), (.ref bb)])) (fun t k => XS.iloadN X174.here hx rfl (hb hby d6_27) rfl k) ?_
  refine Go.step (T' := T174) (f' := (mkF m 30 #[.val (.ref bc), .val (.int (1 : Int32)), .val (.ref bb), .val (.int (1 : Int32)), .val (.int (3 : Int32)), .val (.int (1 : Int32)), .val (.int cc1)] [(.int cc1), (.int (1 : Int32)), (.ref bb)])) (fun t k => XS.iload X174.here hx rfl (hb hby d6_28) rfl k) ?_
  refine Go.step (T' := T174) (f' := (mkF m 31 #[.val (.ref bc), .val (.int (1 : Int32)), .val (.ref bb), .val (.int (1 : Int32)), .val (.int (3 : Int32)), .val (.int (1 : Int32)), .val (.int cc1)] [(.int (cc1.toInt8.toInt32)), (.int (1 : Int32)), (.ref bb)])) (fun t k => XS.i2b X174.here hx rfl (hb hby d6_30) rfl k) ?_
  obtain ⟨ca182, Aa182, qa182, Sa182, Na182, Ha182, Ga182⟩ := id f176
  have ia182 : ¬ ((1 : Int32) < 0 ∨ ca182.slots.size ≤ ((1 : Int32)).toNatClampNeg) := inb_of Sa182 ⟨by decide, by decide⟩
  obtain ⟨T183, h183, X183, e183, W183, st183⟩ := stB X174 hx hZ e174 Aa182 (j := (1 : Int32)) ia182 (g := (mkF m 31 #[.val (.ref bc), .val (.int (1 : Int32)), .val (.ref bb), .val (.int (1 : Int32)), .val (.int (3 : Int32)), .val (.int (1 : Int32)), .val (.int cc1)] [(.int (cc1.toInt8.toInt32)), (.int (1 : Int32)), (.ref bb)])) rfl rfl (hb hby d6_31)
  have f184 := Arv.set Aa182 qa182 Sa182 Na182 Ha182 Ga182 (fits_nar_byte _) W183 1 rfl (Nat.le_of_ble_eq_true rfl)
  rw [own_nar8] at f184
  have f185 : Arv Z h183 bb kb .byte (3 : Int32) [(.int (cc0.toInt8.toInt32)), (.int (cc1.toInt8.toInt32)), (.int (0 : Int32))] (.int (0 : Int32)) := f184
  have f186 := f177.other W183 P3
  have O187 := O178.wr W183 P2
  have K188 := K179.wr W183 (Or.inl (List.mem_of_getElem? (i := 0) rfl))
  have N189 := Fr.snoc X183 N180 P2
  refine Go.step (T' := T183) (f' := (mkF m 32 #[.val (.ref bc), .val (.int (1 : Int32)), .val (.ref bb), .val (.int (1 : Int32)), .val (.int (3 : Int32)), .val (.int (1 : Int32)), .val (.int cc1)] [])) st183 ?_
  clear st183 X174 f177 O178 K179 N180
  refine Go.step (T' := T183) (f' := (mkF m 35 #[.val (.ref bc), .val (.int ((1 : Int32) + (1 : Int32))), .val (.ref bb), .val (.int (1 : Int32)), .val (.int (3 : Int32)), .val (.int (1 : Int32)), .val (.int cc1)] [])) (fun t k => XS.iinc X183.here hx rfl (hb hby d6_32) rfl (l' := #[.val (.ref bc), .val (.int ((1 : Int32) + (1 : Int32))), .val (.ref bb), .val (.int (1 : Int32)), .val (.int (3 : Int32)), .val (.int (1 : Int32)), .val (.int cc1)]) rfl k) ?_
  rw [show ((1 : Int32) + (1 : Int32)) = (2 : Int32) from by decide]
  refine Go.step (T' := T183) (f' := (mkF m 38 #[.val (.ref bc), .val (.int (2 : Int32)), .val (.ref bb), .val (.int ((1 : Int32) + (1 : Int32))), .val (.int (3 : Int32)), .val (.int (1 : Int32)), .val (.int cc1)] [])) (fun t k => XS.iinc X183.here hx rfl (hb hby d6_35) rfl (l' := #[.val (.ref bc), .val (.int (2 : Int32)), .val (.ref bb), .val (.int ((1 : Int32) + (1 : Int32))), .val (.int (3 : Int32)), .val (.int (1 : Int32)), .val (.int cc1)]) rfl k) ?_
  rw [show ((1 : Int32) + (1 : Int32)) = (2 : Int32) from by decide]
  refine Go.step (T' := T183) (f' := (mkF m 41 #[.val (.ref bc), .val (.int (2 : Int32)), .val (.ref bb), .val (.int (2 : Int32)), .val (.int (3 : Int32)), .val (.int ((1 : Int32) + (1 : Int32))), .val (.int cc1)] [])) (fun t k => XS.iinc X183.here hx rfl (hb hby d6_38) rfl (l' := #[.val (.ref bc), .val (.int (2 : Int32)), .val (.ref bb), .val (.int (2 : Int32)), .val (.int (3 : Int32)), .val (.int ((1 : Int32) + (1 : Int32))), .val (.int cc1)]) rfl k) ?_
  rw [show ((1 : Int32) + (1 : Int32)) = (2 : Int32) from by decide]
  refine Go.step (T' := T183) (f' := (mkF m 3 #[.val (.ref bc), .val (.int (2 : Int32)), .val (.ref bb), .val (.int (2 : Int32)), .val (.int (3 : Int32)), .val (.int (2 : Int32)), .val (.int cc1)] [])) (fun t k => XS.goto X183.here hx rfl (pc0 := 41) (pc' := 3) rfl (hb hby d6_41) (by decide) (by decide) k) ?_
  refine Go.step (T' := T183) (f' := (mkF m 5 #[.val (.ref bc), .val (.int (2 : Int32)), .val (.ref bb), .val (.int (2 : Int32)), .val (.int (3 : Int32)), .val (.int (2 : Int32)), .val (.int cc1)] [(.int (2 : Int32))])) (fun t k => XS.iload X183.here hx rfl (hb hby d6_3) rfl k) ?_
  refine Go.step (T' := T183) (f' := (mkF m 7 #[.val (.ref bc), .val (.int (2 : Int32)), .val (.ref bb), .val (.int (2 : Int32)), .val (.int (3 : Int32)), .val (.int (2 : Int32)), .val (.int cc1)] [(.int (3 : Int32)), (.int (2 : Int32))])) (fun t k => XS.iload X183.here hx rfl (hb hby d6_5) rfl k) ?_
  refine Go.step (T' := T183) (f' := (mkF m 10 #[.val (.ref bc), .val (.int (2 : Int32)), .val (.ref bb), .val (.int (2 : Int32)), .val (.int (3 : Int32)), .val (.int (2 : Int32)), .val (.int cc1)] [])) (fun t k => XS.icmpNo X183.here hx rfl (hb hby d6_7) rfl (tlt (by decide : (2 : Int32) < (3 : Int32))).2.1 k) ?_
  refine Go.step (T' := T183) (f' := (mkF m 11 #[.val (.ref bc), .val (.int (2 : Int32)), .val (.ref bb), .val (.int (2 : Int32)), .val (.int (3 : Int32)), .val (.int (2 : Int32)), .val (.int cc1)] [(.ref bc)])) (fun t k => XS.aloadN X183.here hx rfl (hb hby d6_10) rfl rfl k) ?_
  refine Go.step (T' := T183) (f' := (mkF m 12 #[.val (.ref bc), .val (.int (2 : Int32)), .val (.ref bb), .val (.int (2 : Int32)), .val (.int (3 : Int32)), .val (.int (2 : Int32)), .val (.int cc1)] [(.int (2 : Int32)), (.ref bc)])) (fun t k => XS.iloadN X183.here hx rfl (hb hby d6_11) rfl k) ?_
  obtain ⟨ca190, Aa190, qa190, Sa190, Na190, Ha190, Ga190⟩ := id f186
  have ia190 : ¬ ((2 : Int32) < 0 ∨ ca190.slots.size ≤ ((2 : Int32)).toNatClampNeg) := inb_of Sa190 ⟨by decide, by decide⟩
  have va190 := Ha190.at (v := (.int cc2)) ia190 rfl
  refine Go.step (T' := T183) (f' := (mkF m 13 #[.val (.ref bc), .val (.int (2 : Int32)), .val (.ref bb), .val (.int (2 : Int32)), .val (.int (3 : Int32)), .val (.int (2 : Int32)), .val (.int cc1)] [(.int cc2)])) (fun t k => X183.caload hx (j := (2 : Int32)) (v := (.int cc2)) (by rw [e183]; exact Aa190.1) (State.isArrayOf_alike hZ.alike Aa190.2.1) Aa190.2.2 ia190 va190 (g := (mkF m 12 #[.val (.ref bc), .val (.int (2 : Int32)), .val (.ref bb), .val (.int (2 : Int32)), .val (.int (3 : Int32)), .val (.int (2 : Int32)), .val (.int cc1)] [(.int (2 : Int32)), (.ref bc)])) rfl rfl (hb hby d6_12) t k) ?_
  refine Go.step (T' := T183) (f' := (mkF m 15 #[.val (.ref bc), .val (.int (2 : Int32)), .val (.ref bb), .val (.int (2 : Int32)), .val (.int (3 : Int32)), .val (.int (2 : Int32)), .val (.int cc2)] [])) (fun t k => XS.istore X183.here hx rfl (hb hby d6_13) rfl (l' := #[.val (.ref bc), .val (.int (2 : Int32)), .val (.ref bb), .val (.int (2 : Int32)), .val (.int (3 : Int32)), .val (.int (2 : Int32)), .val (.int cc2)]) rfl k) ?_
  refine Go.step (T' := T183) (f' := (mkF m 17 #[.val (.ref bc), .val (.int (2 : Int32)), .val (.ref bb), .val (.int (2 : Int32)), .val (.int (3 : Int32)), .val (.int (2 : Int32)), .val (.int cc2)] [(.int cc2)])) (fun t k => XS.iload X183.here hx rfl (hb hby d6_15) rfl k) ?_
  refine Go.step (T' := T183) (f' := (mkF m 20 #[.val (.ref bc), .val (.int (2 : Int32)), .val (.ref bb), .val (.int (2 : Int32)), .val (.int (3 : Int32)), .val (.int (2 : Int32)), .val (.int cc2)] [(.int (255 : Int32)), (.int cc2)])) (fun t k => XS.sipush X183.here hx rfl (hb hby d6_17) k) ?_
  refine Go.step (T' := T183) (f' := (mkF m 26 #[.val (.ref bc), .val (.int (2 : Int32)), .val (.ref bb), .val (.int (2 : Int32)), .val (.int (3 : Int32)), .val (.int (2 : Int32)), .val (.int cc2)] [])) (fun t k => XS.icmpYes X183.here hx rfl (pc0 := 20) (pc' := 26) rfl (hb hby d6_20) rfl (flt hc2).2.2.2 (by decide) (by decide) k) ?_
  refine Go.step (T' := T183) (f' := (mkF m 27 #[.val (.ref bc), .val (.int (2 : Int32)), .val (.ref bb), .val (.int (2 : Int32)), .val (.int (3 : Int32)), .val (.int (2 : Int32)), .val (.int cc2)] [(.ref bb)])) (fun t k => XS.aloadN X183.here hx rfl (hb hby d6_26) rfl rfl k) ?_
  refine Go.step (T' := T183) (f' := (mkF m 28 #[.val (.ref bc), .val (.int (2 : Int32)), .val (.ref bb), .val (.int (2 : Int32)), .val (.int (3 : Int32)), .val (.int (2 : Int32)), .val (.int cc2)] [(.int (2 : Int32)), (.ref bb)])) (fun t k => XS.iloadN X183.here hx rfl (hb hby d6_27) rfl k) ?_
  refine Go.step (T' := T183) (f' := (mkF m 30 #[.val (.ref bc), .val (.int (2 : Int32)), .val (.ref bb), .val (.int (2 : Int32)), .val (.int (3 : Int32)), .val (.int (2 : Int32)), .val (.int cc2)] [(.int cc2), (.int (2 : Int32)), (.ref bb)])) (fun t k => XS.iload X183.here hx rfl (hb hby d6_28) rfl k) ?_
  refine Go.step (T' := T183) (f' := (mkF m 31 #[.val (.ref bc), .val (.int (2 : Int32)), .val (.ref bb), .val (.int (2 : Int32)), .val (.int (3 : Int32)), .val (.int (2 : Int32)), .val (.int cc2)] [(.int (cc2.toInt8.toInt32)), (.int (2 : Int32)), (.ref bb)])) (fun t k => XS.i2b X183.here hx rfl (hb hby d6_30) rfl k) ?_
  obtain ⟨ca191, Aa191, qa191, Sa191, Na191, Ha191, Ga191⟩ := id f185
  have ia191 : ¬ ((2 : Int32) < 0 ∨ ca191.slots.size ≤ ((2 : Int32)).toNatClampNeg) := inb_of Sa191 ⟨by decide, by decide⟩
  obtain ⟨T192, h192, X192, e192, W192, st192⟩ := stB X183 hx hZ e183 Aa191 (j := (2 : Int32)) ia191 (g := (mkF m 31 #[.val (.ref bc), .val (.int (2 : Int32)), .val (.ref bb), .val (.int (2 : Int32)), .val (.int (3 : Int32)), .val (.int (2 : Int32)), .val (.int cc2)] [(.int (cc2.toInt8.toInt32)), (.int (2 : Int32)), (.ref bb)])) rfl rfl (hb hby d6_31)
  have f193 := Arv.set Aa191 qa191 Sa191 Na191 Ha191 Ga191 (fits_nar_byte _) W192 2 rfl (Nat.le_of_ble_eq_true rfl)
  rw [own_nar8] at f193
  have f194 : Arv Z h192 bb kb .byte (3 : Int32) [(.int (cc0.toInt8.toInt32)), (.int (cc1.toInt8.toInt32)), (.int (cc2.toInt8.toInt32))] (.int (0 : Int32)) := f193
  have f195 := f186.other W192 P3
  have O196 := O187.wr W192 P2
  have K197 := K188.wr W192 (Or.inl (List.mem_of_getElem? (i := 0) rfl))
  have N198 := Fr.snoc X192 N189 P2
  refine Go.step (T' := T192) (f' := (mkF m 32 #[.val (.ref bc), .val (.int (2 : Int32)), .val (.ref bb), .val (.int (2 : Int32)), .val (.int (3 : Int32)), .val (.int (2 : Int32)), .val (.int cc2)] [])) st192 ?_
  clear st192 X183 f186 O187 K188 N189
  refine Go.step (T' := T192) (f' := (mkF m 35 #[.val (.ref bc), .val (.int ((2 : Int32) + (1 : Int32))), .val (.ref bb), .val (.int (2 : Int32)), .val (.int (3 : Int32)), .val (.int (2 : Int32)), .val (.int cc2)] [])) (fun t k => XS.iinc X192.here hx rfl (hb hby d6_32) rfl (l' := #[.val (.ref bc), .val (.int ((2 : Int32) + (1 : Int32))), .val (.ref bb), .val (.int (2 : Int32)), .val (.int (3 : Int32)), .val (.int (2 : Int32)), .val (.int cc2)]) rfl k) ?_
  rw [show ((2 : Int32) + (1 : Int32)) = (3 : Int32) from by decide]
  refine Go.step (T' := T192) (f' := (mkF m 38 #[.val (.ref bc), .val (.int (3 : Int32)), .val (.ref bb), .val (.int ((2 : Int32) + (1 : Int32))), .val (.int (3 : Int32)), .val (.int (2 : Int32)), .val (.int cc2)] [])) (fun t k => XS.iinc X192.here hx rfl (hb hby d6_35) rfl (l' := #[.val (.ref bc), .val (.int (3 : Int32)), .val (.ref bb), .val (.int ((2 : Int32) + (1 : Int32))), .val (.int (3 : Int32)), .val (.int (2 : Int32)), .val (.int cc2)]) rfl k) ?_
  rw [show ((2 : Int32) + (1 : Int32)) = (3 : Int32) from by decide]
  refine Go.step (T' := T192) (f' := (mkF m 41 #[.val (.ref bc), .val (.int (3 : Int32)), .val (.ref bb), .val (.int (3 : Int32)), .val (.int (3 : Int32)), .val (.int ((2 : Int32) + (1 : Int32))), .val (.int cc2)] [])) (fun t k => XS.iinc X192.here hx rfl (hb hby d6_38) rfl (l' := #[.val (.ref bc), .val (.int (3 : Int32)), .val (.ref bb), .val (.int (3 : Int32)), .val (.int (3 : Int32)), .val (.int ((2 : Int32) + (1 : Int32))), .val (.int cc2)]) rfl k) ?_
  rw [show ((2 : Int32) + (1 : Int32)) = (3 : Int32) from by decide]
  refine Go.step (T' := T192) (f' := (mkF m 3 #[.val (.ref bc), .val (.int (3 : Int32)), .val (.ref bb), .val (.int (3 : Int32)), .val (.int (3 : Int32)), .val (.int (3 : Int32)), .val (.int cc2)] [])) (fun t k => XS.goto X192.here hx rfl (pc0 := 41) (pc' := 3) rfl (hb hby d6_41) (by decide) (by decide) k) ?_
  refine Go.step (T' := T192) (f' := (mkF m 5 #[.val (.ref bc), .val (.int (3 : Int32)), .val (.ref bb), .val (.int (3 : Int32)), .val (.int (3 : Int32)), .val (.int (3 : Int32)), .val (.int cc2)] [(.int (3 : Int32))])) (fun t k => XS.iload X192.here hx rfl (hb hby d6_3) rfl k) ?_
  refine Go.step (T' := T192) (f' := (mkF m 7 #[.val (.ref bc), .val (.int (3 : Int32)), .val (.ref bb), .val (.int (3 : Int32)), .val (.int (3 : Int32)), .val (.int (3 : Int32)), .val (.int cc2)] [(.int (3 : Int32)), (.int (3 : Int32))])) (fun t k => XS.iload X192.here hx rfl (hb hby d6_5) rfl k) ?_
  refine Go.step (T' := T192) (f' := (mkF m 44 #[.val (.ref bc), .val (.int (3 : Int32)), .val (.ref bb), .val (.int (3 : Int32)), .val (.int (3 : Int32)), .val (.int (3 : Int32)), .val (.int cc2)] [])) (fun t k => XS.icmpYes X192.here hx rfl (pc0 := 7) (pc' := 44) rfl (hb hby d6_7) rfl (flt (by decide : ¬ ((3 : Int32) < (3 : Int32)))).2.1 (by decide) (by decide) k) ?_
  refine Go.step (T' := T192) (f' := (mkF m 46 #[.val (.ref bc), .val (.int (3 : Int32)), .val (.ref bb), .val (.int (3 : Int32)), .val (.int (3 : Int32)), .val (.int (3 : Int32)), .val (.int cc2)] [(.int (3 : Int32))])) (fun t k => XS.iload X192.here hx rfl (hb hby d6_44) rfl k) ?_
  refine Go.retI X192 hx hlk Bd.returns (hb hby d6_46) e192 ?_ (by decide) (by decide)
  exact ⟨rfl, N198, K197, f194⟩
theorem ef_cmp3 (m : MethodId) (bc : Addr) : entryFrame m #[(.ref bc), (.int (0 : Int32)), (.int (3 : Int32))] 6 = mkF m 0 #[.val (.ref bc), .val (.int (0 : Int32)), .val (.int (3 : Int32)), .unset, .unset, .unset] [] := by first | (simp [entryFrame, mkF, argsToLocals, Value.category]; done) | rfl
def Q_cmp3 (Z : State) (bc : Addr) (kc : ClassId) (cc0 : Int32) (cc1 : Int32) (cc2 : Int32) (h0 : Heap) (n0 : Nat) (v : Option Value) (h : Heap) (L : List Loc) : Prop := ∃ bb : Addr, ∃ kb : ClassId, v = some (.ref bb) ∧ Fr n0 L ∧ Keep h0 h [] ∧ h0.size ≤ bb ∧ Arv Z h bb kb .byte (3 : Int32) [(.int (cc0.toInt8.toInt32)), (.int (cc1.toInt8.toInt32)), (.int (cc2.toInt8.toInt32))] (.int (0 : Int32))
set_option maxRecDepth 65536 in
set_option maxHeartbeats 40000000 in
theorem rm_cmp3 (l : Launch) (Z : State) (a0 : Array Value) (hw : ∀ d ∈ tables_1, d.before a0 Z = true) (ws : List Jvm.Cond) (bc : Addr) (kc : ClassId) (cc0 : Int32) (cc1 : Int32) (cc2 : Int32) (h0 : Heap) (n0 : Nat) (O0 : Old Z n0 h0) (P0 : Arv Z h0 bc kc .char (3 : Int32) [(.int cc0), (.int cc1), (.int cc2)] (.int (0 : Int32))) (hc0 : ¬ ((255 : Int32) < cc0)) (hc1 : ¬ ((255 : Int32) < cc1)) (hc2 : ¬ ((255 : Int32) < cc2)) :
    MetFree l (⟨"java/lang/StringUTF16", "compress", "([CII)[B"⟩ : MethodName) (head1 (Jvm.Cond.code (⟨"java/lang/StringUTF16", "compress", "([CII)[B"⟩ : MethodName) jdk_52_method_16_code 6 (some (.array .byte)) :: ws) ({ frames := 1, cells := 1, slots := 3, locals := 18 } : Room)) (fun a U => a = #[(.ref bc), (.int (0 : Int32)), (.int (3 : Int32))] ∧ Z.Warmed39 U.vm ∧ U.heap = h0) (fun _ _ _ _ _ => True) (fun _ U o U' => ∃ v L, o = .returned v ∧ Q_cmp3 Z bc kc cc0 cc1 cc2 h0 n0 v U'.heap L ∧ FrameEnd U o U' L ({ frames := 1, cells := 1, slots := 3, locals := 18 } : Room).cells ({ frames := 1, cells := 1, slots := 3, locals := 18 } : Room).slots) := by
  refine MetFree.of_bodySF (plainFor_of_name pn_java_lang_StringUTF16) hisR ?_
  intro p e s m args below meth c s₁ Bd hml0 hP hK
  obtain ⟨rfl, hZ, hh⟩ := hP
  have hx := Bd.exec
  have hby := Bd.bytes
  have hml : c.maxLocals = 6 := hml0
  have hown : s.vm.findClass "java/lang/StringUTF16" = some m.cls := findClass_of_methodNamed Bd.named
  have hnm := (name_of_methodNamed Bd.named Bd.method).1
  have hlk : meth.locks = false := BodyLoose.notSynchronized Bd
  have X0 : Stand p l e ({ frames := 1, cells := 1, slots := 3, locals := 18 } : Room) s m #[(.ref bc), (.int (0 : Int32)), (.int (3 : Int32))] below meth c s₁ [] 0 0 := Stand.of_body Bd
  have e0 : s₁.heap = h0 := by rw [← hh, Bd.state]; rfl
  have N0 := Fr.nil n0
  have K0 := Keep.refl h0 []
  rw [ef_cmp3 m bc]
  show Go p e below s (fun v h L => Q_cmp3 Z bc kc cc0 cc1 cc2 h0 n0 v h L) ({ frames := 1, cells := 1, slots := 3, locals := 18 } : Room).cells ({ frames := 1, cells := 1, slots := 3, locals := 18 } : Room).slots s₁ (mkF m 0 #[.val (.ref bc), .val (.int (0 : Int32)), .val (.int (3 : Int32)), .unset, .unset, .unset] [])
  refine Go.step (T' := s₁) (f' := (mkF m 1 #[.val (.ref bc), .val (.int (0 : Int32)), .val (.int (3 : Int32)), .unset, .unset, .unset] [(.int (3 : Int32))])) (fun t k => XS.iloadN X0.here hx rfl (hb hby d5_0) rfl k) ?_
  obtain ⟨T199, h199, k199, X199, e199, E199, A199, Y199, st199⟩ := newPE X0 hx hZ (hw _ (List.mem_of_getElem? (i := 23) rfl)) e0 (g := (mkF m 1 #[.val (.ref bc), .val (.int (0 : Int32)), .val (.int (3 : Int32)), .unset, .unset, .unset] [(.int (3 : Int32))])) rfl (hb hby d5_1) rfl (by decide) (cap := 3) (by decide) (by decide) (by decide) (by decide) (ad := "[B") (by decide)
  obtain ⟨b199, g199⟩ : ∃ z, z = h0.size := ⟨_, rfl⟩
  rw [← g199] at A199 Y199 st199
  have g200 : n0 ≤ b199 := Nat.le_trans (own_old_le O0) (Nat.le_of_eq g199.symm)
  have g201 : h0.size ≤ b199 := Nat.le_trans K0.1 (Nat.le_of_eq g199.symm)
  have ne202 : bc ≠ b199 := Nat.ne_of_lt (Nat.lt_of_lt_of_le P0.lt (Nat.le_of_eq g199.symm))
  have f203 := P0.ext E199
  have O204 := O0.ext E199
  have K205 := K0.ext E199
  have f206 : Arv Z h199 b199 k199 .byte (3 : Int32) [(.int (0 : Int32)), (.int (0 : Int32)), (.int (0 : Int32))] (.int (0 : Int32)) := (Arv.new A199 (by decide)).pad (pad_rep [] (.int (0 : Int32)) 3)
  refine Go.step (T' := T199) (f' := (mkF m 3 #[.val (.ref bc), .val (.int (0 : Int32)), .val (.int (3 : Int32)), .unset, .unset, .unset] [(.ref b199)])) st199 ?_
  clear st199 X0
  refine Go.step (T' := T199) (f' := (mkF m 4 #[.val (.ref bc), .val (.int (0 : Int32)), .val (.int (3 : Int32)), .val (.ref b199), .unset, .unset] [])) (fun t k => XS.astoreN X199.here hx rfl (hb hby d5_3) rfl rfl (l' := #[.val (.ref bc), .val (.int (0 : Int32)), .val (.int (3 : Int32)), .val (.ref b199), .unset, .unset]) rfl k) ?_
  refine Go.step (T' := T199) (f' := (mkF m 5 #[.val (.ref bc), .val (.int (0 : Int32)), .val (.int (3 : Int32)), .val (.ref b199), .unset, .unset] [(.ref bc)])) (fun t k => XS.aloadN X199.here hx rfl (hb hby d5_4) rfl rfl k) ?_
  refine Go.step (T' := T199) (f' := (mkF m 6 #[.val (.ref bc), .val (.int (0 : Int32)), .val (.int (3 : Int32)), .val (.ref b199), .unset, .unset] [(.int (0 : Int32)), (.ref bc)])) (fun t k => XS.iloadN X199.here hx rfl (hb hby d5_5) rfl k) ?_
  refine Go.step (T' := T199) (f' := (mkF m 7 #[.val (.ref bc), .val (.int (0 : Int32)), .val (.int (3 : Int32)), .val (.ref b199), .unset, .unset] [(.ref b199), (.int (0 : Int32)), (.ref bc)])) (fun t k => XS.aloadN X199.here hx rfl (hb hby d5_6) rfl rfl k) ?_
  refine Go.step (T' := T199) (f' := (mkF m 8 #[.val (.ref bc), .val (.int (0 : Int32)), .val (.int (3 : Int32)), .val (.ref b199), .unset, .unset] [(.int (0 : Int32)), (.ref b199), (.int (0 : Int32)), (.ref bc)])) (fun t k => XS.iconst X199.here hx rfl (hb hby d5_7) k) ?_
  refine Go.step (T' := T199) (f' := (mkF m 9 #[.val (.ref bc), .val (.int (0 : Int32)), .val (.int (3 : Int32)), .val (.ref b199), .unset, .unset] [(.int (3 : Int32)), (.int (0 : Int32)), (.ref b199), (.int (0 : Int32)), (.ref bc)])) (fun t k => XS.iloadN X199.here hx rfl (hb hby d5_8) rfl k) ?_
  obtain ⟨_, _, ⟨T207, L207, k207, n207⟩, -, X207, ⟨Lc207, hQ207, l207, y207, z207⟩, st207⟩ := Jvm.LawKit.callS X199 hx (y := (⟨"java/lang/StringUTF16", "compress", "([CI[BII)I"⟩ : MethodName)) hown (mvT hZ (hw _ (List.mem_of_getElem? (i := 24) rfl))) (mvT hZ (hw _ (List.mem_of_getElem? (i := 25) rfl))) (mvT hZ (hw _ (List.mem_of_getElem? (i := 21) rfl))) (mvT hZ (hw _ (List.mem_of_getElem? (i := 26) rfl))) (by decide) (backOf (W := 0) (rm_cpr3 l Z a0 hw [] bc b199 kc cc0 cc1 cc2 k199 h199 n0 O204 f203 f206 g200 ne202 hc0 hc1 hc2) hZ (hw _ (List.mem_of_getElem? (i := 26) rfl)) (hw _ (List.mem_of_getElem? (i := 21) rfl)) (by decide) (by decide)) (g := (mkF m 9 #[.val (.ref bc), .val (.int (0 : Int32)), .val (.int (3 : Int32)), .val (.ref b199), .unset, .unset] [(.int (3 : Int32)), (.int (0 : Int32)), (.ref b199), (.int (0 : Int32)), (.ref bc)])) rfl (by rw [hml]; rfl) (argsL := [(.ref bc), (.int (0 : Int32)), (.ref b199), (.int (0 : Int32)), (.int (3 : Int32))]) (rest := []) (lenOf pd0 rfl) rfl (by show 2 * 0 + _ ≤ _; exact Nat.le_of_eq rfl) (hb hby d5_9) (fun _ _ => ⟨rfl, e199, (by decide : 1 + 0 ≤ _), (by decide : 3 + 0 ≤ _)⟩)
  dsimp only [Pt.U, Pt.locs, Pt.cells, Pt.slots] at X207 l207 y207 z207 st207 hQ207
  subst l207 y207 z207
  obtain ⟨rfl, Nq207, hh207, p208⟩ := hQ207
  have N209 := Fr.app N0 Nq207
  have f210 := f203.keep hh207 (ninS ne202 nin0)
  have f211 := Y199.keep hh207
  have O212 := O204.keep hh207 (allS g200 all0)
  have K213 := K205.trans hh207 (allS (Or.inr g201) all0)
  refine Go.step (T' := T207) (f' := (mkF m 12 #[.val (.ref bc), .val (.int (0 : Int32)), .val (.int (3 : Int32)), .val (.ref b199), .unset, .unset] [(.int (3 : Int32))])) st207 ?_
  clear st207 X199 Nq207
  refine Go.step (T' := T207) (f' := (mkF m 14 #[.val (.ref bc), .val (.int (0 : Int32)), .val (.int (3 : Int32)), .val (.ref b199), .val (.int (3 : Int32)), .unset] [])) (fun t k => XS.istore X207.here hx rfl (hb hby d5_12) rfl (l' := #[.val (.ref bc), .val (.int (0 : Int32)), .val (.int (3 : Int32)), .val (.ref b199), .val (.int (3 : Int32)), .unset]) rfl k) ?_
  refine Go.step (T' := T207) (f' := (mkF m 16 #[.val (.ref bc), .val (.int (0 : Int32)), .val (.int (3 : Int32)), .val (.ref b199), .val (.int (3 : Int32)), .unset] [(.int (3 : Int32))])) (fun t k => XS.iload X207.here hx rfl (hb hby d5_14) rfl k) ?_
  refine Go.step (T' := T207) (f' := (mkF m 17 #[.val (.ref bc), .val (.int (0 : Int32)), .val (.int (3 : Int32)), .val (.ref b199), .val (.int (3 : Int32)), .unset] [(.int (3 : Int32)), (.int (3 : Int32))])) (fun t k => XS.iloadN X207.here hx rfl (hb hby d5_16) rfl k) ?_
  refine Go.step (T' := T207) (f' := (mkF m 57 #[.val (.ref bc), .val (.int (0 : Int32)), .val (.int (3 : Int32)), .val (.ref b199), .val (.int (3 : Int32)), .unset] [])) (fun t k => XS.icmpYes X207.here hx rfl (pc0 := 17) (pc' := 57) rfl (hb hby d5_17) rfl (teq (by decide : (3 : Int32) = (3 : Int32))).1 (by decide) (by decide) k) ?_
  refine Go.step (T' := T207) (f' := (mkF m 58 #[.val (.ref bc), .val (.int (0 : Int32)), .val (.int (3 : Int32)), .val (.ref b199), .val (.int (3 : Int32)), .unset] [(.ref b199)])) (fun t k => XS.aloadN X207.here hx rfl (hb hby d5_57) rfl rfl k) ?_
  refine Go.retA X207 hx hlk Bd.returns rfl rfl (hb hby d5_58) rfl ?_ (by decide) (by decide)
  exact ⟨b199, k199, rfl, N209, K213, g201, p208⟩
theorem ef_cod3 (m : MethodId) (bb : Addr) : entryFrame m #[(.ref bb), (.int (3 : Int32))] 2 = mkF m 0 #[.val (.ref bb), .val (.int (3 : Int32))] [] := by first | (simp [entryFrame, mkF, argsToLocals, Value.category]; done) | rfl
def Q_cod3 (Z : State) (bb : Addr) (kb : ClassId) (v0 : Int32) (v1 : Int32) (v2 : Int32) (h0 : Heap) (n0 : Nat) (v : Option Value) (h : Heap) (L : List Loc) : Prop := v = some (.int (0 : Int32)) ∧ Fr n0 L ∧ h = h0
set_option maxRecDepth 65536 in
set_option maxHeartbeats 40000000 in
theorem rm_cod3 (l : Launch) (Z : State) (a0 : Array Value) (hw : ∀ d ∈ tables_1, d.before a0 Z = true) (ws : List Jvm.Cond) (bb : Addr) (kb : ClassId) (v0 : Int32) (v1 : Int32) (v2 : Int32) (h0 : Heap) (n0 : Nat) (O0 : Old Z n0 h0) (P0 : Arv Z h0 bb kb .byte (3 : Int32) [(.int v0), (.int v1), (.int v2)] (.int (0 : Int32))) :
    MetFree l (⟨"java/lang/StringUTF16", "coderFromArrayLen", "([BI)B"⟩ : MethodName) (head1 (Jvm.Cond.code (⟨"java/lang/StringUTF16", "coderFromArrayLen", "([BI)B"⟩ : MethodName) jdk_52_method_15_code 2 (some .byte) :: ws) ({ frames := 0, cells := 0, slots := 0, locals := 0 } : Room)) (fun a U => a = #[(.ref bb), (.int (3 : Int32))] ∧ Z.Warmed39 U.vm ∧ U.heap = h0) (fun _ _ _ _ _ => True) (fun _ U o U' => ∃ v L, o = .returned v ∧ Q_cod3 Z bb kb v0 v1 v2 h0 n0 v U'.heap L ∧ FrameEnd U o U' L ({ frames := 0, cells := 0, slots := 0, locals := 0 } : Room).cells ({ frames := 0, cells := 0, slots := 0, locals := 0 } : Room).slots) := by
  refine MetFree.of_bodySF (plainFor_of_name pn_java_lang_StringUTF16) hisR ?_
  intro p e s m args below meth c s₁ Bd hml0 hP hK
  obtain ⟨rfl, hZ, hh⟩ := hP
  have hx := Bd.exec
  have hby := Bd.bytes
  have hml : c.maxLocals = 2 := hml0
  have hown : s.vm.findClass "java/lang/StringUTF16" = some m.cls := findClass_of_methodNamed Bd.named
  have hnm := (name_of_methodNamed Bd.named Bd.method).1
  have hlk : meth.locks = false := BodyLoose.notSynchronized Bd
  have X0 : Stand p l e ({ frames := 0, cells := 0, slots := 0, locals := 0 } : Room) s m #[(.ref bb), (.int (3 : Int32))] below meth c s₁ [] 0 0 := Stand.of_body Bd
  have e0 : s₁.heap = h0 := by rw [← hh, Bd.state]; rfl
  have N0 := Fr.nil n0
  rw [ef_cod3 m bb]
  show Go p e below s (fun v h L => Q_cod3 Z bb kb v0 v1 v2 h0 n0 v h L) ({ frames := 0, cells := 0, slots := 0, locals := 0 } : Room).cells ({ frames := 0, cells := 0, slots := 0, locals := 0 } : Room).slots s₁ (mkF m 0 #[.val (.ref bb), .val (.int (3 : Int32))] [])
  refine Go.step (T' := s₁) (f' := (mkF m 1 #[.val (.ref bb), .val (.int (3 : Int32))] [(.int (3 : Int32))])) (fun t k => XS.iloadN X0.here hx rfl (hb hby d7_0) rfl k) ?_
  refine Go.step (T' := s₁) (f' := (mkF m 2 #[.val (.ref bb), .val (.int (3 : Int32))] [(.ref bb), (.int (3 : Int32))])) (fun t k => XS.aloadN X0.here hx rfl (hb hby d7_1) rfl rfl k) ?_
  obtain ⟨ca214, Aa214, qa214, Sa214, Na214, Ha214, Ga214⟩ := id P0
  refine Go.step (T' := s₁) (f' := (mkF m 3 #[.val (.ref bb), .val (.int (3 : Int32))] [(.int (3 : Int32)), (.int (3 : Int32))])) (fun t k => own_alen X0 hx hZ e0 Aa214 Sa214 Na214 (g := (mkF m 2 #[.val (.ref bb), .val (.int (3 : Int32))] [(.ref bb), (.int (3 : Int32))])) rfl rfl (hb hby d7_2) k) ?_
  refine Go.step (T' := s₁) (f' := (mkF m 4 #[.val (.ref bb), .val (.int (3 : Int32))] [(.int ((3 : Int32) - (3 : Int32)))])) (fun t k => XS.isub X0.here hx rfl (hb hby d7_3) rfl k) ?_
  rw [show ((3 : Int32) - (3 : Int32)) = (0 : Int32) from by decide]
  refine Go.step (T' := s₁) (f' := (mkF m 6 #[.val (.ref bb), .val (.int (3 : Int32))] [(.int (31 : Int32)), (.int (0 : Int32))])) (fun t k => XS.bipush X0.here hx rfl (hb hby d7_4) k) ?_
  refine Go.step (T' := s₁) (f' := (mkF m 7 #[.val (.ref bb), .val (.int (3 : Int32))] [(.int (((0 : Int32).toUInt32 >>> ((31 : Int32) &&& 31).toUInt32).toInt32))])) (fun t k => XS.iushr X0.here hx rfl (hb hby d7_6) rfl k) ?_
  rw [show (((0 : Int32).toUInt32 >>> ((31 : Int32) &&& 31).toUInt32).toInt32) = (0 : Int32) from by decide]
  refine Go.step (T' := s₁) (f' := (mkF m 8 #[.val (.ref bb), .val (.int (3 : Int32))] [(.int ((0 : Int32).toInt8.toInt32))])) (fun t k => XS.i2b X0.here hx rfl (hb hby d7_7) rfl k) ?_
  rw [show ((0 : Int32).toInt8.toInt32) = (0 : Int32) from by decide]
  refine Go.retZ X0 hx hlk (t := .byte) Bd.returns (by simp) (hb hby d7_8) e0 ?_ (by decide) (by decide)
  exact ⟨rfl, N0, rfl⟩
theorem ef_ini4_3 (m : MethodId) (ba : Addr) (bc : Addr) : entryFrame m #[(.ref ba), (.ref bc), (.int (0 : Int32)), (.int (3 : Int32)), .null] 6 = mkF m 0 #[.val (.ref ba), .val (.ref bc), .val (.int (0 : Int32)), .val (.int (3 : Int32)), .val .null, .unset] [] := by first | (simp [entryFrame, mkF, argsToLocals, Value.category]; done) | rfl
def Q_ini4_3 (Z : State) (ba : Addr) (bc : Addr) (kc : ClassId) (cc0 : Int32) (cc1 : Int32) (cc2 : Int32) (u0 : Value) (u1 : Value) (wz : Int32) (h0 : Heap) (n0 : Nat) (v : Option Value) (h : Heap) (L : List Loc) : Prop := ∃ bb : Addr, ∃ kb : ClassId, v = none ∧ Fr n0 L ∧ Keep h0 h [ba] ∧ Exa Z h ba "java/lang/String" ∧ Fld Z h ba "java/lang/String" "value" "[B" (.ref bb) ∧ Fld Z h ba "java/lang/String" "coder" "B" (.int (0 : Int32)) ∧ h0.size ≤ bb ∧ Arv Z h bb kb .byte (3 : Int32) [(.int (cc0.toInt8.toInt32)), (.int (cc1.toInt8.toInt32)), (.int (cc2.toInt8.toInt32))] (.int (0 : Int32))
set_option maxRecDepth 65536 in
set_option maxHeartbeats 40000000 in
theorem rm_ini4_3 (l : Launch) (Z : State) (a0 : Array Value) (hw : ∀ d ∈ tables_1, d.before a0 Z = true) (ws : List Jvm.Cond) (ba : Addr) (bc : Addr) (kc : ClassId) (cc0 : Int32) (cc1 : Int32) (cc2 : Int32) (u0 : Value) (u1 : Value) (wz : Int32) (h0 : Heap) (n0 : Nat) (O0 : Old Z n0 h0) (P0 : Exa Z h0 ba "java/lang/String") (P1 : Fld Z h0 ba "java/lang/String" "value" "[B" u0) (P2 : Fld Z h0 ba "java/lang/String" "coder" "B" u1) (P3 : n0 ≤ ba) (P4 : Arv Z h0 bc kc .char (3 : Int32) [(.int cc0), (.int cc1), (.int cc2)] (.int (0 : Int32))) (P5 : bc ≠ ba) (P6 : Sta Z Z.heap "java/lang/String" "COMPACT_STRINGS" "Z" (.int wz)) (hwz : ¬ (wz = (0 : Int32))) (hc0 : ¬ ((255 : Int32) < cc0)) (hc1 : ¬ ((255 : Int32) < cc1)) (hc2 : ¬ ((255 : Int32) < cc2)) :
    MetFree l (⟨"java/lang/String", "<init>", "([CIILjava/lang/Void;)V"⟩ : MethodName) (head1 (Jvm.Cond.code (⟨"java/lang/String", "<init>", "([CIILjava/lang/Void;)V"⟩ : MethodName) jdk_42_method_149_code 6 none :: ws) ({ frames := 2, cells := 1, slots := 3, locals := 35 } : Room)) (fun a U => a = #[(.ref ba), (.ref bc), (.int (0 : Int32)), (.int (3 : Int32)), .null] ∧ Z.Warmed39 U.vm ∧ U.heap = h0) (fun _ _ _ _ _ => True) (fun _ U o U' => ∃ v L, o = .returned v ∧ Q_ini4_3 Z ba bc kc cc0 cc1 cc2 u0 u1 wz h0 n0 v U'.heap L ∧ FrameEnd U o U' L ({ frames := 2, cells := 1, slots := 3, locals := 35 } : Room).cells ({ frames := 2, cells := 1, slots := 3, locals := 35 } : Room).slots) := by
  refine MetFree.of_bodySF (plainFor_of_name pn_java_lang_String) hisR ?_
  intro p e s m args below meth c s₁ Bd hml0 hP hK
  obtain ⟨rfl, hZ, hh⟩ := hP
  have hx := Bd.exec
  have hby := Bd.bytes
  have hml : c.maxLocals = 6 := hml0
  have hown : s.vm.findClass "java/lang/String" = some m.cls := findClass_of_methodNamed Bd.named
  have hnm := (name_of_methodNamed Bd.named Bd.method).1
  have hlk : meth.locks = false := BodyLoose.notSynchronized Bd
  have X0 : Stand p l e ({ frames := 2, cells := 1, slots := 3, locals := 35 } : Room) s m #[(.ref ba), (.ref bc), (.int (0 : Int32)), (.int (3 : Int32)), .null] below meth c s₁ [] 0 0 := Stand.of_body Bd
  have e0 : s₁.heap = h0 := by rw [← hh, Bd.state]; rfl
  have N0 := Fr.nil n0
  have K0 := Keep.refl h0 [ba]
  rw [ef_ini4_3 m ba bc]
  show Go p e below s (fun v h L => Q_ini4_3 Z ba bc kc cc0 cc1 cc2 u0 u1 wz h0 n0 v h L) ({ frames := 2, cells := 1, slots := 3, locals := 35 } : Room).cells ({ frames := 2, cells := 1, slots := 3, locals := 35 } : Room).slots s₁ (mkF m 0 #[.val (.ref ba), .val (.ref bc), .val (.int (0 : Int32)), .val (.int (3 : Int32)), .val .null, .unset] [])
  refine Go.step (T' := s₁) (f' := (mkF m 1 #[.val (.ref ba), .val (.ref bc), .val (.int (0 : Int32)), .val (.int (3 : Int32)), .val .null, .unset] [(.ref ba)])) (fun t k => XS.aloadN X0.here hx rfl (hb hby d3_0) rfl rfl k) ?_
  obtain ⟨T215, X215, e215, st215⟩ := initO X0 hx hZ hown (hw _ (List.mem_of_getElem? (i := 15) rfl)) (hw _ (List.mem_of_getElem? (i := 16) rfl)) (hw _ (List.mem_of_getElem? (i := 17) rfl)) e0 (g := (mkF m 1 #[.val (.ref ba), .val (.ref bc), .val (.int (0 : Int32)), .val (.int (3 : Int32)), .val .null, .unset] [(.ref ba)])) rfl (by rw [hml]; rfl) rfl (hb hby d3_1) (by decide) (W := 0) (by show 2 * 0 + _ ≤ _; exact Nat.le_of_eq rfl) (by decide)
  refine Go.step (T' := T215) (f' := (mkF m 4 #[.val (.ref ba), .val (.ref bc), .val (.int (0 : Int32)), .val (.int (3 : Int32)), .val .null, .unset] [])) st215 ?_
  clear st215 X0
  refine Go.step (T' := T215) (f' := (mkF m 5 #[.val (.ref ba), .val (.ref bc), .val (.int (0 : Int32)), .val (.int (3 : Int32)), .val .null, .unset] [(.int (3 : Int32))])) (fun t k => XS.iloadN X215.here hx rfl (hb hby d3_4) rfl k) ?_
  refine Go.step (T' := T215) (f' := (mkF m 27 #[.val (.ref ba), .val (.ref bc), .val (.int (0 : Int32)), .val (.int (3 : Int32)), .val .null, .unset] [])) (fun t k => XS.ifYes X215.here hx rfl (pc0 := 5) (pc' := 27) rfl (hb hby d3_5) rfl ((if0 _ _).trans (feq (by decide : ¬ ((3 : Int32) = (0 : Int32)))).2) (by decide) (by decide) k) ?_
  obtain ⟨T216, X216, e216, st216⟩ := getS2 X215 hx hZ hown (host := "") (Or.inl (hw _ (List.mem_of_getElem? (i := 18) rfl))) Via.refl e215 (P6.ext O0.2) (g := (mkF m 27 #[.val (.ref ba), .val (.ref bc), .val (.int (0 : Int32)), .val (.int (3 : Int32)), .val .null, .unset] [])) rfl (hb hby d3_27)
  refine Go.step (T' := T216) (f' := (mkF m 30 #[.val (.ref ba), .val (.ref bc), .val (.int (0 : Int32)), .val (.int (3 : Int32)), .val .null, .unset] [(.int wz)])) st216 ?_
  clear st216 X215
  refine Go.step (T' := T216) (f' := (mkF m 33 #[.val (.ref ba), .val (.ref bc), .val (.int (0 : Int32)), .val (.int (3 : Int32)), .val .null, .unset] [])) (fun t k => XS.ifNo X216.here hx rfl (hb hby d3_30) rfl ((if0 _ _).trans (feq hwz).1) k) ?_
  refine Go.step (T' := T216) (f' := (mkF m 34 #[.val (.ref ba), .val (.ref bc), .val (.int (0 : Int32)), .val (.int (3 : Int32)), .val .null, .unset] [(.ref bc)])) (fun t k => XS.aloadN X216.here hx rfl (hb hby d3_33) rfl rfl k) ?_
  refine Go.step (T' := T216) (f' := (mkF m 35 #[.val (.ref ba), .val (.ref bc), .val (.int (0 : Int32)), .val (.int (3 : Int32)), .val .null, .unset] [(.int (0 : Int32)), (.ref bc)])) (fun t k => XS.iloadN X216.here hx rfl (hb hby d3_34) rfl k) ?_
  refine Go.step (T' := T216) (f' := (mkF m 36 #[.val (.ref ba), .val (.ref bc), .val (.int (0 : Int32)), .val (.int (3 : Int32)), .val .null, .unset] [(.int (3 : Int32)), (.int (0 : Int32)), (.ref bc)])) (fun t k => XS.iloadN X216.here hx rfl (hb hby d3_35) rfl k) ?_
  obtain ⟨_, _, ⟨T217, L217, k217, n217⟩, -, X217, ⟨Lc217, hQ217, l217, y217, z217⟩, st217⟩ := Jvm.LawKit.callS X216 hx (y := (⟨"java/lang/StringUTF16", "compress", "([CII)[B"⟩ : MethodName)) hown (mvT hZ (hw _ (List.mem_of_getElem? (i := 19) rfl))) (mvT hZ (hw _ (List.mem_of_getElem? (i := 20) rfl))) (mvT hZ (hw _ (List.mem_of_getElem? (i := 21) rfl))) (mvT hZ (hw _ (List.mem_of_getElem? (i := 22) rfl))) (by decide) (backOf (W := 0) (rm_cmp3 l Z a0 hw [] bc kc cc0 cc1 cc2 h0 n0 O0 P4 hc0 hc1 hc2) hZ (hw _ (List.mem_of_getElem? (i := 22) rfl)) (hw _ (List.mem_of_getElem? (i := 21) rfl)) (by decide) (by decide)) (g := (mkF m 36 #[.val (.ref ba), .val (.ref bc), .val (.int (0 : Int32)), .val (.int (3 : Int32)), .val .null, .unset] [(.int (3 : Int32)), (.int (0 : Int32)), (.ref bc)])) rfl (by rw [hml]; rfl) (argsL := [(.ref bc), (.int (0 : Int32)), (.int (3 : Int32))]) (rest := []) (lenOf pd1 rfl) rfl (by show 2 * 0 + _ ≤ _; exact Nat.le_of_eq rfl) (hb hby d3_36) (fun _ _ => ⟨rfl, e216, (by decide : 0 + 1 ≤ _), (by decide : 0 + 3 ≤ _)⟩)
  dsimp only [Pt.U, Pt.locs, Pt.cells, Pt.slots] at X217 l217 y217 z217 st217 hQ217
  subst l217 y217 z217
  obtain ⟨u218, u219, rfl, Nq217, hh217, p220, p221⟩ := hQ217
  have N222 := Fr.app N0 Nq217
  have f223 := P0.keep hh217
  have f224 := P1.keep hh217 nin0
  have f225 := P2.keep hh217 nin0
  have f226 := P4.keep hh217 nin0
  have O227 := O0.keep hh217 all0
  have K228 := K0.trans hh217 all0
  have g229 : n0 ≤ u218 := Nat.le_trans (own_old_le O0) p220
  have g230 : h0.size ≤ u218 := Nat.le_trans K0.1 p220
  have ne231 : ba ≠ u218 := Nat.ne_of_lt (Nat.lt_of_lt_of_le P0.lt p220)
  have ne232 : bc ≠ u218 := Nat.ne_of_lt (Nat.lt_of_lt_of_le P4.lt p220)
  refine Go.step (T' := T217) (f' := (mkF m 39 #[.val (.ref ba), .val (.ref bc), .val (.int (0 : Int32)), .val (.int (3 : Int32)), .val .null, .unset] [(.ref u218)])) st217 ?_
  clear st217 X216 Nq217
  refine Go.step (T' := T217) (f' := (mkF m 41 #[.val (.ref ba), .val (.ref bc), .val (.int (0 : Int32)), .val (.int (3 : Int32)), .val .null, .val (.ref u218)] [])) (fun t k => XS.astore X217.here hx rfl (hb hby d3_39) rfl rfl (l' := #[.val (.ref ba), .val (.ref bc), .val (.int (0 : Int32)), .val (.int (3 : Int32)), .val .null, .val (.ref u218)]) rfl k) ?_
  refine Go.step (T' := T217) (f' := (mkF m 42 #[.val (.ref ba), .val (.ref bc), .val (.int (0 : Int32)), .val (.int (3 : Int32)), .val .null, .val (.ref u218)] [(.ref ba)])) (fun t k => XS.aloadN X217.here hx rfl (hb hby d3_41) rfl rfl k) ?_
  refine Go.step (T' := T217) (f' := (mkF m 44 #[.val (.ref ba), .val (.ref bc), .val (.int (0 : Int32)), .val (.int (3 : Int32)), .val .null, .val (.ref u218)] [(.ref u218), (.ref ba)])) (fun t k => XS.aload X217.here hx rfl (hb hby d3_42) rfl rfl k) ?_
  refine Go.step (T' := T217) (f' := (mkF m 45 #[.val (.ref ba), .val (.ref bc), .val (.int (0 : Int32)), .val (.int (3 : Int32)), .val .null, .val (.ref u218)] [(.int (3 : Int32)), (.ref u218), (.ref ba)])) (fun t k => XS.iloadN X217.here hx rfl (hb hby d3_44) rfl k) ?_
  obtain ⟨_, _, ⟨T233, L233, k233, n233⟩, -, X233, ⟨Lc233, hQ233, l233, y233, z233⟩, st233⟩ := Jvm.LawKit.callS X217 hx (y := (⟨"java/lang/StringUTF16", "coderFromArrayLen", "([BI)B"⟩ : MethodName)) hown (mvT hZ (hw _ (List.mem_of_getElem? (i := 27) rfl))) (mvT hZ (hw _ (List.mem_of_getElem? (i := 28) rfl))) (mvT hZ (hw _ (List.mem_of_getElem? (i := 21) rfl))) (mvT hZ (hw _ (List.mem_of_getElem? (i := 29) rfl))) (by decide) (backOf (W := 1) (rm_cod3 l Z a0 hw [] u218 u219 (cc0.toInt8.toInt32) (cc1.toInt8.toInt32) (cc2.toInt8.toInt32) T217.heap n0 O227 p221) hZ (hw _ (List.mem_of_getElem? (i := 29) rfl)) (hw _ (List.mem_of_getElem? (i := 21) rfl)) (by decide) (by decide)) (g := (mkF m 45 #[.val (.ref ba), .val (.ref bc), .val (.int (0 : Int32)), .val (.int (3 : Int32)), .val .null, .val (.ref u218)] [(.int (3 : Int32)), (.ref u218), (.ref ba)])) rfl (by rw [hml]; rfl) (argsL := [(.ref u218), (.int (3 : Int32))]) (rest := [(.ref ba)]) (lenOf pd2 rfl) rfl (by show 2 * 0 + _ ≤ _; exact Nat.le_of_eq rfl) (hb hby d3_45) (fun _ _ => ⟨rfl, rfl, (by decide : 1 + 0 ≤ _), (by decide : 3 + 0 ≤ _)⟩)
  dsimp only [Pt.U, Pt.locs, Pt.cells, Pt.slots] at X233 l233 y233 z233 st233 hQ233
  subst l233 y233 z233
  obtain ⟨rfl, Nq233, hh233⟩ := hQ233
  have N234 := Fr.app N222 Nq233
  refine Go.step (T' := T233) (f' := (mkF m 48 #[.val (.ref ba), .val (.ref bc), .val (.int (0 : Int32)), .val (.int (3 : Int32)), .val .null, .val (.ref u218)] [(.int (0 : Int32)), (.ref ba)])) st233 ?_
  clear st233 X217 N222 Nq233
  obtain ⟨T235, h235, X235, e235, W235, st235⟩ := putFN X233 hx hZ hown (hw _ (List.mem_of_getElem? (i := 30) rfl)) Via.refl hh233 f225 f223 (Or.inr ⟨(hw _ (List.mem_of_getElem? (i := 31) rfl)), rfl, hnm⟩) (hw _ (List.mem_of_getElem? (i := 5) rfl)) (ty := .byte) (v' := (.int (0 : Int32))) (by decide) rfl (by decide) (g := (mkF m 48 #[.val (.ref ba), .val (.ref bc), .val (.int (0 : Int32)), .val (.int (3 : Int32)), .val .null, .val (.ref u218)] [(.int (0 : Int32)), (.ref ba)])) rfl rfl (hb hby d3_48)
  have f236 := f225.same W235
  have f237 := f223.wr W235
  have f238 := f224.other W235 (Or.inr (slot_ne (Or.inr (hw _ (List.mem_of_getElem? (i := 33) rfl))) (Or.inr (hw _ (List.mem_of_getElem? (i := 31) rfl))) (by decide) (t := (.array .byte)) (t' := .byte) (by decide) (by decide)))
  have f239 := f226.other W235 P5
  have f240 := p221.other W235 (Ne.symm ne231)
  have O241 := O227.wr W235 P3
  have K242 := K228.wr W235 (Or.inl (List.mem_of_getElem? (i := 0) rfl))
  have N243 := Fr.snoc X235 N234 P3
  refine Go.step (T' := T235) (f' := (mkF m 51 #[.val (.ref ba), .val (.ref bc), .val (.int (0 : Int32)), .val (.int (3 : Int32)), .val .null, .val (.ref u218)] [])) st235 ?_
  clear st235 X233 f223 f224 f226 p221 O227 K228 N234
  refine Go.step (T' := T235) (f' := (mkF m 52 #[.val (.ref ba), .val (.ref bc), .val (.int (0 : Int32)), .val (.int (3 : Int32)), .val .null, .val (.ref u218)] [(.ref ba)])) (fun t k => XS.aloadN X235.here hx rfl (hb hby d3_51) rfl rfl k) ?_
  refine Go.step (T' := T235) (f' := (mkF m 54 #[.val (.ref ba), .val (.ref bc), .val (.int (0 : Int32)), .val (.int (3 : Int32)), .val .null, .val (.ref u218)] [(.ref u218), (.ref ba)])) (fun t k => XS.aload X235.here hx rfl (hb hby d3_52) rfl rfl k) ?_
  obtain ⟨T244, h244, X244, e244, W244, st244⟩ := putF X235 hx hZ hown (host := "") (Or.inl (hw _ (List.mem_of_getElem? (i := 32) rfl))) Via.refl e235 f238 f237 (Or.inr ⟨(hw _ (List.mem_of_getElem? (i := 33) rfl)), rfl, hnm⟩) (hw _ (List.mem_of_getElem? (i := 5) rfl)) (ty := (.array .byte)) (by decide) rfl rfl (g := (mkF m 54 #[.val (.ref ba), .val (.ref bc), .val (.int (0 : Int32)), .val (.int (3 : Int32)), .val .null, .val (.ref u218)] [(.ref u218), (.ref ba)])) rfl rfl (hb hby d3_54)
  have f245 := f238.same W244
  have f246 := f237.wr W244
  have f247 := f239.other W244 P5
  have f248 := f240.other W244 (Ne.symm ne231)
  have f249 := f236.other W244 (Or.inr (slot_ne (Or.inr (hw _ (List.mem_of_getElem? (i := 31) rfl))) (Or.inr (hw _ (List.mem_of_getElem? (i := 33) rfl))) (by decide) (t := .byte) (t' := (.array .byte)) (by decide) (by decide)))
  have O250 := O241.wr W244 P3
  have K251 := K242.wr W244 (Or.inl (List.mem_of_getElem? (i := 0) rfl))
  have N252 := Fr.snoc X244 N243 P3
  refine Go.step (T' := T244) (f' := (mkF m 57 #[.val (.ref ba), .val (.ref bc), .val (.int (0 : Int32)), .val (.int (3 : Int32)), .val .null, .val (.ref u218)] [])) st244 ?_
  clear st244 X235 f237 f239 f240 f236 O241 K242 N243
  refine Go.retV X244 hx hlk Bd.returns (hb hby d3_57) e244 ?_ (by decide) (by decide)
  exact ⟨u218, u219, rfl, N252, K251, f246, f245, f249, g230, f248⟩
theorem ef_ini1_3 (m : MethodId) (ba : Addr) (bc : Addr) : entryFrame m #[(.ref ba), (.ref bc)] 2 = mkF m 0 #[.val (.ref ba), .val (.ref bc)] [] := by first | (simp [entryFrame, mkF, argsToLocals, Value.category]; done) | rfl
def Q_ini1_3 (Z : State) (ba : Addr) (bc : Addr) (kc : ClassId) (cc0 : Int32) (cc1 : Int32) (cc2 : Int32) (u0 : Value) (u1 : Value) (wz : Int32) (h0 : Heap) (n0 : Nat) (v : Option Value) (h : Heap) (L : List Loc) : Prop := ∃ bb : Addr, ∃ kb : ClassId, v = none ∧ Fr n0 L ∧ Keep h0 h [ba] ∧ Exa Z h ba "java/lang/String" ∧ Fld Z h ba "java/lang/String" "value" "[B" (.ref bb) ∧ Fld Z h ba "java/lang/String" "coder" "B" (.int (0 : Int32)) ∧ h0.size ≤ bb ∧ Arv Z h bb kb .byte (3 : Int32) [(.int (cc0.toInt8.toInt32)), (.int (cc1.toInt8.toInt32)), (.int (cc2.toInt8.toInt32))] (.int (0 : Int32))
set_option maxRecDepth 65536 in
set_option maxHeartbeats 40000000 in
theorem rm_ini1_3 (l : Launch) (Z : State) (a0 : Array Value) (hw : ∀ d ∈ tables_1, d.before a0 Z = true) (ws : List Jvm.Cond) (ba : Addr) (bc : Addr) (kc : ClassId) (cc0 : Int32) (cc1 : Int32) (cc2 : Int32) (u0 : Value) (u1 : Value) (wz : Int32) (h0 : Heap) (n0 : Nat) (O0 : Old Z n0 h0) (P0 : Exa Z h0 ba "java/lang/String") (P1 : Fld Z h0 ba "java/lang/String" "value" "[B" u0) (P2 : Fld Z h0 ba "java/lang/String" "coder" "B" u1) (P3 : n0 ≤ ba) (P4 : Arv Z h0 bc kc .char (3 : Int32) [(.int cc0), (.int cc1), (.int cc2)] (.int (0 : Int32))) (P5 : bc ≠ ba) (P6 : Sta Z Z.heap "java/lang/String" "COMPACT_STRINGS" "Z" (.int wz)) (hwz : ¬ (wz = (0 : Int32))) (hc0 : ¬ ((255 : Int32) < cc0)) (hc1 : ¬ ((255 : Int32) < cc1)) (hc2 : ¬ ((255 : Int32) < cc2)) :
    MetFree l (⟨"java/lang/String", "<init>", "([C)V"⟩ : MethodName) (head1 (Jvm.Cond.code (⟨"java/lang/String", "<init>", "([C)V"⟩ : MethodName) jdk_42_method_3_code 2 none :: ws) ({ frames := 3, cells := 1, slots := 3, locals := 52 } : Room)) (fun a U => a = #[(.ref ba), (.ref bc)] ∧ Z.Warmed39 U.vm ∧ U.heap = h0) (fun _ _ _ _ _ => True) (fun _ U o U' => ∃ v L, o = .returned v ∧ Q_ini1_3 Z ba bc kc cc0 cc1 cc2 u0 u1 wz h0 n0 v U'.heap L ∧ FrameEnd U o U' L ({ frames := 3, cells := 1, slots := 3, locals := 52 } : Room).cells ({ frames := 3, cells := 1, slots := 3, locals := 52 } : Room).slots) := by
  refine MetFree.of_bodySF (plainFor_of_name pn_java_lang_String) hisR ?_
  intro p e s m args below meth c s₁ Bd hml0 hP hK
  obtain ⟨rfl, hZ, hh⟩ := hP
  have hx := Bd.exec
  have hby := Bd.bytes
  have hml : c.maxLocals = 2 := hml0
  have hown : s.vm.findClass "java/lang/String" = some m.cls := findClass_of_methodNamed Bd.named
  have hnm := (name_of_methodNamed Bd.named Bd.method).1
  have hlk : meth.locks = false := BodyLoose.notSynchronized Bd
  have X0 : Stand p l e ({ frames := 3, cells := 1, slots := 3, locals := 52 } : Room) s m #[(.ref ba), (.ref bc)] below meth c s₁ [] 0 0 := Stand.of_body Bd
  have e0 : s₁.heap = h0 := by rw [← hh, Bd.state]; rfl
  have N0 := Fr.nil n0
  have K0 := Keep.refl h0 [ba]
  rw [ef_ini1_3 m ba bc]
  show Go p e below s (fun v h L => Q_ini1_3 Z ba bc kc cc0 cc1 cc2 u0 u1 wz h0 n0 v h L) ({ frames := 3, cells := 1, slots := 3, locals := 52 } : Room).cells ({ frames := 3, cells := 1, slots := 3, locals := 52 } : Room).slots s₁ (mkF m 0 #[.val (.ref ba), .val (.ref bc)] [])
  refine Go.step (T' := s₁) (f' := (mkF m 1 #[.val (.ref ba), .val (.ref bc)] [(.ref ba)])) (fun t k => XS.aloadN X0.here hx rfl (hb hby d2_0) rfl rfl k) ?_
  refine Go.step (T' := s₁) (f' := (mkF m 2 #[.val (.ref ba), .val (.ref bc)] [(.ref bc), (.ref ba)])) (fun t k => XS.aloadN X0.here hx rfl (hb hby d2_1) rfl rfl k) ?_
  refine Go.step (T' := s₁) (f' := (mkF m 3 #[.val (.ref ba), .val (.ref bc)] [(.int (0 : Int32)), (.ref bc), (.ref ba)])) (fun t k => XS.iconst X0.here hx rfl (hb hby d2_2) k) ?_
  refine Go.step (T' := s₁) (f' := (mkF m 4 #[.val (.ref ba), .val (.ref bc)] [(.ref bc), (.int (0 : Int32)), (.ref bc), (.ref ba)])) (fun t k => XS.aloadN X0.here hx rfl (hb hby d2_3) rfl rfl k) ?_
  obtain ⟨ca253, Aa253, qa253, Sa253, Na253, Ha253, Ga253⟩ := id P4
  refine Go.step (T' := s₁) (f' := (mkF m 5 #[.val (.ref ba), .val (.ref bc)] [(.int (3 : Int32)), (.int (0 : Int32)), (.ref bc), (.ref ba)])) (fun t k => own_alen X0 hx hZ e0 Aa253 Sa253 Na253 (g := (mkF m 4 #[.val (.ref ba), .val (.ref bc)] [(.ref bc), (.int (0 : Int32)), (.ref bc), (.ref ba)])) rfl rfl (hb hby d2_4) k) ?_
  refine Go.step (T' := s₁) (f' := (mkF m 6 #[.val (.ref ba), .val (.ref bc)] [.null, (.int (3 : Int32)), (.int (0 : Int32)), (.ref bc), (.ref ba)])) (fun t k => XS.aconstNull X0.here hx rfl (hb hby d2_5) k) ?_
  obtain ⟨_, _, ⟨T254, L254, k254, n254⟩, -, X254, ⟨Lc254, hQ254, l254, y254, z254⟩, st254⟩ := X0.specialBack hx (y := (⟨"java/lang/String", "<init>", "([CIILjava/lang/Void;)V"⟩ : MethodName)) rfl hown (mvT hZ (hw _ (List.mem_of_getElem? (i := 11) rfl))) (mvT hZ (hw _ (List.mem_of_getElem? (i := 12) rfl))) (mvT hZ (hw _ (List.mem_of_getElem? (i := 14) rfl))) (by decide) (backOf (W := 0) (rm_ini4_3 l Z a0 hw [] ba bc kc cc0 cc1 cc2 u0 u1 wz h0 n0 O0 P0 P1 P2 P3 P4 P5 P6 hwz hc0 hc1 hc2) hZ (hw _ (List.mem_of_getElem? (i := 14) rfl)) (hw _ (List.mem_of_getElem? (i := 6) rfl)) (by decide) (by decide)) (g := (mkF m 6 #[.val (.ref ba), .val (.ref bc)] [.null, (.int (3 : Int32)), (.int (0 : Int32)), (.ref bc), (.ref ba)])) rfl (by rw [hml]; rfl) (Steps.refl _) (a := ba) (argsL := [(.ref bc), (.int (0 : Int32)), (.int (3 : Int32)), .null]) (rest := []) (lenOf pd3 rfl) rfl (by show 2 * 0 + _ ≤ _; exact Nat.le_of_eq rfl) (hb hby d2_6) (fun _ _ => ⟨rfl, e0, (by decide : 0 + 1 ≤ _), (by decide : 0 + 3 ≤ _)⟩)
  dsimp only [Pt.U, Pt.locs, Pt.cells, Pt.slots] at X254 l254 y254 z254 st254 hQ254
  subst l254 y254 z254
  obtain ⟨u255, u256, rfl, Nq254, hh254, p257, p258, p259, p260, p261⟩ := hQ254
  have N262 := Fr.app N0 Nq254
  have f263 := P0.keep hh254
  have f264 := P4.keep hh254 (ninS P5 nin0)
  have O265 := O0.keep hh254 (allS P3 all0)
  have K266 := K0.trans hh254 (allS (Or.inl (List.mem_of_getElem? (i := 0) rfl)) all0)
  have g267 : n0 ≤ u255 := Nat.le_trans (own_old_le O0) p260
  have g268 : h0.size ≤ u255 := Nat.le_trans K0.1 p260
  have ne269 : ba ≠ u255 := Nat.ne_of_lt (Nat.lt_of_lt_of_le P0.lt p260)
  have ne270 : bc ≠ u255 := Nat.ne_of_lt (Nat.lt_of_lt_of_le P4.lt p260)
  refine Go.via (T' := T254) (f' := (mkF m 9 #[.val (.ref ba), .val (.ref bc)] [])) st254 ?_
  clear st254 X0 Nq254
  refine Go.retV X254 hx hlk Bd.returns (hb hby d2_9) rfl ?_ (by decide) (by decide)
  exact ⟨u255, u256, rfl, N262, K266, p257, p258, p259, g268, p261⟩
theorem d3_8 : decode jdk_42_method_149_code 8 = .ok (.aload_n 0, 1) := by decide +kernel
theorem d3_9 : decode jdk_42_method_149_code 9 = .ok (.ldc 7, 2) := by decide +kernel
theorem d3_11 : decode jdk_42_method_149_code 11 = .ok (.getfield 9, 3) := by decide +kernel
theorem d3_14 : decode jdk_42_method_149_code 14 = .ok (.putfield 9, 3) := by decide +kernel
theorem d3_17 : decode jdk_42_method_149_code 17 = .ok (.aload_n 0, 1) := by decide +kernel
theorem d3_18 : decode jdk_42_method_149_code 18 = .ok (.ldc 7, 2) := by decide +kernel
theorem d3_20 : decode jdk_42_method_149_code 20 = .ok (.getfield 15, 3) := by decide +kernel
theorem d3_23 : decode jdk_42_method_149_code 23 = .ok (.putfield 15, 3) := by decide +kernel
theorem d3_26 : decode jdk_42_method_149_code 26 = .ok (.return_, 1) := by decide +kernel
theorem ef_ini4_0 (m : MethodId) (ba : Addr) (bc : Addr) : entryFrame m #[(.ref ba), (.ref bc), (.int (0 : Int32)), (.int (0 : Int32)), .null] 6 = mkF m 0 #[.val (.ref ba), .val (.ref bc), .val (.int (0 : Int32)), .val (.int (0 : Int32)), .val .null, .unset] [] := by first | (simp [entryFrame, mkF, argsToLocals, Value.category]; done) | rfl
def Q_ini4_0 (Z : State) (ba : Addr) (bc : Addr) (u1 : Value) (h0 : Heap) (n0 : Nat) (v : Option Value) (h : Heap) (L : List Loc) : Prop := ∃ bv : Addr, ∃ kv : ClassId, v = none ∧ Fr n0 L ∧ Keep h0 h [ba] ∧ Exa Z h ba "java/lang/String" ∧ Fld Z h ba "java/lang/String" "value" "[B" (.ref bv) ∧ Fld Z h ba "java/lang/String" "coder" "B" (.int (0 : Int32)) ∧ Arv Z h bv kv .byte (0 : Int32) [] (.int (0 : Int32))
set_option maxRecDepth 65536 in
set_option maxHeartbeats 40000000 in
theorem rm_ini4_0 (l : Launch) (Z : State) (a0 : Array Value) (hw : ∀ d ∈ tables_1, d.before a0 Z = true) (ws : List Jvm.Cond) (ba : Addr) (bc : Addr) (u1 : Value) (h0 : Heap) (n0 : Nat) (O0 : Old Z n0 h0) (hEL : EW Z a0 own_EL) (P0 : Exa Z h0 ba "java/lang/String") (P1 : Fld Z h0 ba "java/lang/String" "value" "[B" .null) (P2 : Fld Z h0 ba "java/lang/String" "coder" "B" u1) (P3 : n0 ≤ ba) :
    MetFree l (⟨"java/lang/String", "<init>", "([CIILjava/lang/Void;)V"⟩ : MethodName) (head1 (Jvm.Cond.code (⟨"java/lang/String", "<init>", "([CIILjava/lang/Void;)V"⟩ : MethodName) jdk_42_method_149_code 6 none :: ws) ({ frames := 1, cells := 4, slots := 8, locals := 12 } : Room)) (fun a U => a = #[(.ref ba), (.ref bc), (.int (0 : Int32)), (.int (0 : Int32)), .null] ∧ Z.Warmed39 U.vm ∧ U.heap = h0 ∧ CHv Z own_EL U.vm h0) (fun _ _ _ _ _ => True) (fun _ U o U' => ∃ v L, o = .returned v ∧ Q_ini4_0 Z ba bc u1 h0 n0 v U'.heap L ∧ CHr Z own_EL U.vm U.heap U'.vm U'.heap ∧ ReturnedEndW U o U' L ({ frames := 1, cells := 4, slots := 8, locals := 12 } : Room).cells ({ frames := 1, cells := 4, slots := 8, locals := 12 } : Room).slots) := by
  refine MetFree.of_bodySF (plainFor_of_name pn_java_lang_String) hisR ?_
  intro p e s m args below meth c s₁ Bd hml0 hP hK
  obtain ⟨rfl, hZ, hh, hC0⟩ := hP
  have hx := Bd.exec
  have hby := Bd.bytes
  have hml : c.maxLocals = 6 := hml0
  have hown : (s.setVm s.vm).vm.findClass "java/lang/String" = some m.cls := findClass_of_methodNamed Bd.named
  have hnm := (name_of_methodNamed Bd.named Bd.method).1
  have hlk : meth.locks = false := BodyLoose.notSynchronized Bd
  have X0 : Stand p l e ({ frames := 1, cells := 4, slots := 8, locals := 12 } : Room) (s.setVm s.vm) m #[(.ref ba), (.ref bc), (.int (0 : Int32)), (.int (0 : Int32)), .null] below meth c s₁ [] 0 0 := Stand.of_body Bd
  have e0 : s₁.heap = h0 := by rw [← hh, Bd.state]; rfl
  have N0 := Fr.nil n0
  have hZ : Z.Warmed39 (s.setVm s.vm).vm := hZ
  have hS0 : s.Since s.vm 0 := (State.WarmedH.refl s).since 0
  have hk0 : 0 ≤ h0.size := Nat.zero_le _
  have CR0 : CHr Z own_EL s.vm s.heap s.vm h0 := by rw [hh]; exact CHr.refl hC0
  have K0 := Keep.refl h0 [ba]
  rw [ef_ini4_0 m ba bc]
  show GoH p e below s Z own_EL (fun v h L => Q_ini4_0 Z ba bc u1 h0 n0 v h L) ({ frames := 1, cells := 4, slots := 8, locals := 12 } : Room).cells ({ frames := 1, cells := 4, slots := 8, locals := 12 } : Room).slots s₁ (mkF m 0 #[.val (.ref ba), .val (.ref bc), .val (.int (0 : Int32)), .val (.int (0 : Int32)), .val .null, .unset] [])
  have sf0_ : Safe Z own_EL s.vm h0 ba := own_safe_null hZ.alike P0 P1
  refine GoH.step (T' := s₁) (f' := (mkF m 1 #[.val (.ref ba), .val (.ref bc), .val (.int (0 : Int32)), .val (.int (0 : Int32)), .val .null, .unset] [(.ref ba)])) (fun t k => XS.aloadN X0.here hx rfl (hb hby d3_0) rfl rfl k) ?_
  obtain ⟨T271, X271, e271, st271⟩ := initO X0 hx hZ hown (hw _ (List.mem_of_getElem? (i := 15) rfl)) (hw _ (List.mem_of_getElem? (i := 16) rfl)) (hw _ (List.mem_of_getElem? (i := 17) rfl)) e0 (g := (mkF m 1 #[.val (.ref ba), .val (.ref bc), .val (.int (0 : Int32)), .val (.int (0 : Int32)), .val .null, .unset] [(.ref ba)])) rfl (by rw [hml]; rfl) rfl (hb hby d3_1) (by decide) (W := 0) (by show 2 * 0 + _ ≤ _; exact Nat.le_of_eq rfl) (by decide)
  refine GoH.step (T' := T271) (f' := (mkF m 4 #[.val (.ref ba), .val (.ref bc), .val (.int (0 : Int32)), .val (.int (0 : Int32)), .val .null, .unset] [])) st271 ?_
  clear st271 X0
  refine GoH.step (T' := T271) (f' := (mkF m 5 #[.val (.ref ba), .val (.ref bc), .val (.int (0 : Int32)), .val (.int (0 : Int32)), .val .null, .unset] [(.int (0 : Int32))])) (fun t k => XS.iloadN X271.here hx rfl (hb hby d3_4) rfl k) ?_
  refine GoH.step (T' := T271) (f' := (mkF m 8 #[.val (.ref ba), .val (.ref bc), .val (.int (0 : Int32)), .val (.int (0 : Int32)), .val .null, .unset] [])) (fun t k => XS.ifNo X271.here hx rfl (hb hby d3_5) rfl ((if0 _ _).trans (teq (by decide : (0 : Int32) = (0 : Int32))).2) k) ?_
  refine GoH.step (T' := T271) (f' := (mkF m 9 #[.val (.ref ba), .val (.ref bc), .val (.int (0 : Int32)), .val (.int (0 : Int32)), .val .null, .unset] [(.ref ba)])) (fun t k => XS.aloadN X271.here hx rfl (hb hby d3_8) rfl rfl k) ?_
  obtain ⟨a272, T272, h272, kk272, b272, k272, X272, e272, E272, hS272, hk272, hZ, hown, Y272, C272, F272, A272, la272, lb272, ch272, Li272, sx272, st272⟩ := ldcCH (s := s) (vm0 := s.vm) X271 hx hZ hown (hw _ (List.mem_of_getElem? (i := 148) rfl)) (own_wS hw) e271 hS0 hk0 hEL (by decide) CR0.1 (vs := []) (z := (0 : Int32)) (by decide) (by decide) (by decide) (g := (mkF m 9 #[.val (.ref ba), .val (.ref bc), .val (.int (0 : Int32)), .val (.int (0 : Int32)), .val .null, .unset] [(.ref ba)])) rfl (hb hby d3_9) (n := 0) (by decide) (by decide) (by decide) (by decide)
  have sf273 := ch272.safe P0.lt sf0_
  have CR274 := CR0.trans ch272
  have f275 := P0.ext E272
  have f276 := P1.ext E272
  have f277 := P2.ext E272
  have O278 := O0.ext E272
  have K279 := K0.ext E272
  have ne280 := (sx272 _ sf273).1
  have ne281 := (sx272 _ sf273).2
  refine GoH.step (T' := T272) (f' := (mkF m 11 #[.val (.ref ba), .val (.ref bc), .val (.int (0 : Int32)), .val (.int (0 : Int32)), .val .null, .unset] [(.ref a272), (.ref ba)])) st272 ?_
  clear st272 X271 sf0_ CR0 hS0 hk0
  obtain ⟨T282, X282, e282, st282⟩ := getF X272 hx hZ hown (host := "") (Or.inl (hw _ (List.mem_of_getElem? (i := 32) rfl))) Via.refl e272 F272 (g := (mkF m 11 #[.val (.ref ba), .val (.ref bc), .val (.int (0 : Int32)), .val (.int (0 : Int32)), .val .null, .unset] [(.ref a272), (.ref ba)])) rfl rfl (hb hby d3_11)
  refine GoH.step (T' := T282) (f' := (mkF m 14 #[.val (.ref ba), .val (.ref bc), .val (.int (0 : Int32)), .val (.int (0 : Int32)), .val .null, .unset] [(.ref b272), (.ref ba)])) st282 ?_
  clear st282 X272
  obtain ⟨T283, h283, X283, e283, W283, st283⟩ := putF X282 hx hZ hown (host := "") (Or.inl (hw _ (List.mem_of_getElem? (i := 32) rfl))) Via.refl e282 f276 f275 (Or.inr ⟨(hw _ (List.mem_of_getElem? (i := 33) rfl)), rfl, hnm⟩) (hw _ (List.mem_of_getElem? (i := 5) rfl)) (ty := (.array .byte)) (by decide) rfl rfl (g := (mkF m 14 #[.val (.ref ba), .val (.ref bc), .val (.int (0 : Int32)), .val (.int (0 : Int32)), .val .null, .unset] [(.ref b272), (.ref ba)])) rfl rfl (hb hby d3_14)
  have f284 := f276.same W283
  have sa285 : Safe Z own_EL T272.vm h272 ba := sf273
  have sf286 := Safe.wr W283 sa285 CR274.1 sf273
  have CR287 := CR274.trans (CHr.wr W283 sa285 CR274.1)
  have hk288 := (by rw [W283.size]; exact hk272 : _ ≤ h283.size)
  have f289 := f275.wr W283
  have f290 := f277.other W283 (Or.inr (slot_ne (Or.inr (hw _ (List.mem_of_getElem? (i := 31) rfl))) (Or.inr (hw _ (List.mem_of_getElem? (i := 33) rfl))) (by decide) (t := .byte) (t' := (.array .byte)) (by decide) (by decide)))
  have f291 := Y272.wr W283
  have f292 := C272.other W283 (Or.inl (Ne.symm ne280))
  have f293 := F272.other W283 (Or.inl (Ne.symm ne280))
  have f294 := A272.other W283 (Ne.symm ne281)
  have O295 := O278.wr W283 P3
  have K296 := K279.wr W283 (Or.inl (List.mem_of_getElem? (i := 0) rfl))
  have N297 := Fr.snoc X283 N0 P3
  refine GoH.step (T' := T283) (f' := (mkF m 17 #[.val (.ref ba), .val (.ref bc), .val (.int (0 : Int32)), .val (.int (0 : Int32)), .val .null, .unset] [])) st283 ?_
  clear st283 X282 sf273 CR274 hk272 sa285 f275 f277 Y272 C272 F272 A272 O278 K279
  refine GoH.step (T' := T283) (f' := (mkF m 18 #[.val (.ref ba), .val (.ref bc), .val (.int (0 : Int32)), .val (.int (0 : Int32)), .val .null, .unset] [(.ref ba)])) (fun t k => XS.aloadN X283.here hx rfl (hb hby d3_17) rfl rfl k) ?_
  obtain ⟨a298, T298, h298, kk298, b298, k298, X298, e298, E298, hS298, hk298, hZ, hown, Y298, C298, F298, A298, la298, lb298, ch298, Li298, sx298, st298⟩ := ldcCH (s := s) (vm0 := T272.vm) X283 hx hZ hown (hw _ (List.mem_of_getElem? (i := 148) rfl)) (own_wS hw) e283 hS272 hk288 hEL (by decide) CR287.1 (vs := []) (z := (0 : Int32)) (by decide) (by decide) (by decide) (g := (mkF m 18 #[.val (.ref ba), .val (.ref bc), .val (.int (0 : Int32)), .val (.int (0 : Int32)), .val .null, .unset] [(.ref ba)])) rfl (hb hby d3_18) (n := 0) (by decide) (by decide) (by decide) (by decide)
  have sf299 := ch298.safe f289.lt sf286
  have CR300 := CR287.trans ch298
  have f301 := f289.ext E298
  have f302 := f290.ext E298
  have f303 := f291.ext E298
  have f304 := f292.ext E298
  have f305 := f293.ext E298
  have f306 := f294.ext E298
  have f307 := f284.ext E298
  have O308 := O295.ext E298
  have K309 := K296.ext E298
  have ne310 := (sx298 _ sf299).1
  have ne311 := (sx298 _ sf299).2
  refine GoH.step (T' := T298) (f' := (mkF m 20 #[.val (.ref ba), .val (.ref bc), .val (.int (0 : Int32)), .val (.int (0 : Int32)), .val .null, .unset] [(.ref a298), (.ref ba)])) st298 ?_
  clear st298 X283 sf286 CR287 hS272 hk288 f289 f290 f291 f292 f293 f294 f284 O295 K296
  obtain ⟨T312, X312, e312, st312⟩ := getF X298 hx hZ hown (host := "") (Or.inl (hw _ (List.mem_of_getElem? (i := 30) rfl))) Via.refl e298 C298 (g := (mkF m 20 #[.val (.ref ba), .val (.ref bc), .val (.int (0 : Int32)), .val (.int (0 : Int32)), .val .null, .unset] [(.ref a298), (.ref ba)])) rfl rfl (hb hby d3_20)
  refine GoH.step (T' := T312) (f' := (mkF m 23 #[.val (.ref ba), .val (.ref bc), .val (.int (0 : Int32)), .val (.int (0 : Int32)), .val .null, .unset] [(.int (0 : Int32)), (.ref ba)])) st312 ?_
  clear st312 X298
  obtain ⟨T313, h313, X313, e313, W313, st313⟩ := putFN X312 hx hZ hown (hw _ (List.mem_of_getElem? (i := 30) rfl)) Via.refl e312 f302 f301 (Or.inr ⟨(hw _ (List.mem_of_getElem? (i := 31) rfl)), rfl, hnm⟩) (hw _ (List.mem_of_getElem? (i := 5) rfl)) (ty := .byte) (v' := (.int (0 : Int32))) (by decide) rfl (by decide) (g := (mkF m 23 #[.val (.ref ba), .val (.ref bc), .val (.int (0 : Int32)), .val (.int (0 : Int32)), .val .null, .unset] [(.int (0 : Int32)), (.ref ba)])) rfl rfl (hb hby d3_23)
  have f314 := f302.same W313
  have sa315 : Safe Z own_EL T298.vm h298 ba := sf299
  have sf316 := Safe.wr W313 sa315 CR300.1 sf299
  have CR317 := CR300.trans (CHr.wr W313 sa315 CR300.1)
  have hk318 := (by rw [W313.size]; exact hk298 : _ ≤ h313.size)
  have f319 := f301.wr W313
  have f320 := f303.wr W313
  have f321 := f304.other W313 (Or.inl (Ne.symm ne280))
  have f322 := f305.other W313 (Or.inl (Ne.symm ne280))
  have f323 := f306.other W313 (Ne.symm ne281)
  have f324 := f307.other W313 (Or.inr (slot_ne (Or.inr (hw _ (List.mem_of_getElem? (i := 33) rfl))) (Or.inr (hw _ (List.mem_of_getElem? (i := 31) rfl))) (by decide) (t := (.array .byte)) (t' := .byte) (by decide) (by decide)))
  have f325 := Y298.wr W313
  have f326 := C298.other W313 (Or.inl (Ne.symm ne310))
  have f327 := F298.other W313 (Or.inl (Ne.symm ne310))
  have f328 := A298.other W313 (Ne.symm ne311)
  have O329 := O308.wr W313 P3
  have K330 := K309.wr W313 (Or.inl (List.mem_of_getElem? (i := 0) rfl))
  have N331 := Fr.snoc X313 N297 P3
  refine GoH.step (T' := T313) (f' := (mkF m 26 #[.val (.ref ba), .val (.ref bc), .val (.int (0 : Int32)), .val (.int (0 : Int32)), .val .null, .unset] [])) st313 ?_
  clear st313 X312 sf299 CR300 hk298 sa315 f301 f303 f304 f305 f306 f307 Y298 C298 F298 A298 O308 K309 N297
  refine GoH.fin X313 hZ hEL hS298 hk318 CR317 hlk (v := none) (fun _ => rfl) (fun fs hr => X313.returnOut hx Bd.returns (hb hby d3_26) hr) e313 ?_ (by decide) (by decide)
  exact ⟨b272, k272, rfl, N331, K330, f319, f324, f314, f323⟩
theorem ef_ini1_0 (m : MethodId) (ba : Addr) (bc : Addr) : entryFrame m #[(.ref ba), (.ref bc)] 2 = mkF m 0 #[.val (.ref ba), .val (.ref bc)] [] := by first | (simp [entryFrame, mkF, argsToLocals, Value.category]; done) | rfl
def Q_ini1_0 (Z : State) (ba : Addr) (bc : Addr) (u1 : Value) (kc : ClassId) (h0 : Heap) (n0 : Nat) (v : Option Value) (h : Heap) (L : List Loc) : Prop := ∃ bv : Addr, ∃ kv : ClassId, v = none ∧ Fr n0 L ∧ Keep h0 h [ba] ∧ Exa Z h ba "java/lang/String" ∧ Fld Z h ba "java/lang/String" "value" "[B" (.ref bv) ∧ Fld Z h ba "java/lang/String" "coder" "B" (.int (0 : Int32)) ∧ Arv Z h bv kv .byte (0 : Int32) [] (.int (0 : Int32))
set_option maxRecDepth 65536 in
set_option maxHeartbeats 40000000 in
theorem rm_ini1_0 (l : Launch) (Z : State) (a0 : Array Value) (hw : ∀ d ∈ tables_1, d.before a0 Z = true) (ws : List Jvm.Cond) (ba : Addr) (bc : Addr) (u1 : Value) (kc : ClassId) (h0 : Heap) (n0 : Nat) (O0 : Old Z n0 h0) (hEL : EW Z a0 own_EL) (P0 : Exa Z h0 ba "java/lang/String") (P1 : Fld Z h0 ba "java/lang/String" "value" "[B" .null) (P2 : Fld Z h0 ba "java/lang/String" "coder" "B" u1) (P3 : n0 ≤ ba) (P4 : Arv Z h0 bc kc .char (0 : Int32) [] (.int (0 : Int32))) (P5 : bc ≠ ba) :
    MetFree l (⟨"java/lang/String", "<init>", "([C)V"⟩ : MethodName) (head1 (Jvm.Cond.code (⟨"java/lang/String", "<init>", "([C)V"⟩ : MethodName) jdk_42_method_3_code 2 none :: ws) ({ frames := 2, cells := 4, slots := 8, locals := 29 } : Room)) (fun a U => a = #[(.ref ba), (.ref bc)] ∧ Z.Warmed39 U.vm ∧ U.heap = h0 ∧ CHv Z own_EL U.vm h0) (fun _ _ _ _ _ => True) (fun _ U o U' => ∃ v L, o = .returned v ∧ Q_ini1_0 Z ba bc u1 kc h0 n0 v U'.heap L ∧ CHr Z own_EL U.vm U.heap U'.vm U'.heap ∧ ReturnedEndW U o U' L ({ frames := 2, cells := 4, slots := 8, locals := 29 } : Room).cells ({ frames := 2, cells := 4, slots := 8, locals := 29 } : Room).slots) := by
  refine MetFree.of_bodySF (plainFor_of_name pn_java_lang_String) hisR ?_
  intro p e s m args below meth c s₁ Bd hml0 hP hK
  obtain ⟨rfl, hZ, hh, hC0⟩ := hP
  have hx := Bd.exec
  have hby := Bd.bytes
  have hml : c.maxLocals = 2 := hml0
  have hown : (s.setVm s.vm).vm.findClass "java/lang/String" = some m.cls := findClass_of_methodNamed Bd.named
  have hnm := (name_of_methodNamed Bd.named Bd.method).1
  have hlk : meth.locks = false := BodyLoose.notSynchronized Bd
  have X0 : Stand p l e ({ frames := 2, cells := 4, slots := 8, locals := 29 } : Room) (s.setVm s.vm) m #[(.ref ba), (.ref bc)] below meth c s₁ [] 0 0 := Stand.of_body Bd
  have e0 : s₁.heap = h0 := by rw [← hh, Bd.state]; rfl
  have N0 := Fr.nil n0
  have hZ : Z.Warmed39 (s.setVm s.vm).vm := hZ
  have hS0 : s.Since s.vm 0 := (State.WarmedH.refl s).since 0
  have hk0 : 0 ≤ h0.size := Nat.zero_le _
  have CR0 : CHr Z own_EL s.vm s.heap s.vm h0 := by rw [hh]; exact CHr.refl hC0
  have K0 := Keep.refl h0 [ba]
  rw [ef_ini1_0 m ba bc]
  show GoH p e below s Z own_EL (fun v h L => Q_ini1_0 Z ba bc u1 kc h0 n0 v h L) ({ frames := 2, cells := 4, slots := 8, locals := 29 } : Room).cells ({ frames := 2, cells := 4, slots := 8, locals := 29 } : Room).slots s₁ (mkF m 0 #[.val (.ref ba), .val (.ref bc)] [])
  refine GoH.step (T' := s₁) (f' := (mkF m 1 #[.val (.ref ba), .val (.ref bc)] [(.ref ba)])) (fun t k => XS.aloadN X0.here hx rfl (hb hby d2_0) rfl rfl k) ?_
  refine GoH.step (T' := s₁) (f' := (mkF m 2 #[.val (.ref ba), .val (.ref bc)] [(.ref bc), (.ref ba)])) (fun t k => XS.aloadN X0.here hx rfl (hb hby d2_1) rfl rfl k) ?_
  refine GoH.step (T' := s₁) (f' := (mkF m 3 #[.val (.ref ba), .val (.ref bc)] [(.int (0 : Int32)), (.ref bc), (.ref ba)])) (fun t k => XS.iconst X0.here hx rfl (hb hby d2_2) k) ?_
  refine GoH.step (T' := s₁) (f' := (mkF m 4 #[.val (.ref ba), .val (.ref bc)] [(.ref bc), (.int (0 : Int32)), (.ref bc), (.ref ba)])) (fun t k => XS.aloadN X0.here hx rfl (hb hby d2_3) rfl rfl k) ?_
  obtain ⟨ca332, Aa332, qa332, Sa332, Na332, Ha332, Ga332⟩ := id P4
  refine GoH.step (T' := s₁) (f' := (mkF m 5 #[.val (.ref ba), .val (.ref bc)] [(.int (0 : Int32)), (.int (0 : Int32)), (.ref bc), (.ref ba)])) (fun t k => own_alen X0 hx hZ e0 Aa332 Sa332 Na332 (g := (mkF m 4 #[.val (.ref ba), .val (.ref bc)] [(.ref bc), (.int (0 : Int32)), (.ref bc), (.ref ba)])) rfl rfl (hb hby d2_4) k) ?_
  refine GoH.step (T' := s₁) (f' := (mkF m 6 #[.val (.ref ba), .val (.ref bc)] [.null, (.int (0 : Int32)), (.int (0 : Int32)), (.ref bc), (.ref ba)])) (fun t k => XS.aconstNull X0.here hx rfl (hb hby d2_5) k) ?_
  obtain ⟨_, _, ⟨T333, L333, k333, n333⟩, -, X333, hS333, hg333, ⟨Lc333, hQ333, l333, y333, z333, ch333⟩, st333⟩ := X0.specialBackS hx (y := (⟨"java/lang/String", "<init>", "([CIILjava/lang/Void;)V"⟩ : MethodName)) rfl hown (mvT hZ (hw _ (List.mem_of_getElem? (i := 11) rfl))) (mvT hZ (hw _ (List.mem_of_getElem? (i := 12) rfl))) (mvT hZ (hw _ (List.mem_of_getElem? (i := 14) rfl))) (by decide) (backOfSH (s := s) (vm0 := s.vm) (W := 0) (rm_ini4_0 l Z a0 hw [] ba bc u1 h0 n0 O0 hEL P0 P1 P2 P3) hZ (hw _ (List.mem_of_getElem? (i := 14) rfl)) (hw _ (List.mem_of_getElem? (i := 6) rfl)) (by decide) (by decide) hEL CR0.1) (g := (mkF m 6 #[.val (.ref ba), .val (.ref bc)] [.null, (.int (0 : Int32)), (.int (0 : Int32)), (.ref bc), (.ref ba)])) rfl (by rw [hml]; rfl) (Steps.refl _) (a := ba) (argsL := [(.ref bc), (.int (0 : Int32)), (.int (0 : Int32)), .null]) (rest := []) (lenOf pd3 rfl) rfl (by show 2 * 0 + _ ≤ _; exact Nat.le_of_eq rfl) (hb hby d2_6) (fun _ _ => ⟨rfl, e0, (by decide : 0 + 4 ≤ _), (by decide : 0 + 8 ≤ _)⟩)
  dsimp only [Pt.U, Pt.locs, Pt.cells, Pt.slots] at X333 l333 y333 z333 st333 hQ333 hS333 hg333 ch333
  subst l333 y333 z333
  obtain ⟨X333, hS333, hZ, hown⟩ := rebS (s := s) (vm0 := s.vm) hS0 (show _ ≤ s₁.heap.size by rw [e0]; exact hk0) X333 hS333 hg333 hZ hown
  obtain ⟨u334, u335, rfl, Nq333, hh333, p336, p337, p338, p339⟩ := hQ333
  have N340 := Fr.app N0 Nq333
  have CR341 := CR0.trans ch333
  have hk342 := Nat.le_refl T333.heap.size
  have f343 := P0.keep hh333
  have f344 := P4.keep hh333 (ninS P5 nin0)
  have O345 := O0.keep hh333 (allS P3 all0)
  have K346 := K0.trans hh333 (allS (Or.inl (List.mem_of_getElem? (i := 0) rfl)) all0)
  refine GoH.via (T' := T333) (f' := (mkF m 9 #[.val (.ref ba), .val (.ref bc)] [])) st333 ?_
  clear st333 X0 Nq333 CR0 hk0 hS0
  refine GoH.fin X333 hZ hEL hS333 hk342 CR341 hlk (v := none) (fun _ => rfl) (fun fs hr => X333.returnOut hx Bd.returns (hb hby d2_9) hr) rfl ?_ (by decide) (by decide)
  exact ⟨u334, u335, rfl, N340, K346, p336, p337, p338, p339⟩
theorem d1_0 : decode method_2_code 0 = .ok (.iload_n 0, 1) := by decide +kernel
theorem d1_1 : decode method_2_code 1 = .ok (.iconst 4, 1) := by decide +kernel
theorem d1_2 : decode method_2_code 2 = .ok (.iand, 1) := by decide +kernel
theorem d1_3 : decode method_2_code 3 = .ok (.ifCond .eq 5, 3) := by decide +kernel
theorem d1_6 : decode method_2_code 6 = .ok (.aconst_null, 1) := by decide +kernel
theorem d1_7 : decode method_2_code 7 = .ok (.areturn, 1) := by decide +kernel
theorem pn_com_example_ferryline_ferryline_server_ApiErrorBodyPinLaw : plainName "com/example/ferryline/ferryline/server/ApiErrorBodyPinLaw" = true := by first | (simp [plainName, overriddenIn]; done) | decide +kernel
theorem ef_drawN (m : MethodId) (ia : Int32) (ib : Int32) : entryFrame m #[(.int ia), (.int ib)] 6 = mkF m 0 #[.val (.int ia), .val (.int ib), .unset, .unset, .unset, .unset] [] := by first | (simp [entryFrame, mkF, argsToLocals, Value.category]; done) | rfl
def Q_drawN (Z : State) (ia : Int32) (ib : Int32) (h0 : Heap) (n0 : Nat) (v : Option Value) (h : Heap) (L : List Loc) : Prop := v = some .null ∧ Fr n0 L ∧ h = h0
set_option maxRecDepth 65536 in
set_option maxHeartbeats 40000000 in
theorem rm_drawN (l : Launch) (Z : State) (a0 : Array Value) (hw : ∀ d ∈ tables_1, d.before a0 Z = true) (ws : List Jvm.Cond) (ia : Int32) (ib : Int32) (h0 : Heap) (n0 : Nat) (O0 : Old Z n0 h0) (hsel : ¬ ((ia &&& (4 : Int32)) = (0 : Int32))) :
    MetFree l (⟨"com/example/ferryline/ferryline/server/ApiErrorBodyPinLaw", "draw", "(II)Ljava/lang/String;"⟩ : MethodName) (head1 (Jvm.Cond.code (⟨"com/example/ferryline/ferryline/server/ApiErrorBodyPinLaw", "draw", "(II)Ljava/lang/String;"⟩ : MethodName) method_2_code 6 (some (.object "java/lang/String")) :: ws) ({ frames := 0, cells := 0, slots := 0, locals := 0 } : Room)) (fun a U => a = #[(.int ia), (.int ib)] ∧ Z.Warmed39 U.vm ∧ U.heap = h0) (fun _ _ _ _ _ => True) (fun _ U o U' => ∃ v L, o = .returned v ∧ Q_drawN Z ia ib h0 n0 v U'.heap L ∧ FrameEnd U o U' L ({ frames := 0, cells := 0, slots := 0, locals := 0 } : Room).cells ({ frames := 0, cells := 0, slots := 0, locals := 0 } : Room).slots) := by
  refine MetFree.of_bodySF (plainFor_of_name pn_com_example_ferryline_ferryline_server_ApiErrorBodyPinLaw) hisR ?_
  intro p e s m args below meth c s₁ Bd hml0 hP hK
  obtain ⟨rfl, hZ, hh⟩ := hP
  have hx := Bd.exec
  have hby := Bd.bytes
  have hml : c.maxLocals = 6 := hml0
  have hown : s.vm.findClass "com/example/ferryline/ferryline/server/ApiErrorBodyPinLaw" = some m.cls := findClass_of_methodNamed Bd.named
  have hnm := (name_of_methodNamed Bd.named Bd.method).1
  have hlk : meth.locks = false := BodyLoose.notSynchronized Bd
  have X0 : Stand p l e ({ frames := 0, cells := 0, slots := 0, locals := 0 } : Room) s m #[(.int ia), (.int ib)] below meth c s₁ [] 0 0 := Stand.of_body Bd
  have e0 : s₁.heap = h0 := by rw [← hh, Bd.state]; rfl
  have N0 := Fr.nil n0
  rw [ef_drawN m ia ib]
  show Go p e below s (fun v h L => Q_drawN Z ia ib h0 n0 v h L) ({ frames := 0, cells := 0, slots := 0, locals := 0 } : Room).cells ({ frames := 0, cells := 0, slots := 0, locals := 0 } : Room).slots s₁ (mkF m 0 #[.val (.int ia), .val (.int ib), .unset, .unset, .unset, .unset] [])
  refine Go.step (T' := s₁) (f' := (mkF m 1 #[.val (.int ia), .val (.int ib), .unset, .unset, .unset, .unset] [(.int ia)])) (fun t k => XS.iloadN X0.here hx rfl (hb hby d1_0) rfl k) ?_
  refine Go.step (T' := s₁) (f' := (mkF m 2 #[.val (.int ia), .val (.int ib), .unset, .unset, .unset, .unset] [(.int (4 : Int32)), (.int ia)])) (fun t k => XS.iconst X0.here hx rfl (hb hby d1_1) k) ?_
  refine Go.step (T' := s₁) (f' := (mkF m 3 #[.val (.int ia), .val (.int ib), .unset, .unset, .unset, .unset] [(.int (ia &&& (4 : Int32)))])) (fun t k => XS.iand X0.here hx rfl (hb hby d1_2) rfl k) ?_
  refine Go.step (T' := s₁) (f' := (mkF m 6 #[.val (.int ia), .val (.int ib), .unset, .unset, .unset, .unset] [])) (fun t k => XS.ifNo X0.here hx rfl (hb hby d1_3) rfl ((if0 _ _).trans (feq hsel).1) k) ?_
  refine Go.step (T' := s₁) (f' := (mkF m 7 #[.val (.int ia), .val (.int ib), .unset, .unset, .unset, .unset] [.null])) (fun t k => XS.aconstNull X0.here hx rfl (hb hby d1_6) k) ?_
  refine Go.retA X0 hx hlk Bd.returns rfl rfl (hb hby d1_7) e0 ?_ (by decide) (by decide)
  exact ⟨rfl, N0, rfl⟩
theorem d1_8 : decode method_2_code 8 = .ok (.iload_n 0, 1) := by decide +kernel
theorem d1_9 : decode method_2_code 9 = .ok (.iconst 3, 1) := by decide +kernel
theorem d1_10 : decode method_2_code 10 = .ok (.iand, 1) := by decide +kernel
theorem d1_11 : decode method_2_code 11 = .ok (.istore_n 2, 1) := by decide +kernel
theorem d1_12 : decode method_2_code 12 = .ok (.iload_n 1, 1) := by decide +kernel
theorem d1_13 : decode method_2_code 13 = .ok (.sipush 255, 3) := by decide +kernel
theorem d1_16 : decode method_2_code 16 = .ok (.iand, 1) := by decide +kernel
theorem d1_17 : decode method_2_code 17 = .ok (.i2c, 1) := by decide +kernel
theorem d1_18 : decode method_2_code 18 = .ok (.istore_n 3, 1) := by decide +kernel
theorem d1_19 : decode method_2_code 19 = .ok (.iload_n 1, 1) := by decide +kernel
theorem d1_20 : decode method_2_code 20 = .ok (.bipush 8, 2) := by decide +kernel
theorem d1_22 : decode method_2_code 22 = .ok (.iushr, 1) := by decide +kernel
theorem d1_23 : decode method_2_code 23 = .ok (.sipush 255, 3) := by decide +kernel
theorem d1_26 : decode method_2_code 26 = .ok (.iand, 1) := by decide +kernel
theorem d1_27 : decode method_2_code 27 = .ok (.i2c, 1) := by decide +kernel
theorem d1_28 : decode method_2_code 28 = .ok (.istore 4, 2) := by decide +kernel
theorem d1_30 : decode method_2_code 30 = .ok (.iload_n 1, 1) := by decide +kernel
theorem d1_31 : decode method_2_code 31 = .ok (.bipush 16, 2) := by decide +kernel
theorem d1_33 : decode method_2_code 33 = .ok (.iushr, 1) := by decide +kernel
theorem d1_34 : decode method_2_code 34 = .ok (.sipush 255, 3) := by decide +kernel
theorem d1_37 : decode method_2_code 37 = .ok (.iand, 1) := by decide +kernel
theorem d1_38 : decode method_2_code 38 = .ok (.i2c, 1) := by decide +kernel
theorem d1_39 : decode method_2_code 39 = .ok (.istore 5, 2) := by decide +kernel
theorem d1_41 : decode method_2_code 41 = .ok (.iload_n 2, 1) := by decide +kernel
theorem d1_42 : decode method_2_code 42 = .ok (.ifCond .ne 14, 3) := by decide +kernel
theorem d1_45 : decode method_2_code 45 = .ok (.new 7, 3) := by decide +kernel
theorem d1_48 : decode method_2_code 48 = .ok (.dup, 1) := by decide +kernel
theorem d1_49 : decode method_2_code 49 = .ok (.iconst 0, 1) := by decide +kernel
theorem d1_50 : decode method_2_code 50 = .ok (.newarray .char, 2) := by decide +kernel
theorem d1_52 : decode method_2_code 52 = .ok (.invokespecial 9, 3) := by decide +kernel
theorem d1_55 : decode method_2_code 55 = .ok (.areturn, 1) := by decide +kernel
theorem d1_56 : decode method_2_code 56 = .ok (.iload_n 2, 1) := by decide +kernel
theorem d1_57 : decode method_2_code 57 = .ok (.iconst 1, 1) := by decide +kernel
theorem d1_58 : decode method_2_code 58 = .ok (.if_icmp .ne 18, 3) := by decide +kernel
theorem d1_61 : decode method_2_code 61 = .ok (.new 7, 3) := by decide +kernel
theorem d1_64 : decode method_2_code 64 = .ok (.dup, 1) := by decide +kernel
theorem d1_65 : decode method_2_code 65 = .ok (.iconst 1, 1) := by decide +kernel
theorem d1_66 : decode method_2_code 66 = .ok (.newarray .char, 2) := by decide +kernel
theorem d1_68 : decode method_2_code 68 = .ok (.dup, 1) := by decide +kernel
theorem d1_69 : decode method_2_code 69 = .ok (.iconst 0, 1) := by decide +kernel
theorem d1_70 : decode method_2_code 70 = .ok (.iload_n 3, 1) := by decide +kernel
theorem d1_71 : decode method_2_code 71 = .ok (.castore, 1) := by decide +kernel
theorem d1_72 : decode method_2_code 72 = .ok (.invokespecial 9, 3) := by decide +kernel
theorem d1_75 : decode method_2_code 75 = .ok (.areturn, 1) := by decide +kernel
theorem d1_76 : decode method_2_code 76 = .ok (.iload_n 2, 1) := by decide +kernel
theorem d1_77 : decode method_2_code 77 = .ok (.iconst 2, 1) := by decide +kernel
theorem d1_78 : decode method_2_code 78 = .ok (.if_icmp .ne 23, 3) := by decide +kernel
theorem d1_81 : decode method_2_code 81 = .ok (.new 7, 3) := by decide +kernel
theorem d1_84 : decode method_2_code 84 = .ok (.dup, 1) := by decide +kernel
theorem d1_85 : decode method_2_code 85 = .ok (.iconst 2, 1) := by decide +kernel
theorem d1_86 : decode method_2_code 86 = .ok (.newarray .char, 2) := by decide +kernel
theorem d1_88 : decode method_2_code 88 = .ok (.dup, 1) := by decide +kernel
theorem d1_89 : decode method_2_code 89 = .ok (.iconst 0, 1) := by decide +kernel
theorem d1_90 : decode method_2_code 90 = .ok (.iload_n 3, 1) := by decide +kernel
theorem d1_91 : decode method_2_code 91 = .ok (.castore, 1) := by decide +kernel
theorem d1_92 : decode method_2_code 92 = .ok (.dup, 1) := by decide +kernel
theorem d1_93 : decode method_2_code 93 = .ok (.iconst 1, 1) := by decide +kernel
theorem d1_94 : decode method_2_code 94 = .ok (.iload 4, 2) := by decide +kernel
theorem d1_96 : decode method_2_code 96 = .ok (.castore, 1) := by decide +kernel
theorem d1_97 : decode method_2_code 97 = .ok (.invokespecial 9, 3) := by decide +kernel
theorem d1_100 : decode method_2_code 100 = .ok (.areturn, 1) := by decide +kernel
theorem d1_101 : decode method_2_code 101 = .ok (.new 7, 3) := by decide +kernel
theorem d1_104 : decode method_2_code 104 = .ok (.dup, 1) := by decide +kernel
theorem d1_105 : decode method_2_code 105 = .ok (.iconst 3, 1) := by decide +kernel
theorem d1_106 : decode method_2_code 106 = .ok (.newarray .char, 2) := by decide +kernel
theorem d1_108 : decode method_2_code 108 = .ok (.dup, 1) := by decide +kernel
theorem d1_109 : decode method_2_code 109 = .ok (.iconst 0, 1) := by decide +kernel
theorem d1_110 : decode method_2_code 110 = .ok (.iload_n 3, 1) := by decide +kernel
theorem d1_111 : decode method_2_code 111 = .ok (.castore, 1) := by decide +kernel
theorem d1_112 : decode method_2_code 112 = .ok (.dup, 1) := by decide +kernel
theorem d1_113 : decode method_2_code 113 = .ok (.iconst 1, 1) := by decide +kernel
theorem d1_114 : decode method_2_code 114 = .ok (.iload 4, 2) := by decide +kernel
theorem d1_116 : decode method_2_code 116 = .ok (.castore, 1) := by decide +kernel
theorem d1_117 : decode method_2_code 117 = .ok (.dup, 1) := by decide +kernel
theorem d1_118 : decode method_2_code 118 = .ok (.iconst 2, 1) := by decide +kernel
theorem d1_119 : decode method_2_code 119 = .ok (.iload 5, 2) := by decide +kernel
theorem d1_121 : decode method_2_code 121 = .ok (.castore, 1) := by decide +kernel
theorem d1_122 : decode method_2_code 122 = .ok (.invokespecial 9, 3) := by decide +kernel
theorem d1_125 : decode method_2_code 125 = .ok (.areturn, 1) := by decide +kernel
theorem pd4 : parseMethodDescriptor "([C)V" = some ⟨[(.array .char)], none⟩ := by decide +kernel
theorem ef_drawS (m : MethodId) (ia : Int32) (ib : Int32) : entryFrame m #[(.int ia), (.int ib)] 6 = mkF m 0 #[.val (.int ia), .val (.int ib), .unset, .unset, .unset, .unset] [] := by first | (simp [entryFrame, mkF, argsToLocals, Value.category]; done) | rfl
def Q_drawS (Z : State) (ia : Int32) (ib : Int32) (wz : Int32) (h0 : Heap) (n0 : Nat) (v : Option Value) (h : Heap) (L : List Loc) : Prop := ∃ bs : Addr, v = some (.ref bs) ∧ Fr n0 L ∧ Keep h0 h [] ∧ Exa Z h bs "java/lang/String"
set_option maxRecDepth 65536 in
set_option maxHeartbeats 40000000 in
theorem rm_drawS (l : Launch) (Z : State) (a0 : Array Value) (hw : ∀ d ∈ tables_1, d.before a0 Z = true) (ws : List Jvm.Cond) (ia : Int32) (ib : Int32) (wz : Int32) (h0 : Heap) (n0 : Nat) (O0 : Old Z n0 h0) (hEL : EW Z a0 own_EL) (P0 : Sta Z Z.heap "java/lang/String" "COMPACT_STRINGS" "Z" (.int wz)) (hwz : ¬ (wz = (0 : Int32))) (hsel : (ia &&& (4 : Int32)) = (0 : Int32)) :
    MetFree l (⟨"com/example/ferryline/ferryline/server/ApiErrorBodyPinLaw", "draw", "(II)Ljava/lang/String;"⟩ : MethodName) (head1 (Jvm.Cond.code (⟨"com/example/ferryline/ferryline/server/ApiErrorBodyPinLaw", "draw", "(II)Ljava/lang/String;"⟩ : MethodName) method_2_code 6 (some (.object "java/lang/String")) :: ws) ({ frames := 4, cells := 6, slots := 12, locals := 66 } : Room)) (fun a U => a = #[(.int ia), (.int ib)] ∧ Z.Warmed39 U.vm ∧ U.heap = h0 ∧ CHv Z own_EL U.vm h0) (fun _ _ _ _ _ => True) (fun _ U o U' => ∃ v L, o = .returned v ∧ Q_drawS Z ia ib wz h0 n0 v U'.heap L ∧ CHr Z own_EL U.vm U.heap U'.vm U'.heap ∧ ReturnedEndW U o U' L ({ frames := 4, cells := 6, slots := 12, locals := 66 } : Room).cells ({ frames := 4, cells := 6, slots := 12, locals := 66 } : Room).slots) := by
  refine MetFree.of_bodySF (plainFor_of_name pn_com_example_ferryline_ferryline_server_ApiErrorBodyPinLaw) hisR ?_
  intro p e s m args below meth c s₁ Bd hml0 hP hK
  obtain ⟨rfl, hZ, hh, hC0⟩ := hP
  have hx := Bd.exec
  have hby := Bd.bytes
  have hml : c.maxLocals = 6 := hml0
  have hown : (s.setVm s.vm).vm.findClass "com/example/ferryline/ferryline/server/ApiErrorBodyPinLaw" = some m.cls := findClass_of_methodNamed Bd.named
  have hnm := (name_of_methodNamed Bd.named Bd.method).1
  have hlk : meth.locks = false := BodyLoose.notSynchronized Bd
  have X0 : Stand p l e ({ frames := 4, cells := 6, slots := 12, locals := 66 } : Room) (s.setVm s.vm) m #[(.int ia), (.int ib)] below meth c s₁ [] 0 0 := Stand.of_body Bd
  have e0 : s₁.heap = h0 := by rw [← hh, Bd.state]; rfl
  have N0 := Fr.nil n0
  have hZ : Z.Warmed39 (s.setVm s.vm).vm := hZ
  have hS0 : s.Since s.vm 0 := (State.WarmedH.refl s).since 0
  have hk0 : 0 ≤ h0.size := Nat.zero_le _
  have CR0 : CHr Z own_EL s.vm s.heap s.vm h0 := by rw [hh]; exact CHr.refl hC0
  have K0 := Keep.refl h0 []
  rw [ef_drawS m ia ib]
  show GoH p e below s Z own_EL (fun v h L => Q_drawS Z ia ib wz h0 n0 v h L) ({ frames := 4, cells := 6, slots := 12, locals := 66 } : Room).cells ({ frames := 4, cells := 6, slots := 12, locals := 66 } : Room).slots s₁ (mkF m 0 #[.val (.int ia), .val (.int ib), .unset, .unset, .unset, .unset] [])
  refine GoH.step (T' := s₁) (f' := (mkF m 1 #[.val (.int ia), .val (.int ib), .unset, .unset, .unset, .unset] [(.int ia)])) (fun t k => XS.iloadN X0.here hx rfl (hb hby d1_0) rfl k) ?_
  refine GoH.step (T' := s₁) (f' := (mkF m 2 #[.val (.int ia), .val (.int ib), .unset, .unset, .unset, .unset] [(.int (4 : Int32)), (.int ia)])) (fun t k => XS.iconst X0.here hx rfl (hb hby d1_1) k) ?_
  refine GoH.step (T' := s₁) (f' := (mkF m 3 #[.val (.int ia), .val (.int ib), .unset, .unset, .unset, .unset] [(.int (ia &&& (4 : Int32)))])) (fun t k => XS.iand X0.here hx rfl (hb hby d1_2) rfl k) ?_
  refine GoH.step (T' := s₁) (f' := (mkF m 8 #[.val (.int ia), .val (.int ib), .unset, .unset, .unset, .unset] [])) (fun t k => XS.ifYes X0.here hx rfl (pc0 := 3) (pc' := 8) rfl (hb hby d1_3) rfl ((if0 _ _).trans (teq hsel).1) (by decide) (by decide) k) ?_
  refine GoH.step (T' := s₁) (f' := (mkF m 9 #[.val (.int ia), .val (.int ib), .unset, .unset, .unset, .unset] [(.int ia)])) (fun t k => XS.iloadN X0.here hx rfl (hb hby d1_8) rfl k) ?_
  refine GoH.step (T' := s₁) (f' := (mkF m 10 #[.val (.int ia), .val (.int ib), .unset, .unset, .unset, .unset] [(.int (3 : Int32)), (.int ia)])) (fun t k => XS.iconst X0.here hx rfl (hb hby d1_9) k) ?_
  refine GoH.step (T' := s₁) (f' := (mkF m 11 #[.val (.int ia), .val (.int ib), .unset, .unset, .unset, .unset] [(.int (ia &&& (3 : Int32)))])) (fun t k => XS.iand X0.here hx rfl (hb hby d1_10) rfl k) ?_
  refine GoH.step (T' := s₁) (f' := (mkF m 12 #[.val (.int ia), .val (.int ib), .val (.int (ia &&& (3 : Int32))), .unset, .unset, .unset] [])) (fun t k => XS.istoreN X0.here hx rfl (hb hby d1_11) rfl (l' := #[.val (.int ia), .val (.int ib), .val (.int (ia &&& (3 : Int32))), .unset, .unset, .unset]) rfl k) ?_
  refine GoH.step (T' := s₁) (f' := (mkF m 13 #[.val (.int ia), .val (.int ib), .val (.int (ia &&& (3 : Int32))), .unset, .unset, .unset] [(.int ib)])) (fun t k => XS.iloadN X0.here hx rfl (hb hby d1_12) rfl k) ?_
  refine GoH.step (T' := s₁) (f' := (mkF m 16 #[.val (.int ia), .val (.int ib), .val (.int (ia &&& (3 : Int32))), .unset, .unset, .unset] [(.int (255 : Int32)), (.int ib)])) (fun t k => XS.sipush X0.here hx rfl (hb hby d1_13) k) ?_
  refine GoH.step (T' := s₁) (f' := (mkF m 17 #[.val (.int ia), .val (.int ib), .val (.int (ia &&& (3 : Int32))), .unset, .unset, .unset] [(.int (ib &&& (255 : Int32)))])) (fun t k => XS.iand X0.here hx rfl (hb hby d1_16) rfl k) ?_
  refine GoH.step (T' := s₁) (f' := (mkF m 18 #[.val (.int ia), .val (.int ib), .val (.int (ia &&& (3 : Int32))), .unset, .unset, .unset] [(.int ((ib &&& (255 : Int32)).toUInt32.toUInt16.toUInt32.toInt32))])) (fun t k => XS.i2c X0.here hx rfl (hb hby d1_17) rfl k) ?_
  refine GoH.step (T' := s₁) (f' := (mkF m 19 #[.val (.int ia), .val (.int ib), .val (.int (ia &&& (3 : Int32))), .val (.int ((ib &&& (255 : Int32)).toUInt32.toUInt16.toUInt32.toInt32)), .unset, .unset] [])) (fun t k => XS.istoreN X0.here hx rfl (hb hby d1_18) rfl (l' := #[.val (.int ia), .val (.int ib), .val (.int (ia &&& (3 : Int32))), .val (.int ((ib &&& (255 : Int32)).toUInt32.toUInt16.toUInt32.toInt32)), .unset, .unset]) rfl k) ?_
  refine GoH.step (T' := s₁) (f' := (mkF m 20 #[.val (.int ia), .val (.int ib), .val (.int (ia &&& (3 : Int32))), .val (.int ((ib &&& (255 : Int32)).toUInt32.toUInt16.toUInt32.toInt32)), .unset, .unset] [(.int ib)])) (fun t k => XS.iloadN X0.here hx rfl (hb hby d1_19) rfl k) ?_
  refine GoH.step (T' := s₁) (f' := (mkF m 22 #[.val (.int ia), .val (.int ib), .val (.int (ia &&& (3 : Int32))), .val (.int ((ib &&& (255 : Int32)).toUInt32.toUInt16.toUInt32.toInt32)), .unset, .unset] [(.int (8 : Int32)), (.int ib)])) (fun t k => XS.bipush X0.here hx rfl (hb hby d1_20) k) ?_
  refine GoH.step (T' := s₁) (f' := (mkF m 23 #[.val (.int ia), .val (.int ib), .val (.int (ia &&& (3 : Int32))), .val (.int ((ib &&& (255 : Int32)).toUInt32.toUInt16.toUInt32.toInt32)), .unset, .unset] [(.int ((ib.toUInt32 >>> ((8 : Int32) &&& 31).toUInt32).toInt32))])) (fun t k => XS.iushr X0.here hx rfl (hb hby d1_22) rfl k) ?_
  refine GoH.step (T' := s₁) (f' := (mkF m 26 #[.val (.int ia), .val (.int ib), .val (.int (ia &&& (3 : Int32))), .val (.int ((ib &&& (255 : Int32)).toUInt32.toUInt16.toUInt32.toInt32)), .unset, .unset] [(.int (255 : Int32)), (.int ((ib.toUInt32 >>> ((8 : Int32) &&& 31).toUInt32).toInt32))])) (fun t k => XS.sipush X0.here hx rfl (hb hby d1_23) k) ?_
  refine GoH.step (T' := s₁) (f' := (mkF m 27 #[.val (.int ia), .val (.int ib), .val (.int (ia &&& (3 : Int32))), .val (.int ((ib &&& (255 : Int32)).toUInt32.toUInt16.toUInt32.toInt32)), .unset, .unset] [(.int (((ib.toUInt32 >>> ((8 : Int32) &&& 31).toUInt32).toInt32) &&& (255 : Int32)))])) (fun t k => XS.iand X0.here hx rfl (hb hby d1_26) rfl k) ?_
  refine GoH.step (T' := s₁) (f' := (mkF m 28 #[.val (.int ia), .val (.int ib), .val (.int (ia &&& (3 : Int32))), .val (.int ((ib &&& (255 : Int32)).toUInt32.toUInt16.toUInt32.toInt32)), .unset, .unset] [(.int ((((ib.toUInt32 >>> ((8 : Int32) &&& 31).toUInt32).toInt32) &&& (255 : Int32)).toUInt32.toUInt16.toUInt32.toInt32))])) (fun t k => XS.i2c X0.here hx rfl (hb hby d1_27) rfl k) ?_
  refine GoH.step (T' := s₁) (f' := (mkF m 30 #[.val (.int ia), .val (.int ib), .val (.int (ia &&& (3 : Int32))), .val (.int ((ib &&& (255 : Int32)).toUInt32.toUInt16.toUInt32.toInt32)), .val (.int ((((ib.toUInt32 >>> ((8 : Int32) &&& 31).toUInt32).toInt32) &&& (255 : Int32)).toUInt32.toUInt16.toUInt32.toInt32)), .unset] [])) (fun t k => XS.istore X0.here hx rfl (hb hby d1_28) rfl (l' := #[.val (.int ia), .val (.int ib), .val (.int (ia &&& (3 : Int32))), .val (.int ((ib &&& (255 : Int32)).toUInt32.toUInt16.toUInt32.toInt32)), .val (.int ((((ib.toUInt32 >>> ((8 : Int32) &&& 31).toUInt32).toInt32) &&& (255 : Int32)).toUInt32.toUInt16.toUInt32.toInt32)), .unset]) rfl k) ?_
  refine GoH.step (T' := s₁) (f' := (mkF m 31 #[.val (.int ia), .val (.int ib), .val (.int (ia &&& (3 : Int32))), .val (.int ((ib &&& (255 : Int32)).toUInt32.toUInt16.toUInt32.toInt32)), .val (.int ((((ib.toUInt32 >>> ((8 : Int32) &&& 31).toUInt32).toInt32) &&& (255 : Int32)).toUInt32.toUInt16.toUInt32.toInt32)), .unset] [(.int ib)])) (fun t k => XS.iloadN X0.here hx rfl (hb hby d1_30) rfl k) ?_
  refine GoH.step (T' := s₁) (f' := (mkF m 33 #[.val (.int ia), .val (.int ib), .val (.int (ia &&& (3 : Int32))), .val (.int ((ib &&& (255 : Int32)).toUInt32.toUInt16.toUInt32.toInt32)), .val (.int ((((ib.toUInt32 >>> ((8 : Int32) &&& 31).toUInt32).toInt32) &&& (255 : Int32)).toUInt32.toUInt16.toUInt32.toInt32)), .unset] [(.int (16 : Int32)), (.int ib)])) (fun t k => XS.bipush X0.here hx rfl (hb hby d1_31) k) ?_
  refine GoH.step (T' := s₁) (f' := (mkF m 34 #[.val (.int ia), .val (.int ib), .val (.int (ia &&& (3 : Int32))), .val (.int ((ib &&& (255 : Int32)).toUInt32.toUInt16.toUInt32.toInt32)), .val (.int ((((ib.toUInt32 >>> ((8 : Int32) &&& 31).toUInt32).toInt32) &&& (255 : Int32)).toUInt32.toUInt16.toUInt32.toInt32)), .unset] [(.int ((ib.toUInt32 >>> ((16 : Int32) &&& 31).toUInt32).toInt32))])) (fun t k => XS.iushr X0.here hx rfl (hb hby d1_33) rfl k) ?_
  refine GoH.step (T' := s₁) (f' := (mkF m 37 #[.val (.int ia), .val (.int ib), .val (.int (ia &&& (3 : Int32))), .val (.int ((ib &&& (255 : Int32)).toUInt32.toUInt16.toUInt32.toInt32)), .val (.int ((((ib.toUInt32 >>> ((8 : Int32) &&& 31).toUInt32).toInt32) &&& (255 : Int32)).toUInt32.toUInt16.toUInt32.toInt32)), .unset] [(.int (255 : Int32)), (.int ((ib.toUInt32 >>> ((16 : Int32) &&& 31).toUInt32).toInt32))])) (fun t k => XS.sipush X0.here hx rfl (hb hby d1_34) k) ?_
  refine GoH.step (T' := s₁) (f' := (mkF m 38 #[.val (.int ia), .val (.int ib), .val (.int (ia &&& (3 : Int32))), .val (.int ((ib &&& (255 : Int32)).toUInt32.toUInt16.toUInt32.toInt32)), .val (.int ((((ib.toUInt32 >>> ((8 : Int32) &&& 31).toUInt32).toInt32) &&& (255 : Int32)).toUInt32.toUInt16.toUInt32.toInt32)), .unset] [(.int (((ib.toUInt32 >>> ((16 : Int32) &&& 31).toUInt32).toInt32) &&& (255 : Int32)))])) (fun t k => XS.iand X0.here hx rfl (hb hby d1_37) rfl k) ?_
  refine GoH.step (T' := s₁) (f' := (mkF m 39 #[.val (.int ia), .val (.int ib), .val (.int (ia &&& (3 : Int32))), .val (.int ((ib &&& (255 : Int32)).toUInt32.toUInt16.toUInt32.toInt32)), .val (.int ((((ib.toUInt32 >>> ((8 : Int32) &&& 31).toUInt32).toInt32) &&& (255 : Int32)).toUInt32.toUInt16.toUInt32.toInt32)), .unset] [(.int ((((ib.toUInt32 >>> ((16 : Int32) &&& 31).toUInt32).toInt32) &&& (255 : Int32)).toUInt32.toUInt16.toUInt32.toInt32))])) (fun t k => XS.i2c X0.here hx rfl (hb hby d1_38) rfl k) ?_
  refine GoH.step (T' := s₁) (f' := (mkF m 41 #[.val (.int ia), .val (.int ib), .val (.int (ia &&& (3 : Int32))), .val (.int ((ib &&& (255 : Int32)).toUInt32.toUInt16.toUInt32.toInt32)), .val (.int ((((ib.toUInt32 >>> ((8 : Int32) &&& 31).toUInt32).toInt32) &&& (255 : Int32)).toUInt32.toUInt16.toUInt32.toInt32)), .val (.int ((((ib.toUInt32 >>> ((16 : Int32) &&& 31).toUInt32).toInt32) &&& (255 : Int32)).toUInt32.toUInt16.toUInt32.toInt32))] [])) (fun t k => XS.istore X0.here hx rfl (hb hby d1_39) rfl (l' := #[.val (.int ia), .val (.int ib), .val (.int (ia &&& (3 : Int32))), .val (.int ((ib &&& (255 : Int32)).toUInt32.toUInt16.toUInt32.toInt32)), .val (.int ((((ib.toUInt32 >>> ((8 : Int32) &&& 31).toUInt32).toInt32) &&& (255 : Int32)).toUInt32.toUInt16.toUInt32.toInt32)), .val (.int ((((ib.toUInt32 >>> ((16 : Int32) &&& 31).toUInt32).toInt32) &&& (255 : Int32)).toUInt32.toUInt16.toUInt32.toInt32))]) rfl k) ?_
  refine GoH.step (T' := s₁) (f' := (mkF m 42 #[.val (.int ia), .val (.int ib), .val (.int (ia &&& (3 : Int32))), .val (.int ((ib &&& (255 : Int32)).toUInt32.toUInt16.toUInt32.toInt32)), .val (.int ((((ib.toUInt32 >>> ((8 : Int32) &&& 31).toUInt32).toInt32) &&& (255 : Int32)).toUInt32.toUInt16.toUInt32.toInt32)), .val (.int ((((ib.toUInt32 >>> ((16 : Int32) &&& 31).toUInt32).toInt32) &&& (255 : Int32)).toUInt32.toUInt16.toUInt32.toInt32))] [(.int (ia &&& (3 : Int32)))])) (fun t k => XS.iloadN X0.here hx rfl (hb hby d1_41) rfl k) ?_
  by_cases hc347 : (ia &&& (3 : Int32)) = (0 : Int32)
  ·
    refine GoH.step (T' := s₁) (f' := (mkF m 45 #[.val (.int ia), .val (.int ib), .val (.int (ia &&& (3 : Int32))), .val (.int ((ib &&& (255 : Int32)).toUInt32.toUInt16.toUInt32.toInt32)), .val (.int ((((ib.toUInt32 >>> ((8 : Int32) &&& 31).toUInt32).toInt32) &&& (255 : Int32)).toUInt32.toUInt16.toUInt32.toInt32)), .val (.int ((((ib.toUInt32 >>> ((16 : Int32) &&& 31).toUInt32).toInt32) &&& (255 : Int32)).toUInt32.toUInt16.toUInt32.toInt32))] [])) (fun t k => XS.ifNo X0.here hx rfl (hb hby d1_42) rfl ((if0 _ _).trans (teq hc347).2) k) ?_
    obtain ⟨T348, h348, X348, e348, E348, A348, D348, -, st348⟩ := newO X0 hx hZ hown (hw _ (List.mem_of_getElem? (i := 4) rfl)) (hw _ (List.mem_of_getElem? (i := 5) rfl)) (hw _ (List.mem_of_getElem? (i := 6) rfl)) e0 (g := (mkF m 45 #[.val (.int ia), .val (.int ib), .val (.int (ia &&& (3 : Int32))), .val (.int ((ib &&& (255 : Int32)).toUInt32.toUInt16.toUInt32.toInt32)), .val (.int ((((ib.toUInt32 >>> ((8 : Int32) &&& 31).toUInt32).toInt32) &&& (255 : Int32)).toUInt32.toUInt16.toUInt32.toInt32)), .val (.int ((((ib.toUInt32 >>> ((16 : Int32) &&& 31).toUInt32).toInt32) &&& (255 : Int32)).toUInt32.toUInt16.toUInt32.toInt32))] [])) rfl (hb hby d1_45) (by decide) (by decide)
    obtain ⟨b348, g348⟩ : ∃ z, z = h0.size := ⟨_, rfl⟩
    rw [← g348] at A348 D348 st348
    have sf349 : Safe Z own_EL s.vm h0 b348 := Safe.new (Nat.le_of_eq g348.symm)
    have g350 : n0 ≤ b348 := Nat.le_trans (own_old_le O0) (Nat.le_of_eq g348.symm)
    have g351 : h0.size ≤ b348 := Nat.le_trans K0.1 (Nat.le_of_eq g348.symm)
    have sf352 := Safe.ext E348 CR0.1 sf349
    have CR353 := CR0.trans (CHr.ext E348 CR0.1)
    have hk354 := Nat.le_trans hk0 E348.1
    have O355 := O0.ext E348
    have K356 := K0.ext E348
    have f357 : Fld Z h348 b348 "java/lang/String" "coder" "B" (.int (0 : Int32)) := D348 (Or.inr (hw _ (List.mem_of_getElem? (i := 31) rfl))) (ty := .byte) (by decide)
    have f358 : Fld Z h348 b348 "java/lang/String" "value" "[B" .null := D348 (Or.inr (hw _ (List.mem_of_getElem? (i := 33) rfl))) (ty := (.array .byte)) (by decide)
    refine GoH.step (T' := T348) (f' := (mkF m 48 #[.val (.int ia), .val (.int ib), .val (.int (ia &&& (3 : Int32))), .val (.int ((ib &&& (255 : Int32)).toUInt32.toUInt16.toUInt32.toInt32)), .val (.int ((((ib.toUInt32 >>> ((8 : Int32) &&& 31).toUInt32).toInt32) &&& (255 : Int32)).toUInt32.toUInt16.toUInt32.toInt32)), .val (.int ((((ib.toUInt32 >>> ((16 : Int32) &&& 31).toUInt32).toInt32) &&& (255 : Int32)).toUInt32.toUInt16.toUInt32.toInt32))] [(.ref b348)])) st348 ?_
    clear st348 X0 sf349 CR0 hk0
    refine GoH.step (T' := T348) (f' := (mkF m 49 #[.val (.int ia), .val (.int ib), .val (.int (ia &&& (3 : Int32))), .val (.int ((ib &&& (255 : Int32)).toUInt32.toUInt16.toUInt32.toInt32)), .val (.int ((((ib.toUInt32 >>> ((8 : Int32) &&& 31).toUInt32).toInt32) &&& (255 : Int32)).toUInt32.toUInt16.toUInt32.toInt32)), .val (.int ((((ib.toUInt32 >>> ((16 : Int32) &&& 31).toUInt32).toInt32) &&& (255 : Int32)).toUInt32.toUInt16.toUInt32.toInt32))] [(.ref b348), (.ref b348)])) (fun t k => XS.dup X348.here hx rfl (hb hby d1_48) rfl rfl k) ?_
    refine GoH.step (T' := T348) (f' := (mkF m 50 #[.val (.int ia), .val (.int ib), .val (.int (ia &&& (3 : Int32))), .val (.int ((ib &&& (255 : Int32)).toUInt32.toUInt16.toUInt32.toInt32)), .val (.int ((((ib.toUInt32 >>> ((8 : Int32) &&& 31).toUInt32).toInt32) &&& (255 : Int32)).toUInt32.toUInt16.toUInt32.toInt32)), .val (.int ((((ib.toUInt32 >>> ((16 : Int32) &&& 31).toUInt32).toInt32) &&& (255 : Int32)).toUInt32.toUInt16.toUInt32.toInt32))] [(.int (0 : Int32)), (.ref b348), (.ref b348)])) (fun t k => XS.iconst X348.here hx rfl (hb hby d1_49) k) ?_
    obtain ⟨T359, h359, k359, X359, e359, E359, A359, Y359, st359⟩ := newPE X348 hx hZ (hw _ (List.mem_of_getElem? (i := 7) rfl)) e348 (g := (mkF m 50 #[.val (.int ia), .val (.int ib), .val (.int (ia &&& (3 : Int32))), .val (.int ((ib &&& (255 : Int32)).toUInt32.toUInt16.toUInt32.toInt32)), .val (.int ((((ib.toUInt32 >>> ((8 : Int32) &&& 31).toUInt32).toInt32) &&& (255 : Int32)).toUInt32.toUInt16.toUInt32.toInt32)), .val (.int ((((ib.toUInt32 >>> ((16 : Int32) &&& 31).toUInt32).toInt32) &&& (255 : Int32)).toUInt32.toUInt16.toUInt32.toInt32))] [(.int (0 : Int32)), (.ref b348), (.ref b348)])) rfl (hb hby d1_50) rfl (by decide) (cap := 0) (by decide) (by decide) (by decide) (by decide) (ad := "[C") (by decide)
    obtain ⟨b359, g359⟩ : ∃ z, z = h348.size := ⟨_, rfl⟩
    rw [← g359] at A359 Y359 st359
    have g360 : n0 ≤ b359 := Nat.le_trans (own_old_le O355) (Nat.le_of_eq g359.symm)
    have g361 : h0.size ≤ b359 := Nat.le_trans K356.1 (Nat.le_of_eq g359.symm)
    have ne362 : b348 ≠ b359 := Nat.ne_of_lt (Nat.lt_of_lt_of_le A348.lt (Nat.le_of_eq g359.symm))
    have sf363 := Safe.ext E359 CR353.1 sf352
    have CR364 := CR353.trans (CHr.ext E359 CR353.1)
    have hk365 := Nat.le_trans hk354 E359.1
    have f366 := A348.ext E359
    have f367 := f357.ext E359
    have f368 := f358.ext E359
    have O369 := O355.ext E359
    have K370 := K356.ext E359
    have f371 : Arv Z h359 b359 k359 .char (0 : Int32) [] (.int (0 : Int32)) := Arv.new A359 (by decide)
    refine GoH.step (T' := T359) (f' := (mkF m 52 #[.val (.int ia), .val (.int ib), .val (.int (ia &&& (3 : Int32))), .val (.int ((ib &&& (255 : Int32)).toUInt32.toUInt16.toUInt32.toInt32)), .val (.int ((((ib.toUInt32 >>> ((8 : Int32) &&& 31).toUInt32).toInt32) &&& (255 : Int32)).toUInt32.toUInt16.toUInt32.toInt32)), .val (.int ((((ib.toUInt32 >>> ((16 : Int32) &&& 31).toUInt32).toInt32) &&& (255 : Int32)).toUInt32.toUInt16.toUInt32.toInt32))] [(.ref b359), (.ref b348), (.ref b348)])) st359 ?_
    clear st359 X348 sf352 CR353 hk354 A348 f357 f358 O355 K356
    obtain ⟨_, _, ⟨T372, L372, k372, n372⟩, -, X372, hS372, hg372, ⟨Lc372, hQ372, l372, y372, z372, ch372⟩, st372⟩ := X359.specialBackS hx (y := (⟨"java/lang/String", "<init>", "([C)V"⟩ : MethodName)) rfl hown (mvT hZ (hw _ (List.mem_of_getElem? (i := 8) rfl))) (mvT hZ (hw _ (List.mem_of_getElem? (i := 9) rfl))) (mvT hZ (hw _ (List.mem_of_getElem? (i := 10) rfl))) (by decide) (backOfSH (s := s) (vm0 := s.vm) (W := 1) (rm_ini1_0 l Z a0 hw [] b348 b359 (.int (0 : Int32)) k359 h359 n0 O369 hEL f366 f368 f367 g350 f371 (Ne.symm ne362)) hZ (hw _ (List.mem_of_getElem? (i := 10) rfl)) (hw _ (List.mem_of_getElem? (i := 6) rfl)) (by decide) (by decide) hEL CR364.1) (g := (mkF m 52 #[.val (.int ia), .val (.int ib), .val (.int (ia &&& (3 : Int32))), .val (.int ((ib &&& (255 : Int32)).toUInt32.toUInt16.toUInt32.toInt32)), .val (.int ((((ib.toUInt32 >>> ((8 : Int32) &&& 31).toUInt32).toInt32) &&& (255 : Int32)).toUInt32.toUInt16.toUInt32.toInt32)), .val (.int ((((ib.toUInt32 >>> ((16 : Int32) &&& 31).toUInt32).toInt32) &&& (255 : Int32)).toUInt32.toUInt16.toUInt32.toInt32))] [(.ref b359), (.ref b348), (.ref b348)])) rfl (by rw [hml]; rfl) (Steps.refl _) (a := b348) (argsL := [(.ref b359)]) (rest := [(.ref b348)]) (lenOf pd4 rfl) rfl (by show 2 * 0 + _ ≤ _; exact Nat.le_of_eq rfl) (hb hby d1_52) (fun _ _ => ⟨rfl, e359, (by decide : 2 + 4 ≤ _), (by decide : 4 + 8 ≤ _)⟩)
    dsimp only [Pt.U, Pt.locs, Pt.cells, Pt.slots] at X372 l372 y372 z372 st372 hQ372 hS372 hg372 ch372
    subst l372 y372 z372
    obtain ⟨X372, hS372, hZ, hown⟩ := rebS (s := s) (vm0 := s.vm) hS0 (show _ ≤ T359.heap.size by rw [e359]; exact hk365) X372 hS372 hg372 hZ hown
    obtain ⟨u373, u374, rfl, Nq372, hh372, p375, p376, p377, p378⟩ := hQ372
    have N379 := Fr.app N0 Nq372
    have sf380 := ch372.safe f366.lt sf363
    have CR381 := CR364.trans ch372
    have hk382 := Nat.le_refl T372.heap.size
    have f383 := f366.keep hh372
    have f384 := Y359.keep hh372
    have f385 := f371.keep hh372 (ninS (Ne.symm ne362) nin0)
    have O386 := O369.keep hh372 (allS g350 all0)
    have K387 := K370.trans hh372 (allS (Or.inr g351) all0)
    refine GoH.via (T' := T372) (f' := (mkF m 55 #[.val (.int ia), .val (.int ib), .val (.int (ia &&& (3 : Int32))), .val (.int ((ib &&& (255 : Int32)).toUInt32.toUInt16.toUInt32.toInt32)), .val (.int ((((ib.toUInt32 >>> ((8 : Int32) &&& 31).toUInt32).toInt32) &&& (255 : Int32)).toUInt32.toUInt16.toUInt32.toInt32)), .val (.int ((((ib.toUInt32 >>> ((16 : Int32) &&& 31).toUInt32).toInt32) &&& (255 : Int32)).toUInt32.toUInt16.toUInt32.toInt32))] [(.ref b348)])) st372 ?_
    clear st372 X359 Nq372 sf363 CR364 hk365 hS0 f371
    refine GoH.fin X372 hZ hEL hS372 hk382 CR381 hlk (v := some (.ref b348)) (fun h => by rw [Bd.returns] at h; cases h) (fun fs hr => retOut X372 hx Bd.returns (own_nar_ref rfl rfl) (Or.inr (Or.inr (Or.inr (Or.inr ⟨rfl, rfl, rfl⟩)))) (hb hby d1_55) hr) rfl ?_ (by decide) (by decide)
    exact ⟨b348, rfl, N379, K387, p375⟩
  ·
    refine GoH.step (T' := s₁) (f' := (mkF m 56 #[.val (.int ia), .val (.int ib), .val (.int (ia &&& (3 : Int32))), .val (.int ((ib &&& (255 : Int32)).toUInt32.toUInt16.toUInt32.toInt32)), .val (.int ((((ib.toUInt32 >>> ((8 : Int32) &&& 31).toUInt32).toInt32) &&& (255 : Int32)).toUInt32.toUInt16.toUInt32.toInt32)), .val (.int ((((ib.toUInt32 >>> ((16 : Int32) &&& 31).toUInt32).toInt32) &&& (255 : Int32)).toUInt32.toUInt16.toUInt32.toInt32))] [])) (fun t k => XS.ifYes X0.here hx rfl (pc0 := 42) (pc' := 56) rfl (hb hby d1_42) rfl ((if0 _ _).trans (feq hc347).2) (by decide) (by decide) k) ?_
    refine GoH.step (T' := s₁) (f' := (mkF m 57 #[.val (.int ia), .val (.int ib), .val (.int (ia &&& (3 : Int32))), .val (.int ((ib &&& (255 : Int32)).toUInt32.toUInt16.toUInt32.toInt32)), .val (.int ((((ib.toUInt32 >>> ((8 : Int32) &&& 31).toUInt32).toInt32) &&& (255 : Int32)).toUInt32.toUInt16.toUInt32.toInt32)), .val (.int ((((ib.toUInt32 >>> ((16 : Int32) &&& 31).toUInt32).toInt32) &&& (255 : Int32)).toUInt32.toUInt16.toUInt32.toInt32))] [(.int (ia &&& (3 : Int32)))])) (fun t k => XS.iloadN X0.here hx rfl (hb hby d1_56) rfl k) ?_
    refine GoH.step (T' := s₁) (f' := (mkF m 58 #[.val (.int ia), .val (.int ib), .val (.int (ia &&& (3 : Int32))), .val (.int ((ib &&& (255 : Int32)).toUInt32.toUInt16.toUInt32.toInt32)), .val (.int ((((ib.toUInt32 >>> ((8 : Int32) &&& 31).toUInt32).toInt32) &&& (255 : Int32)).toUInt32.toUInt16.toUInt32.toInt32)), .val (.int ((((ib.toUInt32 >>> ((16 : Int32) &&& 31).toUInt32).toInt32) &&& (255 : Int32)).toUInt32.toUInt16.toUInt32.toInt32))] [(.int (1 : Int32)), (.int (ia &&& (3 : Int32)))])) (fun t k => XS.iconst X0.here hx rfl (hb hby d1_57) k) ?_
    by_cases hc388 : (ia &&& (3 : Int32)) = (1 : Int32)
    ·
      refine GoH.step (T' := s₁) (f' := (mkF m 61 #[.val (.int ia), .val (.int ib), .val (.int (ia &&& (3 : Int32))), .val (.int ((ib &&& (255 : Int32)).toUInt32.toUInt16.toUInt32.toInt32)), .val (.int ((((ib.toUInt32 >>> ((8 : Int32) &&& 31).toUInt32).toInt32) &&& (255 : Int32)).toUInt32.toUInt16.toUInt32.toInt32)), .val (.int ((((ib.toUInt32 >>> ((16 : Int32) &&& 31).toUInt32).toInt32) &&& (255 : Int32)).toUInt32.toUInt16.toUInt32.toInt32))] [])) (fun t k => XS.icmpNo X0.here hx rfl (hb hby d1_58) rfl (teq hc388).2 k) ?_
      obtain ⟨T389, h389, X389, e389, E389, A389, D389, -, st389⟩ := newO X0 hx hZ hown (hw _ (List.mem_of_getElem? (i := 4) rfl)) (hw _ (List.mem_of_getElem? (i := 5) rfl)) (hw _ (List.mem_of_getElem? (i := 6) rfl)) e0 (g := (mkF m 61 #[.val (.int ia), .val (.int ib), .val (.int (ia &&& (3 : Int32))), .val (.int ((ib &&& (255 : Int32)).toUInt32.toUInt16.toUInt32.toInt32)), .val (.int ((((ib.toUInt32 >>> ((8 : Int32) &&& 31).toUInt32).toInt32) &&& (255 : Int32)).toUInt32.toUInt16.toUInt32.toInt32)), .val (.int ((((ib.toUInt32 >>> ((16 : Int32) &&& 31).toUInt32).toInt32) &&& (255 : Int32)).toUInt32.toUInt16.toUInt32.toInt32))] [])) rfl (hb hby d1_61) (by decide) (by decide)
      obtain ⟨b389, g389⟩ : ∃ z, z = h0.size := ⟨_, rfl⟩
      rw [← g389] at A389 D389 st389
      have sf390 : Safe Z own_EL s.vm h0 b389 := Safe.new (Nat.le_of_eq g389.symm)
      have g391 : n0 ≤ b389 := Nat.le_trans (own_old_le O0) (Nat.le_of_eq g389.symm)
      have g392 : h0.size ≤ b389 := Nat.le_trans K0.1 (Nat.le_of_eq g389.symm)
      have sf393 := Safe.ext E389 CR0.1 sf390
      have CR394 := CR0.trans (CHr.ext E389 CR0.1)
      have hk395 := Nat.le_trans hk0 E389.1
      have O396 := O0.ext E389
      have K397 := K0.ext E389
      have f398 : Fld Z h389 b389 "java/lang/String" "coder" "B" (.int (0 : Int32)) := D389 (Or.inr (hw _ (List.mem_of_getElem? (i := 31) rfl))) (ty := .byte) (by decide)
      have f399 : Fld Z h389 b389 "java/lang/String" "value" "[B" .null := D389 (Or.inr (hw _ (List.mem_of_getElem? (i := 33) rfl))) (ty := (.array .byte)) (by decide)
      refine GoH.step (T' := T389) (f' := (mkF m 64 #[.val (.int ia), .val (.int ib), .val (.int (ia &&& (3 : Int32))), .val (.int ((ib &&& (255 : Int32)).toUInt32.toUInt16.toUInt32.toInt32)), .val (.int ((((ib.toUInt32 >>> ((8 : Int32) &&& 31).toUInt32).toInt32) &&& (255 : Int32)).toUInt32.toUInt16.toUInt32.toInt32)), .val (.int ((((ib.toUInt32 >>> ((16 : Int32) &&& 31).toUInt32).toInt32) &&& (255 : Int32)).toUInt32.toUInt16.toUInt32.toInt32))] [(.ref b389)])) st389 ?_
      clear st389 X0 sf390 CR0 hk0
      refine GoH.step (T' := T389) (f' := (mkF m 65 #[.val (.int ia), .val (.int ib), .val (.int (ia &&& (3 : Int32))), .val (.int ((ib &&& (255 : Int32)).toUInt32.toUInt16.toUInt32.toInt32)), .val (.int ((((ib.toUInt32 >>> ((8 : Int32) &&& 31).toUInt32).toInt32) &&& (255 : Int32)).toUInt32.toUInt16.toUInt32.toInt32)), .val (.int ((((ib.toUInt32 >>> ((16 : Int32) &&& 31).toUInt32).toInt32) &&& (255 : Int32)).toUInt32.toUInt16.toUInt32.toInt32))] [(.ref b389), (.ref b389)])) (fun t k => XS.dup X389.here hx rfl (hb hby d1_64) rfl rfl k) ?_
      refine GoH.step (T' := T389) (f' := (mkF m 66 #[.val (.int ia), .val (.int ib), .val (.int (ia &&& (3 : Int32))), .val (.int ((ib &&& (255 : Int32)).toUInt32.toUInt16.toUInt32.toInt32)), .val (.int ((((ib.toUInt32 >>> ((8 : Int32) &&& 31).toUInt32).toInt32) &&& (255 : Int32)).toUInt32.toUInt16.toUInt32.toInt32)), .val (.int ((((ib.toUInt32 >>> ((16 : Int32) &&& 31).toUInt32).toInt32) &&& (255 : Int32)).toUInt32.toUInt16.toUInt32.toInt32))] [(.int (1 : Int32)), (.ref b389), (.ref b389)])) (fun t k => XS.iconst X389.here hx rfl (hb hby d1_65) k) ?_
      obtain ⟨T400, h400, k400, X400, e400, E400, A400, Y400, st400⟩ := newPE X389 hx hZ (hw _ (List.mem_of_getElem? (i := 7) rfl)) e389 (g := (mkF m 66 #[.val (.int ia), .val (.int ib), .val (.int (ia &&& (3 : Int32))), .val (.int ((ib &&& (255 : Int32)).toUInt32.toUInt16.toUInt32.toInt32)), .val (.int ((((ib.toUInt32 >>> ((8 : Int32) &&& 31).toUInt32).toInt32) &&& (255 : Int32)).toUInt32.toUInt16.toUInt32.toInt32)), .val (.int ((((ib.toUInt32 >>> ((16 : Int32) &&& 31).toUInt32).toInt32) &&& (255 : Int32)).toUInt32.toUInt16.toUInt32.toInt32))] [(.int (1 : Int32)), (.ref b389), (.ref b389)])) rfl (hb hby d1_66) rfl (by decide) (cap := 1) (by decide) (by decide) (by decide) (by decide) (ad := "[C") (by decide)
      obtain ⟨b400, g400⟩ : ∃ z, z = h389.size := ⟨_, rfl⟩
      rw [← g400] at A400 Y400 st400
      have g401 : n0 ≤ b400 := Nat.le_trans (own_old_le O396) (Nat.le_of_eq g400.symm)
      have g402 : h0.size ≤ b400 := Nat.le_trans K397.1 (Nat.le_of_eq g400.symm)
      have ne403 : b389 ≠ b400 := Nat.ne_of_lt (Nat.lt_of_lt_of_le A389.lt (Nat.le_of_eq g400.symm))
      have sf404 := Safe.ext E400 CR394.1 sf393
      have CR405 := CR394.trans (CHr.ext E400 CR394.1)
      have hk406 := Nat.le_trans hk395 E400.1
      have f407 := A389.ext E400
      have f408 := f398.ext E400
      have f409 := f399.ext E400
      have O410 := O396.ext E400
      have K411 := K397.ext E400
      have f412 : Arv Z h400 b400 k400 .char (1 : Int32) [(.int (0 : Int32))] (.int (0 : Int32)) := (Arv.new A400 (by decide)).pad (pad_rep [] (.int (0 : Int32)) 1)
      refine GoH.step (T' := T400) (f' := (mkF m 68 #[.val (.int ia), .val (.int ib), .val (.int (ia &&& (3 : Int32))), .val (.int ((ib &&& (255 : Int32)).toUInt32.toUInt16.toUInt32.toInt32)), .val (.int ((((ib.toUInt32 >>> ((8 : Int32) &&& 31).toUInt32).toInt32) &&& (255 : Int32)).toUInt32.toUInt16.toUInt32.toInt32)), .val (.int ((((ib.toUInt32 >>> ((16 : Int32) &&& 31).toUInt32).toInt32) &&& (255 : Int32)).toUInt32.toUInt16.toUInt32.toInt32))] [(.ref b400), (.ref b389), (.ref b389)])) st400 ?_
      clear st400 X389 sf393 CR394 hk395 A389 f398 f399 O396 K397
      refine GoH.step (T' := T400) (f' := (mkF m 69 #[.val (.int ia), .val (.int ib), .val (.int (ia &&& (3 : Int32))), .val (.int ((ib &&& (255 : Int32)).toUInt32.toUInt16.toUInt32.toInt32)), .val (.int ((((ib.toUInt32 >>> ((8 : Int32) &&& 31).toUInt32).toInt32) &&& (255 : Int32)).toUInt32.toUInt16.toUInt32.toInt32)), .val (.int ((((ib.toUInt32 >>> ((16 : Int32) &&& 31).toUInt32).toInt32) &&& (255 : Int32)).toUInt32.toUInt16.toUInt32.toInt32))] [(.ref b400), (.ref b400), (.ref b389), (.ref b389)])) (fun t k => XS.dup X400.here hx rfl (hb hby d1_68) rfl rfl k) ?_
      refine GoH.step (T' := T400) (f' := (mkF m 70 #[.val (.int ia), .val (.int ib), .val (.int (ia &&& (3 : Int32))), .val (.int ((ib &&& (255 : Int32)).toUInt32.toUInt16.toUInt32.toInt32)), .val (.int ((((ib.toUInt32 >>> ((8 : Int32) &&& 31).toUInt32).toInt32) &&& (255 : Int32)).toUInt32.toUInt16.toUInt32.toInt32)), .val (.int ((((ib.toUInt32 >>> ((16 : Int32) &&& 31).toUInt32).toInt32) &&& (255 : Int32)).toUInt32.toUInt16.toUInt32.toInt32))] [(.int (0 : Int32)), (.ref b400), (.ref b400), (.ref b389), (.ref b389)])) (fun t k => XS.iconst X400.here hx rfl (hb hby d1_69) k) ?_
      refine GoH.step (T' := T400) (f' := (mkF m 71 #[.val (.int ia), .val (.int ib), .val (.int (ia &&& (3 : Int32))), .val (.int ((ib &&& (255 : Int32)).toUInt32.toUInt16.toUInt32.toInt32)), .val (.int ((((ib.toUInt32 >>> ((8 : Int32) &&& 31).toUInt32).toInt32) &&& (255 : Int32)).toUInt32.toUInt16.toUInt32.toInt32)), .val (.int ((((ib.toUInt32 >>> ((16 : Int32) &&& 31).toUInt32).toInt32) &&& (255 : Int32)).toUInt32.toUInt16.toUInt32.toInt32))] [(.int ((ib &&& (255 : Int32)).toUInt32.toUInt16.toUInt32.toInt32)), (.int (0 : Int32)), (.ref b400), (.ref b400), (.ref b389), (.ref b389)])) (fun t k => XS.iloadN X400.here hx rfl (hb hby d1_70) rfl k) ?_
      obtain ⟨ca413, Aa413, qa413, Sa413, Na413, Ha413, Ga413⟩ := id f412
      have ia413 : ¬ ((0 : Int32) < 0 ∨ ca413.slots.size ≤ ((0 : Int32)).toNatClampNeg) := inb_of Sa413 ⟨by decide, by decide⟩
      obtain ⟨T414, h414, X414, e414, W414, st414⟩ := stC X400 hx hZ e400 Aa413 (j := (0 : Int32)) ia413 (g := (mkF m 71 #[.val (.int ia), .val (.int ib), .val (.int (ia &&& (3 : Int32))), .val (.int ((ib &&& (255 : Int32)).toUInt32.toUInt16.toUInt32.toInt32)), .val (.int ((((ib.toUInt32 >>> ((8 : Int32) &&& 31).toUInt32).toInt32) &&& (255 : Int32)).toUInt32.toUInt16.toUInt32.toInt32)), .val (.int ((((ib.toUInt32 >>> ((16 : Int32) &&& 31).toUInt32).toInt32) &&& (255 : Int32)).toUInt32.toUInt16.toUInt32.toInt32))] [(.int ((ib &&& (255 : Int32)).toUInt32.toUInt16.toUInt32.toInt32)), (.int (0 : Int32)), (.ref b400), (.ref b400), (.ref b389), (.ref b389)])) rfl rfl (hb hby d1_71)
      have f415 := Arv.set Aa413 qa413 Sa413 Na413 Ha413 Ga413 (fits_nar_char _) W414 0 rfl (Nat.le_of_ble_eq_true rfl)
      have f416 : Arv Z h414 b400 k400 .char (1 : Int32) [(.int (nar .char ((ib &&& (255 : Int32)).toUInt32.toUInt16.toUInt32.toInt32)))] (.int (0 : Int32)) := f415
      have sa417 : Safe Z own_EL s.vm h400 b400 := (Safe.exa (EL := own_EL) hZ.alike Y400 (by decide) (by decide))
      have sf418 := Safe.wr W414 sa417 CR405.1 sf404
      have CR419 := CR405.trans (CHr.wr W414 sa417 CR405.1)
      have hk420 := (by rw [W414.size]; exact hk406 : _ ≤ h414.size)
      have f421 := f407.wr W414
      have f422 := f408.other W414 (Or.inl ne403)
      have f423 := f409.other W414 (Or.inl ne403)
      have f424 := Y400.wr W414
      have O425 := O410.wr W414 g401
      have K426 := K411.wr W414 (Or.inr g402)
      have N427 := Fr.snoc X414 N0 g401
      refine GoH.step (T' := T414) (f' := (mkF m 72 #[.val (.int ia), .val (.int ib), .val (.int (ia &&& (3 : Int32))), .val (.int ((ib &&& (255 : Int32)).toUInt32.toUInt16.toUInt32.toInt32)), .val (.int ((((ib.toUInt32 >>> ((8 : Int32) &&& 31).toUInt32).toInt32) &&& (255 : Int32)).toUInt32.toUInt16.toUInt32.toInt32)), .val (.int ((((ib.toUInt32 >>> ((16 : Int32) &&& 31).toUInt32).toInt32) &&& (255 : Int32)).toUInt32.toUInt16.toUInt32.toInt32))] [(.ref b400), (.ref b389), (.ref b389)])) st414 ?_
      clear st414 X400 sf404 CR405 hk406 sa417 f407 f408 f409 Y400 O410 K411
      obtain ⟨_, _, ⟨T428, L428, k428, n428⟩, -, X428, ⟨Lc428, hQ428, l428, y428, z428⟩, st428⟩ := X414.specialBack hx (y := (⟨"java/lang/String", "<init>", "([C)V"⟩ : MethodName)) rfl hown (mvT hZ (hw _ (List.mem_of_getElem? (i := 8) rfl))) (mvT hZ (hw _ (List.mem_of_getElem? (i := 9) rfl))) (mvT hZ (hw _ (List.mem_of_getElem? (i := 10) rfl))) (by decide) (backOf (W := 1) (rm_ini1_1 l Z a0 hw [] b389 b400 k400 (nar .char ((ib &&& (255 : Int32)).toUInt32.toUInt16.toUInt32.toInt32)) .null (.int (0 : Int32)) wz h414 n0 O425 f421 f423 f422 g391 f416 (Ne.symm ne403) P0 hwz (own_c8 _)) hZ (hw _ (List.mem_of_getElem? (i := 10) rfl)) (hw _ (List.mem_of_getElem? (i := 6) rfl)) (by decide) (by decide)) (g := (mkF m 72 #[.val (.int ia), .val (.int ib), .val (.int (ia &&& (3 : Int32))), .val (.int ((ib &&& (255 : Int32)).toUInt32.toUInt16.toUInt32.toInt32)), .val (.int ((((ib.toUInt32 >>> ((8 : Int32) &&& 31).toUInt32).toInt32) &&& (255 : Int32)).toUInt32.toUInt16.toUInt32.toInt32)), .val (.int ((((ib.toUInt32 >>> ((16 : Int32) &&& 31).toUInt32).toInt32) &&& (255 : Int32)).toUInt32.toUInt16.toUInt32.toInt32))] [(.ref b400), (.ref b389), (.ref b389)])) rfl (by rw [hml]; rfl) (Steps.refl _) (a := b389) (argsL := [(.ref b400)]) (rest := [(.ref b389)]) (lenOf pd4 rfl) rfl (by show 2 * 0 + _ ≤ _; exact Nat.le_of_eq rfl) (hb hby d1_72) (fun _ _ => ⟨rfl, e414, (by decide : 2 + 1 ≤ _), (by decide : 5 + 1 ≤ _)⟩)
      dsimp only [Pt.U, Pt.locs, Pt.cells, Pt.slots] at X428 l428 y428 z428 st428 hQ428
      subst l428 y428 z428
      obtain ⟨u429, u430, rfl, Nq428, hh428, p431, p432, p433, p434, p435⟩ := hQ428
      have N436 := Fr.app N427 Nq428
      have sz437 : ∀ x ∈ [b389], Safe Z own_EL s.vm h414 x := (sfS sf418 sf0)
      have sf438 := Safe.keep hh428 sz437 CR419.1 sf418
      have CR439 := CR419.trans (CHr.keep hh428 sz437 CR419.1)
      have hk440 := Nat.le_trans hk420 hh428.1
      have f441 := f421.keep hh428
      have f442 := f424.keep hh428
      have f443 := f416.keep hh428 (ninS (Ne.symm ne403) nin0)
      have O444 := O425.keep hh428 (allS g391 all0)
      have K445 := K426.trans hh428 (allS (Or.inr g392) all0)
      have g446 : n0 ≤ u429 := Nat.le_trans (own_old_le O425) p434
      have g447 : h0.size ≤ u429 := Nat.le_trans K426.1 p434
      have ne448 : b389 ≠ u429 := Nat.ne_of_lt (Nat.lt_of_lt_of_le f421.lt p434)
      have ne449 : b400 ≠ u429 := Nat.ne_of_lt (Nat.lt_of_lt_of_le f424.lt p434)
      refine GoH.via (T' := T428) (f' := (mkF m 75 #[.val (.int ia), .val (.int ib), .val (.int (ia &&& (3 : Int32))), .val (.int ((ib &&& (255 : Int32)).toUInt32.toUInt16.toUInt32.toInt32)), .val (.int ((((ib.toUInt32 >>> ((8 : Int32) &&& 31).toUInt32).toInt32) &&& (255 : Int32)).toUInt32.toUInt16.toUInt32.toInt32)), .val (.int ((((ib.toUInt32 >>> ((16 : Int32) &&& 31).toUInt32).toInt32) &&& (255 : Int32)).toUInt32.toUInt16.toUInt32.toInt32))] [(.ref b389)])) st428 ?_
      clear st428 X414 N427 Nq428 sf418 CR419 hk420 sz437 f416
      refine GoH.fin X428 hZ hEL hS0 hk440 CR439 hlk (v := some (.ref b389)) (fun h => by rw [Bd.returns] at h; cases h) (fun fs hr => retOut X428 hx Bd.returns (own_nar_ref rfl rfl) (Or.inr (Or.inr (Or.inr (Or.inr ⟨rfl, rfl, rfl⟩)))) (hb hby d1_75) hr) rfl ?_ (by decide) (by decide)
      exact ⟨b389, rfl, N436, K445, p431⟩
    ·
      refine GoH.step (T' := s₁) (f' := (mkF m 76 #[.val (.int ia), .val (.int ib), .val (.int (ia &&& (3 : Int32))), .val (.int ((ib &&& (255 : Int32)).toUInt32.toUInt16.toUInt32.toInt32)), .val (.int ((((ib.toUInt32 >>> ((8 : Int32) &&& 31).toUInt32).toInt32) &&& (255 : Int32)).toUInt32.toUInt16.toUInt32.toInt32)), .val (.int ((((ib.toUInt32 >>> ((16 : Int32) &&& 31).toUInt32).toInt32) &&& (255 : Int32)).toUInt32.toUInt16.toUInt32.toInt32))] [])) (fun t k => XS.icmpYes X0.here hx rfl (pc0 := 58) (pc' := 76) rfl (hb hby d1_58) rfl (feq hc388).2 (by decide) (by decide) k) ?_
      refine GoH.step (T' := s₁) (f' := (mkF m 77 #[.val (.int ia), .val (.int ib), .val (.int (ia &&& (3 : Int32))), .val (.int ((ib &&& (255 : Int32)).toUInt32.toUInt16.toUInt32.toInt32)), .val (.int ((((ib.toUInt32 >>> ((8 : Int32) &&& 31).toUInt32).toInt32) &&& (255 : Int32)).toUInt32.toUInt16.toUInt32.toInt32)), .val (.int ((((ib.toUInt32 >>> ((16 : Int32) &&& 31).toUInt32).toInt32) &&& (255 : Int32)).toUInt32.toUInt16.toUInt32.toInt32))] [(.int (ia &&& (3 : Int32)))])) (fun t k => XS.iloadN X0.here hx rfl (hb hby d1_76) rfl k) ?_
      refine GoH.step (T' := s₁) (f' := (mkF m 78 #[.val (.int ia), .val (.int ib), .val (.int (ia &&& (3 : Int32))), .val (.int ((ib &&& (255 : Int32)).toUInt32.toUInt16.toUInt32.toInt32)), .val (.int ((((ib.toUInt32 >>> ((8 : Int32) &&& 31).toUInt32).toInt32) &&& (255 : Int32)).toUInt32.toUInt16.toUInt32.toInt32)), .val (.int ((((ib.toUInt32 >>> ((16 : Int32) &&& 31).toUInt32).toInt32) &&& (255 : Int32)).toUInt32.toUInt16.toUInt32.toInt32))] [(.int (2 : Int32)), (.int (ia &&& (3 : Int32)))])) (fun t k => XS.iconst X0.here hx rfl (hb hby d1_77) k) ?_
      by_cases hc450 : (ia &&& (3 : Int32)) = (2 : Int32)
      ·
        refine GoH.step (T' := s₁) (f' := (mkF m 81 #[.val (.int ia), .val (.int ib), .val (.int (ia &&& (3 : Int32))), .val (.int ((ib &&& (255 : Int32)).toUInt32.toUInt16.toUInt32.toInt32)), .val (.int ((((ib.toUInt32 >>> ((8 : Int32) &&& 31).toUInt32).toInt32) &&& (255 : Int32)).toUInt32.toUInt16.toUInt32.toInt32)), .val (.int ((((ib.toUInt32 >>> ((16 : Int32) &&& 31).toUInt32).toInt32) &&& (255 : Int32)).toUInt32.toUInt16.toUInt32.toInt32))] [])) (fun t k => XS.icmpNo X0.here hx rfl (hb hby d1_78) rfl (teq hc450).2 k) ?_
        obtain ⟨T451, h451, X451, e451, E451, A451, D451, -, st451⟩ := newO X0 hx hZ hown (hw _ (List.mem_of_getElem? (i := 4) rfl)) (hw _ (List.mem_of_getElem? (i := 5) rfl)) (hw _ (List.mem_of_getElem? (i := 6) rfl)) e0 (g := (mkF m 81 #[.val (.int ia), .val (.int ib), .val (.int (ia &&& (3 : Int32))), .val (.int ((ib &&& (255 : Int32)).toUInt32.toUInt16.toUInt32.toInt32)), .val (.int ((((ib.toUInt32 >>> ((8 : Int32) &&& 31).toUInt32).toInt32) &&& (255 : Int32)).toUInt32.toUInt16.toUInt32.toInt32)), .val (.int ((((ib.toUInt32 >>> ((16 : Int32) &&& 31).toUInt32).toInt32) &&& (255 : Int32)).toUInt32.toUInt16.toUInt32.toInt32))] [])) rfl (hb hby d1_81) (by decide) (by decide)
        obtain ⟨b451, g451⟩ : ∃ z, z = h0.size := ⟨_, rfl⟩
        rw [← g451] at A451 D451 st451
        have sf452 : Safe Z own_EL s.vm h0 b451 := Safe.new (Nat.le_of_eq g451.symm)
        have g453 : n0 ≤ b451 := Nat.le_trans (own_old_le O0) (Nat.le_of_eq g451.symm)
        have g454 : h0.size ≤ b451 := Nat.le_trans K0.1 (Nat.le_of_eq g451.symm)
        have sf455 := Safe.ext E451 CR0.1 sf452
        have CR456 := CR0.trans (CHr.ext E451 CR0.1)
        have hk457 := Nat.le_trans hk0 E451.1
        have O458 := O0.ext E451
        have K459 := K0.ext E451
        have f460 : Fld Z h451 b451 "java/lang/String" "coder" "B" (.int (0 : Int32)) := D451 (Or.inr (hw _ (List.mem_of_getElem? (i := 31) rfl))) (ty := .byte) (by decide)
        have f461 : Fld Z h451 b451 "java/lang/String" "value" "[B" .null := D451 (Or.inr (hw _ (List.mem_of_getElem? (i := 33) rfl))) (ty := (.array .byte)) (by decide)
        refine GoH.step (T' := T451) (f' := (mkF m 84 #[.val (.int ia), .val (.int ib), .val (.int (ia &&& (3 : Int32))), .val (.int ((ib &&& (255 : Int32)).toUInt32.toUInt16.toUInt32.toInt32)), .val (.int ((((ib.toUInt32 >>> ((8 : Int32) &&& 31).toUInt32).toInt32) &&& (255 : Int32)).toUInt32.toUInt16.toUInt32.toInt32)), .val (.int ((((ib.toUInt32 >>> ((16 : Int32) &&& 31).toUInt32).toInt32) &&& (255 : Int32)).toUInt32.toUInt16.toUInt32.toInt32))] [(.ref b451)])) st451 ?_
        clear st451 X0 sf452 CR0 hk0
        refine GoH.step (T' := T451) (f' := (mkF m 85 #[.val (.int ia), .val (.int ib), .val (.int (ia &&& (3 : Int32))), .val (.int ((ib &&& (255 : Int32)).toUInt32.toUInt16.toUInt32.toInt32)), .val (.int ((((ib.toUInt32 >>> ((8 : Int32) &&& 31).toUInt32).toInt32) &&& (255 : Int32)).toUInt32.toUInt16.toUInt32.toInt32)), .val (.int ((((ib.toUInt32 >>> ((16 : Int32) &&& 31).toUInt32).toInt32) &&& (255 : Int32)).toUInt32.toUInt16.toUInt32.toInt32))] [(.ref b451), (.ref b451)])) (fun t k => XS.dup X451.here hx rfl (hb hby d1_84) rfl rfl k) ?_
        refine GoH.step (T' := T451) (f' := (mkF m 86 #[.val (.int ia), .val (.int ib), .val (.int (ia &&& (3 : Int32))), .val (.int ((ib &&& (255 : Int32)).toUInt32.toUInt16.toUInt32.toInt32)), .val (.int ((((ib.toUInt32 >>> ((8 : Int32) &&& 31).toUInt32).toInt32) &&& (255 : Int32)).toUInt32.toUInt16.toUInt32.toInt32)), .val (.int ((((ib.toUInt32 >>> ((16 : Int32) &&& 31).toUInt32).toInt32) &&& (255 : Int32)).toUInt32.toUInt16.toUInt32.toInt32))] [(.int (2 : Int32)), (.ref b451), (.ref b451)])) (fun t k => XS.iconst X451.here hx rfl (hb hby d1_85) k) ?_
        obtain ⟨T462, h462, k462, X462, e462, E462, A462, Y462, st462⟩ := newPE X451 hx hZ (hw _ (List.mem_of_getElem? (i := 7) rfl)) e451 (g := (mkF m 86 #[.val (.int ia), .val (.int ib), .val (.int (ia &&& (3 : Int32))), .val (.int ((ib &&& (255 : Int32)).toUInt32.toUInt16.toUInt32.toInt32)), .val (.int ((((ib.toUInt32 >>> ((8 : Int32) &&& 31).toUInt32).toInt32) &&& (255 : Int32)).toUInt32.toUInt16.toUInt32.toInt32)), .val (.int ((((ib.toUInt32 >>> ((16 : Int32) &&& 31).toUInt32).toInt32) &&& (255 : Int32)).toUInt32.toUInt16.toUInt32.toInt32))] [(.int (2 : Int32)), (.ref b451), (.ref b451)])) rfl (hb hby d1_86) rfl (by decide) (cap := 2) (by decide) (by decide) (by decide) (by decide) (ad := "[C") (by decide)
        obtain ⟨b462, g462⟩ : ∃ z, z = h451.size := ⟨_, rfl⟩
        rw [← g462] at A462 Y462 st462
        have g463 : n0 ≤ b462 := Nat.le_trans (own_old_le O458) (Nat.le_of_eq g462.symm)
        have g464 : h0.size ≤ b462 := Nat.le_trans K459.1 (Nat.le_of_eq g462.symm)
        have ne465 : b451 ≠ b462 := Nat.ne_of_lt (Nat.lt_of_lt_of_le A451.lt (Nat.le_of_eq g462.symm))
        have sf466 := Safe.ext E462 CR456.1 sf455
        have CR467 := CR456.trans (CHr.ext E462 CR456.1)
        have hk468 := Nat.le_trans hk457 E462.1
        have f469 := A451.ext E462
        have f470 := f460.ext E462
        have f471 := f461.ext E462
        have O472 := O458.ext E462
        have K473 := K459.ext E462
        have f474 : Arv Z h462 b462 k462 .char (2 : Int32) [(.int (0 : Int32)), (.int (0 : Int32))] (.int (0 : Int32)) := (Arv.new A462 (by decide)).pad (pad_rep [] (.int (0 : Int32)) 2)
        refine GoH.step (T' := T462) (f' := (mkF m 88 #[.val (.int ia), .val (.int ib), .val (.int (ia &&& (3 : Int32))), .val (.int ((ib &&& (255 : Int32)).toUInt32.toUInt16.toUInt32.toInt32)), .val (.int ((((ib.toUInt32 >>> ((8 : Int32) &&& 31).toUInt32).toInt32) &&& (255 : Int32)).toUInt32.toUInt16.toUInt32.toInt32)), .val (.int ((((ib.toUInt32 >>> ((16 : Int32) &&& 31).toUInt32).toInt32) &&& (255 : Int32)).toUInt32.toUInt16.toUInt32.toInt32))] [(.ref b462), (.ref b451), (.ref b451)])) st462 ?_
        clear st462 X451 sf455 CR456 hk457 A451 f460 f461 O458 K459
        refine GoH.step (T' := T462) (f' := (mkF m 89 #[.val (.int ia), .val (.int ib), .val (.int (ia &&& (3 : Int32))), .val (.int ((ib &&& (255 : Int32)).toUInt32.toUInt16.toUInt32.toInt32)), .val (.int ((((ib.toUInt32 >>> ((8 : Int32) &&& 31).toUInt32).toInt32) &&& (255 : Int32)).toUInt32.toUInt16.toUInt32.toInt32)), .val (.int ((((ib.toUInt32 >>> ((16 : Int32) &&& 31).toUInt32).toInt32) &&& (255 : Int32)).toUInt32.toUInt16.toUInt32.toInt32))] [(.ref b462), (.ref b462), (.ref b451), (.ref b451)])) (fun t k => XS.dup X462.here hx rfl (hb hby d1_88) rfl rfl k) ?_
        refine GoH.step (T' := T462) (f' := (mkF m 90 #[.val (.int ia), .val (.int ib), .val (.int (ia &&& (3 : Int32))), .val (.int ((ib &&& (255 : Int32)).toUInt32.toUInt16.toUInt32.toInt32)), .val (.int ((((ib.toUInt32 >>> ((8 : Int32) &&& 31).toUInt32).toInt32) &&& (255 : Int32)).toUInt32.toUInt16.toUInt32.toInt32)), .val (.int ((((ib.toUInt32 >>> ((16 : Int32) &&& 31).toUInt32).toInt32) &&& (255 : Int32)).toUInt32.toUInt16.toUInt32.toInt32))] [(.int (0 : Int32)), (.ref b462), (.ref b462), (.ref b451), (.ref b451)])) (fun t k => XS.iconst X462.here hx rfl (hb hby d1_89) k) ?_
        refine GoH.step (T' := T462) (f' := (mkF m 91 #[.val (.int ia), .val (.int ib), .val (.int (ia &&& (3 : Int32))), .val (.int ((ib &&& (255 : Int32)).toUInt32.toUInt16.toUInt32.toInt32)), .val (.int ((((ib.toUInt32 >>> ((8 : Int32) &&& 31).toUInt32).toInt32) &&& (255 : Int32)).toUInt32.toUInt16.toUInt32.toInt32)), .val (.int ((((ib.toUInt32 >>> ((16 : Int32) &&& 31).toUInt32).toInt32) &&& (255 : Int32)).toUInt32.toUInt16.toUInt32.toInt32))] [(.int ((ib &&& (255 : Int32)).toUInt32.toUInt16.toUInt32.toInt32)), (.int (0 : Int32)), (.ref b462), (.ref b462), (.ref b451), (.ref b451)])) (fun t k => XS.iloadN X462.here hx rfl (hb hby d1_90) rfl k) ?_
        obtain ⟨ca475, Aa475, qa475, Sa475, Na475, Ha475, Ga475⟩ := id f474
        have ia475 : ¬ ((0 : Int32) < 0 ∨ ca475.slots.size ≤ ((0 : Int32)).toNatClampNeg) := inb_of Sa475 ⟨by decide, by decide⟩
        obtain ⟨T476, h476, X476, e476, W476, st476⟩ := stC X462 hx hZ e462 Aa475 (j := (0 : Int32)) ia475 (g := (mkF m 91 #[.val (.int ia), .val (.int ib), .val (.int (ia &&& (3 : Int32))), .val (.int ((ib &&& (255 : Int32)).toUInt32.toUInt16.toUInt32.toInt32)), .val (.int ((((ib.toUInt32 >>> ((8 : Int32) &&& 31).toUInt32).toInt32) &&& (255 : Int32)).toUInt32.toUInt16.toUInt32.toInt32)), .val (.int ((((ib.toUInt32 >>> ((16 : Int32) &&& 31).toUInt32).toInt32) &&& (255 : Int32)).toUInt32.toUInt16.toUInt32.toInt32))] [(.int ((ib &&& (255 : Int32)).toUInt32.toUInt16.toUInt32.toInt32)), (.int (0 : Int32)), (.ref b462), (.ref b462), (.ref b451), (.ref b451)])) rfl rfl (hb hby d1_91)
        have f477 := Arv.set Aa475 qa475 Sa475 Na475 Ha475 Ga475 (fits_nar_char _) W476 0 rfl (Nat.le_of_ble_eq_true rfl)
        have f478 : Arv Z h476 b462 k462 .char (2 : Int32) [(.int (nar .char ((ib &&& (255 : Int32)).toUInt32.toUInt16.toUInt32.toInt32))), (.int (0 : Int32))] (.int (0 : Int32)) := f477
        have sa479 : Safe Z own_EL s.vm h462 b462 := (Safe.exa (EL := own_EL) hZ.alike Y462 (by decide) (by decide))
        have sf480 := Safe.wr W476 sa479 CR467.1 sf466
        have CR481 := CR467.trans (CHr.wr W476 sa479 CR467.1)
        have hk482 := (by rw [W476.size]; exact hk468 : _ ≤ h476.size)
        have f483 := f469.wr W476
        have f484 := f470.other W476 (Or.inl ne465)
        have f485 := f471.other W476 (Or.inl ne465)
        have f486 := Y462.wr W476
        have O487 := O472.wr W476 g463
        have K488 := K473.wr W476 (Or.inr g464)
        have N489 := Fr.snoc X476 N0 g463
        refine GoH.step (T' := T476) (f' := (mkF m 92 #[.val (.int ia), .val (.int ib), .val (.int (ia &&& (3 : Int32))), .val (.int ((ib &&& (255 : Int32)).toUInt32.toUInt16.toUInt32.toInt32)), .val (.int ((((ib.toUInt32 >>> ((8 : Int32) &&& 31).toUInt32).toInt32) &&& (255 : Int32)).toUInt32.toUInt16.toUInt32.toInt32)), .val (.int ((((ib.toUInt32 >>> ((16 : Int32) &&& 31).toUInt32).toInt32) &&& (255 : Int32)).toUInt32.toUInt16.toUInt32.toInt32))] [(.ref b462), (.ref b451), (.ref b451)])) st476 ?_
        clear st476 X462 sf466 CR467 hk468 sa479 f469 f470 f471 Y462 O472 K473
        refine GoH.step (T' := T476) (f' := (mkF m 93 #[.val (.int ia), .val (.int ib), .val (.int (ia &&& (3 : Int32))), .val (.int ((ib &&& (255 : Int32)).toUInt32.toUInt16.toUInt32.toInt32)), .val (.int ((((ib.toUInt32 >>> ((8 : Int32) &&& 31).toUInt32).toInt32) &&& (255 : Int32)).toUInt32.toUInt16.toUInt32.toInt32)), .val (.int ((((ib.toUInt32 >>> ((16 : Int32) &&& 31).toUInt32).toInt32) &&& (255 : Int32)).toUInt32.toUInt16.toUInt32.toInt32))] [(.ref b462), (.ref b462), (.ref b451), (.ref b451)])) (fun t k => XS.dup X476.here hx rfl (hb hby d1_92) rfl rfl k) ?_
        refine GoH.step (T' := T476) (f' := (mkF m 94 #[.val (.int ia), .val (.int ib), .val (.int (ia &&& (3 : Int32))), .val (.int ((ib &&& (255 : Int32)).toUInt32.toUInt16.toUInt32.toInt32)), .val (.int ((((ib.toUInt32 >>> ((8 : Int32) &&& 31).toUInt32).toInt32) &&& (255 : Int32)).toUInt32.toUInt16.toUInt32.toInt32)), .val (.int ((((ib.toUInt32 >>> ((16 : Int32) &&& 31).toUInt32).toInt32) &&& (255 : Int32)).toUInt32.toUInt16.toUInt32.toInt32))] [(.int (1 : Int32)), (.ref b462), (.ref b462), (.ref b451), (.ref b451)])) (fun t k => XS.iconst X476.here hx rfl (hb hby d1_93) k) ?_
        refine GoH.step (T' := T476) (f' := (mkF m 96 #[.val (.int ia), .val (.int ib), .val (.int (ia &&& (3 : Int32))), .val (.int ((ib &&& (255 : Int32)).toUInt32.toUInt16.toUInt32.toInt32)), .val (.int ((((ib.toUInt32 >>> ((8 : Int32) &&& 31).toUInt32).toInt32) &&& (255 : Int32)).toUInt32.toUInt16.toUInt32.toInt32)), .val (.int ((((ib.toUInt32 >>> ((16 : Int32) &&& 31).toUInt32).toInt32) &&& (255 : Int32)).toUInt32.toUInt16.toUInt32.toInt32))] [(.int ((((ib.toUInt32 >>> ((8 : Int32) &&& 31).toUInt32).toInt32) &&& (255 : Int32)).toUInt32.toUInt16.toUInt32.toInt32)), (.int (1 : Int32)), (.ref b462), (.ref b462), (.ref b451), (.ref b451)])) (fun t k => XS.iload X476.here hx rfl (hb hby d1_94) rfl k) ?_
        obtain ⟨ca490, Aa490, qa490, Sa490, Na490, Ha490, Ga490⟩ := id f478
        have ia490 : ¬ ((1 : Int32) < 0 ∨ ca490.slots.size ≤ ((1 : Int32)).toNatClampNeg) := inb_of Sa490 ⟨by decide, by decide⟩
        obtain ⟨T491, h491, X491, e491, W491, st491⟩ := stC X476 hx hZ e476 Aa490 (j := (1 : Int32)) ia490 (g := (mkF m 96 #[.val (.int ia), .val (.int ib), .val (.int (ia &&& (3 : Int32))), .val (.int ((ib &&& (255 : Int32)).toUInt32.toUInt16.toUInt32.toInt32)), .val (.int ((((ib.toUInt32 >>> ((8 : Int32) &&& 31).toUInt32).toInt32) &&& (255 : Int32)).toUInt32.toUInt16.toUInt32.toInt32)), .val (.int ((((ib.toUInt32 >>> ((16 : Int32) &&& 31).toUInt32).toInt32) &&& (255 : Int32)).toUInt32.toUInt16.toUInt32.toInt32))] [(.int ((((ib.toUInt32 >>> ((8 : Int32) &&& 31).toUInt32).toInt32) &&& (255 : Int32)).toUInt32.toUInt16.toUInt32.toInt32)), (.int (1 : Int32)), (.ref b462), (.ref b462), (.ref b451), (.ref b451)])) rfl rfl (hb hby d1_96)
        have f492 := Arv.set Aa490 qa490 Sa490 Na490 Ha490 Ga490 (fits_nar_char _) W491 1 rfl (Nat.le_of_ble_eq_true rfl)
        have f493 : Arv Z h491 b462 k462 .char (2 : Int32) [(.int (nar .char ((ib &&& (255 : Int32)).toUInt32.toUInt16.toUInt32.toInt32))), (.int (nar .char ((((ib.toUInt32 >>> ((8 : Int32) &&& 31).toUInt32).toInt32) &&& (255 : Int32)).toUInt32.toUInt16.toUInt32.toInt32)))] (.int (0 : Int32)) := f492
        have sa494 : Safe Z own_EL s.vm h476 b462 := (Safe.exa (EL := own_EL) hZ.alike f486 (by decide) (by decide))
        have sf495 := Safe.wr W491 sa494 CR481.1 sf480
        have CR496 := CR481.trans (CHr.wr W491 sa494 CR481.1)
        have hk497 := (by rw [W491.size]; exact hk482 : _ ≤ h491.size)
        have f498 := f483.wr W491
        have f499 := f484.other W491 (Or.inl ne465)
        have f500 := f485.other W491 (Or.inl ne465)
        have f501 := f486.wr W491
        have O502 := O487.wr W491 g463
        have K503 := K488.wr W491 (Or.inr g464)
        have N504 := Fr.snoc X491 N489 g463
        refine GoH.step (T' := T491) (f' := (mkF m 97 #[.val (.int ia), .val (.int ib), .val (.int (ia &&& (3 : Int32))), .val (.int ((ib &&& (255 : Int32)).toUInt32.toUInt16.toUInt32.toInt32)), .val (.int ((((ib.toUInt32 >>> ((8 : Int32) &&& 31).toUInt32).toInt32) &&& (255 : Int32)).toUInt32.toUInt16.toUInt32.toInt32)), .val (.int ((((ib.toUInt32 >>> ((16 : Int32) &&& 31).toUInt32).toInt32) &&& (255 : Int32)).toUInt32.toUInt16.toUInt32.toInt32))] [(.ref b462), (.ref b451), (.ref b451)])) st491 ?_
        clear st491 X476 sf480 CR481 hk482 sa494 f483 f484 f485 f486 O487 K488 N489
        obtain ⟨_, _, ⟨T505, L505, k505, n505⟩, -, X505, ⟨Lc505, hQ505, l505, y505, z505⟩, st505⟩ := X491.specialBack hx (y := (⟨"java/lang/String", "<init>", "([C)V"⟩ : MethodName)) rfl hown (mvT hZ (hw _ (List.mem_of_getElem? (i := 8) rfl))) (mvT hZ (hw _ (List.mem_of_getElem? (i := 9) rfl))) (mvT hZ (hw _ (List.mem_of_getElem? (i := 10) rfl))) (by decide) (backOf (W := 1) (rm_ini1_2 l Z a0 hw [] b451 b462 k462 (nar .char ((ib &&& (255 : Int32)).toUInt32.toUInt16.toUInt32.toInt32)) (nar .char ((((ib.toUInt32 >>> ((8 : Int32) &&& 31).toUInt32).toInt32) &&& (255 : Int32)).toUInt32.toUInt16.toUInt32.toInt32)) .null (.int (0 : Int32)) wz h491 n0 O502 f498 f500 f499 g453 f493 (Ne.symm ne465) P0 hwz (own_c8 _) (own_c8 _)) hZ (hw _ (List.mem_of_getElem? (i := 10) rfl)) (hw _ (List.mem_of_getElem? (i := 6) rfl)) (by decide) (by decide)) (g := (mkF m 97 #[.val (.int ia), .val (.int ib), .val (.int (ia &&& (3 : Int32))), .val (.int ((ib &&& (255 : Int32)).toUInt32.toUInt16.toUInt32.toInt32)), .val (.int ((((ib.toUInt32 >>> ((8 : Int32) &&& 31).toUInt32).toInt32) &&& (255 : Int32)).toUInt32.toUInt16.toUInt32.toInt32)), .val (.int ((((ib.toUInt32 >>> ((16 : Int32) &&& 31).toUInt32).toInt32) &&& (255 : Int32)).toUInt32.toUInt16.toUInt32.toInt32))] [(.ref b462), (.ref b451), (.ref b451)])) rfl (by rw [hml]; rfl) (Steps.refl _) (a := b451) (argsL := [(.ref b462)]) (rest := [(.ref b451)]) (lenOf pd4 rfl) rfl (by show 2 * 0 + _ ≤ _; exact Nat.le_of_eq rfl) (hb hby d1_97) (fun _ _ => ⟨rfl, e491, (by decide : 2 + 1 ≤ _), (by decide : 6 + 2 ≤ _)⟩)
        dsimp only [Pt.U, Pt.locs, Pt.cells, Pt.slots] at X505 l505 y505 z505 st505 hQ505
        subst l505 y505 z505
        obtain ⟨u506, u507, rfl, Nq505, hh505, p508, p509, p510, p511, p512⟩ := hQ505
        have N513 := Fr.app N504 Nq505
        have sz514 : ∀ x ∈ [b451], Safe Z own_EL s.vm h491 x := (sfS sf495 sf0)
        have sf515 := Safe.keep hh505 sz514 CR496.1 sf495
        have CR516 := CR496.trans (CHr.keep hh505 sz514 CR496.1)
        have hk517 := Nat.le_trans hk497 hh505.1
        have f518 := f498.keep hh505
        have f519 := f501.keep hh505
        have f520 := f493.keep hh505 (ninS (Ne.symm ne465) nin0)
        have O521 := O502.keep hh505 (allS g453 all0)
        have K522 := K503.trans hh505 (allS (Or.inr g454) all0)
        have g523 : n0 ≤ u506 := Nat.le_trans (own_old_le O502) p511
        have g524 : h0.size ≤ u506 := Nat.le_trans K503.1 p511
        have ne525 : b451 ≠ u506 := Nat.ne_of_lt (Nat.lt_of_lt_of_le f498.lt p511)
        have ne526 : b462 ≠ u506 := Nat.ne_of_lt (Nat.lt_of_lt_of_le f501.lt p511)
        refine GoH.via (T' := T505) (f' := (mkF m 100 #[.val (.int ia), .val (.int ib), .val (.int (ia &&& (3 : Int32))), .val (.int ((ib &&& (255 : Int32)).toUInt32.toUInt16.toUInt32.toInt32)), .val (.int ((((ib.toUInt32 >>> ((8 : Int32) &&& 31).toUInt32).toInt32) &&& (255 : Int32)).toUInt32.toUInt16.toUInt32.toInt32)), .val (.int ((((ib.toUInt32 >>> ((16 : Int32) &&& 31).toUInt32).toInt32) &&& (255 : Int32)).toUInt32.toUInt16.toUInt32.toInt32))] [(.ref b451)])) st505 ?_
        clear st505 X491 N504 Nq505 sf495 CR496 hk497 sz514 f493
        refine GoH.fin X505 hZ hEL hS0 hk517 CR516 hlk (v := some (.ref b451)) (fun h => by rw [Bd.returns] at h; cases h) (fun fs hr => retOut X505 hx Bd.returns (own_nar_ref rfl rfl) (Or.inr (Or.inr (Or.inr (Or.inr ⟨rfl, rfl, rfl⟩)))) (hb hby d1_100) hr) rfl ?_ (by decide) (by decide)
        exact ⟨b451, rfl, N513, K522, p508⟩
      ·
        refine GoH.step (T' := s₁) (f' := (mkF m 101 #[.val (.int ia), .val (.int ib), .val (.int (ia &&& (3 : Int32))), .val (.int ((ib &&& (255 : Int32)).toUInt32.toUInt16.toUInt32.toInt32)), .val (.int ((((ib.toUInt32 >>> ((8 : Int32) &&& 31).toUInt32).toInt32) &&& (255 : Int32)).toUInt32.toUInt16.toUInt32.toInt32)), .val (.int ((((ib.toUInt32 >>> ((16 : Int32) &&& 31).toUInt32).toInt32) &&& (255 : Int32)).toUInt32.toUInt16.toUInt32.toInt32))] [])) (fun t k => XS.icmpYes X0.here hx rfl (pc0 := 78) (pc' := 101) rfl (hb hby d1_78) rfl (feq hc450).2 (by decide) (by decide) k) ?_
        obtain ⟨T527, h527, X527, e527, E527, A527, D527, -, st527⟩ := newO X0 hx hZ hown (hw _ (List.mem_of_getElem? (i := 4) rfl)) (hw _ (List.mem_of_getElem? (i := 5) rfl)) (hw _ (List.mem_of_getElem? (i := 6) rfl)) e0 (g := (mkF m 101 #[.val (.int ia), .val (.int ib), .val (.int (ia &&& (3 : Int32))), .val (.int ((ib &&& (255 : Int32)).toUInt32.toUInt16.toUInt32.toInt32)), .val (.int ((((ib.toUInt32 >>> ((8 : Int32) &&& 31).toUInt32).toInt32) &&& (255 : Int32)).toUInt32.toUInt16.toUInt32.toInt32)), .val (.int ((((ib.toUInt32 >>> ((16 : Int32) &&& 31).toUInt32).toInt32) &&& (255 : Int32)).toUInt32.toUInt16.toUInt32.toInt32))] [])) rfl (hb hby d1_101) (by decide) (by decide)
        obtain ⟨b527, g527⟩ : ∃ z, z = h0.size := ⟨_, rfl⟩
        rw [← g527] at A527 D527 st527
        have sf528 : Safe Z own_EL s.vm h0 b527 := Safe.new (Nat.le_of_eq g527.symm)
        have g529 : n0 ≤ b527 := Nat.le_trans (own_old_le O0) (Nat.le_of_eq g527.symm)
        have g530 : h0.size ≤ b527 := Nat.le_trans K0.1 (Nat.le_of_eq g527.symm)
        have sf531 := Safe.ext E527 CR0.1 sf528
        have CR532 := CR0.trans (CHr.ext E527 CR0.1)
        have hk533 := Nat.le_trans hk0 E527.1
        have O534 := O0.ext E527
        have K535 := K0.ext E527
        have f536 : Fld Z h527 b527 "java/lang/String" "coder" "B" (.int (0 : Int32)) := D527 (Or.inr (hw _ (List.mem_of_getElem? (i := 31) rfl))) (ty := .byte) (by decide)
        have f537 : Fld Z h527 b527 "java/lang/String" "value" "[B" .null := D527 (Or.inr (hw _ (List.mem_of_getElem? (i := 33) rfl))) (ty := (.array .byte)) (by decide)
        refine GoH.step (T' := T527) (f' := (mkF m 104 #[.val (.int ia), .val (.int ib), .val (.int (ia &&& (3 : Int32))), .val (.int ((ib &&& (255 : Int32)).toUInt32.toUInt16.toUInt32.toInt32)), .val (.int ((((ib.toUInt32 >>> ((8 : Int32) &&& 31).toUInt32).toInt32) &&& (255 : Int32)).toUInt32.toUInt16.toUInt32.toInt32)), .val (.int ((((ib.toUInt32 >>> ((16 : Int32) &&& 31).toUInt32).toInt32) &&& (255 : Int32)).toUInt32.toUInt16.toUInt32.toInt32))] [(.ref b527)])) st527 ?_
        clear st527 X0 sf528 CR0 hk0
        refine GoH.step (T' := T527) (f' := (mkF m 105 #[.val (.int ia), .val (.int ib), .val (.int (ia &&& (3 : Int32))), .val (.int ((ib &&& (255 : Int32)).toUInt32.toUInt16.toUInt32.toInt32)), .val (.int ((((ib.toUInt32 >>> ((8 : Int32) &&& 31).toUInt32).toInt32) &&& (255 : Int32)).toUInt32.toUInt16.toUInt32.toInt32)), .val (.int ((((ib.toUInt32 >>> ((16 : Int32) &&& 31).toUInt32).toInt32) &&& (255 : Int32)).toUInt32.toUInt16.toUInt32.toInt32))] [(.ref b527), (.ref b527)])) (fun t k => XS.dup X527.here hx rfl (hb hby d1_104) rfl rfl k) ?_
        refine GoH.step (T' := T527) (f' := (mkF m 106 #[.val (.int ia), .val (.int ib), .val (.int (ia &&& (3 : Int32))), .val (.int ((ib &&& (255 : Int32)).toUInt32.toUInt16.toUInt32.toInt32)), .val (.int ((((ib.toUInt32 >>> ((8 : Int32) &&& 31).toUInt32).toInt32) &&& (255 : Int32)).toUInt32.toUInt16.toUInt32.toInt32)), .val (.int ((((ib.toUInt32 >>> ((16 : Int32) &&& 31).toUInt32).toInt32) &&& (255 : Int32)).toUInt32.toUInt16.toUInt32.toInt32))] [(.int (3 : Int32)), (.ref b527), (.ref b527)])) (fun t k => XS.iconst X527.here hx rfl (hb hby d1_105) k) ?_
        obtain ⟨T538, h538, k538, X538, e538, E538, A538, Y538, st538⟩ := newPE X527 hx hZ (hw _ (List.mem_of_getElem? (i := 7) rfl)) e527 (g := (mkF m 106 #[.val (.int ia), .val (.int ib), .val (.int (ia &&& (3 : Int32))), .val (.int ((ib &&& (255 : Int32)).toUInt32.toUInt16.toUInt32.toInt32)), .val (.int ((((ib.toUInt32 >>> ((8 : Int32) &&& 31).toUInt32).toInt32) &&& (255 : Int32)).toUInt32.toUInt16.toUInt32.toInt32)), .val (.int ((((ib.toUInt32 >>> ((16 : Int32) &&& 31).toUInt32).toInt32) &&& (255 : Int32)).toUInt32.toUInt16.toUInt32.toInt32))] [(.int (3 : Int32)), (.ref b527), (.ref b527)])) rfl (hb hby d1_106) rfl (by decide) (cap := 3) (by decide) (by decide) (by decide) (by decide) (ad := "[C") (by decide)
        obtain ⟨b538, g538⟩ : ∃ z, z = h527.size := ⟨_, rfl⟩
        rw [← g538] at A538 Y538 st538
        have g539 : n0 ≤ b538 := Nat.le_trans (own_old_le O534) (Nat.le_of_eq g538.symm)
        have g540 : h0.size ≤ b538 := Nat.le_trans K535.1 (Nat.le_of_eq g538.symm)
        have ne541 : b527 ≠ b538 := Nat.ne_of_lt (Nat.lt_of_lt_of_le A527.lt (Nat.le_of_eq g538.symm))
        have sf542 := Safe.ext E538 CR532.1 sf531
        have CR543 := CR532.trans (CHr.ext E538 CR532.1)
        have hk544 := Nat.le_trans hk533 E538.1
        have f545 := A527.ext E538
        have f546 := f536.ext E538
        have f547 := f537.ext E538
        have O548 := O534.ext E538
        have K549 := K535.ext E538
        have f550 : Arv Z h538 b538 k538 .char (3 : Int32) [(.int (0 : Int32)), (.int (0 : Int32)), (.int (0 : Int32))] (.int (0 : Int32)) := (Arv.new A538 (by decide)).pad (pad_rep [] (.int (0 : Int32)) 3)
        refine GoH.step (T' := T538) (f' := (mkF m 108 #[.val (.int ia), .val (.int ib), .val (.int (ia &&& (3 : Int32))), .val (.int ((ib &&& (255 : Int32)).toUInt32.toUInt16.toUInt32.toInt32)), .val (.int ((((ib.toUInt32 >>> ((8 : Int32) &&& 31).toUInt32).toInt32) &&& (255 : Int32)).toUInt32.toUInt16.toUInt32.toInt32)), .val (.int ((((ib.toUInt32 >>> ((16 : Int32) &&& 31).toUInt32).toInt32) &&& (255 : Int32)).toUInt32.toUInt16.toUInt32.toInt32))] [(.ref b538), (.ref b527), (.ref b527)])) st538 ?_
        clear st538 X527 sf531 CR532 hk533 A527 f536 f537 O534 K535
        refine GoH.step (T' := T538) (f' := (mkF m 109 #[.val (.int ia), .val (.int ib), .val (.int (ia &&& (3 : Int32))), .val (.int ((ib &&& (255 : Int32)).toUInt32.toUInt16.toUInt32.toInt32)), .val (.int ((((ib.toUInt32 >>> ((8 : Int32) &&& 31).toUInt32).toInt32) &&& (255 : Int32)).toUInt32.toUInt16.toUInt32.toInt32)), .val (.int ((((ib.toUInt32 >>> ((16 : Int32) &&& 31).toUInt32).toInt32) &&& (255 : Int32)).toUInt32.toUInt16.toUInt32.toInt32))] [(.ref b538), (.ref b538), (.ref b527), (.ref b527)])) (fun t k => XS.dup X538.here hx rfl (hb hby d1_108) rfl rfl k) ?_
        refine GoH.step (T' := T538) (f' := (mkF m 110 #[.val (.int ia), .val (.int ib), .val (.int (ia &&& (3 : Int32))), .val (.int ((ib &&& (255 : Int32)).toUInt32.toUInt16.toUInt32.toInt32)), .val (.int ((((ib.toUInt32 >>> ((8 : Int32) &&& 31).toUInt32).toInt32) &&& (255 : Int32)).toUInt32.toUInt16.toUInt32.toInt32)), .val (.int ((((ib.toUInt32 >>> ((16 : Int32) &&& 31).toUInt32).toInt32) &&& (255 : Int32)).toUInt32.toUInt16.toUInt32.toInt32))] [(.int (0 : Int32)), (.ref b538), (.ref b538), (.ref b527), (.ref b527)])) (fun t k => XS.iconst X538.here hx rfl (hb hby d1_109) k) ?_
        refine GoH.step (T' := T538) (f' := (mkF m 111 #[.val (.int ia), .val (.int ib), .val (.int (ia &&& (3 : Int32))), .val (.int ((ib &&& (255 : Int32)).toUInt32.toUInt16.toUInt32.toInt32)), .val (.int ((((ib.toUInt32 >>> ((8 : Int32) &&& 31).toUInt32).toInt32) &&& (255 : Int32)).toUInt32.toUInt16.toUInt32.toInt32)), .val (.int ((((ib.toUInt32 >>> ((16 : Int32) &&& 31).toUInt32).toInt32) &&& (255 : Int32)).toUInt32.toUInt16.toUInt32.toInt32))] [(.int ((ib &&& (255 : Int32)).toUInt32.toUInt16.toUInt32.toInt32)), (.int (0 : Int32)), (.ref b538), (.ref b538), (.ref b527), (.ref b527)])) (fun t k => XS.iloadN X538.here hx rfl (hb hby d1_110) rfl k) ?_
        obtain ⟨ca551, Aa551, qa551, Sa551, Na551, Ha551, Ga551⟩ := id f550
        have ia551 : ¬ ((0 : Int32) < 0 ∨ ca551.slots.size ≤ ((0 : Int32)).toNatClampNeg) := inb_of Sa551 ⟨by decide, by decide⟩
        obtain ⟨T552, h552, X552, e552, W552, st552⟩ := stC X538 hx hZ e538 Aa551 (j := (0 : Int32)) ia551 (g := (mkF m 111 #[.val (.int ia), .val (.int ib), .val (.int (ia &&& (3 : Int32))), .val (.int ((ib &&& (255 : Int32)).toUInt32.toUInt16.toUInt32.toInt32)), .val (.int ((((ib.toUInt32 >>> ((8 : Int32) &&& 31).toUInt32).toInt32) &&& (255 : Int32)).toUInt32.toUInt16.toUInt32.toInt32)), .val (.int ((((ib.toUInt32 >>> ((16 : Int32) &&& 31).toUInt32).toInt32) &&& (255 : Int32)).toUInt32.toUInt16.toUInt32.toInt32))] [(.int ((ib &&& (255 : Int32)).toUInt32.toUInt16.toUInt32.toInt32)), (.int (0 : Int32)), (.ref b538), (.ref b538), (.ref b527), (.ref b527)])) rfl rfl (hb hby d1_111)
        have f553 := Arv.set Aa551 qa551 Sa551 Na551 Ha551 Ga551 (fits_nar_char _) W552 0 rfl (Nat.le_of_ble_eq_true rfl)
        have f554 : Arv Z h552 b538 k538 .char (3 : Int32) [(.int (nar .char ((ib &&& (255 : Int32)).toUInt32.toUInt16.toUInt32.toInt32))), (.int (0 : Int32)), (.int (0 : Int32))] (.int (0 : Int32)) := f553
        have sa555 : Safe Z own_EL s.vm h538 b538 := (Safe.exa (EL := own_EL) hZ.alike Y538 (by decide) (by decide))
        have sf556 := Safe.wr W552 sa555 CR543.1 sf542
        have CR557 := CR543.trans (CHr.wr W552 sa555 CR543.1)
        have hk558 := (by rw [W552.size]; exact hk544 : _ ≤ h552.size)
        have f559 := f545.wr W552
        have f560 := f546.other W552 (Or.inl ne541)
        have f561 := f547.other W552 (Or.inl ne541)
        have f562 := Y538.wr W552
        have O563 := O548.wr W552 g539
        have K564 := K549.wr W552 (Or.inr g540)
        have N565 := Fr.snoc X552 N0 g539
        refine GoH.step (T' := T552) (f' := (mkF m 112 #[.val (.int ia), .val (.int ib), .val (.int (ia &&& (3 : Int32))), .val (.int ((ib &&& (255 : Int32)).toUInt32.toUInt16.toUInt32.toInt32)), .val (.int ((((ib.toUInt32 >>> ((8 : Int32) &&& 31).toUInt32).toInt32) &&& (255 : Int32)).toUInt32.toUInt16.toUInt32.toInt32)), .val (.int ((((ib.toUInt32 >>> ((16 : Int32) &&& 31).toUInt32).toInt32) &&& (255 : Int32)).toUInt32.toUInt16.toUInt32.toInt32))] [(.ref b538), (.ref b527), (.ref b527)])) st552 ?_
        clear st552 X538 sf542 CR543 hk544 sa555 f545 f546 f547 Y538 O548 K549
        refine GoH.step (T' := T552) (f' := (mkF m 113 #[.val (.int ia), .val (.int ib), .val (.int (ia &&& (3 : Int32))), .val (.int ((ib &&& (255 : Int32)).toUInt32.toUInt16.toUInt32.toInt32)), .val (.int ((((ib.toUInt32 >>> ((8 : Int32) &&& 31).toUInt32).toInt32) &&& (255 : Int32)).toUInt32.toUInt16.toUInt32.toInt32)), .val (.int ((((ib.toUInt32 >>> ((16 : Int32) &&& 31).toUInt32).toInt32) &&& (255 : Int32)).toUInt32.toUInt16.toUInt32.toInt32))] [(.ref b538), (.ref b538), (.ref b527), (.ref b527)])) (fun t k => XS.dup X552.here hx rfl (hb hby d1_112) rfl rfl k) ?_
        refine GoH.step (T' := T552) (f' := (mkF m 114 #[.val (.int ia), .val (.int ib), .val (.int (ia &&& (3 : Int32))), .val (.int ((ib &&& (255 : Int32)).toUInt32.toUInt16.toUInt32.toInt32)), .val (.int ((((ib.toUInt32 >>> ((8 : Int32) &&& 31).toUInt32).toInt32) &&& (255 : Int32)).toUInt32.toUInt16.toUInt32.toInt32)), .val (.int ((((ib.toUInt32 >>> ((16 : Int32) &&& 31).toUInt32).toInt32) &&& (255 : Int32)).toUInt32.toUInt16.toUInt32.toInt32))] [(.int (1 : Int32)), (.ref b538), (.ref b538), (.ref b527), (.ref b527)])) (fun t k => XS.iconst X552.here hx rfl (hb hby d1_113) k) ?_
        refine GoH.step (T' := T552) (f' := (mkF m 116 #[.val (.int ia), .val (.int ib), .val (.int (ia &&& (3 : Int32))), .val (.int ((ib &&& (255 : Int32)).toUInt32.toUInt16.toUInt32.toInt32)), .val (.int ((((ib.toUInt32 >>> ((8 : Int32) &&& 31).toUInt32).toInt32) &&& (255 : Int32)).toUInt32.toUInt16.toUInt32.toInt32)), .val (.int ((((ib.toUInt32 >>> ((16 : Int32) &&& 31).toUInt32).toInt32) &&& (255 : Int32)).toUInt32.toUInt16.toUInt32.toInt32))] [(.int ((((ib.toUInt32 >>> ((8 : Int32) &&& 31).toUInt32).toInt32) &&& (255 : Int32)).toUInt32.toUInt16.toUInt32.toInt32)), (.int (1 : Int32)), (.ref b538), (.ref b538), (.ref b527), (.ref b527)])) (fun t k => XS.iload X552.here hx rfl (hb hby d1_114) rfl k) ?_
        obtain ⟨ca566, Aa566, qa566, Sa566, Na566, Ha566, Ga566⟩ := id f554
        have ia566 : ¬ ((1 : Int32) < 0 ∨ ca566.slots.size ≤ ((1 : Int32)).toNatClampNeg) := inb_of Sa566 ⟨by decide, by decide⟩
        obtain ⟨T567, h567, X567, e567, W567, st567⟩ := stC X552 hx hZ e552 Aa566 (j := (1 : Int32)) ia566 (g := (mkF m 116 #[.val (.int ia), .val (.int ib), .val (.int (ia &&& (3 : Int32))), .val (.int ((ib &&& (255 : Int32)).toUInt32.toUInt16.toUInt32.toInt32)), .val (.int ((((ib.toUInt32 >>> ((8 : Int32) &&& 31).toUInt32).toInt32) &&& (255 : Int32)).toUInt32.toUInt16.toUInt32.toInt32)), .val (.int ((((ib.toUInt32 >>> ((16 : Int32) &&& 31).toUInt32).toInt32) &&& (255 : Int32)).toUInt32.toUInt16.toUInt32.toInt32))] [(.int ((((ib.toUInt32 >>> ((8 : Int32) &&& 31).toUInt32).toInt32) &&& (255 : Int32)).toUInt32.toUInt16.toUInt32.toInt32)), (.int (1 : Int32)), (.ref b538), (.ref b538), (.ref b527), (.ref b527)])) rfl rfl (hb hby d1_116)
        have f568 := Arv.set Aa566 qa566 Sa566 Na566 Ha566 Ga566 (fits_nar_char _) W567 1 rfl (Nat.le_of_ble_eq_true rfl)
        have f569 : Arv Z h567 b538 k538 .char (3 : Int32) [(.int (nar .char ((ib &&& (255 : Int32)).toUInt32.toUInt16.toUInt32.toInt32))), (.int (nar .char ((((ib.toUInt32 >>> ((8 : Int32) &&& 31).toUInt32).toInt32) &&& (255 : Int32)).toUInt32.toUInt16.toUInt32.toInt32))), (.int (0 : Int32))] (.int (0 : Int32)) := f568
        have sa570 : Safe Z own_EL s.vm h552 b538 := (Safe.exa (EL := own_EL) hZ.alike f562 (by decide) (by decide))
        have sf571 := Safe.wr W567 sa570 CR557.1 sf556
        have CR572 := CR557.trans (CHr.wr W567 sa570 CR557.1)
        have hk573 := (by rw [W567.size]; exact hk558 : _ ≤ h567.size)
        have f574 := f559.wr W567
        have f575 := f560.other W567 (Or.inl ne541)
        have f576 := f561.other W567 (Or.inl ne541)
        have f577 := f562.wr W567
        have O578 := O563.wr W567 g539
        have K579 := K564.wr W567 (Or.inr g540)
        have N580 := Fr.snoc X567 N565 g539
        refine GoH.step (T' := T567) (f' := (mkF m 117 #[.val (.int ia), .val (.int ib), .val (.int (ia &&& (3 : Int32))), .val (.int ((ib &&& (255 : Int32)).toUInt32.toUInt16.toUInt32.toInt32)), .val (.int ((((ib.toUInt32 >>> ((8 : Int32) &&& 31).toUInt32).toInt32) &&& (255 : Int32)).toUInt32.toUInt16.toUInt32.toInt32)), .val (.int ((((ib.toUInt32 >>> ((16 : Int32) &&& 31).toUInt32).toInt32) &&& (255 : Int32)).toUInt32.toUInt16.toUInt32.toInt32))] [(.ref b538), (.ref b527), (.ref b527)])) st567 ?_
        clear st567 X552 sf556 CR557 hk558 sa570 f559 f560 f561 f562 O563 K564 N565
        refine GoH.step (T' := T567) (f' := (mkF m 118 #[.val (.int ia), .val (.int ib), .val (.int (ia &&& (3 : Int32))), .val (.int ((ib &&& (255 : Int32)).toUInt32.toUInt16.toUInt32.toInt32)), .val (.int ((((ib.toUInt32 >>> ((8 : Int32) &&& 31).toUInt32).toInt32) &&& (255 : Int32)).toUInt32.toUInt16.toUInt32.toInt32)), .val (.int ((((ib.toUInt32 >>> ((16 : Int32) &&& 31).toUInt32).toInt32) &&& (255 : Int32)).toUInt32.toUInt16.toUInt32.toInt32))] [(.ref b538), (.ref b538), (.ref b527), (.ref b527)])) (fun t k => XS.dup X567.here hx rfl (hb hby d1_117) rfl rfl k) ?_
        refine GoH.step (T' := T567) (f' := (mkF m 119 #[.val (.int ia), .val (.int ib), .val (.int (ia &&& (3 : Int32))), .val (.int ((ib &&& (255 : Int32)).toUInt32.toUInt16.toUInt32.toInt32)), .val (.int ((((ib.toUInt32 >>> ((8 : Int32) &&& 31).toUInt32).toInt32) &&& (255 : Int32)).toUInt32.toUInt16.toUInt32.toInt32)), .val (.int ((((ib.toUInt32 >>> ((16 : Int32) &&& 31).toUInt32).toInt32) &&& (255 : Int32)).toUInt32.toUInt16.toUInt32.toInt32))] [(.int (2 : Int32)), (.ref b538), (.ref b538), (.ref b527), (.ref b527)])) (fun t k => XS.iconst X567.here hx rfl (hb hby d1_118) k) ?_
        refine GoH.step (T' := T567) (f' := (mkF m 121 #[.val (.int ia), .val (.int ib), .val (.int (ia &&& (3 : Int32))), .val (.int ((ib &&& (255 : Int32)).toUInt32.toUInt16.toUInt32.toInt32)), .val (.int ((((ib.toUInt32 >>> ((8 : Int32) &&& 31).toUInt32).toInt32) &&& (255 : Int32)).toUInt32.toUInt16.toUInt32.toInt32)), .val (.int ((((ib.toUInt32 >>> ((16 : Int32) &&& 31).toUInt32).toInt32) &&& (255 : Int32)).toUInt32.toUInt16.toUInt32.toInt32))] [(.int ((((ib.toUInt32 >>> ((16 : Int32) &&& 31).toUInt32).toInt32) &&& (255 : Int32)).toUInt32.toUInt16.toUInt32.toInt32)), (.int (2 : Int32)), (.ref b538), (.ref b538), (.ref b527), (.ref b527)])) (fun t k => XS.iload X567.here hx rfl (hb hby d1_119) rfl k) ?_
        obtain ⟨ca581, Aa581, qa581, Sa581, Na581, Ha581, Ga581⟩ := id f569
        have ia581 : ¬ ((2 : Int32) < 0 ∨ ca581.slots.size ≤ ((2 : Int32)).toNatClampNeg) := inb_of Sa581 ⟨by decide, by decide⟩
        obtain ⟨T582, h582, X582, e582, W582, st582⟩ := stC X567 hx hZ e567 Aa581 (j := (2 : Int32)) ia581 (g := (mkF m 121 #[.val (.int ia), .val (.int ib), .val (.int (ia &&& (3 : Int32))), .val (.int ((ib &&& (255 : Int32)).toUInt32.toUInt16.toUInt32.toInt32)), .val (.int ((((ib.toUInt32 >>> ((8 : Int32) &&& 31).toUInt32).toInt32) &&& (255 : Int32)).toUInt32.toUInt16.toUInt32.toInt32)), .val (.int ((((ib.toUInt32 >>> ((16 : Int32) &&& 31).toUInt32).toInt32) &&& (255 : Int32)).toUInt32.toUInt16.toUInt32.toInt32))] [(.int ((((ib.toUInt32 >>> ((16 : Int32) &&& 31).toUInt32).toInt32) &&& (255 : Int32)).toUInt32.toUInt16.toUInt32.toInt32)), (.int (2 : Int32)), (.ref b538), (.ref b538), (.ref b527), (.ref b527)])) rfl rfl (hb hby d1_121)
        have f583 := Arv.set Aa581 qa581 Sa581 Na581 Ha581 Ga581 (fits_nar_char _) W582 2 rfl (Nat.le_of_ble_eq_true rfl)
        have f584 : Arv Z h582 b538 k538 .char (3 : Int32) [(.int (nar .char ((ib &&& (255 : Int32)).toUInt32.toUInt16.toUInt32.toInt32))), (.int (nar .char ((((ib.toUInt32 >>> ((8 : Int32) &&& 31).toUInt32).toInt32) &&& (255 : Int32)).toUInt32.toUInt16.toUInt32.toInt32))), (.int (nar .char ((((ib.toUInt32 >>> ((16 : Int32) &&& 31).toUInt32).toInt32) &&& (255 : Int32)).toUInt32.toUInt16.toUInt32.toInt32)))] (.int (0 : Int32)) := f583
        have sa585 : Safe Z own_EL s.vm h567 b538 := (Safe.exa (EL := own_EL) hZ.alike f577 (by decide) (by decide))
        have sf586 := Safe.wr W582 sa585 CR572.1 sf571
        have CR587 := CR572.trans (CHr.wr W582 sa585 CR572.1)
        have hk588 := (by rw [W582.size]; exact hk573 : _ ≤ h582.size)
        have f589 := f574.wr W582
        have f590 := f575.other W582 (Or.inl ne541)
        have f591 := f576.other W582 (Or.inl ne541)
        have f592 := f577.wr W582
        have O593 := O578.wr W582 g539
        have K594 := K579.wr W582 (Or.inr g540)
        have N595 := Fr.snoc X582 N580 g539
        refine GoH.step (T' := T582) (f' := (mkF m 122 #[.val (.int ia), .val (.int ib), .val (.int (ia &&& (3 : Int32))), .val (.int ((ib &&& (255 : Int32)).toUInt32.toUInt16.toUInt32.toInt32)), .val (.int ((((ib.toUInt32 >>> ((8 : Int32) &&& 31).toUInt32).toInt32) &&& (255 : Int32)).toUInt32.toUInt16.toUInt32.toInt32)), .val (.int ((((ib.toUInt32 >>> ((16 : Int32) &&& 31).toUInt32).toInt32) &&& (255 : Int32)).toUInt32.toUInt16.toUInt32.toInt32))] [(.ref b538), (.ref b527), (.ref b527)])) st582 ?_
        clear st582 X567 sf571 CR572 hk573 sa585 f574 f575 f576 f577 O578 K579 N580
        obtain ⟨_, _, ⟨T596, L596, k596, n596⟩, -, X596, ⟨Lc596, hQ596, l596, y596, z596⟩, st596⟩ := X582.specialBack hx (y := (⟨"java/lang/String", "<init>", "([C)V"⟩ : MethodName)) rfl hown (mvT hZ (hw _ (List.mem_of_getElem? (i := 8) rfl))) (mvT hZ (hw _ (List.mem_of_getElem? (i := 9) rfl))) (mvT hZ (hw _ (List.mem_of_getElem? (i := 10) rfl))) (by decide) (backOf (W := 1) (rm_ini1_3 l Z a0 hw [] b527 b538 k538 (nar .char ((ib &&& (255 : Int32)).toUInt32.toUInt16.toUInt32.toInt32)) (nar .char ((((ib.toUInt32 >>> ((8 : Int32) &&& 31).toUInt32).toInt32) &&& (255 : Int32)).toUInt32.toUInt16.toUInt32.toInt32)) (nar .char ((((ib.toUInt32 >>> ((16 : Int32) &&& 31).toUInt32).toInt32) &&& (255 : Int32)).toUInt32.toUInt16.toUInt32.toInt32)) .null (.int (0 : Int32)) wz h582 n0 O593 f589 f591 f590 g529 f584 (Ne.symm ne541) P0 hwz (own_c8 _) (own_c8 _) (own_c8 _)) hZ (hw _ (List.mem_of_getElem? (i := 10) rfl)) (hw _ (List.mem_of_getElem? (i := 6) rfl)) (by decide) (by decide)) (g := (mkF m 122 #[.val (.int ia), .val (.int ib), .val (.int (ia &&& (3 : Int32))), .val (.int ((ib &&& (255 : Int32)).toUInt32.toUInt16.toUInt32.toInt32)), .val (.int ((((ib.toUInt32 >>> ((8 : Int32) &&& 31).toUInt32).toInt32) &&& (255 : Int32)).toUInt32.toUInt16.toUInt32.toInt32)), .val (.int ((((ib.toUInt32 >>> ((16 : Int32) &&& 31).toUInt32).toInt32) &&& (255 : Int32)).toUInt32.toUInt16.toUInt32.toInt32))] [(.ref b538), (.ref b527), (.ref b527)])) rfl (by rw [hml]; rfl) (Steps.refl _) (a := b527) (argsL := [(.ref b538)]) (rest := [(.ref b527)]) (lenOf pd4 rfl) rfl (by show 2 * 0 + _ ≤ _; exact Nat.le_of_eq rfl) (hb hby d1_122) (fun _ _ => ⟨rfl, e582, (by decide : 2 + 1 ≤ _), (by decide : 7 + 3 ≤ _)⟩)
        dsimp only [Pt.U, Pt.locs, Pt.cells, Pt.slots] at X596 l596 y596 z596 st596 hQ596
        subst l596 y596 z596
        obtain ⟨u597, u598, rfl, Nq596, hh596, p599, p600, p601, p602, p603⟩ := hQ596
        have N604 := Fr.app N595 Nq596
        have sz605 : ∀ x ∈ [b527], Safe Z own_EL s.vm h582 x := (sfS sf586 sf0)
        have sf606 := Safe.keep hh596 sz605 CR587.1 sf586
        have CR607 := CR587.trans (CHr.keep hh596 sz605 CR587.1)
        have hk608 := Nat.le_trans hk588 hh596.1
        have f609 := f589.keep hh596
        have f610 := f592.keep hh596
        have f611 := f584.keep hh596 (ninS (Ne.symm ne541) nin0)
        have O612 := O593.keep hh596 (allS g529 all0)
        have K613 := K594.trans hh596 (allS (Or.inr g530) all0)
        have g614 : n0 ≤ u597 := Nat.le_trans (own_old_le O593) p602
        have g615 : h0.size ≤ u597 := Nat.le_trans K594.1 p602
        have ne616 : b527 ≠ u597 := Nat.ne_of_lt (Nat.lt_of_lt_of_le f589.lt p602)
        have ne617 : b538 ≠ u597 := Nat.ne_of_lt (Nat.lt_of_lt_of_le f592.lt p602)
        refine GoH.via (T' := T596) (f' := (mkF m 125 #[.val (.int ia), .val (.int ib), .val (.int (ia &&& (3 : Int32))), .val (.int ((ib &&& (255 : Int32)).toUInt32.toUInt16.toUInt32.toInt32)), .val (.int ((((ib.toUInt32 >>> ((8 : Int32) &&& 31).toUInt32).toInt32) &&& (255 : Int32)).toUInt32.toUInt16.toUInt32.toInt32)), .val (.int ((((ib.toUInt32 >>> ((16 : Int32) &&& 31).toUInt32).toInt32) &&& (255 : Int32)).toUInt32.toUInt16.toUInt32.toInt32))] [(.ref b527)])) st596 ?_
        clear st596 X582 N595 Nq596 sf586 CR587 hk588 sz605 f584
        refine GoH.fin X596 hZ hEL hS0 hk608 CR607 hlk (v := some (.ref b527)) (fun h => by rw [Bd.returns] at h; cases h) (fun fs hr => retOut X596 hx Bd.returns (own_nar_ref rfl rfl) (Or.inr (Or.inr (Or.inr (Or.inr ⟨rfl, rfl, rfl⟩)))) (hb hby d1_125) hr) rfl ?_ (by decide) (by decide)
        exact ⟨b527, rfl, N604, K613, p599⟩
theorem d17_0 : decode jdk_30_method_1_code 0 = .ok (.aload_n 0, 1) := by decide +kernel
theorem d17_1 : decode jdk_30_method_1_code 1 = .ok (.invokespecial 1, 3) := by decide +kernel
theorem d17_4 : decode jdk_30_method_1_code 4 = .ok (.return_, 1) := by decide +kernel
theorem pn_java_lang_Record : plainName "java/lang/Record" = true := by first | (simp [plainName, overriddenIn]; done) | decide +kernel
theorem ef_rec (m : MethodId) (ba : Addr) : entryFrame m #[(.ref ba)] 1 = mkF m 0 #[.val (.ref ba)] [] := by first | (simp [entryFrame, mkF, argsToLocals, Value.category]; done) | rfl
def Q_rec (Z : State) (ba : Addr) (h0 : Heap) (n0 : Nat) (v : Option Value) (h : Heap) (L : List Loc) : Prop := v = none ∧ Fr n0 L ∧ h = h0
set_option maxRecDepth 65536 in
set_option maxHeartbeats 40000000 in
theorem rm_rec (l : Launch) (Z : State) (a0 : Array Value) (hw : ∀ d ∈ tables_1, d.before a0 Z = true) (ws : List Jvm.Cond) (ba : Addr) (h0 : Heap) (n0 : Nat) (O0 : Old Z n0 h0) :
    MetFree l (⟨"java/lang/Record", "<init>", "()V"⟩ : MethodName) (head1 (Jvm.Cond.code (⟨"java/lang/Record", "<init>", "()V"⟩ : MethodName) jdk_30_method_1_code 1 none :: ws) ({ frames := 1, cells := 0, slots := 0, locals := 12 } : Room)) (fun a U => a = #[(.ref ba)] ∧ Z.Warmed39 U.vm ∧ U.heap = h0) (fun _ _ _ _ _ => True) (fun _ U o U' => ∃ v L, o = .returned v ∧ Q_rec Z ba h0 n0 v U'.heap L ∧ FrameEnd U o U' L ({ frames := 1, cells := 0, slots := 0, locals := 12 } : Room).cells ({ frames := 1, cells := 0, slots := 0, locals := 12 } : Room).slots) := by
  refine MetFree.of_bodySF (plainFor_of_name pn_java_lang_Record) hisR ?_
  intro p e s m args below meth c s₁ Bd hml0 hP hK
  obtain ⟨rfl, hZ, hh⟩ := hP
  have hx := Bd.exec
  have hby := Bd.bytes
  have hml : c.maxLocals = 1 := hml0
  have hown : s.vm.findClass "java/lang/Record" = some m.cls := findClass_of_methodNamed Bd.named
  have hnm := (name_of_methodNamed Bd.named Bd.method).1
  have hlk : meth.locks = false := BodyLoose.notSynchronized Bd
  have X0 : Stand p l e ({ frames := 1, cells := 0, slots := 0, locals := 12 } : Room) s m #[(.ref ba)] below meth c s₁ [] 0 0 := Stand.of_body Bd
  have e0 : s₁.heap = h0 := by rw [← hh, Bd.state]; rfl
  have N0 := Fr.nil n0
  rw [ef_rec m ba]
  show Go p e below s (fun v h L => Q_rec Z ba h0 n0 v h L) ({ frames := 1, cells := 0, slots := 0, locals := 12 } : Room).cells ({ frames := 1, cells := 0, slots := 0, locals := 12 } : Room).slots s₁ (mkF m 0 #[.val (.ref ba)] [])
  refine Go.step (T' := s₁) (f' := (mkF m 1 #[.val (.ref ba)] [(.ref ba)])) (fun t k => XS.aloadN X0.here hx rfl (hb hby d17_0) rfl rfl k) ?_
  obtain ⟨T618, X618, e618, st618⟩ := initO X0 hx hZ hown (hw _ (List.mem_of_getElem? (i := 120) rfl)) (hw _ (List.mem_of_getElem? (i := 16) rfl)) (hw _ (List.mem_of_getElem? (i := 17) rfl)) e0 (g := (mkF m 1 #[.val (.ref ba)] [(.ref ba)])) rfl (by rw [hml]; rfl) rfl (hb hby d17_1) (by decide) (W := 0) (by show 2 * 0 + _ ≤ _; exact Nat.le_of_eq rfl) (by decide)
  refine Go.step (T' := T618) (f' := (mkF m 4 #[.val (.ref ba)] [])) st618 ?_
  clear st618 X0
  refine Go.retV X618 hx hlk Bd.returns (hb hby d17_4) e618 ?_ (by decide) (by decide)
  exact ⟨rfl, N0, rfl⟩
theorem d20_0 : decode jdk_42_method_66_code 0 = .ok (.aload_n 0, 1) := by decide +kernel
theorem d20_1 : decode jdk_42_method_66_code 1 = .ok (.aload_n 1, 1) := by decide +kernel
theorem d20_2 : decode jdk_42_method_66_code 2 = .ok (.if_acmp .ne 5, 3) := by decide +kernel
theorem d20_5 : decode jdk_42_method_66_code 5 = .ok (.iconst 1, 1) := by decide +kernel
theorem d20_6 : decode jdk_42_method_66_code 6 = .ok (.ireturn, 1) := by decide +kernel
theorem ef_seq1 (m : MethodId) (ba : Addr) : entryFrame m #[(.ref ba), (.ref ba)] 3 = mkF m 0 #[.val (.ref ba), .val (.ref ba), .unset] [] := by first | (simp [entryFrame, mkF, argsToLocals, Value.category]; done) | rfl
def Q_seq1 (Z : State) (ba : Addr) (h0 : Heap) (n0 : Nat) (v : Option Value) (h : Heap) (L : List Loc) : Prop := v = some (.int (1 : Int32)) ∧ Fr n0 L ∧ h = h0
set_option maxRecDepth 65536 in
set_option maxHeartbeats 40000000 in
theorem rm_seq1 (l : Launch) (Z : State) (a0 : Array Value) (hw : ∀ d ∈ tables_1, d.before a0 Z = true) (ws : List Jvm.Cond) (ba : Addr) (h0 : Heap) (n0 : Nat) (O0 : Old Z n0 h0) :
    MetFree l (⟨"java/lang/String", "equals", "(Ljava/lang/Object;)Z"⟩ : MethodName) (head1 (Jvm.Cond.code (⟨"java/lang/String", "equals", "(Ljava/lang/Object;)Z"⟩ : MethodName) jdk_42_method_66_code 3 (some .boolean) :: ws) ({ frames := 0, cells := 0, slots := 0, locals := 0 } : Room)) (fun a U => a = #[(.ref ba), (.ref ba)] ∧ Z.Warmed39 U.vm ∧ U.heap = h0) (fun _ _ _ _ _ => True) (fun _ U o U' => ∃ v L, o = .returned v ∧ Q_seq1 Z ba h0 n0 v U'.heap L ∧ FrameEnd U o U' L ({ frames := 0, cells := 0, slots := 0, locals := 0 } : Room).cells ({ frames := 0, cells := 0, slots := 0, locals := 0 } : Room).slots) := by
  refine MetFree.of_bodySF (plainFor_of_name pn_java_lang_String) hisR ?_
  intro p e s m args below meth c s₁ Bd hml0 hP hK
  obtain ⟨rfl, hZ, hh⟩ := hP
  have hx := Bd.exec
  have hby := Bd.bytes
  have hml : c.maxLocals = 3 := hml0
  have hown : s.vm.findClass "java/lang/String" = some m.cls := findClass_of_methodNamed Bd.named
  have hnm := (name_of_methodNamed Bd.named Bd.method).1
  have hlk : meth.locks = false := BodyLoose.notSynchronized Bd
  have X0 : Stand p l e ({ frames := 0, cells := 0, slots := 0, locals := 0 } : Room) s m #[(.ref ba), (.ref ba)] below meth c s₁ [] 0 0 := Stand.of_body Bd
  have e0 : s₁.heap = h0 := by rw [← hh, Bd.state]; rfl
  have N0 := Fr.nil n0
  rw [ef_seq1 m ba]
  show Go p e below s (fun v h L => Q_seq1 Z ba h0 n0 v h L) ({ frames := 0, cells := 0, slots := 0, locals := 0 } : Room).cells ({ frames := 0, cells := 0, slots := 0, locals := 0 } : Room).slots s₁ (mkF m 0 #[.val (.ref ba), .val (.ref ba), .unset] [])
  refine Go.step (T' := s₁) (f' := (mkF m 1 #[.val (.ref ba), .val (.ref ba), .unset] [(.ref ba)])) (fun t k => XS.aloadN X0.here hx rfl (hb hby d20_0) rfl rfl k) ?_
  refine Go.step (T' := s₁) (f' := (mkF m 2 #[.val (.ref ba), .val (.ref ba), .unset] [(.ref ba), (.ref ba)])) (fun t k => XS.aloadN X0.here hx rfl (hb hby d20_1) rfl rfl k) ?_
  refine Go.step (T' := s₁) (f' := (mkF m 5 #[.val (.ref ba), .val (.ref ba), .unset] [])) (fun t k => Jvm.RoadKit.acmp (g := (mkF m 2 #[.val (.ref ba), .val (.ref ba), .unset] [(.ref ba), (.ref ba)])) X0 hx rfl rfl rfl (pc0 := 2) (pc' := 5) (same := true) rfl (hb hby d20_2) rfl (decide_eq_true rfl) (by decide) (by decide) k) ?_
  refine Go.step (T' := s₁) (f' := (mkF m 6 #[.val (.ref ba), .val (.ref ba), .unset] [(.int (1 : Int32))])) (fun t k => XS.iconst X0.here hx rfl (hb hby d20_5) k) ?_
  refine Go.retZ X0 hx hlk (t := .boolean) Bd.returns (by simp) (hb hby d20_6) e0 ?_ (by decide) (by decide)
  exact ⟨rfl, N0, rfl⟩
theorem d19_0 : decode method_3_code 0 = .ok (.aload_n 0, 1) := by decide +kernel
theorem d19_1 : decode method_3_code 1 = .ok (.ifnonnull 13, 3) := by decide +kernel
theorem d19_4 : decode method_3_code 4 = .ok (.aload_n 1, 1) := by decide +kernel
theorem d19_5 : decode method_3_code 5 = .ok (.ifnonnull 7, 3) := by decide +kernel
theorem d19_8 : decode method_3_code 8 = .ok (.iconst 1, 1) := by decide +kernel
theorem d19_9 : decode method_3_code 9 = .ok (.goto 4, 3) := by decide +kernel
theorem d19_13 : decode method_3_code 13 = .ok (.ireturn, 1) := by decide +kernel
theorem ef_sameN (m : MethodId)  : entryFrame m #[.null, .null] 2 = mkF m 0 #[.val .null, .val .null] [] := by first | (simp [entryFrame, mkF, argsToLocals, Value.category]; done) | rfl
def Q_sameN (Z : State)  (h0 : Heap) (n0 : Nat) (v : Option Value) (h : Heap) (L : List Loc) : Prop := v = some (.int (1 : Int32)) ∧ Fr n0 L ∧ h = h0
set_option maxRecDepth 65536 in
set_option maxHeartbeats 40000000 in
theorem rm_sameN (l : Launch) (Z : State) (a0 : Array Value) (hw : ∀ d ∈ tables_1, d.before a0 Z = true) (ws : List Jvm.Cond)  (h0 : Heap) (n0 : Nat) (O0 : Old Z n0 h0) :
    MetFree l (⟨"com/example/ferryline/ferryline/server/ApiErrorBodyPinLaw", "same", "(Ljava/lang/String;Ljava/lang/String;)Z"⟩ : MethodName) (head1 (Jvm.Cond.code (⟨"com/example/ferryline/ferryline/server/ApiErrorBodyPinLaw", "same", "(Ljava/lang/String;Ljava/lang/String;)Z"⟩ : MethodName) method_3_code 2 (some .boolean) :: ws) ({ frames := 0, cells := 0, slots := 0, locals := 0 } : Room)) (fun a U => a = #[.null, .null] ∧ Z.Warmed39 U.vm ∧ U.heap = h0) (fun _ _ _ _ _ => True) (fun _ U o U' => ∃ v L, o = .returned v ∧ Q_sameN Z  h0 n0 v U'.heap L ∧ FrameEnd U o U' L ({ frames := 0, cells := 0, slots := 0, locals := 0 } : Room).cells ({ frames := 0, cells := 0, slots := 0, locals := 0 } : Room).slots) := by
  refine MetFree.of_bodySF (plainFor_of_name pn_com_example_ferryline_ferryline_server_ApiErrorBodyPinLaw) hisR ?_
  intro p e s m args below meth c s₁ Bd hml0 hP hK
  obtain ⟨rfl, hZ, hh⟩ := hP
  have hx := Bd.exec
  have hby := Bd.bytes
  have hml : c.maxLocals = 2 := hml0
  have hown : s.vm.findClass "com/example/ferryline/ferryline/server/ApiErrorBodyPinLaw" = some m.cls := findClass_of_methodNamed Bd.named
  have hnm := (name_of_methodNamed Bd.named Bd.method).1
  have hlk : meth.locks = false := BodyLoose.notSynchronized Bd
  have X0 : Stand p l e ({ frames := 0, cells := 0, slots := 0, locals := 0 } : Room) s m #[.null, .null] below meth c s₁ [] 0 0 := Stand.of_body Bd
  have e0 : s₁.heap = h0 := by rw [← hh, Bd.state]; rfl
  have N0 := Fr.nil n0
  rw [ef_sameN m ]
  show Go p e below s (fun v h L => Q_sameN Z  h0 n0 v h L) ({ frames := 0, cells := 0, slots := 0, locals := 0 } : Room).cells ({ frames := 0, cells := 0, slots := 0, locals := 0 } : Room).slots s₁ (mkF m 0 #[.val .null, .val .null] [])
  refine Go.step (T' := s₁) (f' := (mkF m 1 #[.val .null, .val .null] [.null])) (fun t k => XS.aloadN X0.here hx rfl (hb hby d19_0) rfl rfl k) ?_
  refine Go.step (T' := s₁) (f' := (mkF m 4 #[.val .null, .val .null] [])) (fun t k => XS.ifnonnullNo X0.here hx rfl (hb hby d19_1) rfl k) ?_
  refine Go.step (T' := s₁) (f' := (mkF m 5 #[.val .null, .val .null] [.null])) (fun t k => XS.aloadN X0.here hx rfl (hb hby d19_4) rfl rfl k) ?_
  refine Go.step (T' := s₁) (f' := (mkF m 8 #[.val .null, .val .null] [])) (fun t k => XS.ifnonnullNo X0.here hx rfl (hb hby d19_5) rfl k) ?_
  refine Go.step (T' := s₁) (f' := (mkF m 9 #[.val .null, .val .null] [(.int (1 : Int32))])) (fun t k => XS.iconst X0.here hx rfl (hb hby d19_8) k) ?_
  refine Go.step (T' := s₁) (f' := (mkF m 13 #[.val .null, .val .null] [(.int (1 : Int32))])) (fun t k => XS.goto X0.here hx rfl (pc0 := 9) (pc' := 13) rfl (hb hby d19_9) (by decide) (by decide) k) ?_
  refine Go.retZ X0 hx hlk (t := .boolean) Bd.returns (by simp) (hb hby d19_13) e0 ?_ (by decide) (by decide)
  exact ⟨rfl, N0, rfl⟩
theorem d19_14 : decode method_3_code 14 = .ok (.aload_n 1, 1) := by decide +kernel
theorem d19_15 : decode method_3_code 15 = .ok (.ifnull 15, 3) := by decide +kernel
theorem d19_18 : decode method_3_code 18 = .ok (.aload_n 0, 1) := by decide +kernel
theorem d19_19 : decode method_3_code 19 = .ok (.aload_n 1, 1) := by decide +kernel
theorem d19_20 : decode method_3_code 20 = .ok (.invokevirtual 12, 3) := by decide +kernel
theorem d19_23 : decode method_3_code 23 = .ok (.ifCond .eq 7, 3) := by decide +kernel
theorem d19_26 : decode method_3_code 26 = .ok (.iconst 1, 1) := by decide +kernel
theorem d19_27 : decode method_3_code 27 = .ok (.goto 4, 3) := by decide +kernel
theorem d19_31 : decode method_3_code 31 = .ok (.ireturn, 1) := by decide +kernel
theorem pd5 : parseMethodDescriptor "(Ljava/lang/Object;)Z" = some ⟨[(.object "java/lang/Object")], some .boolean⟩ := by decide +kernel
theorem ef_sameR (m : MethodId) (ba : Addr) : entryFrame m #[(.ref ba), (.ref ba)] 2 = mkF m 0 #[.val (.ref ba), .val (.ref ba)] [] := by first | (simp [entryFrame, mkF, argsToLocals, Value.category]; done) | rfl
def Q_sameR (Z : State) (ba : Addr) (h0 : Heap) (n0 : Nat) (v : Option Value) (h : Heap) (L : List Loc) : Prop := v = some (.int (1 : Int32)) ∧ Fr n0 L ∧ h = h0
set_option maxRecDepth 65536 in
set_option maxHeartbeats 40000000 in
theorem rm_sameR (l : Launch) (Z : State) (a0 : Array Value) (hw : ∀ d ∈ tables_1, d.before a0 Z = true) (ws : List Jvm.Cond) (ba : Addr) (h0 : Heap) (n0 : Nat) (O0 : Old Z n0 h0) (P0 : Exa Z h0 ba "java/lang/String") :
    MetFree l (⟨"com/example/ferryline/ferryline/server/ApiErrorBodyPinLaw", "same", "(Ljava/lang/String;Ljava/lang/String;)Z"⟩ : MethodName) (head1 (Jvm.Cond.code (⟨"com/example/ferryline/ferryline/server/ApiErrorBodyPinLaw", "same", "(Ljava/lang/String;Ljava/lang/String;)Z"⟩ : MethodName) method_3_code 2 (some .boolean) :: ws) ({ frames := 1, cells := 0, slots := 0, locals := 14 } : Room)) (fun a U => a = #[(.ref ba), (.ref ba)] ∧ Z.Warmed39 U.vm ∧ U.heap = h0) (fun _ _ _ _ _ => True) (fun _ U o U' => ∃ v L, o = .returned v ∧ Q_sameR Z ba h0 n0 v U'.heap L ∧ FrameEnd U o U' L ({ frames := 1, cells := 0, slots := 0, locals := 14 } : Room).cells ({ frames := 1, cells := 0, slots := 0, locals := 14 } : Room).slots) := by
  refine MetFree.of_bodySF (plainFor_of_name pn_com_example_ferryline_ferryline_server_ApiErrorBodyPinLaw) hisR ?_
  intro p e s m args below meth c s₁ Bd hml0 hP hK
  obtain ⟨rfl, hZ, hh⟩ := hP
  have hx := Bd.exec
  have hby := Bd.bytes
  have hml : c.maxLocals = 2 := hml0
  have hown : s.vm.findClass "com/example/ferryline/ferryline/server/ApiErrorBodyPinLaw" = some m.cls := findClass_of_methodNamed Bd.named
  have hnm := (name_of_methodNamed Bd.named Bd.method).1
  have hlk : meth.locks = false := BodyLoose.notSynchronized Bd
  have X0 : Stand p l e ({ frames := 1, cells := 0, slots := 0, locals := 14 } : Room) s m #[(.ref ba), (.ref ba)] below meth c s₁ [] 0 0 := Stand.of_body Bd
  have e0 : s₁.heap = h0 := by rw [← hh, Bd.state]; rfl
  have N0 := Fr.nil n0
  rw [ef_sameR m ba]
  show Go p e below s (fun v h L => Q_sameR Z ba h0 n0 v h L) ({ frames := 1, cells := 0, slots := 0, locals := 14 } : Room).cells ({ frames := 1, cells := 0, slots := 0, locals := 14 } : Room).slots s₁ (mkF m 0 #[.val (.ref ba), .val (.ref ba)] [])
  refine Go.step (T' := s₁) (f' := (mkF m 1 #[.val (.ref ba), .val (.ref ba)] [(.ref ba)])) (fun t k => XS.aloadN X0.here hx rfl (hb hby d19_0) rfl rfl k) ?_
  refine Go.step (T' := s₁) (f' := (mkF m 14 #[.val (.ref ba), .val (.ref ba)] [])) (fun t k => XS.ifnonnullYes X0.here hx rfl (pc0 := 1) (pc' := 14) rfl (hb hby d19_1) rfl (by decide) (by decide) k) ?_
  refine Go.step (T' := s₁) (f' := (mkF m 15 #[.val (.ref ba), .val (.ref ba)] [(.ref ba)])) (fun t k => XS.aloadN X0.here hx rfl (hb hby d19_14) rfl rfl k) ?_
  refine Go.step (T' := s₁) (f' := (mkF m 18 #[.val (.ref ba), .val (.ref ba)] [])) (fun t k => XS.ifnullNo X0.here hx rfl (hb hby d19_15) rfl k) ?_
  refine Go.step (T' := s₁) (f' := (mkF m 19 #[.val (.ref ba), .val (.ref ba)] [(.ref ba)])) (fun t k => XS.aloadN X0.here hx rfl (hb hby d19_18) rfl rfl k) ?_
  refine Go.step (T' := s₁) (f' := (mkF m 20 #[.val (.ref ba), .val (.ref ba)] [(.ref ba), (.ref ba)])) (fun t k => XS.aloadN X0.here hx rfl (hb hby d19_19) rfl rfl k) ?_
  obtain ⟨cq619, kq619, q619a, q619b, q619c⟩ := isOf hZ e0 P0
  obtain ⟨_, _, ⟨T619, L619, k619, n619⟩, -, X619, ⟨Lc619, hQ619, l619, y619, z619⟩, st619⟩ := X0.virtualBack hx (y := (⟨"java/lang/String", "equals", "(Ljava/lang/Object;)Z"⟩ : MethodName)) (z := (⟨"java/lang/String", "equals", "(Ljava/lang/Object;)Z"⟩ : MethodName)) hown (mvT hZ (hw _ (List.mem_of_getElem? (i := 133) rfl))) (mvT hZ (hw _ (List.mem_of_getElem? (i := 134) rfl))) (notFace_of_selects (args := #[]) (mvT hZ (hw _ (List.mem_of_getElem? (i := 136) rfl)))) (mvT hZ (hw _ (List.mem_of_getElem? (i := 136) rfl))) (mvT hZ (hw _ (List.mem_of_getElem? (i := 135) rfl))) (by decide) (backOf (W := 0) (rm_seq1 l Z a0 hw [] ba h0 n0 O0 ) hZ (hw _ (List.mem_of_getElem? (i := 137) rfl)) (hw _ (List.mem_of_getElem? (i := 6) rfl)) (by decide) (by decide)) q619a q619c (g := (mkF m 20 #[.val (.ref ba), .val (.ref ba)] [(.ref ba), (.ref ba)])) rfl (by rw [hml]; rfl) (Steps.refl _) (argsL := [(.ref ba)]) (rest := []) (lenOf pd5 rfl) rfl (by show 2 * 0 + _ ≤ _; exact Nat.le_of_eq rfl) (hb hby d19_20) (fun _ _ => ⟨rfl, e0, (by decide : 0 + 0 ≤ _), (by decide : 0 + 0 ≤ _)⟩)
  dsimp only [Pt.U, Pt.locs, Pt.cells, Pt.slots] at X619 l619 y619 z619 st619 hQ619
  subst l619 y619 z619
  obtain ⟨rfl, Nq619, hh619⟩ := hQ619
  have N620 := Fr.app N0 Nq619
  refine Go.via (T' := T619) (f' := (mkF m 23 #[.val (.ref ba), .val (.ref ba)] [(.int (1 : Int32))])) st619 ?_
  clear st619 X0 Nq619
  refine Go.step (T' := T619) (f' := (mkF m 26 #[.val (.ref ba), .val (.ref ba)] [])) (fun t k => XS.ifNo X619.here hx rfl (hb hby d19_23) rfl ((if0 _ _).trans (feq (by decide : ¬ ((1 : Int32) = (0 : Int32)))).1) k) ?_
  refine Go.step (T' := T619) (f' := (mkF m 27 #[.val (.ref ba), .val (.ref ba)] [(.int (1 : Int32))])) (fun t k => XS.iconst X619.here hx rfl (hb hby d19_26) k) ?_
  refine Go.step (T' := T619) (f' := (mkF m 31 #[.val (.ref ba), .val (.ref ba)] [(.int (1 : Int32))])) (fun t k => XS.goto X619.here hx rfl (pc0 := 27) (pc' := 31) rfl (hb hby d19_27) (by decide) (by decide) k) ?_
  refine Go.retZ X619 hx hlk (t := .boolean) Bd.returns (by simp) (hb hby d19_31) hh619 ?_ (by decide) (by decide)
  exact ⟨rfl, N620, rfl⟩
theorem d15_0 : decode jdk_78_method_6_code 0 = .ok (.aload_n 0, 1) := by decide +kernel
theorem d15_1 : decode jdk_78_method_6_code 1 = .ok (.getfield 31, 3) := by decide +kernel
theorem d15_4 : decode jdk_78_method_6_code 4 = .ok (.areturn, 1) := by decide +kernel
theorem pn_java_lang_Throwable : plainName "java/lang/Throwable" = true := by first | (simp [plainName, overriddenIn]; done) | decide +kernel
theorem ef_gmN (m : MethodId) (ba : Addr) : entryFrame m #[(.ref ba)] 1 = mkF m 0 #[.val (.ref ba)] [] := by first | (simp [entryFrame, mkF, argsToLocals, Value.category]; done) | rfl
def Q_gmN (Z : State) (ba : Addr) (h0 : Heap) (n0 : Nat) (v : Option Value) (h : Heap) (L : List Loc) : Prop := v = some .null ∧ Fr n0 L ∧ h = h0
set_option maxRecDepth 65536 in
set_option maxHeartbeats 40000000 in
theorem rm_gmN (l : Launch) (Z : State) (a0 : Array Value) (hw : ∀ d ∈ tables_1, d.before a0 Z = true) (ws : List Jvm.Cond) (ba : Addr) (h0 : Heap) (n0 : Nat) (O0 : Old Z n0 h0) (P0 : Fld Z h0 ba "java/lang/Throwable" "detailMessage" "Ljava/lang/String;" .null) :
    MetFree l (⟨"java/lang/Throwable", "getMessage", "()Ljava/lang/String;"⟩ : MethodName) (head1 (Jvm.Cond.code (⟨"java/lang/Throwable", "getMessage", "()Ljava/lang/String;"⟩ : MethodName) jdk_78_method_6_code 1 (some (.object "java/lang/String")) :: ws) ({ frames := 0, cells := 0, slots := 0, locals := 0 } : Room)) (fun a U => a = #[(.ref ba)] ∧ Z.Warmed39 U.vm ∧ U.heap = h0) (fun _ _ _ _ _ => True) (fun _ U o U' => ∃ v L, o = .returned v ∧ Q_gmN Z ba h0 n0 v U'.heap L ∧ FrameEnd U o U' L ({ frames := 0, cells := 0, slots := 0, locals := 0 } : Room).cells ({ frames := 0, cells := 0, slots := 0, locals := 0 } : Room).slots) := by
  refine MetFree.of_bodySF (plainFor_of_name pn_java_lang_Throwable) hisR ?_
  intro p e s m args below meth c s₁ Bd hml0 hP hK
  obtain ⟨rfl, hZ, hh⟩ := hP
  have hx := Bd.exec
  have hby := Bd.bytes
  have hml : c.maxLocals = 1 := hml0
  have hown : s.vm.findClass "java/lang/Throwable" = some m.cls := findClass_of_methodNamed Bd.named
  have hnm := (name_of_methodNamed Bd.named Bd.method).1
  have hlk : meth.locks = false := BodyLoose.notSynchronized Bd
  have X0 : Stand p l e ({ frames := 0, cells := 0, slots := 0, locals := 0 } : Room) s m #[(.ref ba)] below meth c s₁ [] 0 0 := Stand.of_body Bd
  have e0 : s₁.heap = h0 := by rw [← hh, Bd.state]; rfl
  have N0 := Fr.nil n0
  rw [ef_gmN m ba]
  show Go p e below s (fun v h L => Q_gmN Z ba h0 n0 v h L) ({ frames := 0, cells := 0, slots := 0, locals := 0 } : Room).cells ({ frames := 0, cells := 0, slots := 0, locals := 0 } : Room).slots s₁ (mkF m 0 #[.val (.ref ba)] [])
  refine Go.step (T' := s₁) (f' := (mkF m 1 #[.val (.ref ba)] [(.ref ba)])) (fun t k => XS.aloadN X0.here hx rfl (hb hby d15_0) rfl rfl k) ?_
  obtain ⟨T621, X621, e621, st621⟩ := getF X0 hx hZ hown (host := "") (Or.inl (hw _ (List.mem_of_getElem? (i := 93) rfl))) Via.refl e0 P0 (g := (mkF m 1 #[.val (.ref ba)] [(.ref ba)])) rfl rfl (hb hby d15_1)
  refine Go.step (T' := T621) (f' := (mkF m 4 #[.val (.ref ba)] [.null])) st621 ?_
  clear st621 X0
  refine Go.retA X621 hx hlk Bd.returns rfl rfl (hb hby d15_4) e621 ?_ (by decide) (by decide)
  exact ⟨rfl, N0, rfl⟩
theorem d18_0 : decode prog_48_method_5_code 0 = .ok (.aload_n 0, 1) := by decide +kernel
theorem d18_1 : decode prog_48_method_5_code 1 = .ok (.getfield 7, 3) := by decide +kernel
theorem d18_4 : decode prog_48_method_5_code 4 = .ok (.areturn, 1) := by decide +kernel
theorem pn_com_example_ferryline_ferryline_server_ApiError_Body : plainName "com/example/ferryline/ferryline/server/ApiError$Body" = true := by first | (simp [plainName, overriddenIn]; done) | decide +kernel
theorem ef_errN (m : MethodId) (ba : Addr) : entryFrame m #[(.ref ba)] 1 = mkF m 0 #[.val (.ref ba)] [] := by first | (simp [entryFrame, mkF, argsToLocals, Value.category]; done) | rfl
def Q_errN (Z : State) (ba : Addr) (h0 : Heap) (n0 : Nat) (v : Option Value) (h : Heap) (L : List Loc) : Prop := v = some .null ∧ Fr n0 L ∧ h = h0
set_option maxRecDepth 65536 in
set_option maxHeartbeats 40000000 in
theorem rm_errN (l : Launch) (Z : State) (a0 : Array Value) (hw : ∀ d ∈ tables_1, d.before a0 Z = true) (ws : List Jvm.Cond) (ba : Addr) (h0 : Heap) (n0 : Nat) (O0 : Old Z n0 h0) (P0 : Fld Z h0 ba "com/example/ferryline/ferryline/server/ApiError$Body" "error" "Ljava/lang/String;" .null) :
    MetFree l (⟨"com/example/ferryline/ferryline/server/ApiError$Body", "error", "()Ljava/lang/String;"⟩ : MethodName) (head1 (Jvm.Cond.code (⟨"com/example/ferryline/ferryline/server/ApiError$Body", "error", "()Ljava/lang/String;"⟩ : MethodName) prog_48_method_5_code 1 (some (.object "java/lang/String")) :: ws) ({ frames := 0, cells := 0, slots := 0, locals := 0 } : Room)) (fun a U => a = #[(.ref ba)] ∧ Z.Warmed39 U.vm ∧ U.heap = h0) (fun _ _ _ _ _ => True) (fun _ U o U' => ∃ v L, o = .returned v ∧ Q_errN Z ba h0 n0 v U'.heap L ∧ FrameEnd U o U' L ({ frames := 0, cells := 0, slots := 0, locals := 0 } : Room).cells ({ frames := 0, cells := 0, slots := 0, locals := 0 } : Room).slots) := by
  refine MetFree.of_bodySF (plainFor_of_name pn_com_example_ferryline_ferryline_server_ApiError_Body) hisR ?_
  intro p e s m args below meth c s₁ Bd hml0 hP hK
  obtain ⟨rfl, hZ, hh⟩ := hP
  have hx := Bd.exec
  have hby := Bd.bytes
  have hml : c.maxLocals = 1 := hml0
  have hown : s.vm.findClass "com/example/ferryline/ferryline/server/ApiError$Body" = some m.cls := findClass_of_methodNamed Bd.named
  have hnm := (name_of_methodNamed Bd.named Bd.method).1
  have hlk : meth.locks = false := BodyLoose.notSynchronized Bd
  have X0 : Stand p l e ({ frames := 0, cells := 0, slots := 0, locals := 0 } : Room) s m #[(.ref ba)] below meth c s₁ [] 0 0 := Stand.of_body Bd
  have e0 : s₁.heap = h0 := by rw [← hh, Bd.state]; rfl
  have N0 := Fr.nil n0
  rw [ef_errN m ba]
  show Go p e below s (fun v h L => Q_errN Z ba h0 n0 v h L) ({ frames := 0, cells := 0, slots := 0, locals := 0 } : Room).cells ({ frames := 0, cells := 0, slots := 0, locals := 0 } : Room).slots s₁ (mkF m 0 #[.val (.ref ba)] [])
  refine Go.step (T' := s₁) (f' := (mkF m 1 #[.val (.ref ba)] [(.ref ba)])) (fun t k => XS.aloadN X0.here hx rfl (hb hby d18_0) rfl rfl k) ?_
  obtain ⟨T622, X622, e622, st622⟩ := getF X0 hx hZ hown (host := "") (Or.inl (hw _ (List.mem_of_getElem? (i := 121) rfl))) Via.refl e0 P0 (g := (mkF m 1 #[.val (.ref ba)] [(.ref ba)])) rfl rfl (hb hby d18_1)
  refine Go.step (T' := T622) (f' := (mkF m 4 #[.val (.ref ba)] [.null])) st622 ?_
  clear st622 X0
  refine Go.retA X622 hx hlk Bd.returns rfl rfl (hb hby d18_4) e622 ?_ (by decide) (by decide)
  exact ⟨rfl, N0, rfl⟩
theorem d21_0 : decode prog_48_method_6_code 0 = .ok (.aload_n 0, 1) := by decide +kernel
theorem d21_1 : decode prog_48_method_6_code 1 = .ok (.getfield 13, 3) := by decide +kernel
theorem d21_4 : decode prog_48_method_6_code 4 = .ok (.areturn, 1) := by decide +kernel
theorem ef_msgN (m : MethodId) (ba : Addr) : entryFrame m #[(.ref ba)] 1 = mkF m 0 #[.val (.ref ba)] [] := by first | (simp [entryFrame, mkF, argsToLocals, Value.category]; done) | rfl
def Q_msgN (Z : State) (ba : Addr) (h0 : Heap) (n0 : Nat) (v : Option Value) (h : Heap) (L : List Loc) : Prop := v = some .null ∧ Fr n0 L ∧ h = h0
set_option maxRecDepth 65536 in
set_option maxHeartbeats 40000000 in
theorem rm_msgN (l : Launch) (Z : State) (a0 : Array Value) (hw : ∀ d ∈ tables_1, d.before a0 Z = true) (ws : List Jvm.Cond) (ba : Addr) (h0 : Heap) (n0 : Nat) (O0 : Old Z n0 h0) (P0 : Fld Z h0 ba "com/example/ferryline/ferryline/server/ApiError$Body" "message" "Ljava/lang/String;" .null) :
    MetFree l (⟨"com/example/ferryline/ferryline/server/ApiError$Body", "message", "()Ljava/lang/String;"⟩ : MethodName) (head1 (Jvm.Cond.code (⟨"com/example/ferryline/ferryline/server/ApiError$Body", "message", "()Ljava/lang/String;"⟩ : MethodName) prog_48_method_6_code 1 (some (.object "java/lang/String")) :: ws) ({ frames := 0, cells := 0, slots := 0, locals := 0 } : Room)) (fun a U => a = #[(.ref ba)] ∧ Z.Warmed39 U.vm ∧ U.heap = h0) (fun _ _ _ _ _ => True) (fun _ U o U' => ∃ v L, o = .returned v ∧ Q_msgN Z ba h0 n0 v U'.heap L ∧ FrameEnd U o U' L ({ frames := 0, cells := 0, slots := 0, locals := 0 } : Room).cells ({ frames := 0, cells := 0, slots := 0, locals := 0 } : Room).slots) := by
  refine MetFree.of_bodySF (plainFor_of_name pn_com_example_ferryline_ferryline_server_ApiError_Body) hisR ?_
  intro p e s m args below meth c s₁ Bd hml0 hP hK
  obtain ⟨rfl, hZ, hh⟩ := hP
  have hx := Bd.exec
  have hby := Bd.bytes
  have hml : c.maxLocals = 1 := hml0
  have hown : s.vm.findClass "com/example/ferryline/ferryline/server/ApiError$Body" = some m.cls := findClass_of_methodNamed Bd.named
  have hnm := (name_of_methodNamed Bd.named Bd.method).1
  have hlk : meth.locks = false := BodyLoose.notSynchronized Bd
  have X0 : Stand p l e ({ frames := 0, cells := 0, slots := 0, locals := 0 } : Room) s m #[(.ref ba)] below meth c s₁ [] 0 0 := Stand.of_body Bd
  have e0 : s₁.heap = h0 := by rw [← hh, Bd.state]; rfl
  have N0 := Fr.nil n0
  rw [ef_msgN m ba]
  show Go p e below s (fun v h L => Q_msgN Z ba h0 n0 v h L) ({ frames := 0, cells := 0, slots := 0, locals := 0 } : Room).cells ({ frames := 0, cells := 0, slots := 0, locals := 0 } : Room).slots s₁ (mkF m 0 #[.val (.ref ba)] [])
  refine Go.step (T' := s₁) (f' := (mkF m 1 #[.val (.ref ba)] [(.ref ba)])) (fun t k => XS.aloadN X0.here hx rfl (hb hby d21_0) rfl rfl k) ?_
  obtain ⟨T623, X623, e623, st623⟩ := getF X0 hx hZ hown (host := "") (Or.inl (hw _ (List.mem_of_getElem? (i := 123) rfl))) Via.refl e0 P0 (g := (mkF m 1 #[.val (.ref ba)] [(.ref ba)])) rfl rfl (hb hby d21_1)
  refine Go.step (T' := T623) (f' := (mkF m 4 #[.val (.ref ba)] [.null])) st623 ?_
  clear st623 X0
  refine Go.retA X623 hx hlk Bd.returns rfl rfl (hb hby d21_4) e623 ?_ (by decide) (by decide)
  exact ⟨rfl, N0, rfl⟩
theorem ef_gmR (m : MethodId) (ba : Addr) : entryFrame m #[(.ref ba)] 1 = mkF m 0 #[.val (.ref ba)] [] := by first | (simp [entryFrame, mkF, argsToLocals, Value.category]; done) | rfl
def Q_gmR (Z : State) (ba : Addr) (bx : Addr) (h0 : Heap) (n0 : Nat) (v : Option Value) (h : Heap) (L : List Loc) : Prop := v = some (.ref bx) ∧ Fr n0 L ∧ h = h0
set_option maxRecDepth 65536 in
set_option maxHeartbeats 40000000 in
theorem rm_gmR (l : Launch) (Z : State) (a0 : Array Value) (hw : ∀ d ∈ tables_1, d.before a0 Z = true) (ws : List Jvm.Cond) (ba : Addr) (bx : Addr) (h0 : Heap) (n0 : Nat) (O0 : Old Z n0 h0) (P0 : Fld Z h0 ba "java/lang/Throwable" "detailMessage" "Ljava/lang/String;" (.ref bx)) :
    MetFree l (⟨"java/lang/Throwable", "getMessage", "()Ljava/lang/String;"⟩ : MethodName) (head1 (Jvm.Cond.code (⟨"java/lang/Throwable", "getMessage", "()Ljava/lang/String;"⟩ : MethodName) jdk_78_method_6_code 1 (some (.object "java/lang/String")) :: ws) ({ frames := 0, cells := 0, slots := 0, locals := 0 } : Room)) (fun a U => a = #[(.ref ba)] ∧ Z.Warmed39 U.vm ∧ U.heap = h0) (fun _ _ _ _ _ => True) (fun _ U o U' => ∃ v L, o = .returned v ∧ Q_gmR Z ba bx h0 n0 v U'.heap L ∧ FrameEnd U o U' L ({ frames := 0, cells := 0, slots := 0, locals := 0 } : Room).cells ({ frames := 0, cells := 0, slots := 0, locals := 0 } : Room).slots) := by
  refine MetFree.of_bodySF (plainFor_of_name pn_java_lang_Throwable) hisR ?_
  intro p e s m args below meth c s₁ Bd hml0 hP hK
  obtain ⟨rfl, hZ, hh⟩ := hP
  have hx := Bd.exec
  have hby := Bd.bytes
  have hml : c.maxLocals = 1 := hml0
  have hown : s.vm.findClass "java/lang/Throwable" = some m.cls := findClass_of_methodNamed Bd.named
  have hnm := (name_of_methodNamed Bd.named Bd.method).1
  have hlk : meth.locks = false := BodyLoose.notSynchronized Bd
  have X0 : Stand p l e ({ frames := 0, cells := 0, slots := 0, locals := 0 } : Room) s m #[(.ref ba)] below meth c s₁ [] 0 0 := Stand.of_body Bd
  have e0 : s₁.heap = h0 := by rw [← hh, Bd.state]; rfl
  have N0 := Fr.nil n0
  rw [ef_gmR m ba]
  show Go p e below s (fun v h L => Q_gmR Z ba bx h0 n0 v h L) ({ frames := 0, cells := 0, slots := 0, locals := 0 } : Room).cells ({ frames := 0, cells := 0, slots := 0, locals := 0 } : Room).slots s₁ (mkF m 0 #[.val (.ref ba)] [])
  refine Go.step (T' := s₁) (f' := (mkF m 1 #[.val (.ref ba)] [(.ref ba)])) (fun t k => XS.aloadN X0.here hx rfl (hb hby d15_0) rfl rfl k) ?_
  obtain ⟨T624, X624, e624, st624⟩ := getF X0 hx hZ hown (host := "") (Or.inl (hw _ (List.mem_of_getElem? (i := 93) rfl))) Via.refl e0 P0 (g := (mkF m 1 #[.val (.ref ba)] [(.ref ba)])) rfl rfl (hb hby d15_1)
  refine Go.step (T' := T624) (f' := (mkF m 4 #[.val (.ref ba)] [(.ref bx)])) st624 ?_
  clear st624 X0
  refine Go.retA X624 hx hlk Bd.returns rfl rfl (hb hby d15_4) e624 ?_ (by decide) (by decide)
  exact ⟨rfl, N0, rfl⟩
theorem ef_errR (m : MethodId) (ba : Addr) : entryFrame m #[(.ref ba)] 1 = mkF m 0 #[.val (.ref ba)] [] := by first | (simp [entryFrame, mkF, argsToLocals, Value.category]; done) | rfl
def Q_errR (Z : State) (ba : Addr) (bx : Addr) (h0 : Heap) (n0 : Nat) (v : Option Value) (h : Heap) (L : List Loc) : Prop := v = some (.ref bx) ∧ Fr n0 L ∧ h = h0
set_option maxRecDepth 65536 in
set_option maxHeartbeats 40000000 in
theorem rm_errR (l : Launch) (Z : State) (a0 : Array Value) (hw : ∀ d ∈ tables_1, d.before a0 Z = true) (ws : List Jvm.Cond) (ba : Addr) (bx : Addr) (h0 : Heap) (n0 : Nat) (O0 : Old Z n0 h0) (P0 : Fld Z h0 ba "com/example/ferryline/ferryline/server/ApiError$Body" "error" "Ljava/lang/String;" (.ref bx)) :
    MetFree l (⟨"com/example/ferryline/ferryline/server/ApiError$Body", "error", "()Ljava/lang/String;"⟩ : MethodName) (head1 (Jvm.Cond.code (⟨"com/example/ferryline/ferryline/server/ApiError$Body", "error", "()Ljava/lang/String;"⟩ : MethodName) prog_48_method_5_code 1 (some (.object "java/lang/String")) :: ws) ({ frames := 0, cells := 0, slots := 0, locals := 0 } : Room)) (fun a U => a = #[(.ref ba)] ∧ Z.Warmed39 U.vm ∧ U.heap = h0) (fun _ _ _ _ _ => True) (fun _ U o U' => ∃ v L, o = .returned v ∧ Q_errR Z ba bx h0 n0 v U'.heap L ∧ FrameEnd U o U' L ({ frames := 0, cells := 0, slots := 0, locals := 0 } : Room).cells ({ frames := 0, cells := 0, slots := 0, locals := 0 } : Room).slots) := by
  refine MetFree.of_bodySF (plainFor_of_name pn_com_example_ferryline_ferryline_server_ApiError_Body) hisR ?_
  intro p e s m args below meth c s₁ Bd hml0 hP hK
  obtain ⟨rfl, hZ, hh⟩ := hP
  have hx := Bd.exec
  have hby := Bd.bytes
  have hml : c.maxLocals = 1 := hml0
  have hown : s.vm.findClass "com/example/ferryline/ferryline/server/ApiError$Body" = some m.cls := findClass_of_methodNamed Bd.named
  have hnm := (name_of_methodNamed Bd.named Bd.method).1
  have hlk : meth.locks = false := BodyLoose.notSynchronized Bd
  have X0 : Stand p l e ({ frames := 0, cells := 0, slots := 0, locals := 0 } : Room) s m #[(.ref ba)] below meth c s₁ [] 0 0 := Stand.of_body Bd
  have e0 : s₁.heap = h0 := by rw [← hh, Bd.state]; rfl
  have N0 := Fr.nil n0
  rw [ef_errR m ba]
  show Go p e below s (fun v h L => Q_errR Z ba bx h0 n0 v h L) ({ frames := 0, cells := 0, slots := 0, locals := 0 } : Room).cells ({ frames := 0, cells := 0, slots := 0, locals := 0 } : Room).slots s₁ (mkF m 0 #[.val (.ref ba)] [])
  refine Go.step (T' := s₁) (f' := (mkF m 1 #[.val (.ref ba)] [(.ref ba)])) (fun t k => XS.aloadN X0.here hx rfl (hb hby d18_0) rfl rfl k) ?_
  obtain ⟨T625, X625, e625, st625⟩ := getF X0 hx hZ hown (host := "") (Or.inl (hw _ (List.mem_of_getElem? (i := 121) rfl))) Via.refl e0 P0 (g := (mkF m 1 #[.val (.ref ba)] [(.ref ba)])) rfl rfl (hb hby d18_1)
  refine Go.step (T' := T625) (f' := (mkF m 4 #[.val (.ref ba)] [(.ref bx)])) st625 ?_
  clear st625 X0
  refine Go.retA X625 hx hlk Bd.returns rfl rfl (hb hby d18_4) e625 ?_ (by decide) (by decide)
  exact ⟨rfl, N0, rfl⟩
theorem ef_msgR (m : MethodId) (ba : Addr) : entryFrame m #[(.ref ba)] 1 = mkF m 0 #[.val (.ref ba)] [] := by first | (simp [entryFrame, mkF, argsToLocals, Value.category]; done) | rfl
def Q_msgR (Z : State) (ba : Addr) (bx : Addr) (h0 : Heap) (n0 : Nat) (v : Option Value) (h : Heap) (L : List Loc) : Prop := v = some (.ref bx) ∧ Fr n0 L ∧ h = h0
set_option maxRecDepth 65536 in
set_option maxHeartbeats 40000000 in
theorem rm_msgR (l : Launch) (Z : State) (a0 : Array Value) (hw : ∀ d ∈ tables_1, d.before a0 Z = true) (ws : List Jvm.Cond) (ba : Addr) (bx : Addr) (h0 : Heap) (n0 : Nat) (O0 : Old Z n0 h0) (P0 : Fld Z h0 ba "com/example/ferryline/ferryline/server/ApiError$Body" "message" "Ljava/lang/String;" (.ref bx)) :
    MetFree l (⟨"com/example/ferryline/ferryline/server/ApiError$Body", "message", "()Ljava/lang/String;"⟩ : MethodName) (head1 (Jvm.Cond.code (⟨"com/example/ferryline/ferryline/server/ApiError$Body", "message", "()Ljava/lang/String;"⟩ : MethodName) prog_48_method_6_code 1 (some (.object "java/lang/String")) :: ws) ({ frames := 0, cells := 0, slots := 0, locals := 0 } : Room)) (fun a U => a = #[(.ref ba)] ∧ Z.Warmed39 U.vm ∧ U.heap = h0) (fun _ _ _ _ _ => True) (fun _ U o U' => ∃ v L, o = .returned v ∧ Q_msgR Z ba bx h0 n0 v U'.heap L ∧ FrameEnd U o U' L ({ frames := 0, cells := 0, slots := 0, locals := 0 } : Room).cells ({ frames := 0, cells := 0, slots := 0, locals := 0 } : Room).slots) := by
  refine MetFree.of_bodySF (plainFor_of_name pn_com_example_ferryline_ferryline_server_ApiError_Body) hisR ?_
  intro p e s m args below meth c s₁ Bd hml0 hP hK
  obtain ⟨rfl, hZ, hh⟩ := hP
  have hx := Bd.exec
  have hby := Bd.bytes
  have hml : c.maxLocals = 1 := hml0
  have hown : s.vm.findClass "com/example/ferryline/ferryline/server/ApiError$Body" = some m.cls := findClass_of_methodNamed Bd.named
  have hnm := (name_of_methodNamed Bd.named Bd.method).1
  have hlk : meth.locks = false := BodyLoose.notSynchronized Bd
  have X0 : Stand p l e ({ frames := 0, cells := 0, slots := 0, locals := 0 } : Room) s m #[(.ref ba)] below meth c s₁ [] 0 0 := Stand.of_body Bd
  have e0 : s₁.heap = h0 := by rw [← hh, Bd.state]; rfl
  have N0 := Fr.nil n0
  rw [ef_msgR m ba]
  show Go p e below s (fun v h L => Q_msgR Z ba bx h0 n0 v h L) ({ frames := 0, cells := 0, slots := 0, locals := 0 } : Room).cells ({ frames := 0, cells := 0, slots := 0, locals := 0 } : Room).slots s₁ (mkF m 0 #[.val (.ref ba)] [])
  refine Go.step (T' := s₁) (f' := (mkF m 1 #[.val (.ref ba)] [(.ref ba)])) (fun t k => XS.aloadN X0.here hx rfl (hb hby d21_0) rfl rfl k) ?_
  obtain ⟨T626, X626, e626, st626⟩ := getF X0 hx hZ hown (host := "") (Or.inl (hw _ (List.mem_of_getElem? (i := 123) rfl))) Via.refl e0 P0 (g := (mkF m 1 #[.val (.ref ba)] [(.ref ba)])) rfl rfl (hb hby d21_1)
  refine Go.step (T' := T626) (f' := (mkF m 4 #[.val (.ref ba)] [(.ref bx)])) st626 ?_
  clear st626 X0
  refine Go.retA X626 hx hlk Bd.returns rfl rfl (hb hby d21_4) e626 ?_ (by decide) (by decide)
  exact ⟨rfl, N0, rfl⟩
theorem d22_0 : decode prog_47_method_2_code 0 = .ok (.aload_n 0, 1) := by decide +kernel
theorem d22_1 : decode prog_47_method_2_code 1 = .ok (.getfield 7, 3) := by decide +kernel
theorem d22_4 : decode prog_47_method_2_code 4 = .ok (.ireturn, 1) := by decide +kernel
theorem pn_com_example_ferryline_ferryline_server_ApiError : plainName "com/example/ferryline/ferryline/server/ApiError" = true := by first | (simp [plainName, overriddenIn]; done) | decide +kernel
theorem ef_stat (m : MethodId) (ba : Addr) : entryFrame m #[(.ref ba)] 1 = mkF m 0 #[.val (.ref ba)] [] := by first | (simp [entryFrame, mkF, argsToLocals, Value.category]; done) | rfl
def Q_stat (Z : State) (ba : Addr) (ix : Int32) (h0 : Heap) (n0 : Nat) (v : Option Value) (h : Heap) (L : List Loc) : Prop := v = some (.int ix) ∧ Fr n0 L ∧ h = h0
set_option maxRecDepth 65536 in
set_option maxHeartbeats 40000000 in
theorem rm_stat (l : Launch) (Z : State) (a0 : Array Value) (hw : ∀ d ∈ tables_1, d.before a0 Z = true) (ws : List Jvm.Cond) (ba : Addr) (ix : Int32) (h0 : Heap) (n0 : Nat) (O0 : Old Z n0 h0) (P0 : Fld Z h0 ba "com/example/ferryline/ferryline/server/ApiError" "status" "I" (.int ix)) :
    MetFree l (⟨"com/example/ferryline/ferryline/server/ApiError", "status", "()I"⟩ : MethodName) (head1 (Jvm.Cond.code (⟨"com/example/ferryline/ferryline/server/ApiError", "status", "()I"⟩ : MethodName) prog_47_method_2_code 1 (some .int) :: ws) ({ frames := 0, cells := 0, slots := 0, locals := 0 } : Room)) (fun a U => a = #[(.ref ba)] ∧ Z.Warmed39 U.vm ∧ U.heap = h0) (fun _ _ _ _ _ => True) (fun _ U o U' => ∃ v L, o = .returned v ∧ Q_stat Z ba ix h0 n0 v U'.heap L ∧ FrameEnd U o U' L ({ frames := 0, cells := 0, slots := 0, locals := 0 } : Room).cells ({ frames := 0, cells := 0, slots := 0, locals := 0 } : Room).slots) := by
  refine MetFree.of_bodySF (plainFor_of_name pn_com_example_ferryline_ferryline_server_ApiError) hisR ?_
  intro p e s m args below meth c s₁ Bd hml0 hP hK
  obtain ⟨rfl, hZ, hh⟩ := hP
  have hx := Bd.exec
  have hby := Bd.bytes
  have hml : c.maxLocals = 1 := hml0
  have hown : s.vm.findClass "com/example/ferryline/ferryline/server/ApiError" = some m.cls := findClass_of_methodNamed Bd.named
  have hnm := (name_of_methodNamed Bd.named Bd.method).1
  have hlk : meth.locks = false := BodyLoose.notSynchronized Bd
  have X0 : Stand p l e ({ frames := 0, cells := 0, slots := 0, locals := 0 } : Room) s m #[(.ref ba)] below meth c s₁ [] 0 0 := Stand.of_body Bd
  have e0 : s₁.heap = h0 := by rw [← hh, Bd.state]; rfl
  have N0 := Fr.nil n0
  rw [ef_stat m ba]
  show Go p e below s (fun v h L => Q_stat Z ba ix h0 n0 v h L) ({ frames := 0, cells := 0, slots := 0, locals := 0 } : Room).cells ({ frames := 0, cells := 0, slots := 0, locals := 0 } : Room).slots s₁ (mkF m 0 #[.val (.ref ba)] [])
  refine Go.step (T' := s₁) (f' := (mkF m 1 #[.val (.ref ba)] [(.ref ba)])) (fun t k => XS.aloadN X0.here hx rfl (hb hby d22_0) rfl rfl k) ?_
  obtain ⟨T627, X627, e627, st627⟩ := getF X0 hx hZ hown (host := "") (Or.inl (hw _ (List.mem_of_getElem? (i := 94) rfl))) Via.refl e0 P0 (g := (mkF m 1 #[.val (.ref ba)] [(.ref ba)])) rfl rfl (hb hby d22_1)
  refine Go.step (T' := T627) (f' := (mkF m 4 #[.val (.ref ba)] [(.int ix)])) st627 ?_
  clear st627 X0
  refine Go.retI X627 hx hlk Bd.returns (hb hby d22_4) e627 ?_ (by decide) (by decide)
  exact ⟨rfl, N0, rfl⟩
theorem d11_0 : decode jdk_78_method_2_code 0 = .ok (.aload_n 0, 1) := by decide +kernel
theorem d11_1 : decode jdk_78_method_2_code 1 = .ok (.invokespecial 1, 3) := by decide +kernel
theorem d11_4 : decode jdk_78_method_2_code 4 = .ok (.aload_n 0, 1) := by decide +kernel
theorem d11_5 : decode jdk_78_method_2_code 5 = .ok (.aload_n 0, 1) := by decide +kernel
theorem d11_6 : decode jdk_78_method_2_code 6 = .ok (.putfield 7, 3) := by decide +kernel
theorem d11_9 : decode jdk_78_method_2_code 9 = .ok (.aload_n 0, 1) := by decide +kernel
theorem d11_10 : decode jdk_78_method_2_code 10 = .ok (.getstatic 13, 3) := by decide +kernel
theorem d11_13 : decode jdk_78_method_2_code 13 = .ok (.putfield 17, 3) := by decide +kernel
theorem d11_16 : decode jdk_78_method_2_code 16 = .ok (.aload_n 0, 1) := by decide +kernel
theorem d11_17 : decode jdk_78_method_2_code 17 = .ok (.getstatic 20, 3) := by decide +kernel
theorem d11_20 : decode jdk_78_method_2_code 20 = .ok (.putfield 24, 3) := by decide +kernel
theorem d11_23 : decode jdk_78_method_2_code 23 = .ok (.aload_n 0, 1) := by decide +kernel
theorem d11_24 : decode jdk_78_method_2_code 24 = .ok (.invokevirtual 27, 3) := by decide +kernel
theorem d11_27 : decode jdk_78_method_2_code 27 = .ok (.pop, 1) := by decide +kernel
theorem d11_28 : decode jdk_78_method_2_code 28 = .ok (.aload_n 0, 1) := by decide +kernel
theorem d11_29 : decode jdk_78_method_2_code 29 = .ok (.aload_n 1, 1) := by decide +kernel
theorem d11_30 : decode jdk_78_method_2_code 30 = .ok (.putfield 31, 3) := by decide +kernel
theorem d11_33 : decode jdk_78_method_2_code 33 = .ok (.return_, 1) := by decide +kernel
theorem ef_thrN (m : MethodId) (ba : Addr) : entryFrame m #[(.ref ba), .null] 2 = mkF m 0 #[.val (.ref ba), .val .null] [] := by first | (simp [entryFrame, mkF, argsToLocals, Value.category]; done) | rfl
def Q_thrN (Z : State) (ba : Addr) (u0 : Value) (u1 : Value) (bu : Addr) (bz : Addr) (h0 : Heap) (n0 : Nat) (v : Option Value) (h : Heap) (L : List Loc) : Prop := v = none ∧ Fr n0 L ∧ Keep h0 h [ba] ∧ Exa Z h ba "com/example/ferryline/ferryline/server/ApiError" ∧ Fld Z h ba "java/lang/Throwable" "detailMessage" "Ljava/lang/String;" .null ∧ Fld Z h ba "com/example/ferryline/ferryline/server/ApiError" "status" "I" u0 ∧ Fld Z h ba "com/example/ferryline/ferryline/server/ApiError" "code" "Ljava/lang/String;" u1
set_option maxRecDepth 65536 in
set_option maxHeartbeats 40000000 in
theorem rm_thrN (l : Launch) (Z : State) (a0 : Array Value) (hw : ∀ d ∈ tables_1, d.before a0 Z = true) (ws : List Jvm.Cond) (ba : Addr) (u0 : Value) (u1 : Value) (bu : Addr) (bz : Addr) (h0 : Heap) (n0 : Nat) (O0 : Old Z n0 h0) (P0 : Exa Z h0 ba "com/example/ferryline/ferryline/server/ApiError") (P1 : Fld Z h0 ba "java/lang/Throwable" "cause" "Ljava/lang/Throwable;" .null) (P2 : Fld Z h0 ba "java/lang/Throwable" "stackTrace" "[Ljava/lang/StackTraceElement;" .null) (P3 : Fld Z h0 ba "java/lang/Throwable" "suppressedExceptions" "Ljava/util/List;" .null) (P4 : Fld Z h0 ba "java/lang/Throwable" "backtrace" "Ljava/lang/Object;" .null) (P5 : Fld Z h0 ba "java/lang/Throwable" "detailMessage" "Ljava/lang/String;" .null) (P6 : Fld Z h0 ba "com/example/ferryline/ferryline/server/ApiError" "status" "I" u0) (P7 : Fld Z h0 ba "com/example/ferryline/ferryline/server/ApiError" "code" "Ljava/lang/String;" u1) (P8 : n0 ≤ ba) (P9 : Unt h0 ba) (P10 : Sta Z Z.heap "java/lang/Throwable" "UNASSIGNED_STACK" "[Ljava/lang/StackTraceElement;" (.ref bu)) (P11 : Sta Z Z.heap "java/lang/Throwable" "SUPPRESSED_SENTINEL" "Ljava/util/List;" (.ref bz)) (htr : l.stackTraces = true) :
    MetFree l (⟨"java/lang/Throwable", "<init>", "(Ljava/lang/String;)V"⟩ : MethodName) (head1 (Jvm.Cond.code (⟨"java/lang/Throwable", "<init>", "(Ljava/lang/String;)V"⟩ : MethodName) jdk_78_method_2_code 2 none :: ws) ({ frames := 3, cells := 1, slots := 2752, locals := 42 } : Room)) (fun a U => a = #[(.ref ba), .null] ∧ Z.Warmed39 U.vm ∧ U.heap = h0) (fun _ _ bl s _ => s.vm.MethodsKnown ∧ s.vm.FramesKnown bl) (fun _ U o U' => ∃ v L, o = .returned v ∧ Q_thrN Z ba u0 u1 bu bz h0 n0 v U'.heap L ∧ FrameEnd U o U' L ({ frames := 3, cells := 1, slots := 2752, locals := 42 } : Room).cells ({ frames := 3, cells := 1, slots := 2752, locals := 42 } : Room).slots) := by
  refine MetFree.of_bodySF (plainFor_of_name pn_java_lang_Throwable) hisR ?_
  intro p e s m args below meth c s₁ Bd hml0 hP hK
  obtain ⟨rfl, hZ, hh⟩ := hP
  have hx := Bd.exec
  have hby := Bd.bytes
  have hml : c.maxLocals = 2 := hml0
  have hown : s.vm.findClass "java/lang/Throwable" = some m.cls := findClass_of_methodNamed Bd.named
  have hnm := (name_of_methodNamed Bd.named Bd.method).1
  have hlk : meth.locks = false := BodyLoose.notSynchronized Bd
  have X0 : Stand p l e ({ frames := 3, cells := 1, slots := 2752, locals := 42 } : Room) s m #[(.ref ba), .null] below meth c s₁ [] 0 0 := Stand.of_body Bd
  have e0 : s₁.heap = h0 := by rw [← hh, Bd.state]; rfl
  have N0 := Fr.nil n0
  have K0 := Keep.refl h0 [ba]
  rw [ef_thrN m ba]
  show Go p e below s (fun v h L => Q_thrN Z ba u0 u1 bu bz h0 n0 v h L) ({ frames := 3, cells := 1, slots := 2752, locals := 42 } : Room).cells ({ frames := 3, cells := 1, slots := 2752, locals := 42 } : Room).slots s₁ (mkF m 0 #[.val (.ref ba), .val .null] [])
  refine Go.step (T' := s₁) (f' := (mkF m 1 #[.val (.ref ba), .val .null] [(.ref ba)])) (fun t k => XS.aloadN X0.here hx rfl (hb hby d11_0) rfl rfl k) ?_
  obtain ⟨T628, X628, e628, st628⟩ := initO X0 hx hZ hown (hw _ (List.mem_of_getElem? (i := 57) rfl)) (hw _ (List.mem_of_getElem? (i := 16) rfl)) (hw _ (List.mem_of_getElem? (i := 17) rfl)) e0 (g := (mkF m 1 #[.val (.ref ba), .val .null] [(.ref ba)])) rfl (by rw [hml]; rfl) rfl (hb hby d11_1) (by decide) (W := 0) (by show 2 * 0 + _ ≤ _; exact Nat.le_of_eq rfl) (by decide)
  refine Go.step (T' := T628) (f' := (mkF m 4 #[.val (.ref ba), .val .null] [])) st628 ?_
  clear st628 X0
  refine Go.step (T' := T628) (f' := (mkF m 5 #[.val (.ref ba), .val .null] [(.ref ba)])) (fun t k => XS.aloadN X628.here hx rfl (hb hby d11_4) rfl rfl k) ?_
  refine Go.step (T' := T628) (f' := (mkF m 6 #[.val (.ref ba), .val .null] [(.ref ba), (.ref ba)])) (fun t k => XS.aloadN X628.here hx rfl (hb hby d11_5) rfl rfl k) ?_
  obtain ⟨T629, h629, X629, e629, W629, st629⟩ := putF X628 hx hZ hown (host := "") (Or.inl (hw _ (List.mem_of_getElem? (i := 58) rfl))) Via.refl e628 P1 P0 (Or.inl (hw _ (List.mem_of_getElem? (i := 59) rfl))) (hw _ (List.mem_of_getElem? (i := 35) rfl)) (ty := (.object "java/lang/Throwable")) (by decide) rfl rfl (g := (mkF m 6 #[.val (.ref ba), .val .null] [(.ref ba), (.ref ba)])) rfl rfl (hb hby d11_6)
  have f630 := P1.same W629
  have f631 := P0.wr W629
  have f632 := P2.other W629 (Or.inr (slot_ne (Or.inl (hw _ (List.mem_of_getElem? (i := 62) rfl))) (Or.inl (hw _ (List.mem_of_getElem? (i := 59) rfl))) (by decide) (t := (.array (.object "java/lang/StackTraceElement"))) (t' := (.object "java/lang/Throwable")) (by decide) (by decide)))
  have f633 := P3.other W629 (Or.inr (slot_ne (Or.inl (hw _ (List.mem_of_getElem? (i := 65) rfl))) (Or.inl (hw _ (List.mem_of_getElem? (i := 59) rfl))) (by decide) (t := (.object "java/util/List")) (t' := (.object "java/lang/Throwable")) (by decide) (by decide)))
  have f634 := P4.other W629 (Or.inr (slot_ne (Or.inl (hw _ (List.mem_of_getElem? (i := 90) rfl))) (Or.inl (hw _ (List.mem_of_getElem? (i := 59) rfl))) (by decide) (t := (.object "java/lang/Object")) (t' := (.object "java/lang/Throwable")) (by decide) (by decide)))
  have f635 := P5.other W629 (Or.inr (slot_ne (Or.inl (hw _ (List.mem_of_getElem? (i := 89) rfl))) (Or.inl (hw _ (List.mem_of_getElem? (i := 59) rfl))) (by decide) (t := (.object "java/lang/String")) (t' := (.object "java/lang/Throwable")) (by decide) (by decide)))
  have f636 := P6.other W629 (Or.inr (slot_ne (Or.inr (hw _ (List.mem_of_getElem? (i := 95) rfl))) (Or.inl (hw _ (List.mem_of_getElem? (i := 59) rfl))) (by decide) (t := .int) (t' := (.object "java/lang/Throwable")) (by decide) (by decide)))
  have f637 := P7.other W629 (Or.inr (slot_ne (Or.inr (hw _ (List.mem_of_getElem? (i := 97) rfl))) (Or.inl (hw _ (List.mem_of_getElem? (i := 59) rfl))) (by decide) (t := (.object "java/lang/String")) (t' := (.object "java/lang/Throwable")) (by decide) (by decide)))
  have f638 := P9.wr W629
  have O639 := O0.wr W629 P8
  have K640 := K0.wr W629 (Or.inl (List.mem_of_getElem? (i := 0) rfl))
  have N641 := Fr.snoc X629 N0 P8
  refine Go.step (T' := T629) (f' := (mkF m 9 #[.val (.ref ba), .val .null] [])) st629 ?_
  clear st629 X628
  refine Go.step (T' := T629) (f' := (mkF m 10 #[.val (.ref ba), .val .null] [(.ref ba)])) (fun t k => XS.aloadN X629.here hx rfl (hb hby d11_9) rfl rfl k) ?_
  obtain ⟨T642, X642, e642, st642⟩ := getS2 X629 hx hZ hown (host := "") (Or.inl (hw _ (List.mem_of_getElem? (i := 60) rfl))) Via.refl e629 (P10.ext O639.2) (g := (mkF m 10 #[.val (.ref ba), .val .null] [(.ref ba)])) rfl (hb hby d11_10)
  refine Go.step (T' := T642) (f' := (mkF m 13 #[.val (.ref ba), .val .null] [(.ref bu), (.ref ba)])) st642 ?_
  clear st642 X629
  obtain ⟨T643, h643, X643, e643, W643, st643⟩ := putF X642 hx hZ hown (host := "") (Or.inl (hw _ (List.mem_of_getElem? (i := 61) rfl))) Via.refl e642 f632 f631 (Or.inl (hw _ (List.mem_of_getElem? (i := 62) rfl))) (hw _ (List.mem_of_getElem? (i := 35) rfl)) (ty := (.array (.object "java/lang/StackTraceElement"))) (by decide) rfl rfl (g := (mkF m 13 #[.val (.ref ba), .val .null] [(.ref bu), (.ref ba)])) rfl rfl (hb hby d11_13)
  have f644 := f632.same W643
  have f645 := f631.wr W643
  have f646 := f633.other W643 (Or.inr (slot_ne (Or.inl (hw _ (List.mem_of_getElem? (i := 65) rfl))) (Or.inl (hw _ (List.mem_of_getElem? (i := 62) rfl))) (by decide) (t := (.object "java/util/List")) (t' := (.array (.object "java/lang/StackTraceElement"))) (by decide) (by decide)))
  have f647 := f634.other W643 (Or.inr (slot_ne (Or.inl (hw _ (List.mem_of_getElem? (i := 90) rfl))) (Or.inl (hw _ (List.mem_of_getElem? (i := 62) rfl))) (by decide) (t := (.object "java/lang/Object")) (t' := (.array (.object "java/lang/StackTraceElement"))) (by decide) (by decide)))
  have f648 := f635.other W643 (Or.inr (slot_ne (Or.inl (hw _ (List.mem_of_getElem? (i := 89) rfl))) (Or.inl (hw _ (List.mem_of_getElem? (i := 62) rfl))) (by decide) (t := (.object "java/lang/String")) (t' := (.array (.object "java/lang/StackTraceElement"))) (by decide) (by decide)))
  have f649 := f636.other W643 (Or.inr (slot_ne (Or.inr (hw _ (List.mem_of_getElem? (i := 95) rfl))) (Or.inl (hw _ (List.mem_of_getElem? (i := 62) rfl))) (by decide) (t := .int) (t' := (.array (.object "java/lang/StackTraceElement"))) (by decide) (by decide)))
  have f650 := f637.other W643 (Or.inr (slot_ne (Or.inr (hw _ (List.mem_of_getElem? (i := 97) rfl))) (Or.inl (hw _ (List.mem_of_getElem? (i := 62) rfl))) (by decide) (t := (.object "java/lang/String")) (t' := (.array (.object "java/lang/StackTraceElement"))) (by decide) (by decide)))
  have f651 := f638.wr W643
  have f652 := f630.other W643 (Or.inr (slot_ne (Or.inl (hw _ (List.mem_of_getElem? (i := 59) rfl))) (Or.inl (hw _ (List.mem_of_getElem? (i := 62) rfl))) (by decide) (t := (.object "java/lang/Throwable")) (t' := (.array (.object "java/lang/StackTraceElement"))) (by decide) (by decide)))
  have O653 := O639.wr W643 P8
  have K654 := K640.wr W643 (Or.inl (List.mem_of_getElem? (i := 0) rfl))
  have N655 := Fr.snoc X643 N641 P8
  refine Go.step (T' := T643) (f' := (mkF m 16 #[.val (.ref ba), .val .null] [])) st643 ?_
  clear st643 X642 f631 f633 f634 f635 f636 f637 f638 f630 O639 K640 N641
  refine Go.step (T' := T643) (f' := (mkF m 17 #[.val (.ref ba), .val .null] [(.ref ba)])) (fun t k => XS.aloadN X643.here hx rfl (hb hby d11_16) rfl rfl k) ?_
  obtain ⟨T656, X656, e656, st656⟩ := getS2 X643 hx hZ hown (host := "") (Or.inl (hw _ (List.mem_of_getElem? (i := 63) rfl))) Via.refl e643 (P11.ext O653.2) (g := (mkF m 17 #[.val (.ref ba), .val .null] [(.ref ba)])) rfl (hb hby d11_17)
  refine Go.step (T' := T656) (f' := (mkF m 20 #[.val (.ref ba), .val .null] [(.ref bz), (.ref ba)])) st656 ?_
  clear st656 X643
  obtain ⟨T657, h657, X657, e657, W657, st657⟩ := putF X656 hx hZ hown (host := "") (Or.inl (hw _ (List.mem_of_getElem? (i := 64) rfl))) Via.refl e656 f646 f645 (Or.inl (hw _ (List.mem_of_getElem? (i := 65) rfl))) (hw _ (List.mem_of_getElem? (i := 35) rfl)) (ty := (.object "java/util/List")) (by decide) rfl rfl (g := (mkF m 20 #[.val (.ref ba), .val .null] [(.ref bz), (.ref ba)])) rfl rfl (hb hby d11_20)
  have f658 := f646.same W657
  have f659 := f645.wr W657
  have f660 := f647.other W657 (Or.inr (slot_ne (Or.inl (hw _ (List.mem_of_getElem? (i := 90) rfl))) (Or.inl (hw _ (List.mem_of_getElem? (i := 65) rfl))) (by decide) (t := (.object "java/lang/Object")) (t' := (.object "java/util/List")) (by decide) (by decide)))
  have f661 := f648.other W657 (Or.inr (slot_ne (Or.inl (hw _ (List.mem_of_getElem? (i := 89) rfl))) (Or.inl (hw _ (List.mem_of_getElem? (i := 65) rfl))) (by decide) (t := (.object "java/lang/String")) (t' := (.object "java/util/List")) (by decide) (by decide)))
  have f662 := f649.other W657 (Or.inr (slot_ne (Or.inr (hw _ (List.mem_of_getElem? (i := 95) rfl))) (Or.inl (hw _ (List.mem_of_getElem? (i := 65) rfl))) (by decide) (t := .int) (t' := (.object "java/util/List")) (by decide) (by decide)))
  have f663 := f650.other W657 (Or.inr (slot_ne (Or.inr (hw _ (List.mem_of_getElem? (i := 97) rfl))) (Or.inl (hw _ (List.mem_of_getElem? (i := 65) rfl))) (by decide) (t := (.object "java/lang/String")) (t' := (.object "java/util/List")) (by decide) (by decide)))
  have f664 := f651.wr W657
  have f665 := f652.other W657 (Or.inr (slot_ne (Or.inl (hw _ (List.mem_of_getElem? (i := 59) rfl))) (Or.inl (hw _ (List.mem_of_getElem? (i := 65) rfl))) (by decide) (t := (.object "java/lang/Throwable")) (t' := (.object "java/util/List")) (by decide) (by decide)))
  have f666 := f644.other W657 (Or.inr (slot_ne (Or.inl (hw _ (List.mem_of_getElem? (i := 62) rfl))) (Or.inl (hw _ (List.mem_of_getElem? (i := 65) rfl))) (by decide) (t := (.array (.object "java/lang/StackTraceElement"))) (t' := (.object "java/util/List")) (by decide) (by decide)))
  have O667 := O653.wr W657 P8
  have K668 := K654.wr W657 (Or.inl (List.mem_of_getElem? (i := 0) rfl))
  have N669 := Fr.snoc X657 N655 P8
  refine Go.step (T' := T657) (f' := (mkF m 23 #[.val (.ref ba), .val .null] [])) st657 ?_
  clear st657 X656 f645 f647 f648 f649 f650 f651 f652 f644 O653 K654 N655
  refine Go.step (T' := T657) (f' := (mkF m 24 #[.val (.ref ba), .val .null] [(.ref ba)])) (fun t k => XS.aloadN X657.here hx rfl (hb hby d11_23) rfl rfl k) ?_
  obtain ⟨T670, L670, X670, B670, R670, st670⟩ := own_fill X657 hx htr hZ hw hown (by rw [hh]; exact ThS.start.ext O0.2) (ThS.start.ext O667.2) hK.1 hK.2 e657 f659 f664 f666 f660 P10 (g := (mkF m 24 #[.val (.ref ba), .val .null] [(.ref ba)])) rfl (by rw [hml]; rfl) (rest := []) rfl (hb hby d11_24) (by decide) (by show 2 * 0 + 0 + 42 ≤ _; decide) (by decide) (by decide)
  have hh670 : Keep h0 T670.heap [ba] := by
    rw [← hh]; refine own_keepS X670 fun x hx => ?_
    rcases List.mem_append.mp hx with q | q
    · simp only [List.mem_append, List.mem_cons, List.not_mem_nil, or_false, false_or] at q; rcases q with (rfl | rfl) | rfl <;> rfl
    · exact B670 x q
  have f671 := R670.exa f659
  have f672 := R670.fld f661 (slot_ne (Or.inl (hw _ (List.mem_of_getElem? (i := 89) rfl))) (Or.inl (hw _ (List.mem_of_getElem? (i := 90) rfl))) (by decide) (t := (.object "java/lang/String")) (t' := (.object "java/lang/Object")) (by decide) (by decide)) (slot_ne (Or.inl (hw _ (List.mem_of_getElem? (i := 89) rfl))) (Or.inl (hw _ (List.mem_of_getElem? (i := 91) rfl))) (by decide) (t := (.object "java/lang/String")) (t' := .int) (by decide) (by decide)) (slot_ne (Or.inl (hw _ (List.mem_of_getElem? (i := 89) rfl))) (Or.inl (hw _ (List.mem_of_getElem? (i := 62) rfl))) (by decide) (t := (.object "java/lang/String")) (t' := (.array (.object "java/lang/StackTraceElement"))) (by decide) (by decide))
  have f673 := R670.fld f662 (slot_ne (Or.inr (hw _ (List.mem_of_getElem? (i := 95) rfl))) (Or.inl (hw _ (List.mem_of_getElem? (i := 90) rfl))) (by decide) (t := .int) (t' := (.object "java/lang/Object")) (by decide) (by decide)) (slot_ne (Or.inr (hw _ (List.mem_of_getElem? (i := 95) rfl))) (Or.inl (hw _ (List.mem_of_getElem? (i := 91) rfl))) (by decide) (t := .int) (t' := .int) (by decide) (by decide)) (slot_ne (Or.inr (hw _ (List.mem_of_getElem? (i := 95) rfl))) (Or.inl (hw _ (List.mem_of_getElem? (i := 62) rfl))) (by decide) (t := .int) (t' := (.array (.object "java/lang/StackTraceElement"))) (by decide) (by decide))
  have f674 := R670.fld f663 (slot_ne (Or.inr (hw _ (List.mem_of_getElem? (i := 97) rfl))) (Or.inl (hw _ (List.mem_of_getElem? (i := 90) rfl))) (by decide) (t := (.object "java/lang/String")) (t' := (.object "java/lang/Object")) (by decide) (by decide)) (slot_ne (Or.inr (hw _ (List.mem_of_getElem? (i := 97) rfl))) (Or.inl (hw _ (List.mem_of_getElem? (i := 91) rfl))) (by decide) (t := (.object "java/lang/String")) (t' := .int) (by decide) (by decide)) (slot_ne (Or.inr (hw _ (List.mem_of_getElem? (i := 97) rfl))) (Or.inl (hw _ (List.mem_of_getElem? (i := 62) rfl))) (by decide) (t := (.object "java/lang/String")) (t' := (.array (.object "java/lang/StackTraceElement"))) (by decide) (by decide))
  have N675 := Fr.app N669 (fun y hy => by rw [B670 y hy]; exact P8 : Fr n0 L670)
  have O676 := O0.keep hh670 (allS P8 all0)
  refine Go.step (T' := T670) (f' := (mkF m 27 #[.val (.ref ba), .val .null] [(.ref ba)])) st670 ?_
  clear st670 X657
  refine Go.step (T' := T670) (f' := (mkF m 28 #[.val (.ref ba), .val .null] [])) (fun t k => XS.pop X670.here hx rfl (hb hby d11_27) rfl rfl k) ?_
  refine Go.step (T' := T670) (f' := (mkF m 29 #[.val (.ref ba), .val .null] [(.ref ba)])) (fun t k => XS.aloadN X670.here hx rfl (hb hby d11_28) rfl rfl k) ?_
  refine Go.step (T' := T670) (f' := (mkF m 30 #[.val (.ref ba), .val .null] [.null, (.ref ba)])) (fun t k => XS.aloadN X670.here hx rfl (hb hby d11_29) rfl rfl k) ?_
  obtain ⟨T677, h677, X677, e677, W677, st677⟩ := putF X670 hx hZ hown (host := "") (Or.inl (hw _ (List.mem_of_getElem? (i := 93) rfl))) Via.refl rfl f672 f671 (Or.inl (hw _ (List.mem_of_getElem? (i := 89) rfl))) (hw _ (List.mem_of_getElem? (i := 35) rfl)) (ty := (.object "java/lang/String")) (by decide) rfl rfl (g := (mkF m 30 #[.val (.ref ba), .val .null] [.null, (.ref ba)])) rfl rfl (hb hby d11_30)
  have f678 := f672.same W677
  have f679 := f671.wr W677
  have f680 := f673.other W677 (Or.inr (slot_ne (Or.inr (hw _ (List.mem_of_getElem? (i := 95) rfl))) (Or.inl (hw _ (List.mem_of_getElem? (i := 89) rfl))) (by decide) (t := .int) (t' := (.object "java/lang/String")) (by decide) (by decide)))
  have f681 := f674.other W677 (Or.inr (slot_ne (Or.inr (hw _ (List.mem_of_getElem? (i := 97) rfl))) (Or.inl (hw _ (List.mem_of_getElem? (i := 89) rfl))) (by decide) (t := (.object "java/lang/String")) (t' := (.object "java/lang/String")) (by decide) (by decide)))
  have O682 := O676.wr W677 P8
  have K683 := hh670.wr W677 (Or.inl (List.mem_of_getElem? (i := 0) rfl))
  have N684 := Fr.snoc X677 N675 P8
  refine Go.step (T' := T677) (f' := (mkF m 33 #[.val (.ref ba), .val .null] [])) st677 ?_
  clear st677 X670 f671 f673 f674 O676 hh670 N675
  refine Go.retV X677 hx hlk Bd.returns (hb hby d11_33) e677 ?_ (by decide) (by decide)
  exact ⟨rfl, N684, K683, f679, f678, f680, f681⟩
theorem d10_0 : decode jdk_59_method_2_code 0 = .ok (.aload_n 0, 1) := by decide +kernel
theorem d10_1 : decode jdk_59_method_2_code 1 = .ok (.aload_n 1, 1) := by decide +kernel
theorem d10_2 : decode jdk_59_method_2_code 2 = .ok (.invokespecial 7, 3) := by decide +kernel
theorem d10_5 : decode jdk_59_method_2_code 5 = .ok (.return_, 1) := by decide +kernel
theorem pn_java_lang_Exception : plainName "java/lang/Exception" = true := by first | (simp [plainName, overriddenIn]; done) | decide +kernel
theorem pd6 : parseMethodDescriptor "(Ljava/lang/String;)V" = some ⟨[(.object "java/lang/String")], none⟩ := by decide +kernel
theorem ef_excN (m : MethodId) (ba : Addr) : entryFrame m #[(.ref ba), .null] 2 = mkF m 0 #[.val (.ref ba), .val .null] [] := by first | (simp [entryFrame, mkF, argsToLocals, Value.category]; done) | rfl
def Q_excN (Z : State) (ba : Addr) (u0 : Value) (u1 : Value) (bu : Addr) (bz : Addr) (h0 : Heap) (n0 : Nat) (v : Option Value) (h : Heap) (L : List Loc) : Prop := v = none ∧ Fr n0 L ∧ Keep h0 h [ba] ∧ Exa Z h ba "com/example/ferryline/ferryline/server/ApiError" ∧ Fld Z h ba "java/lang/Throwable" "detailMessage" "Ljava/lang/String;" .null ∧ Fld Z h ba "com/example/ferryline/ferryline/server/ApiError" "status" "I" u0 ∧ Fld Z h ba "com/example/ferryline/ferryline/server/ApiError" "code" "Ljava/lang/String;" u1
set_option maxRecDepth 65536 in
set_option maxHeartbeats 40000000 in
theorem rm_excN (l : Launch) (Z : State) (a0 : Array Value) (hw : ∀ d ∈ tables_1, d.before a0 Z = true) (ws : List Jvm.Cond) (ba : Addr) (u0 : Value) (u1 : Value) (bu : Addr) (bz : Addr) (h0 : Heap) (n0 : Nat) (O0 : Old Z n0 h0) (P0 : Exa Z h0 ba "com/example/ferryline/ferryline/server/ApiError") (P1 : Fld Z h0 ba "java/lang/Throwable" "cause" "Ljava/lang/Throwable;" .null) (P2 : Fld Z h0 ba "java/lang/Throwable" "stackTrace" "[Ljava/lang/StackTraceElement;" .null) (P3 : Fld Z h0 ba "java/lang/Throwable" "suppressedExceptions" "Ljava/util/List;" .null) (P4 : Fld Z h0 ba "java/lang/Throwable" "backtrace" "Ljava/lang/Object;" .null) (P5 : Fld Z h0 ba "java/lang/Throwable" "detailMessage" "Ljava/lang/String;" .null) (P6 : Fld Z h0 ba "com/example/ferryline/ferryline/server/ApiError" "status" "I" u0) (P7 : Fld Z h0 ba "com/example/ferryline/ferryline/server/ApiError" "code" "Ljava/lang/String;" u1) (P8 : n0 ≤ ba) (P9 : Unt h0 ba) (P10 : Sta Z Z.heap "java/lang/Throwable" "UNASSIGNED_STACK" "[Ljava/lang/StackTraceElement;" (.ref bu)) (P11 : Sta Z Z.heap "java/lang/Throwable" "SUPPRESSED_SENTINEL" "Ljava/util/List;" (.ref bz)) (htr : l.stackTraces = true) :
    MetFree l (⟨"java/lang/Exception", "<init>", "(Ljava/lang/String;)V"⟩ : MethodName) (head1 (Jvm.Cond.code (⟨"java/lang/Exception", "<init>", "(Ljava/lang/String;)V"⟩ : MethodName) jdk_59_method_2_code 2 none :: ws) ({ frames := 4, cells := 1, slots := 2752, locals := 55 } : Room)) (fun a U => a = #[(.ref ba), .null] ∧ Z.Warmed39 U.vm ∧ U.heap = h0) (fun _ _ bl s _ => s.vm.MethodsKnown ∧ s.vm.FramesKnown bl) (fun _ U o U' => ∃ v L, o = .returned v ∧ Q_excN Z ba u0 u1 bu bz h0 n0 v U'.heap L ∧ FrameEnd U o U' L ({ frames := 4, cells := 1, slots := 2752, locals := 55 } : Room).cells ({ frames := 4, cells := 1, slots := 2752, locals := 55 } : Room).slots) := by
  refine MetFree.of_bodySF (plainFor_of_name pn_java_lang_Exception) hisR ?_
  intro p e s m args below meth c s₁ Bd hml0 hP hK
  obtain ⟨rfl, hZ, hh⟩ := hP
  have hx := Bd.exec
  have hby := Bd.bytes
  have hml : c.maxLocals = 2 := hml0
  have hown : s.vm.findClass "java/lang/Exception" = some m.cls := findClass_of_methodNamed Bd.named
  have hnm := (name_of_methodNamed Bd.named Bd.method).1
  have hlk : meth.locks = false := BodyLoose.notSynchronized Bd
  have X0 : Stand p l e ({ frames := 4, cells := 1, slots := 2752, locals := 55 } : Room) s m #[(.ref ba), .null] below meth c s₁ [] 0 0 := Stand.of_body Bd
  have e0 : s₁.heap = h0 := by rw [← hh, Bd.state]; rfl
  have N0 := Fr.nil n0
  have K0 := Keep.refl h0 [ba]
  rw [ef_excN m ba]
  show Go p e below s (fun v h L => Q_excN Z ba u0 u1 bu bz h0 n0 v h L) ({ frames := 4, cells := 1, slots := 2752, locals := 55 } : Room).cells ({ frames := 4, cells := 1, slots := 2752, locals := 55 } : Room).slots s₁ (mkF m 0 #[.val (.ref ba), .val .null] [])
  refine Go.step (T' := s₁) (f' := (mkF m 1 #[.val (.ref ba), .val .null] [(.ref ba)])) (fun t k => XS.aloadN X0.here hx rfl (hb hby d10_0) rfl rfl k) ?_
  refine Go.step (T' := s₁) (f' := (mkF m 2 #[.val (.ref ba), .val .null] [.null, (.ref ba)])) (fun t k => XS.aloadN X0.here hx rfl (hb hby d10_1) rfl rfl k) ?_
  obtain ⟨_, _, ⟨T685, L685, k685, n685⟩, -, X685, ⟨Lc685, hQ685, l685, y685, z685⟩, st685⟩ := X0.specialBack hx (y := (⟨"java/lang/Throwable", "<init>", "(Ljava/lang/String;)V"⟩ : MethodName)) rfl hown (mvT hZ (hw _ (List.mem_of_getElem? (i := 51) rfl))) (mvT hZ (hw _ (List.mem_of_getElem? (i := 52) rfl))) (mvT hZ (hw _ (List.mem_of_getElem? (i := 56) rfl))) (by decide) (backOfKL (W := 0) (rm_thrN l Z a0 hw [] ba u0 u1 bu bz h0 n0 O0 P0 P1 P2 P3 P4 P5 P6 P7 P8 P9 P10 P11 htr) hZ (hw _ (List.mem_of_getElem? (i := 56) rfl)) (hw _ (List.mem_of_getElem? (i := 55) rfl)) (by decide) (by decide) hK.1 hK.2) (g := (mkF m 2 #[.val (.ref ba), .val .null] [.null, (.ref ba)])) rfl (by rw [hml]; rfl) (Steps.refl _) (a := ba) (argsL := [.null]) (rest := []) (lenOf pd6 rfl) rfl (by show 2 * 0 + _ ≤ _; exact Nat.le_of_eq rfl) (hb hby d10_2) (fun _ _ => ⟨rfl, e0, (by decide : 0 + 1 ≤ _), (by decide : 0 + 2752 ≤ _)⟩)
  dsimp only [Pt.U, Pt.locs, Pt.cells, Pt.slots] at X685 l685 y685 z685 st685 hQ685
  subst l685 y685 z685
  obtain ⟨rfl, Nq685, hh685, p686, p687, p688, p689⟩ := hQ685
  have N690 := Fr.app N0 Nq685
  have f691 := P0.keep hh685
  have O692 := O0.keep hh685 (allS P8 all0)
  have K693 := K0.trans hh685 (allS (Or.inl (List.mem_of_getElem? (i := 0) rfl)) all0)
  refine Go.via (T' := T685) (f' := (mkF m 5 #[.val (.ref ba), .val .null] [])) st685 ?_
  clear st685 X0 Nq685
  refine Go.retV X685 hx hlk Bd.returns (hb hby d10_5) rfl ?_ (by decide) (by decide)
  exact ⟨rfl, N690, K693, p686, p687, p688, p689⟩
theorem d9_0 : decode jdk_58_method_2_code 0 = .ok (.aload_n 0, 1) := by decide +kernel
theorem d9_1 : decode jdk_58_method_2_code 1 = .ok (.aload_n 1, 1) := by decide +kernel
theorem d9_2 : decode jdk_58_method_2_code 2 = .ok (.invokespecial 7, 3) := by decide +kernel
theorem d9_5 : decode jdk_58_method_2_code 5 = .ok (.return_, 1) := by decide +kernel
theorem pn_java_lang_RuntimeException : plainName "java/lang/RuntimeException" = true := by first | (simp [plainName, overriddenIn]; done) | decide +kernel
theorem ef_rteN (m : MethodId) (ba : Addr) : entryFrame m #[(.ref ba), .null] 2 = mkF m 0 #[.val (.ref ba), .val .null] [] := by first | (simp [entryFrame, mkF, argsToLocals, Value.category]; done) | rfl
def Q_rteN (Z : State) (ba : Addr) (u0 : Value) (u1 : Value) (bu : Addr) (bz : Addr) (h0 : Heap) (n0 : Nat) (v : Option Value) (h : Heap) (L : List Loc) : Prop := v = none ∧ Fr n0 L ∧ Keep h0 h [ba] ∧ Exa Z h ba "com/example/ferryline/ferryline/server/ApiError" ∧ Fld Z h ba "java/lang/Throwable" "detailMessage" "Ljava/lang/String;" .null ∧ Fld Z h ba "com/example/ferryline/ferryline/server/ApiError" "status" "I" u0 ∧ Fld Z h ba "com/example/ferryline/ferryline/server/ApiError" "code" "Ljava/lang/String;" u1
set_option maxRecDepth 65536 in
set_option maxHeartbeats 40000000 in
theorem rm_rteN (l : Launch) (Z : State) (a0 : Array Value) (hw : ∀ d ∈ tables_1, d.before a0 Z = true) (ws : List Jvm.Cond) (ba : Addr) (u0 : Value) (u1 : Value) (bu : Addr) (bz : Addr) (h0 : Heap) (n0 : Nat) (O0 : Old Z n0 h0) (P0 : Exa Z h0 ba "com/example/ferryline/ferryline/server/ApiError") (P1 : Fld Z h0 ba "java/lang/Throwable" "cause" "Ljava/lang/Throwable;" .null) (P2 : Fld Z h0 ba "java/lang/Throwable" "stackTrace" "[Ljava/lang/StackTraceElement;" .null) (P3 : Fld Z h0 ba "java/lang/Throwable" "suppressedExceptions" "Ljava/util/List;" .null) (P4 : Fld Z h0 ba "java/lang/Throwable" "backtrace" "Ljava/lang/Object;" .null) (P5 : Fld Z h0 ba "java/lang/Throwable" "detailMessage" "Ljava/lang/String;" .null) (P6 : Fld Z h0 ba "com/example/ferryline/ferryline/server/ApiError" "status" "I" u0) (P7 : Fld Z h0 ba "com/example/ferryline/ferryline/server/ApiError" "code" "Ljava/lang/String;" u1) (P8 : n0 ≤ ba) (P9 : Unt h0 ba) (P10 : Sta Z Z.heap "java/lang/Throwable" "UNASSIGNED_STACK" "[Ljava/lang/StackTraceElement;" (.ref bu)) (P11 : Sta Z Z.heap "java/lang/Throwable" "SUPPRESSED_SENTINEL" "Ljava/util/List;" (.ref bz)) (htr : l.stackTraces = true) :
    MetFree l (⟨"java/lang/RuntimeException", "<init>", "(Ljava/lang/String;)V"⟩ : MethodName) (head1 (Jvm.Cond.code (⟨"java/lang/RuntimeException", "<init>", "(Ljava/lang/String;)V"⟩ : MethodName) jdk_58_method_2_code 2 none :: ws) ({ frames := 5, cells := 1, slots := 2752, locals := 68 } : Room)) (fun a U => a = #[(.ref ba), .null] ∧ Z.Warmed39 U.vm ∧ U.heap = h0) (fun _ _ bl s _ => s.vm.MethodsKnown ∧ s.vm.FramesKnown bl) (fun _ U o U' => ∃ v L, o = .returned v ∧ Q_rteN Z ba u0 u1 bu bz h0 n0 v U'.heap L ∧ FrameEnd U o U' L ({ frames := 5, cells := 1, slots := 2752, locals := 68 } : Room).cells ({ frames := 5, cells := 1, slots := 2752, locals := 68 } : Room).slots) := by
  refine MetFree.of_bodySF (plainFor_of_name pn_java_lang_RuntimeException) hisR ?_
  intro p e s m args below meth c s₁ Bd hml0 hP hK
  obtain ⟨rfl, hZ, hh⟩ := hP
  have hx := Bd.exec
  have hby := Bd.bytes
  have hml : c.maxLocals = 2 := hml0
  have hown : s.vm.findClass "java/lang/RuntimeException" = some m.cls := findClass_of_methodNamed Bd.named
  have hnm := (name_of_methodNamed Bd.named Bd.method).1
  have hlk : meth.locks = false := BodyLoose.notSynchronized Bd
  have X0 : Stand p l e ({ frames := 5, cells := 1, slots := 2752, locals := 68 } : Room) s m #[(.ref ba), .null] below meth c s₁ [] 0 0 := Stand.of_body Bd
  have e0 : s₁.heap = h0 := by rw [← hh, Bd.state]; rfl
  have N0 := Fr.nil n0
  have K0 := Keep.refl h0 [ba]
  rw [ef_rteN m ba]
  show Go p e below s (fun v h L => Q_rteN Z ba u0 u1 bu bz h0 n0 v h L) ({ frames := 5, cells := 1, slots := 2752, locals := 68 } : Room).cells ({ frames := 5, cells := 1, slots := 2752, locals := 68 } : Room).slots s₁ (mkF m 0 #[.val (.ref ba), .val .null] [])
  refine Go.step (T' := s₁) (f' := (mkF m 1 #[.val (.ref ba), .val .null] [(.ref ba)])) (fun t k => XS.aloadN X0.here hx rfl (hb hby d9_0) rfl rfl k) ?_
  refine Go.step (T' := s₁) (f' := (mkF m 2 #[.val (.ref ba), .val .null] [.null, (.ref ba)])) (fun t k => XS.aloadN X0.here hx rfl (hb hby d9_1) rfl rfl k) ?_
  obtain ⟨_, _, ⟨T694, L694, k694, n694⟩, -, X694, ⟨Lc694, hQ694, l694, y694, z694⟩, st694⟩ := X0.specialBack hx (y := (⟨"java/lang/Exception", "<init>", "(Ljava/lang/String;)V"⟩ : MethodName)) rfl hown (mvT hZ (hw _ (List.mem_of_getElem? (i := 45) rfl))) (mvT hZ (hw _ (List.mem_of_getElem? (i := 46) rfl))) (mvT hZ (hw _ (List.mem_of_getElem? (i := 50) rfl))) (by decide) (backOfKL (W := 0) (rm_excN l Z a0 hw [] ba u0 u1 bu bz h0 n0 O0 P0 P1 P2 P3 P4 P5 P6 P7 P8 P9 P10 P11 htr) hZ (hw _ (List.mem_of_getElem? (i := 50) rfl)) (hw _ (List.mem_of_getElem? (i := 49) rfl)) (by decide) (by decide) hK.1 hK.2) (g := (mkF m 2 #[.val (.ref ba), .val .null] [.null, (.ref ba)])) rfl (by rw [hml]; rfl) (Steps.refl _) (a := ba) (argsL := [.null]) (rest := []) (lenOf pd6 rfl) rfl (by show 2 * 0 + _ ≤ _; exact Nat.le_of_eq rfl) (hb hby d9_2) (fun _ _ => ⟨rfl, e0, (by decide : 0 + 1 ≤ _), (by decide : 0 + 2752 ≤ _)⟩)
  dsimp only [Pt.U, Pt.locs, Pt.cells, Pt.slots] at X694 l694 y694 z694 st694 hQ694
  subst l694 y694 z694
  obtain ⟨rfl, Nq694, hh694, p695, p696, p697, p698⟩ := hQ694
  have N699 := Fr.app N0 Nq694
  have f700 := P0.keep hh694
  have O701 := O0.keep hh694 (allS P8 all0)
  have K702 := K0.trans hh694 (allS (Or.inl (List.mem_of_getElem? (i := 0) rfl)) all0)
  refine Go.via (T' := T694) (f' := (mkF m 5 #[.val (.ref ba), .val .null] [])) st694 ?_
  clear st694 X0 Nq694
  refine Go.retV X694 hx hlk Bd.returns (hb hby d9_5) rfl ?_ (by decide) (by decide)
  exact ⟨rfl, N699, K702, p695, p696, p697, p698⟩
theorem ef_thrR (m : MethodId) (ba : Addr) (bm : Addr) : entryFrame m #[(.ref ba), (.ref bm)] 2 = mkF m 0 #[.val (.ref ba), .val (.ref bm)] [] := by first | (simp [entryFrame, mkF, argsToLocals, Value.category]; done) | rfl
def Q_thrR (Z : State) (ba : Addr) (bm : Addr) (u0 : Value) (u1 : Value) (bu : Addr) (bz : Addr) (h0 : Heap) (n0 : Nat) (v : Option Value) (h : Heap) (L : List Loc) : Prop := v = none ∧ Fr n0 L ∧ Keep h0 h [ba] ∧ Exa Z h ba "com/example/ferryline/ferryline/server/ApiError" ∧ Fld Z h ba "java/lang/Throwable" "detailMessage" "Ljava/lang/String;" (.ref bm) ∧ Fld Z h ba "com/example/ferryline/ferryline/server/ApiError" "status" "I" u0 ∧ Fld Z h ba "com/example/ferryline/ferryline/server/ApiError" "code" "Ljava/lang/String;" u1
set_option maxRecDepth 65536 in
set_option maxHeartbeats 40000000 in
theorem rm_thrR (l : Launch) (Z : State) (a0 : Array Value) (hw : ∀ d ∈ tables_1, d.before a0 Z = true) (ws : List Jvm.Cond) (ba : Addr) (bm : Addr) (u0 : Value) (u1 : Value) (bu : Addr) (bz : Addr) (h0 : Heap) (n0 : Nat) (O0 : Old Z n0 h0) (P0 : Exa Z h0 ba "com/example/ferryline/ferryline/server/ApiError") (P1 : Fld Z h0 ba "java/lang/Throwable" "cause" "Ljava/lang/Throwable;" .null) (P2 : Fld Z h0 ba "java/lang/Throwable" "stackTrace" "[Ljava/lang/StackTraceElement;" .null) (P3 : Fld Z h0 ba "java/lang/Throwable" "suppressedExceptions" "Ljava/util/List;" .null) (P4 : Fld Z h0 ba "java/lang/Throwable" "backtrace" "Ljava/lang/Object;" .null) (P5 : Fld Z h0 ba "java/lang/Throwable" "detailMessage" "Ljava/lang/String;" .null) (P6 : Fld Z h0 ba "com/example/ferryline/ferryline/server/ApiError" "status" "I" u0) (P7 : Fld Z h0 ba "com/example/ferryline/ferryline/server/ApiError" "code" "Ljava/lang/String;" u1) (P8 : n0 ≤ ba) (P9 : Unt h0 ba) (P10 : Sta Z Z.heap "java/lang/Throwable" "UNASSIGNED_STACK" "[Ljava/lang/StackTraceElement;" (.ref bu)) (P11 : Sta Z Z.heap "java/lang/Throwable" "SUPPRESSED_SENTINEL" "Ljava/util/List;" (.ref bz)) (htr : l.stackTraces = true) :
    MetFree l (⟨"java/lang/Throwable", "<init>", "(Ljava/lang/String;)V"⟩ : MethodName) (head1 (Jvm.Cond.code (⟨"java/lang/Throwable", "<init>", "(Ljava/lang/String;)V"⟩ : MethodName) jdk_78_method_2_code 2 none :: ws) ({ frames := 3, cells := 1, slots := 2752, locals := 42 } : Room)) (fun a U => a = #[(.ref ba), (.ref bm)] ∧ Z.Warmed39 U.vm ∧ U.heap = h0) (fun _ _ bl s _ => s.vm.MethodsKnown ∧ s.vm.FramesKnown bl) (fun _ U o U' => ∃ v L, o = .returned v ∧ Q_thrR Z ba bm u0 u1 bu bz h0 n0 v U'.heap L ∧ FrameEnd U o U' L ({ frames := 3, cells := 1, slots := 2752, locals := 42 } : Room).cells ({ frames := 3, cells := 1, slots := 2752, locals := 42 } : Room).slots) := by
  refine MetFree.of_bodySF (plainFor_of_name pn_java_lang_Throwable) hisR ?_
  intro p e s m args below meth c s₁ Bd hml0 hP hK
  obtain ⟨rfl, hZ, hh⟩ := hP
  have hx := Bd.exec
  have hby := Bd.bytes
  have hml : c.maxLocals = 2 := hml0
  have hown : s.vm.findClass "java/lang/Throwable" = some m.cls := findClass_of_methodNamed Bd.named
  have hnm := (name_of_methodNamed Bd.named Bd.method).1
  have hlk : meth.locks = false := BodyLoose.notSynchronized Bd
  have X0 : Stand p l e ({ frames := 3, cells := 1, slots := 2752, locals := 42 } : Room) s m #[(.ref ba), (.ref bm)] below meth c s₁ [] 0 0 := Stand.of_body Bd
  have e0 : s₁.heap = h0 := by rw [← hh, Bd.state]; rfl
  have N0 := Fr.nil n0
  have K0 := Keep.refl h0 [ba]
  rw [ef_thrR m ba bm]
  show Go p e below s (fun v h L => Q_thrR Z ba bm u0 u1 bu bz h0 n0 v h L) ({ frames := 3, cells := 1, slots := 2752, locals := 42 } : Room).cells ({ frames := 3, cells := 1, slots := 2752, locals := 42 } : Room).slots s₁ (mkF m 0 #[.val (.ref ba), .val (.ref bm)] [])
  refine Go.step (T' := s₁) (f' := (mkF m 1 #[.val (.ref ba), .val (.ref bm)] [(.ref ba)])) (fun t k => XS.aloadN X0.here hx rfl (hb hby d11_0) rfl rfl k) ?_
  obtain ⟨T703, X703, e703, st703⟩ := initO X0 hx hZ hown (hw _ (List.mem_of_getElem? (i := 57) rfl)) (hw _ (List.mem_of_getElem? (i := 16) rfl)) (hw _ (List.mem_of_getElem? (i := 17) rfl)) e0 (g := (mkF m 1 #[.val (.ref ba), .val (.ref bm)] [(.ref ba)])) rfl (by rw [hml]; rfl) rfl (hb hby d11_1) (by decide) (W := 0) (by show 2 * 0 + _ ≤ _; exact Nat.le_of_eq rfl) (by decide)
  refine Go.step (T' := T703) (f' := (mkF m 4 #[.val (.ref ba), .val (.ref bm)] [])) st703 ?_
  clear st703 X0
  refine Go.step (T' := T703) (f' := (mkF m 5 #[.val (.ref ba), .val (.ref bm)] [(.ref ba)])) (fun t k => XS.aloadN X703.here hx rfl (hb hby d11_4) rfl rfl k) ?_
  refine Go.step (T' := T703) (f' := (mkF m 6 #[.val (.ref ba), .val (.ref bm)] [(.ref ba), (.ref ba)])) (fun t k => XS.aloadN X703.here hx rfl (hb hby d11_5) rfl rfl k) ?_
  obtain ⟨T704, h704, X704, e704, W704, st704⟩ := putF X703 hx hZ hown (host := "") (Or.inl (hw _ (List.mem_of_getElem? (i := 58) rfl))) Via.refl e703 P1 P0 (Or.inl (hw _ (List.mem_of_getElem? (i := 59) rfl))) (hw _ (List.mem_of_getElem? (i := 35) rfl)) (ty := (.object "java/lang/Throwable")) (by decide) rfl rfl (g := (mkF m 6 #[.val (.ref ba), .val (.ref bm)] [(.ref ba), (.ref ba)])) rfl rfl (hb hby d11_6)
  have f705 := P1.same W704
  have f706 := P0.wr W704
  have f707 := P2.other W704 (Or.inr (slot_ne (Or.inl (hw _ (List.mem_of_getElem? (i := 62) rfl))) (Or.inl (hw _ (List.mem_of_getElem? (i := 59) rfl))) (by decide) (t := (.array (.object "java/lang/StackTraceElement"))) (t' := (.object "java/lang/Throwable")) (by decide) (by decide)))
  have f708 := P3.other W704 (Or.inr (slot_ne (Or.inl (hw _ (List.mem_of_getElem? (i := 65) rfl))) (Or.inl (hw _ (List.mem_of_getElem? (i := 59) rfl))) (by decide) (t := (.object "java/util/List")) (t' := (.object "java/lang/Throwable")) (by decide) (by decide)))
  have f709 := P4.other W704 (Or.inr (slot_ne (Or.inl (hw _ (List.mem_of_getElem? (i := 90) rfl))) (Or.inl (hw _ (List.mem_of_getElem? (i := 59) rfl))) (by decide) (t := (.object "java/lang/Object")) (t' := (.object "java/lang/Throwable")) (by decide) (by decide)))
  have f710 := P5.other W704 (Or.inr (slot_ne (Or.inl (hw _ (List.mem_of_getElem? (i := 89) rfl))) (Or.inl (hw _ (List.mem_of_getElem? (i := 59) rfl))) (by decide) (t := (.object "java/lang/String")) (t' := (.object "java/lang/Throwable")) (by decide) (by decide)))
  have f711 := P6.other W704 (Or.inr (slot_ne (Or.inr (hw _ (List.mem_of_getElem? (i := 95) rfl))) (Or.inl (hw _ (List.mem_of_getElem? (i := 59) rfl))) (by decide) (t := .int) (t' := (.object "java/lang/Throwable")) (by decide) (by decide)))
  have f712 := P7.other W704 (Or.inr (slot_ne (Or.inr (hw _ (List.mem_of_getElem? (i := 97) rfl))) (Or.inl (hw _ (List.mem_of_getElem? (i := 59) rfl))) (by decide) (t := (.object "java/lang/String")) (t' := (.object "java/lang/Throwable")) (by decide) (by decide)))
  have f713 := P9.wr W704
  have O714 := O0.wr W704 P8
  have K715 := K0.wr W704 (Or.inl (List.mem_of_getElem? (i := 0) rfl))
  have N716 := Fr.snoc X704 N0 P8
  refine Go.step (T' := T704) (f' := (mkF m 9 #[.val (.ref ba), .val (.ref bm)] [])) st704 ?_
  clear st704 X703
  refine Go.step (T' := T704) (f' := (mkF m 10 #[.val (.ref ba), .val (.ref bm)] [(.ref ba)])) (fun t k => XS.aloadN X704.here hx rfl (hb hby d11_9) rfl rfl k) ?_
  obtain ⟨T717, X717, e717, st717⟩ := getS2 X704 hx hZ hown (host := "") (Or.inl (hw _ (List.mem_of_getElem? (i := 60) rfl))) Via.refl e704 (P10.ext O714.2) (g := (mkF m 10 #[.val (.ref ba), .val (.ref bm)] [(.ref ba)])) rfl (hb hby d11_10)
  refine Go.step (T' := T717) (f' := (mkF m 13 #[.val (.ref ba), .val (.ref bm)] [(.ref bu), (.ref ba)])) st717 ?_
  clear st717 X704
  obtain ⟨T718, h718, X718, e718, W718, st718⟩ := putF X717 hx hZ hown (host := "") (Or.inl (hw _ (List.mem_of_getElem? (i := 61) rfl))) Via.refl e717 f707 f706 (Or.inl (hw _ (List.mem_of_getElem? (i := 62) rfl))) (hw _ (List.mem_of_getElem? (i := 35) rfl)) (ty := (.array (.object "java/lang/StackTraceElement"))) (by decide) rfl rfl (g := (mkF m 13 #[.val (.ref ba), .val (.ref bm)] [(.ref bu), (.ref ba)])) rfl rfl (hb hby d11_13)
  have f719 := f707.same W718
  have f720 := f706.wr W718
  have f721 := f708.other W718 (Or.inr (slot_ne (Or.inl (hw _ (List.mem_of_getElem? (i := 65) rfl))) (Or.inl (hw _ (List.mem_of_getElem? (i := 62) rfl))) (by decide) (t := (.object "java/util/List")) (t' := (.array (.object "java/lang/StackTraceElement"))) (by decide) (by decide)))
  have f722 := f709.other W718 (Or.inr (slot_ne (Or.inl (hw _ (List.mem_of_getElem? (i := 90) rfl))) (Or.inl (hw _ (List.mem_of_getElem? (i := 62) rfl))) (by decide) (t := (.object "java/lang/Object")) (t' := (.array (.object "java/lang/StackTraceElement"))) (by decide) (by decide)))
  have f723 := f710.other W718 (Or.inr (slot_ne (Or.inl (hw _ (List.mem_of_getElem? (i := 89) rfl))) (Or.inl (hw _ (List.mem_of_getElem? (i := 62) rfl))) (by decide) (t := (.object "java/lang/String")) (t' := (.array (.object "java/lang/StackTraceElement"))) (by decide) (by decide)))
  have f724 := f711.other W718 (Or.inr (slot_ne (Or.inr (hw _ (List.mem_of_getElem? (i := 95) rfl))) (Or.inl (hw _ (List.mem_of_getElem? (i := 62) rfl))) (by decide) (t := .int) (t' := (.array (.object "java/lang/StackTraceElement"))) (by decide) (by decide)))
  have f725 := f712.other W718 (Or.inr (slot_ne (Or.inr (hw _ (List.mem_of_getElem? (i := 97) rfl))) (Or.inl (hw _ (List.mem_of_getElem? (i := 62) rfl))) (by decide) (t := (.object "java/lang/String")) (t' := (.array (.object "java/lang/StackTraceElement"))) (by decide) (by decide)))
  have f726 := f713.wr W718
  have f727 := f705.other W718 (Or.inr (slot_ne (Or.inl (hw _ (List.mem_of_getElem? (i := 59) rfl))) (Or.inl (hw _ (List.mem_of_getElem? (i := 62) rfl))) (by decide) (t := (.object "java/lang/Throwable")) (t' := (.array (.object "java/lang/StackTraceElement"))) (by decide) (by decide)))
  have O728 := O714.wr W718 P8
  have K729 := K715.wr W718 (Or.inl (List.mem_of_getElem? (i := 0) rfl))
  have N730 := Fr.snoc X718 N716 P8
  refine Go.step (T' := T718) (f' := (mkF m 16 #[.val (.ref ba), .val (.ref bm)] [])) st718 ?_
  clear st718 X717 f706 f708 f709 f710 f711 f712 f713 f705 O714 K715 N716
  refine Go.step (T' := T718) (f' := (mkF m 17 #[.val (.ref ba), .val (.ref bm)] [(.ref ba)])) (fun t k => XS.aloadN X718.here hx rfl (hb hby d11_16) rfl rfl k) ?_
  obtain ⟨T731, X731, e731, st731⟩ := getS2 X718 hx hZ hown (host := "") (Or.inl (hw _ (List.mem_of_getElem? (i := 63) rfl))) Via.refl e718 (P11.ext O728.2) (g := (mkF m 17 #[.val (.ref ba), .val (.ref bm)] [(.ref ba)])) rfl (hb hby d11_17)
  refine Go.step (T' := T731) (f' := (mkF m 20 #[.val (.ref ba), .val (.ref bm)] [(.ref bz), (.ref ba)])) st731 ?_
  clear st731 X718
  obtain ⟨T732, h732, X732, e732, W732, st732⟩ := putF X731 hx hZ hown (host := "") (Or.inl (hw _ (List.mem_of_getElem? (i := 64) rfl))) Via.refl e731 f721 f720 (Or.inl (hw _ (List.mem_of_getElem? (i := 65) rfl))) (hw _ (List.mem_of_getElem? (i := 35) rfl)) (ty := (.object "java/util/List")) (by decide) rfl rfl (g := (mkF m 20 #[.val (.ref ba), .val (.ref bm)] [(.ref bz), (.ref ba)])) rfl rfl (hb hby d11_20)
  have f733 := f721.same W732
  have f734 := f720.wr W732
  have f735 := f722.other W732 (Or.inr (slot_ne (Or.inl (hw _ (List.mem_of_getElem? (i := 90) rfl))) (Or.inl (hw _ (List.mem_of_getElem? (i := 65) rfl))) (by decide) (t := (.object "java/lang/Object")) (t' := (.object "java/util/List")) (by decide) (by decide)))
  have f736 := f723.other W732 (Or.inr (slot_ne (Or.inl (hw _ (List.mem_of_getElem? (i := 89) rfl))) (Or.inl (hw _ (List.mem_of_getElem? (i := 65) rfl))) (by decide) (t := (.object "java/lang/String")) (t' := (.object "java/util/List")) (by decide) (by decide)))
  have f737 := f724.other W732 (Or.inr (slot_ne (Or.inr (hw _ (List.mem_of_getElem? (i := 95) rfl))) (Or.inl (hw _ (List.mem_of_getElem? (i := 65) rfl))) (by decide) (t := .int) (t' := (.object "java/util/List")) (by decide) (by decide)))
  have f738 := f725.other W732 (Or.inr (slot_ne (Or.inr (hw _ (List.mem_of_getElem? (i := 97) rfl))) (Or.inl (hw _ (List.mem_of_getElem? (i := 65) rfl))) (by decide) (t := (.object "java/lang/String")) (t' := (.object "java/util/List")) (by decide) (by decide)))
  have f739 := f726.wr W732
  have f740 := f727.other W732 (Or.inr (slot_ne (Or.inl (hw _ (List.mem_of_getElem? (i := 59) rfl))) (Or.inl (hw _ (List.mem_of_getElem? (i := 65) rfl))) (by decide) (t := (.object "java/lang/Throwable")) (t' := (.object "java/util/List")) (by decide) (by decide)))
  have f741 := f719.other W732 (Or.inr (slot_ne (Or.inl (hw _ (List.mem_of_getElem? (i := 62) rfl))) (Or.inl (hw _ (List.mem_of_getElem? (i := 65) rfl))) (by decide) (t := (.array (.object "java/lang/StackTraceElement"))) (t' := (.object "java/util/List")) (by decide) (by decide)))
  have O742 := O728.wr W732 P8
  have K743 := K729.wr W732 (Or.inl (List.mem_of_getElem? (i := 0) rfl))
  have N744 := Fr.snoc X732 N730 P8
  refine Go.step (T' := T732) (f' := (mkF m 23 #[.val (.ref ba), .val (.ref bm)] [])) st732 ?_
  clear st732 X731 f720 f722 f723 f724 f725 f726 f727 f719 O728 K729 N730
  refine Go.step (T' := T732) (f' := (mkF m 24 #[.val (.ref ba), .val (.ref bm)] [(.ref ba)])) (fun t k => XS.aloadN X732.here hx rfl (hb hby d11_23) rfl rfl k) ?_
  obtain ⟨T745, L745, X745, B745, R745, st745⟩ := own_fill X732 hx htr hZ hw hown (by rw [hh]; exact ThS.start.ext O0.2) (ThS.start.ext O742.2) hK.1 hK.2 e732 f734 f739 f741 f735 P10 (g := (mkF m 24 #[.val (.ref ba), .val (.ref bm)] [(.ref ba)])) rfl (by rw [hml]; rfl) (rest := []) rfl (hb hby d11_24) (by decide) (by show 2 * 0 + 0 + 42 ≤ _; decide) (by decide) (by decide)
  have hh745 : Keep h0 T745.heap [ba] := by
    rw [← hh]; refine own_keepS X745 fun x hx => ?_
    rcases List.mem_append.mp hx with q | q
    · simp only [List.mem_append, List.mem_cons, List.not_mem_nil, or_false, false_or] at q; rcases q with (rfl | rfl) | rfl <;> rfl
    · exact B745 x q
  have f746 := R745.exa f734
  have f747 := R745.fld f736 (slot_ne (Or.inl (hw _ (List.mem_of_getElem? (i := 89) rfl))) (Or.inl (hw _ (List.mem_of_getElem? (i := 90) rfl))) (by decide) (t := (.object "java/lang/String")) (t' := (.object "java/lang/Object")) (by decide) (by decide)) (slot_ne (Or.inl (hw _ (List.mem_of_getElem? (i := 89) rfl))) (Or.inl (hw _ (List.mem_of_getElem? (i := 91) rfl))) (by decide) (t := (.object "java/lang/String")) (t' := .int) (by decide) (by decide)) (slot_ne (Or.inl (hw _ (List.mem_of_getElem? (i := 89) rfl))) (Or.inl (hw _ (List.mem_of_getElem? (i := 62) rfl))) (by decide) (t := (.object "java/lang/String")) (t' := (.array (.object "java/lang/StackTraceElement"))) (by decide) (by decide))
  have f748 := R745.fld f737 (slot_ne (Or.inr (hw _ (List.mem_of_getElem? (i := 95) rfl))) (Or.inl (hw _ (List.mem_of_getElem? (i := 90) rfl))) (by decide) (t := .int) (t' := (.object "java/lang/Object")) (by decide) (by decide)) (slot_ne (Or.inr (hw _ (List.mem_of_getElem? (i := 95) rfl))) (Or.inl (hw _ (List.mem_of_getElem? (i := 91) rfl))) (by decide) (t := .int) (t' := .int) (by decide) (by decide)) (slot_ne (Or.inr (hw _ (List.mem_of_getElem? (i := 95) rfl))) (Or.inl (hw _ (List.mem_of_getElem? (i := 62) rfl))) (by decide) (t := .int) (t' := (.array (.object "java/lang/StackTraceElement"))) (by decide) (by decide))
  have f749 := R745.fld f738 (slot_ne (Or.inr (hw _ (List.mem_of_getElem? (i := 97) rfl))) (Or.inl (hw _ (List.mem_of_getElem? (i := 90) rfl))) (by decide) (t := (.object "java/lang/String")) (t' := (.object "java/lang/Object")) (by decide) (by decide)) (slot_ne (Or.inr (hw _ (List.mem_of_getElem? (i := 97) rfl))) (Or.inl (hw _ (List.mem_of_getElem? (i := 91) rfl))) (by decide) (t := (.object "java/lang/String")) (t' := .int) (by decide) (by decide)) (slot_ne (Or.inr (hw _ (List.mem_of_getElem? (i := 97) rfl))) (Or.inl (hw _ (List.mem_of_getElem? (i := 62) rfl))) (by decide) (t := (.object "java/lang/String")) (t' := (.array (.object "java/lang/StackTraceElement"))) (by decide) (by decide))
  have N750 := Fr.app N744 (fun y hy => by rw [B745 y hy]; exact P8 : Fr n0 L745)
  have O751 := O0.keep hh745 (allS P8 all0)
  refine Go.step (T' := T745) (f' := (mkF m 27 #[.val (.ref ba), .val (.ref bm)] [(.ref ba)])) st745 ?_
  clear st745 X732
  refine Go.step (T' := T745) (f' := (mkF m 28 #[.val (.ref ba), .val (.ref bm)] [])) (fun t k => XS.pop X745.here hx rfl (hb hby d11_27) rfl rfl k) ?_
  refine Go.step (T' := T745) (f' := (mkF m 29 #[.val (.ref ba), .val (.ref bm)] [(.ref ba)])) (fun t k => XS.aloadN X745.here hx rfl (hb hby d11_28) rfl rfl k) ?_
  refine Go.step (T' := T745) (f' := (mkF m 30 #[.val (.ref ba), .val (.ref bm)] [(.ref bm), (.ref ba)])) (fun t k => XS.aloadN X745.here hx rfl (hb hby d11_29) rfl rfl k) ?_
  obtain ⟨T752, h752, X752, e752, W752, st752⟩ := putF X745 hx hZ hown (host := "") (Or.inl (hw _ (List.mem_of_getElem? (i := 93) rfl))) Via.refl rfl f747 f746 (Or.inl (hw _ (List.mem_of_getElem? (i := 89) rfl))) (hw _ (List.mem_of_getElem? (i := 35) rfl)) (ty := (.object "java/lang/String")) (by decide) rfl rfl (g := (mkF m 30 #[.val (.ref ba), .val (.ref bm)] [(.ref bm), (.ref ba)])) rfl rfl (hb hby d11_30)
  have f753 := f747.same W752
  have f754 := f746.wr W752
  have f755 := f748.other W752 (Or.inr (slot_ne (Or.inr (hw _ (List.mem_of_getElem? (i := 95) rfl))) (Or.inl (hw _ (List.mem_of_getElem? (i := 89) rfl))) (by decide) (t := .int) (t' := (.object "java/lang/String")) (by decide) (by decide)))
  have f756 := f749.other W752 (Or.inr (slot_ne (Or.inr (hw _ (List.mem_of_getElem? (i := 97) rfl))) (Or.inl (hw _ (List.mem_of_getElem? (i := 89) rfl))) (by decide) (t := (.object "java/lang/String")) (t' := (.object "java/lang/String")) (by decide) (by decide)))
  have O757 := O751.wr W752 P8
  have K758 := hh745.wr W752 (Or.inl (List.mem_of_getElem? (i := 0) rfl))
  have N759 := Fr.snoc X752 N750 P8
  refine Go.step (T' := T752) (f' := (mkF m 33 #[.val (.ref ba), .val (.ref bm)] [])) st752 ?_
  clear st752 X745 f746 f748 f749 O751 hh745 N750
  refine Go.retV X752 hx hlk Bd.returns (hb hby d11_33) e752 ?_ (by decide) (by decide)
  exact ⟨rfl, N759, K758, f754, f753, f755, f756⟩
theorem ef_excR (m : MethodId) (ba : Addr) (bm : Addr) : entryFrame m #[(.ref ba), (.ref bm)] 2 = mkF m 0 #[.val (.ref ba), .val (.ref bm)] [] := by first | (simp [entryFrame, mkF, argsToLocals, Value.category]; done) | rfl
def Q_excR (Z : State) (ba : Addr) (bm : Addr) (u0 : Value) (u1 : Value) (bu : Addr) (bz : Addr) (h0 : Heap) (n0 : Nat) (v : Option Value) (h : Heap) (L : List Loc) : Prop := v = none ∧ Fr n0 L ∧ Keep h0 h [ba] ∧ Exa Z h ba "com/example/ferryline/ferryline/server/ApiError" ∧ Fld Z h ba "java/lang/Throwable" "detailMessage" "Ljava/lang/String;" (.ref bm) ∧ Fld Z h ba "com/example/ferryline/ferryline/server/ApiError" "status" "I" u0 ∧ Fld Z h ba "com/example/ferryline/ferryline/server/ApiError" "code" "Ljava/lang/String;" u1
set_option maxRecDepth 65536 in
set_option maxHeartbeats 40000000 in
theorem rm_excR (l : Launch) (Z : State) (a0 : Array Value) (hw : ∀ d ∈ tables_1, d.before a0 Z = true) (ws : List Jvm.Cond) (ba : Addr) (bm : Addr) (u0 : Value) (u1 : Value) (bu : Addr) (bz : Addr) (h0 : Heap) (n0 : Nat) (O0 : Old Z n0 h0) (P0 : Exa Z h0 ba "com/example/ferryline/ferryline/server/ApiError") (P1 : Fld Z h0 ba "java/lang/Throwable" "cause" "Ljava/lang/Throwable;" .null) (P2 : Fld Z h0 ba "java/lang/Throwable" "stackTrace" "[Ljava/lang/StackTraceElement;" .null) (P3 : Fld Z h0 ba "java/lang/Throwable" "suppressedExceptions" "Ljava/util/List;" .null) (P4 : Fld Z h0 ba "java/lang/Throwable" "backtrace" "Ljava/lang/Object;" .null) (P5 : Fld Z h0 ba "java/lang/Throwable" "detailMessage" "Ljava/lang/String;" .null) (P6 : Fld Z h0 ba "com/example/ferryline/ferryline/server/ApiError" "status" "I" u0) (P7 : Fld Z h0 ba "com/example/ferryline/ferryline/server/ApiError" "code" "Ljava/lang/String;" u1) (P8 : n0 ≤ ba) (P9 : Unt h0 ba) (P10 : Sta Z Z.heap "java/lang/Throwable" "UNASSIGNED_STACK" "[Ljava/lang/StackTraceElement;" (.ref bu)) (P11 : Sta Z Z.heap "java/lang/Throwable" "SUPPRESSED_SENTINEL" "Ljava/util/List;" (.ref bz)) (htr : l.stackTraces = true) :
    MetFree l (⟨"java/lang/Exception", "<init>", "(Ljava/lang/String;)V"⟩ : MethodName) (head1 (Jvm.Cond.code (⟨"java/lang/Exception", "<init>", "(Ljava/lang/String;)V"⟩ : MethodName) jdk_59_method_2_code 2 none :: ws) ({ frames := 4, cells := 1, slots := 2752, locals := 55 } : Room)) (fun a U => a = #[(.ref ba), (.ref bm)] ∧ Z.Warmed39 U.vm ∧ U.heap = h0) (fun _ _ bl s _ => s.vm.MethodsKnown ∧ s.vm.FramesKnown bl) (fun _ U o U' => ∃ v L, o = .returned v ∧ Q_excR Z ba bm u0 u1 bu bz h0 n0 v U'.heap L ∧ FrameEnd U o U' L ({ frames := 4, cells := 1, slots := 2752, locals := 55 } : Room).cells ({ frames := 4, cells := 1, slots := 2752, locals := 55 } : Room).slots) := by
  refine MetFree.of_bodySF (plainFor_of_name pn_java_lang_Exception) hisR ?_
  intro p e s m args below meth c s₁ Bd hml0 hP hK
  obtain ⟨rfl, hZ, hh⟩ := hP
  have hx := Bd.exec
  have hby := Bd.bytes
  have hml : c.maxLocals = 2 := hml0
  have hown : s.vm.findClass "java/lang/Exception" = some m.cls := findClass_of_methodNamed Bd.named
  have hnm := (name_of_methodNamed Bd.named Bd.method).1
  have hlk : meth.locks = false := BodyLoose.notSynchronized Bd
  have X0 : Stand p l e ({ frames := 4, cells := 1, slots := 2752, locals := 55 } : Room) s m #[(.ref ba), (.ref bm)] below meth c s₁ [] 0 0 := Stand.of_body Bd
  have e0 : s₁.heap = h0 := by rw [← hh, Bd.state]; rfl
  have N0 := Fr.nil n0
  have K0 := Keep.refl h0 [ba]
  rw [ef_excR m ba bm]
  show Go p e below s (fun v h L => Q_excR Z ba bm u0 u1 bu bz h0 n0 v h L) ({ frames := 4, cells := 1, slots := 2752, locals := 55 } : Room).cells ({ frames := 4, cells := 1, slots := 2752, locals := 55 } : Room).slots s₁ (mkF m 0 #[.val (.ref ba), .val (.ref bm)] [])
  refine Go.step (T' := s₁) (f' := (mkF m 1 #[.val (.ref ba), .val (.ref bm)] [(.ref ba)])) (fun t k => XS.aloadN X0.here hx rfl (hb hby d10_0) rfl rfl k) ?_
  refine Go.step (T' := s₁) (f' := (mkF m 2 #[.val (.ref ba), .val (.ref bm)] [(.ref bm), (.ref ba)])) (fun t k => XS.aloadN X0.here hx rfl (hb hby d10_1) rfl rfl k) ?_
  obtain ⟨_, _, ⟨T760, L760, k760, n760⟩, -, X760, ⟨Lc760, hQ760, l760, y760, z760⟩, st760⟩ := X0.specialBack hx (y := (⟨"java/lang/Throwable", "<init>", "(Ljava/lang/String;)V"⟩ : MethodName)) rfl hown (mvT hZ (hw _ (List.mem_of_getElem? (i := 51) rfl))) (mvT hZ (hw _ (List.mem_of_getElem? (i := 52) rfl))) (mvT hZ (hw _ (List.mem_of_getElem? (i := 56) rfl))) (by decide) (backOfKL (W := 0) (rm_thrR l Z a0 hw [] ba bm u0 u1 bu bz h0 n0 O0 P0 P1 P2 P3 P4 P5 P6 P7 P8 P9 P10 P11 htr) hZ (hw _ (List.mem_of_getElem? (i := 56) rfl)) (hw _ (List.mem_of_getElem? (i := 55) rfl)) (by decide) (by decide) hK.1 hK.2) (g := (mkF m 2 #[.val (.ref ba), .val (.ref bm)] [(.ref bm), (.ref ba)])) rfl (by rw [hml]; rfl) (Steps.refl _) (a := ba) (argsL := [(.ref bm)]) (rest := []) (lenOf pd6 rfl) rfl (by show 2 * 0 + _ ≤ _; exact Nat.le_of_eq rfl) (hb hby d10_2) (fun _ _ => ⟨rfl, e0, (by decide : 0 + 1 ≤ _), (by decide : 0 + 2752 ≤ _)⟩)
  dsimp only [Pt.U, Pt.locs, Pt.cells, Pt.slots] at X760 l760 y760 z760 st760 hQ760
  subst l760 y760 z760
  obtain ⟨rfl, Nq760, hh760, p761, p762, p763, p764⟩ := hQ760
  have N765 := Fr.app N0 Nq760
  have f766 := P0.keep hh760
  have O767 := O0.keep hh760 (allS P8 all0)
  have K768 := K0.trans hh760 (allS (Or.inl (List.mem_of_getElem? (i := 0) rfl)) all0)
  refine Go.via (T' := T760) (f' := (mkF m 5 #[.val (.ref ba), .val (.ref bm)] [])) st760 ?_
  clear st760 X0 Nq760
  refine Go.retV X760 hx hlk Bd.returns (hb hby d10_5) rfl ?_ (by decide) (by decide)
  exact ⟨rfl, N765, K768, p761, p762, p763, p764⟩
theorem ef_rteR (m : MethodId) (ba : Addr) (bm : Addr) : entryFrame m #[(.ref ba), (.ref bm)] 2 = mkF m 0 #[.val (.ref ba), .val (.ref bm)] [] := by first | (simp [entryFrame, mkF, argsToLocals, Value.category]; done) | rfl
def Q_rteR (Z : State) (ba : Addr) (bm : Addr) (u0 : Value) (u1 : Value) (bu : Addr) (bz : Addr) (h0 : Heap) (n0 : Nat) (v : Option Value) (h : Heap) (L : List Loc) : Prop := v = none ∧ Fr n0 L ∧ Keep h0 h [ba] ∧ Exa Z h ba "com/example/ferryline/ferryline/server/ApiError" ∧ Fld Z h ba "java/lang/Throwable" "detailMessage" "Ljava/lang/String;" (.ref bm) ∧ Fld Z h ba "com/example/ferryline/ferryline/server/ApiError" "status" "I" u0 ∧ Fld Z h ba "com/example/ferryline/ferryline/server/ApiError" "code" "Ljava/lang/String;" u1
set_option maxRecDepth 65536 in
set_option maxHeartbeats 40000000 in
theorem rm_rteR (l : Launch) (Z : State) (a0 : Array Value) (hw : ∀ d ∈ tables_1, d.before a0 Z = true) (ws : List Jvm.Cond) (ba : Addr) (bm : Addr) (u0 : Value) (u1 : Value) (bu : Addr) (bz : Addr) (h0 : Heap) (n0 : Nat) (O0 : Old Z n0 h0) (P0 : Exa Z h0 ba "com/example/ferryline/ferryline/server/ApiError") (P1 : Fld Z h0 ba "java/lang/Throwable" "cause" "Ljava/lang/Throwable;" .null) (P2 : Fld Z h0 ba "java/lang/Throwable" "stackTrace" "[Ljava/lang/StackTraceElement;" .null) (P3 : Fld Z h0 ba "java/lang/Throwable" "suppressedExceptions" "Ljava/util/List;" .null) (P4 : Fld Z h0 ba "java/lang/Throwable" "backtrace" "Ljava/lang/Object;" .null) (P5 : Fld Z h0 ba "java/lang/Throwable" "detailMessage" "Ljava/lang/String;" .null) (P6 : Fld Z h0 ba "com/example/ferryline/ferryline/server/ApiError" "status" "I" u0) (P7 : Fld Z h0 ba "com/example/ferryline/ferryline/server/ApiError" "code" "Ljava/lang/String;" u1) (P8 : n0 ≤ ba) (P9 : Unt h0 ba) (P10 : Sta Z Z.heap "java/lang/Throwable" "UNASSIGNED_STACK" "[Ljava/lang/StackTraceElement;" (.ref bu)) (P11 : Sta Z Z.heap "java/lang/Throwable" "SUPPRESSED_SENTINEL" "Ljava/util/List;" (.ref bz)) (htr : l.stackTraces = true) :
    MetFree l (⟨"java/lang/RuntimeException", "<init>", "(Ljava/lang/String;)V"⟩ : MethodName) (head1 (Jvm.Cond.code (⟨"java/lang/RuntimeException", "<init>", "(Ljava/lang/String;)V"⟩ : MethodName) jdk_58_method_2_code 2 none :: ws) ({ frames := 5, cells := 1, slots := 2752, locals := 68 } : Room)) (fun a U => a = #[(.ref ba), (.ref bm)] ∧ Z.Warmed39 U.vm ∧ U.heap = h0) (fun _ _ bl s _ => s.vm.MethodsKnown ∧ s.vm.FramesKnown bl) (fun _ U o U' => ∃ v L, o = .returned v ∧ Q_rteR Z ba bm u0 u1 bu bz h0 n0 v U'.heap L ∧ FrameEnd U o U' L ({ frames := 5, cells := 1, slots := 2752, locals := 68 } : Room).cells ({ frames := 5, cells := 1, slots := 2752, locals := 68 } : Room).slots) := by
  refine MetFree.of_bodySF (plainFor_of_name pn_java_lang_RuntimeException) hisR ?_
  intro p e s m args below meth c s₁ Bd hml0 hP hK
  obtain ⟨rfl, hZ, hh⟩ := hP
  have hx := Bd.exec
  have hby := Bd.bytes
  have hml : c.maxLocals = 2 := hml0
  have hown : s.vm.findClass "java/lang/RuntimeException" = some m.cls := findClass_of_methodNamed Bd.named
  have hnm := (name_of_methodNamed Bd.named Bd.method).1
  have hlk : meth.locks = false := BodyLoose.notSynchronized Bd
  have X0 : Stand p l e ({ frames := 5, cells := 1, slots := 2752, locals := 68 } : Room) s m #[(.ref ba), (.ref bm)] below meth c s₁ [] 0 0 := Stand.of_body Bd
  have e0 : s₁.heap = h0 := by rw [← hh, Bd.state]; rfl
  have N0 := Fr.nil n0
  have K0 := Keep.refl h0 [ba]
  rw [ef_rteR m ba bm]
  show Go p e below s (fun v h L => Q_rteR Z ba bm u0 u1 bu bz h0 n0 v h L) ({ frames := 5, cells := 1, slots := 2752, locals := 68 } : Room).cells ({ frames := 5, cells := 1, slots := 2752, locals := 68 } : Room).slots s₁ (mkF m 0 #[.val (.ref ba), .val (.ref bm)] [])
  refine Go.step (T' := s₁) (f' := (mkF m 1 #[.val (.ref ba), .val (.ref bm)] [(.ref ba)])) (fun t k => XS.aloadN X0.here hx rfl (hb hby d9_0) rfl rfl k) ?_
  refine Go.step (T' := s₁) (f' := (mkF m 2 #[.val (.ref ba), .val (.ref bm)] [(.ref bm), (.ref ba)])) (fun t k => XS.aloadN X0.here hx rfl (hb hby d9_1) rfl rfl k) ?_
  obtain ⟨_, _, ⟨T769, L769, k769, n769⟩, -, X769, ⟨Lc769, hQ769, l769, y769, z769⟩, st769⟩ := X0.specialBack hx (y := (⟨"java/lang/Exception", "<init>", "(Ljava/lang/String;)V"⟩ : MethodName)) rfl hown (mvT hZ (hw _ (List.mem_of_getElem? (i := 45) rfl))) (mvT hZ (hw _ (List.mem_of_getElem? (i := 46) rfl))) (mvT hZ (hw _ (List.mem_of_getElem? (i := 50) rfl))) (by decide) (backOfKL (W := 0) (rm_excR l Z a0 hw [] ba bm u0 u1 bu bz h0 n0 O0 P0 P1 P2 P3 P4 P5 P6 P7 P8 P9 P10 P11 htr) hZ (hw _ (List.mem_of_getElem? (i := 50) rfl)) (hw _ (List.mem_of_getElem? (i := 49) rfl)) (by decide) (by decide) hK.1 hK.2) (g := (mkF m 2 #[.val (.ref ba), .val (.ref bm)] [(.ref bm), (.ref ba)])) rfl (by rw [hml]; rfl) (Steps.refl _) (a := ba) (argsL := [(.ref bm)]) (rest := []) (lenOf pd6 rfl) rfl (by show 2 * 0 + _ ≤ _; exact Nat.le_of_eq rfl) (hb hby d9_2) (fun _ _ => ⟨rfl, e0, (by decide : 0 + 1 ≤ _), (by decide : 0 + 2752 ≤ _)⟩)
  dsimp only [Pt.U, Pt.locs, Pt.cells, Pt.slots] at X769 l769 y769 z769 st769 hQ769
  subst l769 y769 z769
  obtain ⟨rfl, Nq769, hh769, p770, p771, p772, p773⟩ := hQ769
  have N774 := Fr.app N0 Nq769
  have f775 := P0.keep hh769
  have O776 := O0.keep hh769 (allS P8 all0)
  have K777 := K0.trans hh769 (allS (Or.inl (List.mem_of_getElem? (i := 0) rfl)) all0)
  refine Go.via (T' := T769) (f' := (mkF m 5 #[.val (.ref ba), .val (.ref bm)] [])) st769 ?_
  clear st769 X0 Nq769
  refine Go.retV X769 hx hlk Bd.returns (hb hby d9_5) rfl ?_ (by decide) (by decide)
  exact ⟨rfl, N774, K777, p770, p771, p772, p773⟩
theorem d8_0 : decode prog_47_method_1_code 0 = .ok (.aload_n 0, 1) := by decide +kernel
theorem d8_1 : decode prog_47_method_1_code 1 = .ok (.aload_n 3, 1) := by decide +kernel
theorem d8_2 : decode prog_47_method_1_code 2 = .ok (.invokespecial 1, 3) := by decide +kernel
theorem d8_5 : decode prog_47_method_1_code 5 = .ok (.aload_n 0, 1) := by decide +kernel
theorem d8_6 : decode prog_47_method_1_code 6 = .ok (.iload_n 1, 1) := by decide +kernel
theorem d8_7 : decode prog_47_method_1_code 7 = .ok (.putfield 7, 3) := by decide +kernel
theorem d8_10 : decode prog_47_method_1_code 10 = .ok (.aload_n 0, 1) := by decide +kernel
theorem d8_11 : decode prog_47_method_1_code 11 = .ok (.aload_n 2, 1) := by decide +kernel
theorem d8_12 : decode prog_47_method_1_code 12 = .ok (.putfield 13, 3) := by decide +kernel
theorem d8_15 : decode prog_47_method_1_code 15 = .ok (.return_, 1) := by decide +kernel
theorem ef_aeiNN (m : MethodId) (ba : Addr) (ia : Int32) : entryFrame m #[(.ref ba), (.int ia), .null, .null] 4 = mkF m 0 #[.val (.ref ba), .val (.int ia), .val .null, .val .null] [] := by first | (simp [entryFrame, mkF, argsToLocals, Value.category]; done) | rfl
def Q_aeiNN (Z : State) (ba : Addr) (ia : Int32) (u0 : Value) (u1 : Value) (bu : Addr) (bz : Addr) (h0 : Heap) (n0 : Nat) (v : Option Value) (h : Heap) (L : List Loc) : Prop := v = none ∧ Fr n0 L ∧ Keep h0 h [ba] ∧ Exa Z h ba "com/example/ferryline/ferryline/server/ApiError" ∧ Fld Z h ba "com/example/ferryline/ferryline/server/ApiError" "status" "I" (.int ia) ∧ Fld Z h ba "com/example/ferryline/ferryline/server/ApiError" "code" "Ljava/lang/String;" .null ∧ Fld Z h ba "java/lang/Throwable" "detailMessage" "Ljava/lang/String;" .null
set_option maxRecDepth 65536 in
set_option maxHeartbeats 40000000 in
theorem rm_aeiNN (l : Launch) (Z : State) (a0 : Array Value) (hw : ∀ d ∈ tables_1, d.before a0 Z = true) (ws : List Jvm.Cond) (ba : Addr) (ia : Int32) (u0 : Value) (u1 : Value) (bu : Addr) (bz : Addr) (h0 : Heap) (n0 : Nat) (O0 : Old Z n0 h0) (P0 : Exa Z h0 ba "com/example/ferryline/ferryline/server/ApiError") (P1 : Fld Z h0 ba "java/lang/Throwable" "cause" "Ljava/lang/Throwable;" .null) (P2 : Fld Z h0 ba "java/lang/Throwable" "stackTrace" "[Ljava/lang/StackTraceElement;" .null) (P3 : Fld Z h0 ba "java/lang/Throwable" "suppressedExceptions" "Ljava/util/List;" .null) (P4 : Fld Z h0 ba "java/lang/Throwable" "backtrace" "Ljava/lang/Object;" .null) (P5 : Fld Z h0 ba "java/lang/Throwable" "detailMessage" "Ljava/lang/String;" .null) (P6 : Fld Z h0 ba "com/example/ferryline/ferryline/server/ApiError" "status" "I" u0) (P7 : Fld Z h0 ba "com/example/ferryline/ferryline/server/ApiError" "code" "Ljava/lang/String;" u1) (P8 : n0 ≤ ba) (P9 : Unt h0 ba) (P10 : Sta Z Z.heap "java/lang/Throwable" "UNASSIGNED_STACK" "[Ljava/lang/StackTraceElement;" (.ref bu)) (P11 : Sta Z Z.heap "java/lang/Throwable" "SUPPRESSED_SENTINEL" "Ljava/util/List;" (.ref bz)) (htr : l.stackTraces = true) :
    MetFree l (⟨"com/example/ferryline/ferryline/server/ApiError", "<init>", "(ILjava/lang/String;Ljava/lang/String;)V"⟩ : MethodName) (head1 (Jvm.Cond.code (⟨"com/example/ferryline/ferryline/server/ApiError", "<init>", "(ILjava/lang/String;Ljava/lang/String;)V"⟩ : MethodName) prog_47_method_1_code 4 none :: ws) ({ frames := 6, cells := 1, slots := 2752, locals := 81 } : Room)) (fun a U => a = #[(.ref ba), (.int ia), .null, .null] ∧ Z.Warmed39 U.vm ∧ U.heap = h0) (fun _ _ bl s _ => s.vm.MethodsKnown ∧ s.vm.FramesKnown bl) (fun _ U o U' => ∃ v L, o = .returned v ∧ Q_aeiNN Z ba ia u0 u1 bu bz h0 n0 v U'.heap L ∧ FrameEnd U o U' L ({ frames := 6, cells := 1, slots := 2752, locals := 81 } : Room).cells ({ frames := 6, cells := 1, slots := 2752, locals := 81 } : Room).slots) := by
  refine MetFree.of_bodySF (plainFor_of_name pn_com_example_ferryline_ferryline_server_ApiError) hisR ?_
  intro p e s m args below meth c s₁ Bd hml0 hP hK
  obtain ⟨rfl, hZ, hh⟩ := hP
  have hx := Bd.exec
  have hby := Bd.bytes
  have hml : c.maxLocals = 4 := hml0
  have hown : s.vm.findClass "com/example/ferryline/ferryline/server/ApiError" = some m.cls := findClass_of_methodNamed Bd.named
  have hnm := (name_of_methodNamed Bd.named Bd.method).1
  have hlk : meth.locks = false := BodyLoose.notSynchronized Bd
  have X0 : Stand p l e ({ frames := 6, cells := 1, slots := 2752, locals := 81 } : Room) s m #[(.ref ba), (.int ia), .null, .null] below meth c s₁ [] 0 0 := Stand.of_body Bd
  have e0 : s₁.heap = h0 := by rw [← hh, Bd.state]; rfl
  have N0 := Fr.nil n0
  have K0 := Keep.refl h0 [ba]
  rw [ef_aeiNN m ba ia]
  show Go p e below s (fun v h L => Q_aeiNN Z ba ia u0 u1 bu bz h0 n0 v h L) ({ frames := 6, cells := 1, slots := 2752, locals := 81 } : Room).cells ({ frames := 6, cells := 1, slots := 2752, locals := 81 } : Room).slots s₁ (mkF m 0 #[.val (.ref ba), .val (.int ia), .val .null, .val .null] [])
  refine Go.step (T' := s₁) (f' := (mkF m 1 #[.val (.ref ba), .val (.int ia), .val .null, .val .null] [(.ref ba)])) (fun t k => XS.aloadN X0.here hx rfl (hb hby d8_0) rfl rfl k) ?_
  refine Go.step (T' := s₁) (f' := (mkF m 2 #[.val (.ref ba), .val (.int ia), .val .null, .val .null] [.null, (.ref ba)])) (fun t k => XS.aloadN X0.here hx rfl (hb hby d8_1) rfl rfl k) ?_
  obtain ⟨_, _, ⟨T778, L778, k778, n778⟩, -, X778, ⟨Lc778, hQ778, l778, y778, z778⟩, st778⟩ := X0.specialBack hx (y := (⟨"java/lang/RuntimeException", "<init>", "(Ljava/lang/String;)V"⟩ : MethodName)) rfl hown (mvT hZ (hw _ (List.mem_of_getElem? (i := 40) rfl))) (mvT hZ (hw _ (List.mem_of_getElem? (i := 41) rfl))) (mvT hZ (hw _ (List.mem_of_getElem? (i := 44) rfl))) (by decide) (backOfKL (W := 0) (rm_rteN l Z a0 hw [] ba u0 u1 bu bz h0 n0 O0 P0 P1 P2 P3 P4 P5 P6 P7 P8 P9 P10 P11 htr) hZ (hw _ (List.mem_of_getElem? (i := 44) rfl)) (hw _ (List.mem_of_getElem? (i := 43) rfl)) (by decide) (by decide) hK.1 hK.2) (g := (mkF m 2 #[.val (.ref ba), .val (.int ia), .val .null, .val .null] [.null, (.ref ba)])) rfl (by rw [hml]; rfl) (Steps.refl _) (a := ba) (argsL := [.null]) (rest := []) (lenOf pd6 rfl) rfl (by show 2 * 0 + _ ≤ _; exact Nat.le_of_eq rfl) (hb hby d8_2) (fun _ _ => ⟨rfl, e0, (by decide : 0 + 1 ≤ _), (by decide : 0 + 2752 ≤ _)⟩)
  dsimp only [Pt.U, Pt.locs, Pt.cells, Pt.slots] at X778 l778 y778 z778 st778 hQ778
  subst l778 y778 z778
  obtain ⟨rfl, Nq778, hh778, p779, p780, p781, p782⟩ := hQ778
  have N783 := Fr.app N0 Nq778
  have f784 := P0.keep hh778
  have O785 := O0.keep hh778 (allS P8 all0)
  have K786 := K0.trans hh778 (allS (Or.inl (List.mem_of_getElem? (i := 0) rfl)) all0)
  refine Go.via (T' := T778) (f' := (mkF m 5 #[.val (.ref ba), .val (.int ia), .val .null, .val .null] [])) st778 ?_
  clear st778 X0 Nq778
  refine Go.step (T' := T778) (f' := (mkF m 6 #[.val (.ref ba), .val (.int ia), .val .null, .val .null] [(.ref ba)])) (fun t k => XS.aloadN X778.here hx rfl (hb hby d8_5) rfl rfl k) ?_
  refine Go.step (T' := T778) (f' := (mkF m 7 #[.val (.ref ba), .val (.int ia), .val .null, .val .null] [(.int ia), (.ref ba)])) (fun t k => XS.iloadN X778.here hx rfl (hb hby d8_6) rfl k) ?_
  obtain ⟨T787, h787, X787, e787, W787, st787⟩ := putF X778 hx hZ hown (host := "") (Or.inl (hw _ (List.mem_of_getElem? (i := 94) rfl))) Via.refl rfl p781 p779 (Or.inr ⟨(hw _ (List.mem_of_getElem? (i := 95) rfl)), rfl, hnm⟩) (hw _ (List.mem_of_getElem? (i := 35) rfl)) (ty := .int) (by decide) rfl rfl (g := (mkF m 7 #[.val (.ref ba), .val (.int ia), .val .null, .val .null] [(.int ia), (.ref ba)])) rfl rfl (hb hby d8_7)
  have f788 := p781.same W787
  have f789 := p779.wr W787
  have f790 := p780.other W787 (Or.inr (slot_ne (Or.inl (hw _ (List.mem_of_getElem? (i := 89) rfl))) (Or.inr (hw _ (List.mem_of_getElem? (i := 95) rfl))) (by decide) (t := (.object "java/lang/String")) (t' := .int) (by decide) (by decide)))
  have f791 := p782.other W787 (Or.inr (slot_ne (Or.inr (hw _ (List.mem_of_getElem? (i := 97) rfl))) (Or.inr (hw _ (List.mem_of_getElem? (i := 95) rfl))) (by decide) (t := (.object "java/lang/String")) (t' := .int) (by decide) (by decide)))
  have O792 := O785.wr W787 P8
  have K793 := K786.wr W787 (Or.inl (List.mem_of_getElem? (i := 0) rfl))
  have N794 := Fr.snoc X787 N783 P8
  refine Go.step (T' := T787) (f' := (mkF m 10 #[.val (.ref ba), .val (.int ia), .val .null, .val .null] [])) st787 ?_
  clear st787 X778 p779 p780 p782 O785 K786 N783
  refine Go.step (T' := T787) (f' := (mkF m 11 #[.val (.ref ba), .val (.int ia), .val .null, .val .null] [(.ref ba)])) (fun t k => XS.aloadN X787.here hx rfl (hb hby d8_10) rfl rfl k) ?_
  refine Go.step (T' := T787) (f' := (mkF m 12 #[.val (.ref ba), .val (.int ia), .val .null, .val .null] [.null, (.ref ba)])) (fun t k => XS.aloadN X787.here hx rfl (hb hby d8_11) rfl rfl k) ?_
  obtain ⟨T795, h795, X795, e795, W795, st795⟩ := putF X787 hx hZ hown (host := "") (Or.inl (hw _ (List.mem_of_getElem? (i := 96) rfl))) Via.refl e787 f791 f789 (Or.inr ⟨(hw _ (List.mem_of_getElem? (i := 97) rfl)), rfl, hnm⟩) (hw _ (List.mem_of_getElem? (i := 35) rfl)) (ty := (.object "java/lang/String")) (by decide) rfl rfl (g := (mkF m 12 #[.val (.ref ba), .val (.int ia), .val .null, .val .null] [.null, (.ref ba)])) rfl rfl (hb hby d8_12)
  have f796 := f791.same W795
  have f797 := f789.wr W795
  have f798 := f790.other W795 (Or.inr (slot_ne (Or.inl (hw _ (List.mem_of_getElem? (i := 89) rfl))) (Or.inr (hw _ (List.mem_of_getElem? (i := 97) rfl))) (by decide) (t := (.object "java/lang/String")) (t' := (.object "java/lang/String")) (by decide) (by decide)))
  have f799 := f788.other W795 (Or.inr (slot_ne (Or.inr (hw _ (List.mem_of_getElem? (i := 95) rfl))) (Or.inr (hw _ (List.mem_of_getElem? (i := 97) rfl))) (by decide) (t := .int) (t' := (.object "java/lang/String")) (by decide) (by decide)))
  have O800 := O792.wr W795 P8
  have K801 := K793.wr W795 (Or.inl (List.mem_of_getElem? (i := 0) rfl))
  have N802 := Fr.snoc X795 N794 P8
  refine Go.step (T' := T795) (f' := (mkF m 15 #[.val (.ref ba), .val (.int ia), .val .null, .val .null] [])) st795 ?_
  clear st795 X787 f789 f790 f788 O792 K793 N794
  refine Go.retV X795 hx hlk Bd.returns (hb hby d8_15) e795 ?_ (by decide) (by decide)
  exact ⟨rfl, N802, K801, f797, f799, f796, f798⟩
theorem d16_0 : decode prog_48_method_1_code 0 = .ok (.aload_n 0, 1) := by decide +kernel
theorem d16_1 : decode prog_48_method_1_code 1 = .ok (.invokespecial 1, 3) := by decide +kernel
theorem d16_4 : decode prog_48_method_1_code 4 = .ok (.aload_n 0, 1) := by decide +kernel
theorem d16_5 : decode prog_48_method_1_code 5 = .ok (.aload_n 1, 1) := by decide +kernel
theorem d16_6 : decode prog_48_method_1_code 6 = .ok (.putfield 7, 3) := by decide +kernel
theorem d16_9 : decode prog_48_method_1_code 9 = .ok (.aload_n 0, 1) := by decide +kernel
theorem d16_10 : decode prog_48_method_1_code 10 = .ok (.aload_n 2, 1) := by decide +kernel
theorem d16_11 : decode prog_48_method_1_code 11 = .ok (.putfield 13, 3) := by decide +kernel
theorem d16_14 : decode prog_48_method_1_code 14 = .ok (.return_, 1) := by decide +kernel
theorem pd7 : parseMethodDescriptor "()V" = some ⟨[], none⟩ := by decide +kernel
theorem ef_biniNN (m : MethodId) (ba : Addr) : entryFrame m #[(.ref ba), .null, .null] 3 = mkF m 0 #[.val (.ref ba), .val .null, .val .null] [] := by first | (simp [entryFrame, mkF, argsToLocals, Value.category]; done) | rfl
def Q_biniNN (Z : State) (ba : Addr) (u0 : Value) (u1 : Value) (h0 : Heap) (n0 : Nat) (v : Option Value) (h : Heap) (L : List Loc) : Prop := v = none ∧ Fr n0 L ∧ Keep h0 h [ba] ∧ Exa Z h ba "com/example/ferryline/ferryline/server/ApiError$Body" ∧ Fld Z h ba "com/example/ferryline/ferryline/server/ApiError$Body" "error" "Ljava/lang/String;" .null ∧ Fld Z h ba "com/example/ferryline/ferryline/server/ApiError$Body" "message" "Ljava/lang/String;" .null
set_option maxRecDepth 65536 in
set_option maxHeartbeats 40000000 in
theorem rm_biniNN (l : Launch) (Z : State) (a0 : Array Value) (hw : ∀ d ∈ tables_1, d.before a0 Z = true) (ws : List Jvm.Cond) (ba : Addr) (u0 : Value) (u1 : Value) (h0 : Heap) (n0 : Nat) (O0 : Old Z n0 h0) (P0 : Exa Z h0 ba "com/example/ferryline/ferryline/server/ApiError$Body") (P1 : Fld Z h0 ba "com/example/ferryline/ferryline/server/ApiError$Body" "error" "Ljava/lang/String;" u0) (P2 : Fld Z h0 ba "com/example/ferryline/ferryline/server/ApiError$Body" "message" "Ljava/lang/String;" u1) (P3 : n0 ≤ ba) :
    MetFree l (⟨"com/example/ferryline/ferryline/server/ApiError$Body", "<init>", "(Ljava/lang/String;Ljava/lang/String;)V"⟩ : MethodName) (head1 (Jvm.Cond.code (⟨"com/example/ferryline/ferryline/server/ApiError$Body", "<init>", "(Ljava/lang/String;Ljava/lang/String;)V"⟩ : MethodName) prog_48_method_1_code 3 none :: ws) ({ frames := 2, cells := 0, slots := 0, locals := 24 } : Room)) (fun a U => a = #[(.ref ba), .null, .null] ∧ Z.Warmed39 U.vm ∧ U.heap = h0) (fun _ _ _ _ _ => True) (fun _ U o U' => ∃ v L, o = .returned v ∧ Q_biniNN Z ba u0 u1 h0 n0 v U'.heap L ∧ FrameEnd U o U' L ({ frames := 2, cells := 0, slots := 0, locals := 24 } : Room).cells ({ frames := 2, cells := 0, slots := 0, locals := 24 } : Room).slots) := by
  refine MetFree.of_bodySF (plainFor_of_name pn_com_example_ferryline_ferryline_server_ApiError_Body) hisR ?_
  intro p e s m args below meth c s₁ Bd hml0 hP hK
  obtain ⟨rfl, hZ, hh⟩ := hP
  have hx := Bd.exec
  have hby := Bd.bytes
  have hml : c.maxLocals = 3 := hml0
  have hown : s.vm.findClass "com/example/ferryline/ferryline/server/ApiError$Body" = some m.cls := findClass_of_methodNamed Bd.named
  have hnm := (name_of_methodNamed Bd.named Bd.method).1
  have hlk : meth.locks = false := BodyLoose.notSynchronized Bd
  have X0 : Stand p l e ({ frames := 2, cells := 0, slots := 0, locals := 24 } : Room) s m #[(.ref ba), .null, .null] below meth c s₁ [] 0 0 := Stand.of_body Bd
  have e0 : s₁.heap = h0 := by rw [← hh, Bd.state]; rfl
  have N0 := Fr.nil n0
  have K0 := Keep.refl h0 [ba]
  rw [ef_biniNN m ba]
  show Go p e below s (fun v h L => Q_biniNN Z ba u0 u1 h0 n0 v h L) ({ frames := 2, cells := 0, slots := 0, locals := 24 } : Room).cells ({ frames := 2, cells := 0, slots := 0, locals := 24 } : Room).slots s₁ (mkF m 0 #[.val (.ref ba), .val .null, .val .null] [])
  refine Go.step (T' := s₁) (f' := (mkF m 1 #[.val (.ref ba), .val .null, .val .null] [(.ref ba)])) (fun t k => XS.aloadN X0.here hx rfl (hb hby d16_0) rfl rfl k) ?_
  obtain ⟨_, _, ⟨T803, L803, k803, n803⟩, -, X803, ⟨Lc803, hQ803, l803, y803, z803⟩, st803⟩ := X0.specialBack hx (y := (⟨"java/lang/Record", "<init>", "()V"⟩ : MethodName)) rfl hown (mvT hZ (hw _ (List.mem_of_getElem? (i := 115) rfl))) (mvT hZ (hw _ (List.mem_of_getElem? (i := 116) rfl))) (mvT hZ (hw _ (List.mem_of_getElem? (i := 119) rfl))) (by decide) (backOf (W := 0) (rm_rec l Z a0 hw [] ba h0 n0 O0 ) hZ (hw _ (List.mem_of_getElem? (i := 119) rfl)) (hw _ (List.mem_of_getElem? (i := 118) rfl)) (by decide) (by decide)) (g := (mkF m 1 #[.val (.ref ba), .val .null, .val .null] [(.ref ba)])) rfl (by rw [hml]; rfl) (Steps.refl _) (a := ba) (argsL := []) (rest := []) (lenOf pd7 rfl) rfl (by show 2 * 0 + _ ≤ _; exact Nat.le_of_eq rfl) (hb hby d16_1) (fun _ _ => ⟨rfl, e0, (by decide : 0 + 0 ≤ _), (by decide : 0 + 0 ≤ _)⟩)
  dsimp only [Pt.U, Pt.locs, Pt.cells, Pt.slots] at X803 l803 y803 z803 st803 hQ803
  subst l803 y803 z803
  obtain ⟨rfl, Nq803, hh803⟩ := hQ803
  have N804 := Fr.app N0 Nq803
  refine Go.via (T' := T803) (f' := (mkF m 4 #[.val (.ref ba), .val .null, .val .null] [])) st803 ?_
  clear st803 X0 Nq803
  refine Go.step (T' := T803) (f' := (mkF m 5 #[.val (.ref ba), .val .null, .val .null] [(.ref ba)])) (fun t k => XS.aloadN X803.here hx rfl (hb hby d16_4) rfl rfl k) ?_
  refine Go.step (T' := T803) (f' := (mkF m 6 #[.val (.ref ba), .val .null, .val .null] [.null, (.ref ba)])) (fun t k => XS.aloadN X803.here hx rfl (hb hby d16_5) rfl rfl k) ?_
  obtain ⟨T805, h805, X805, e805, W805, st805⟩ := putF X803 hx hZ hown (host := "") (Or.inl (hw _ (List.mem_of_getElem? (i := 121) rfl))) Via.refl hh803 P1 P0 (Or.inr ⟨(hw _ (List.mem_of_getElem? (i := 122) rfl)), rfl, hnm⟩) (hw _ (List.mem_of_getElem? (i := 104) rfl)) (ty := (.object "java/lang/String")) (by decide) rfl rfl (g := (mkF m 6 #[.val (.ref ba), .val .null, .val .null] [.null, (.ref ba)])) rfl rfl (hb hby d16_6)
  have f806 := P1.same W805
  have f807 := P0.wr W805
  have f808 := P2.other W805 (Or.inr (slot_ne (Or.inr (hw _ (List.mem_of_getElem? (i := 124) rfl))) (Or.inr (hw _ (List.mem_of_getElem? (i := 122) rfl))) (by decide) (t := (.object "java/lang/String")) (t' := (.object "java/lang/String")) (by decide) (by decide)))
  have O809 := O0.wr W805 P3
  have K810 := K0.wr W805 (Or.inl (List.mem_of_getElem? (i := 0) rfl))
  have N811 := Fr.snoc X805 N804 P3
  refine Go.step (T' := T805) (f' := (mkF m 9 #[.val (.ref ba), .val .null, .val .null] [])) st805 ?_
  clear st805 X803 N804
  refine Go.step (T' := T805) (f' := (mkF m 10 #[.val (.ref ba), .val .null, .val .null] [(.ref ba)])) (fun t k => XS.aloadN X805.here hx rfl (hb hby d16_9) rfl rfl k) ?_
  refine Go.step (T' := T805) (f' := (mkF m 11 #[.val (.ref ba), .val .null, .val .null] [.null, (.ref ba)])) (fun t k => XS.aloadN X805.here hx rfl (hb hby d16_10) rfl rfl k) ?_
  obtain ⟨T812, h812, X812, e812, W812, st812⟩ := putF X805 hx hZ hown (host := "") (Or.inl (hw _ (List.mem_of_getElem? (i := 123) rfl))) Via.refl e805 f808 f807 (Or.inr ⟨(hw _ (List.mem_of_getElem? (i := 124) rfl)), rfl, hnm⟩) (hw _ (List.mem_of_getElem? (i := 104) rfl)) (ty := (.object "java/lang/String")) (by decide) rfl rfl (g := (mkF m 11 #[.val (.ref ba), .val .null, .val .null] [.null, (.ref ba)])) rfl rfl (hb hby d16_11)
  have f813 := f808.same W812
  have f814 := f807.wr W812
  have f815 := f806.other W812 (Or.inr (slot_ne (Or.inr (hw _ (List.mem_of_getElem? (i := 122) rfl))) (Or.inr (hw _ (List.mem_of_getElem? (i := 124) rfl))) (by decide) (t := (.object "java/lang/String")) (t' := (.object "java/lang/String")) (by decide) (by decide)))
  have O816 := O809.wr W812 P3
  have K817 := K810.wr W812 (Or.inl (List.mem_of_getElem? (i := 0) rfl))
  have N818 := Fr.snoc X812 N811 P3
  refine Go.step (T' := T812) (f' := (mkF m 14 #[.val (.ref ba), .val .null, .val .null] [])) st812 ?_
  clear st812 X805 f807 f806 O809 K810 N811
  refine Go.retV X812 hx hlk Bd.returns (hb hby d16_14) e812 ?_ (by decide) (by decide)
  exact ⟨rfl, N818, K817, f814, f815, f813⟩
theorem d14_0 : decode prog_47_method_3_code 0 = .ok (.new 17, 3) := by decide +kernel
theorem d14_3 : decode prog_47_method_3_code 3 = .ok (.dup, 1) := by decide +kernel
theorem d14_4 : decode prog_47_method_3_code 4 = .ok (.aload_n 0, 1) := by decide +kernel
theorem d14_5 : decode prog_47_method_3_code 5 = .ok (.getfield 13, 3) := by decide +kernel
theorem d14_8 : decode prog_47_method_3_code 8 = .ok (.aload_n 0, 1) := by decide +kernel
theorem d14_9 : decode prog_47_method_3_code 9 = .ok (.invokevirtual 19, 3) := by decide +kernel
theorem d14_12 : decode prog_47_method_3_code 12 = .ok (.invokespecial 23, 3) := by decide +kernel
theorem d14_15 : decode prog_47_method_3_code 15 = .ok (.areturn, 1) := by decide +kernel
theorem pd8 : parseMethodDescriptor "()Ljava/lang/String;" = some ⟨[], some (.object "java/lang/String")⟩ := by decide +kernel
theorem pd9 : parseMethodDescriptor "(Ljava/lang/String;Ljava/lang/String;)V" = some ⟨[(.object "java/lang/String"), (.object "java/lang/String")], none⟩ := by decide +kernel
theorem ef_bodyNN (m : MethodId) (ba : Addr) : entryFrame m #[(.ref ba)] 1 = mkF m 0 #[.val (.ref ba)] [] := by first | (simp [entryFrame, mkF, argsToLocals, Value.category]; done) | rfl
def Q_bodyNN (Z : State) (ba : Addr) (h0 : Heap) (n0 : Nat) (v : Option Value) (h : Heap) (L : List Loc) : Prop := ∃ bb : Addr, v = some (.ref bb) ∧ Fr n0 L ∧ Keep h0 h [] ∧ h0.size ≤ bb ∧ Exa Z h bb "com/example/ferryline/ferryline/server/ApiError$Body" ∧ Fld Z h bb "com/example/ferryline/ferryline/server/ApiError$Body" "error" "Ljava/lang/String;" .null ∧ Fld Z h bb "com/example/ferryline/ferryline/server/ApiError$Body" "message" "Ljava/lang/String;" .null
set_option maxRecDepth 65536 in
set_option maxHeartbeats 40000000 in
theorem rm_bodyNN (l : Launch) (Z : State) (a0 : Array Value) (hw : ∀ d ∈ tables_1, d.before a0 Z = true) (ws : List Jvm.Cond) (ba : Addr) (h0 : Heap) (n0 : Nat) (O0 : Old Z n0 h0) (P0 : Exa Z h0 ba "com/example/ferryline/ferryline/server/ApiError") (P1 : Fld Z h0 ba "com/example/ferryline/ferryline/server/ApiError" "code" "Ljava/lang/String;" .null) (P2 : Fld Z h0 ba "java/lang/Throwable" "detailMessage" "Ljava/lang/String;" .null) :
    MetFree l (⟨"com/example/ferryline/ferryline/server/ApiError", "body", "()Lcom/example/ferryline/ferryline/server/ApiError$Body;"⟩ : MethodName) (head1 (Jvm.Cond.code (⟨"com/example/ferryline/ferryline/server/ApiError", "body", "()Lcom/example/ferryline/ferryline/server/ApiError$Body;"⟩ : MethodName) prog_47_method_3_code 1 (some (.object "com/example/ferryline/ferryline/server/ApiError$Body")) :: ws) ({ frames := 3, cells := 1, slots := 2, locals := 39 } : Room)) (fun a U => a = #[(.ref ba)] ∧ Z.Warmed39 U.vm ∧ U.heap = h0) (fun _ _ _ _ _ => True) (fun _ U o U' => ∃ v L, o = .returned v ∧ Q_bodyNN Z ba h0 n0 v U'.heap L ∧ FrameEnd U o U' L ({ frames := 3, cells := 1, slots := 2, locals := 39 } : Room).cells ({ frames := 3, cells := 1, slots := 2, locals := 39 } : Room).slots) := by
  refine MetFree.of_bodySF (plainFor_of_name pn_com_example_ferryline_ferryline_server_ApiError) hisR ?_
  intro p e s m args below meth c s₁ Bd hml0 hP hK
  obtain ⟨rfl, hZ, hh⟩ := hP
  have hx := Bd.exec
  have hby := Bd.bytes
  have hml : c.maxLocals = 1 := hml0
  have hown : s.vm.findClass "com/example/ferryline/ferryline/server/ApiError" = some m.cls := findClass_of_methodNamed Bd.named
  have hnm := (name_of_methodNamed Bd.named Bd.method).1
  have hlk : meth.locks = false := BodyLoose.notSynchronized Bd
  have X0 : Stand p l e ({ frames := 3, cells := 1, slots := 2, locals := 39 } : Room) s m #[(.ref ba)] below meth c s₁ [] 0 0 := Stand.of_body Bd
  have e0 : s₁.heap = h0 := by rw [← hh, Bd.state]; rfl
  have N0 := Fr.nil n0
  have K0 := Keep.refl h0 []
  rw [ef_bodyNN m ba]
  show Go p e below s (fun v h L => Q_bodyNN Z ba h0 n0 v h L) ({ frames := 3, cells := 1, slots := 2, locals := 39 } : Room).cells ({ frames := 3, cells := 1, slots := 2, locals := 39 } : Room).slots s₁ (mkF m 0 #[.val (.ref ba)] [])
  obtain ⟨T819, h819, X819, e819, E819, A819, D819, -, st819⟩ := newO X0 hx hZ hown (hw _ (List.mem_of_getElem? (i := 103) rfl)) (hw _ (List.mem_of_getElem? (i := 104) rfl)) (hw _ (List.mem_of_getElem? (i := 105) rfl)) e0 (g := (mkF m 0 #[.val (.ref ba)] [])) rfl (hb hby d14_0) (by decide) (by decide)
  obtain ⟨b819, g819⟩ : ∃ z, z = h0.size := ⟨_, rfl⟩
  rw [← g819] at A819 D819 st819
  have g820 : n0 ≤ b819 := Nat.le_trans (own_old_le O0) (Nat.le_of_eq g819.symm)
  have g821 : h0.size ≤ b819 := Nat.le_trans K0.1 (Nat.le_of_eq g819.symm)
  have ne822 : ba ≠ b819 := Nat.ne_of_lt (Nat.lt_of_lt_of_le P0.lt (Nat.le_of_eq g819.symm))
  have f823 := P0.ext E819
  have f824 := P1.ext E819
  have f825 := P2.ext E819
  have O826 := O0.ext E819
  have K827 := K0.ext E819
  have f828 : Fld Z h819 b819 "com/example/ferryline/ferryline/server/ApiError$Body" "error" "Ljava/lang/String;" .null := D819 (Or.inr (hw _ (List.mem_of_getElem? (i := 122) rfl))) (ty := (.object "java/lang/String")) (by decide)
  have f829 : Fld Z h819 b819 "com/example/ferryline/ferryline/server/ApiError$Body" "message" "Ljava/lang/String;" .null := D819 (Or.inr (hw _ (List.mem_of_getElem? (i := 124) rfl))) (ty := (.object "java/lang/String")) (by decide)
  refine Go.step (T' := T819) (f' := (mkF m 3 #[.val (.ref ba)] [(.ref b819)])) st819 ?_
  clear st819 X0
  refine Go.step (T' := T819) (f' := (mkF m 4 #[.val (.ref ba)] [(.ref b819), (.ref b819)])) (fun t k => XS.dup X819.here hx rfl (hb hby d14_3) rfl rfl k) ?_
  refine Go.step (T' := T819) (f' := (mkF m 5 #[.val (.ref ba)] [(.ref ba), (.ref b819), (.ref b819)])) (fun t k => XS.aloadN X819.here hx rfl (hb hby d14_4) rfl rfl k) ?_
  obtain ⟨T830, X830, e830, st830⟩ := getF X819 hx hZ hown (host := "") (Or.inl (hw _ (List.mem_of_getElem? (i := 96) rfl))) Via.refl e819 f824 (g := (mkF m 5 #[.val (.ref ba)] [(.ref ba), (.ref b819), (.ref b819)])) rfl rfl (hb hby d14_5)
  refine Go.step (T' := T830) (f' := (mkF m 8 #[.val (.ref ba)] [.null, (.ref b819), (.ref b819)])) st830 ?_
  clear st830 X819
  refine Go.step (T' := T830) (f' := (mkF m 9 #[.val (.ref ba)] [(.ref ba), .null, (.ref b819), (.ref b819)])) (fun t k => XS.aloadN X830.here hx rfl (hb hby d14_8) rfl rfl k) ?_
  obtain ⟨cq831, kq831, q831a, q831b, q831c⟩ := isOf hZ e830 f823
  obtain ⟨_, _, ⟨T831, L831, k831, n831⟩, -, X831, ⟨Lc831, hQ831, l831, y831, z831⟩, st831⟩ := X830.virtualBackUp hx (x := (⟨"com/example/ferryline/ferryline/server/ApiError", "getMessage", "()Ljava/lang/String;"⟩ : MethodName)) (y := (⟨"java/lang/Throwable", "getMessage", "()Ljava/lang/String;"⟩ : MethodName)) (owner := "java/lang/Throwable") hown (mvT hZ (hw _ (List.mem_of_getElem? (i := 106) rfl))) (mvT hZ (hw _ (List.mem_of_getElem? (i := 107) rfl))) (mvT hZ (hw _ (List.mem_of_getElem? (i := 108) rfl))) (by decide) (mvT hZ (hw _ (List.mem_of_getElem? (i := 110) rfl))) (mvT hZ (hw _ (List.mem_of_getElem? (i := 109) rfl))) (backOf (W := 3) (rm_gmN l Z a0 hw [] ba h819 n0 O826 f825) hZ (hw _ (List.mem_of_getElem? (i := 111) rfl)) (hw _ (List.mem_of_getElem? (i := 55) rfl)) (by decide) (by decide)) q831a q831c (g := (mkF m 9 #[.val (.ref ba)] [(.ref ba), .null, (.ref b819), (.ref b819)])) rfl (by rw [hml]; rfl) (Steps.refl _) (argsL := []) (rest := [.null, (.ref b819), (.ref b819)]) (lenOf pd8 rfl) rfl (by show 2 * 0 + _ ≤ _; exact Nat.le_of_eq rfl) (hb hby d14_9) (fun _ _ => ⟨rfl, e830, (by decide : 1 + 0 ≤ _), (by decide : 2 + 0 ≤ _)⟩)
  dsimp only [Pt.U, Pt.locs, Pt.cells, Pt.slots] at X831 l831 y831 z831 st831 hQ831
  subst l831 y831 z831
  obtain ⟨rfl, Nq831, hh831⟩ := hQ831
  have N832 := Fr.app N0 Nq831
  refine Go.via (T' := T831) (f' := (mkF m 12 #[.val (.ref ba)] [.null, .null, (.ref b819), (.ref b819)])) st831 ?_
  clear st831 X830 Nq831
  obtain ⟨_, _, ⟨T833, L833, k833, n833⟩, -, X833, ⟨Lc833, hQ833, l833, y833, z833⟩, st833⟩ := X831.specialBack hx (y := (⟨"com/example/ferryline/ferryline/server/ApiError$Body", "<init>", "(Ljava/lang/String;Ljava/lang/String;)V"⟩ : MethodName)) rfl hown (mvT hZ (hw _ (List.mem_of_getElem? (i := 112) rfl))) (mvT hZ (hw _ (List.mem_of_getElem? (i := 113) rfl))) (mvT hZ (hw _ (List.mem_of_getElem? (i := 114) rfl))) (by decide) (backOf (W := 1) (rm_biniNN l Z a0 hw [] b819 .null .null h819 n0 O826 A819 f828 f829 g820) hZ (hw _ (List.mem_of_getElem? (i := 114) rfl)) (hw _ (List.mem_of_getElem? (i := 105) rfl)) (by decide) (by decide)) (g := (mkF m 12 #[.val (.ref ba)] [.null, .null, (.ref b819), (.ref b819)])) rfl (by rw [hml]; rfl) (Steps.refl _) (a := b819) (argsL := [.null, .null]) (rest := [(.ref b819)]) (lenOf pd9 rfl) rfl (by show 2 * 0 + _ ≤ _; exact Nat.le_of_eq rfl) (hb hby d14_12) (fun _ _ => ⟨rfl, hh831, (by decide : 1 + 0 ≤ _), (by decide : 2 + 0 ≤ _)⟩)
  dsimp only [Pt.U, Pt.locs, Pt.cells, Pt.slots] at X833 l833 y833 z833 st833 hQ833
  subst l833 y833 z833
  obtain ⟨rfl, Nq833, hh833, p834, p835, p836⟩ := hQ833
  have N837 := Fr.app N832 Nq833
  have f838 := f823.keep hh833
  have f839 := f824.keep hh833 (ninS ne822 nin0)
  have f840 := f825.keep hh833 (ninS ne822 nin0)
  have f841 := A819.keep hh833
  have O842 := O826.keep hh833 (allS g820 all0)
  have K843 := K827.trans hh833 (allS (Or.inr g821) all0)
  refine Go.via (T' := T833) (f' := (mkF m 15 #[.val (.ref ba)] [(.ref b819)])) st833 ?_
  clear st833 X831 N832 Nq833 f824 f825
  refine Go.retA X833 hx hlk Bd.returns rfl rfl (hb hby d14_15) rfl ?_ (by decide) (by decide)
  exact ⟨b819, rfl, N837, K843, g821, p834, p835, p836⟩
theorem ef_aeiNR (m : MethodId) (ba : Addr) (ia : Int32) (bm : Addr) : entryFrame m #[(.ref ba), (.int ia), .null, (.ref bm)] 4 = mkF m 0 #[.val (.ref ba), .val (.int ia), .val .null, .val (.ref bm)] [] := by first | (simp [entryFrame, mkF, argsToLocals, Value.category]; done) | rfl
def Q_aeiNR (Z : State) (ba : Addr) (ia : Int32) (bm : Addr) (u0 : Value) (u1 : Value) (bu : Addr) (bz : Addr) (h0 : Heap) (n0 : Nat) (v : Option Value) (h : Heap) (L : List Loc) : Prop := v = none ∧ Fr n0 L ∧ Keep h0 h [ba] ∧ Exa Z h ba "com/example/ferryline/ferryline/server/ApiError" ∧ Fld Z h ba "com/example/ferryline/ferryline/server/ApiError" "status" "I" (.int ia) ∧ Fld Z h ba "com/example/ferryline/ferryline/server/ApiError" "code" "Ljava/lang/String;" .null ∧ Fld Z h ba "java/lang/Throwable" "detailMessage" "Ljava/lang/String;" (.ref bm)
set_option maxRecDepth 65536 in
set_option maxHeartbeats 40000000 in
theorem rm_aeiNR (l : Launch) (Z : State) (a0 : Array Value) (hw : ∀ d ∈ tables_1, d.before a0 Z = true) (ws : List Jvm.Cond) (ba : Addr) (ia : Int32) (bm : Addr) (u0 : Value) (u1 : Value) (bu : Addr) (bz : Addr) (h0 : Heap) (n0 : Nat) (O0 : Old Z n0 h0) (P0 : Exa Z h0 ba "com/example/ferryline/ferryline/server/ApiError") (P1 : Fld Z h0 ba "java/lang/Throwable" "cause" "Ljava/lang/Throwable;" .null) (P2 : Fld Z h0 ba "java/lang/Throwable" "stackTrace" "[Ljava/lang/StackTraceElement;" .null) (P3 : Fld Z h0 ba "java/lang/Throwable" "suppressedExceptions" "Ljava/util/List;" .null) (P4 : Fld Z h0 ba "java/lang/Throwable" "backtrace" "Ljava/lang/Object;" .null) (P5 : Fld Z h0 ba "java/lang/Throwable" "detailMessage" "Ljava/lang/String;" .null) (P6 : Fld Z h0 ba "com/example/ferryline/ferryline/server/ApiError" "status" "I" u0) (P7 : Fld Z h0 ba "com/example/ferryline/ferryline/server/ApiError" "code" "Ljava/lang/String;" u1) (P8 : n0 ≤ ba) (P9 : Unt h0 ba) (P10 : Sta Z Z.heap "java/lang/Throwable" "UNASSIGNED_STACK" "[Ljava/lang/StackTraceElement;" (.ref bu)) (P11 : Sta Z Z.heap "java/lang/Throwable" "SUPPRESSED_SENTINEL" "Ljava/util/List;" (.ref bz)) (htr : l.stackTraces = true) :
    MetFree l (⟨"com/example/ferryline/ferryline/server/ApiError", "<init>", "(ILjava/lang/String;Ljava/lang/String;)V"⟩ : MethodName) (head1 (Jvm.Cond.code (⟨"com/example/ferryline/ferryline/server/ApiError", "<init>", "(ILjava/lang/String;Ljava/lang/String;)V"⟩ : MethodName) prog_47_method_1_code 4 none :: ws) ({ frames := 6, cells := 1, slots := 2752, locals := 81 } : Room)) (fun a U => a = #[(.ref ba), (.int ia), .null, (.ref bm)] ∧ Z.Warmed39 U.vm ∧ U.heap = h0) (fun _ _ bl s _ => s.vm.MethodsKnown ∧ s.vm.FramesKnown bl) (fun _ U o U' => ∃ v L, o = .returned v ∧ Q_aeiNR Z ba ia bm u0 u1 bu bz h0 n0 v U'.heap L ∧ FrameEnd U o U' L ({ frames := 6, cells := 1, slots := 2752, locals := 81 } : Room).cells ({ frames := 6, cells := 1, slots := 2752, locals := 81 } : Room).slots) := by
  refine MetFree.of_bodySF (plainFor_of_name pn_com_example_ferryline_ferryline_server_ApiError) hisR ?_
  intro p e s m args below meth c s₁ Bd hml0 hP hK
  obtain ⟨rfl, hZ, hh⟩ := hP
  have hx := Bd.exec
  have hby := Bd.bytes
  have hml : c.maxLocals = 4 := hml0
  have hown : s.vm.findClass "com/example/ferryline/ferryline/server/ApiError" = some m.cls := findClass_of_methodNamed Bd.named
  have hnm := (name_of_methodNamed Bd.named Bd.method).1
  have hlk : meth.locks = false := BodyLoose.notSynchronized Bd
  have X0 : Stand p l e ({ frames := 6, cells := 1, slots := 2752, locals := 81 } : Room) s m #[(.ref ba), (.int ia), .null, (.ref bm)] below meth c s₁ [] 0 0 := Stand.of_body Bd
  have e0 : s₁.heap = h0 := by rw [← hh, Bd.state]; rfl
  have N0 := Fr.nil n0
  have K0 := Keep.refl h0 [ba]
  rw [ef_aeiNR m ba ia bm]
  show Go p e below s (fun v h L => Q_aeiNR Z ba ia bm u0 u1 bu bz h0 n0 v h L) ({ frames := 6, cells := 1, slots := 2752, locals := 81 } : Room).cells ({ frames := 6, cells := 1, slots := 2752, locals := 81 } : Room).slots s₁ (mkF m 0 #[.val (.ref ba), .val (.int ia), .val .null, .val (.ref bm)] [])
  refine Go.step (T' := s₁) (f' := (mkF m 1 #[.val (.ref ba), .val (.int ia), .val .null, .val (.ref bm)] [(.ref ba)])) (fun t k => XS.aloadN X0.here hx rfl (hb hby d8_0) rfl rfl k) ?_
  refine Go.step (T' := s₁) (f' := (mkF m 2 #[.val (.ref ba), .val (.int ia), .val .null, .val (.ref bm)] [(.ref bm), (.ref ba)])) (fun t k => XS.aloadN X0.here hx rfl (hb hby d8_1) rfl rfl k) ?_
  obtain ⟨_, _, ⟨T844, L844, k844, n844⟩, -, X844, ⟨Lc844, hQ844, l844, y844, z844⟩, st844⟩ := X0.specialBack hx (y := (⟨"java/lang/RuntimeException", "<init>", "(Ljava/lang/String;)V"⟩ : MethodName)) rfl hown (mvT hZ (hw _ (List.mem_of_getElem? (i := 40) rfl))) (mvT hZ (hw _ (List.mem_of_getElem? (i := 41) rfl))) (mvT hZ (hw _ (List.mem_of_getElem? (i := 44) rfl))) (by decide) (backOfKL (W := 0) (rm_rteR l Z a0 hw [] ba bm u0 u1 bu bz h0 n0 O0 P0 P1 P2 P3 P4 P5 P6 P7 P8 P9 P10 P11 htr) hZ (hw _ (List.mem_of_getElem? (i := 44) rfl)) (hw _ (List.mem_of_getElem? (i := 43) rfl)) (by decide) (by decide) hK.1 hK.2) (g := (mkF m 2 #[.val (.ref ba), .val (.int ia), .val .null, .val (.ref bm)] [(.ref bm), (.ref ba)])) rfl (by rw [hml]; rfl) (Steps.refl _) (a := ba) (argsL := [(.ref bm)]) (rest := []) (lenOf pd6 rfl) rfl (by show 2 * 0 + _ ≤ _; exact Nat.le_of_eq rfl) (hb hby d8_2) (fun _ _ => ⟨rfl, e0, (by decide : 0 + 1 ≤ _), (by decide : 0 + 2752 ≤ _)⟩)
  dsimp only [Pt.U, Pt.locs, Pt.cells, Pt.slots] at X844 l844 y844 z844 st844 hQ844
  subst l844 y844 z844
  obtain ⟨rfl, Nq844, hh844, p845, p846, p847, p848⟩ := hQ844
  have N849 := Fr.app N0 Nq844
  have f850 := P0.keep hh844
  have O851 := O0.keep hh844 (allS P8 all0)
  have K852 := K0.trans hh844 (allS (Or.inl (List.mem_of_getElem? (i := 0) rfl)) all0)
  refine Go.via (T' := T844) (f' := (mkF m 5 #[.val (.ref ba), .val (.int ia), .val .null, .val (.ref bm)] [])) st844 ?_
  clear st844 X0 Nq844
  refine Go.step (T' := T844) (f' := (mkF m 6 #[.val (.ref ba), .val (.int ia), .val .null, .val (.ref bm)] [(.ref ba)])) (fun t k => XS.aloadN X844.here hx rfl (hb hby d8_5) rfl rfl k) ?_
  refine Go.step (T' := T844) (f' := (mkF m 7 #[.val (.ref ba), .val (.int ia), .val .null, .val (.ref bm)] [(.int ia), (.ref ba)])) (fun t k => XS.iloadN X844.here hx rfl (hb hby d8_6) rfl k) ?_
  obtain ⟨T853, h853, X853, e853, W853, st853⟩ := putF X844 hx hZ hown (host := "") (Or.inl (hw _ (List.mem_of_getElem? (i := 94) rfl))) Via.refl rfl p847 p845 (Or.inr ⟨(hw _ (List.mem_of_getElem? (i := 95) rfl)), rfl, hnm⟩) (hw _ (List.mem_of_getElem? (i := 35) rfl)) (ty := .int) (by decide) rfl rfl (g := (mkF m 7 #[.val (.ref ba), .val (.int ia), .val .null, .val (.ref bm)] [(.int ia), (.ref ba)])) rfl rfl (hb hby d8_7)
  have f854 := p847.same W853
  have f855 := p845.wr W853
  have f856 := p846.other W853 (Or.inr (slot_ne (Or.inl (hw _ (List.mem_of_getElem? (i := 89) rfl))) (Or.inr (hw _ (List.mem_of_getElem? (i := 95) rfl))) (by decide) (t := (.object "java/lang/String")) (t' := .int) (by decide) (by decide)))
  have f857 := p848.other W853 (Or.inr (slot_ne (Or.inr (hw _ (List.mem_of_getElem? (i := 97) rfl))) (Or.inr (hw _ (List.mem_of_getElem? (i := 95) rfl))) (by decide) (t := (.object "java/lang/String")) (t' := .int) (by decide) (by decide)))
  have O858 := O851.wr W853 P8
  have K859 := K852.wr W853 (Or.inl (List.mem_of_getElem? (i := 0) rfl))
  have N860 := Fr.snoc X853 N849 P8
  refine Go.step (T' := T853) (f' := (mkF m 10 #[.val (.ref ba), .val (.int ia), .val .null, .val (.ref bm)] [])) st853 ?_
  clear st853 X844 p845 p846 p848 O851 K852 N849
  refine Go.step (T' := T853) (f' := (mkF m 11 #[.val (.ref ba), .val (.int ia), .val .null, .val (.ref bm)] [(.ref ba)])) (fun t k => XS.aloadN X853.here hx rfl (hb hby d8_10) rfl rfl k) ?_
  refine Go.step (T' := T853) (f' := (mkF m 12 #[.val (.ref ba), .val (.int ia), .val .null, .val (.ref bm)] [.null, (.ref ba)])) (fun t k => XS.aloadN X853.here hx rfl (hb hby d8_11) rfl rfl k) ?_
  obtain ⟨T861, h861, X861, e861, W861, st861⟩ := putF X853 hx hZ hown (host := "") (Or.inl (hw _ (List.mem_of_getElem? (i := 96) rfl))) Via.refl e853 f857 f855 (Or.inr ⟨(hw _ (List.mem_of_getElem? (i := 97) rfl)), rfl, hnm⟩) (hw _ (List.mem_of_getElem? (i := 35) rfl)) (ty := (.object "java/lang/String")) (by decide) rfl rfl (g := (mkF m 12 #[.val (.ref ba), .val (.int ia), .val .null, .val (.ref bm)] [.null, (.ref ba)])) rfl rfl (hb hby d8_12)
  have f862 := f857.same W861
  have f863 := f855.wr W861
  have f864 := f856.other W861 (Or.inr (slot_ne (Or.inl (hw _ (List.mem_of_getElem? (i := 89) rfl))) (Or.inr (hw _ (List.mem_of_getElem? (i := 97) rfl))) (by decide) (t := (.object "java/lang/String")) (t' := (.object "java/lang/String")) (by decide) (by decide)))
  have f865 := f854.other W861 (Or.inr (slot_ne (Or.inr (hw _ (List.mem_of_getElem? (i := 95) rfl))) (Or.inr (hw _ (List.mem_of_getElem? (i := 97) rfl))) (by decide) (t := .int) (t' := (.object "java/lang/String")) (by decide) (by decide)))
  have O866 := O858.wr W861 P8
  have K867 := K859.wr W861 (Or.inl (List.mem_of_getElem? (i := 0) rfl))
  have N868 := Fr.snoc X861 N860 P8
  refine Go.step (T' := T861) (f' := (mkF m 15 #[.val (.ref ba), .val (.int ia), .val .null, .val (.ref bm)] [])) st861 ?_
  clear st861 X853 f855 f856 f854 O858 K859 N860
  refine Go.retV X861 hx hlk Bd.returns (hb hby d8_15) e861 ?_ (by decide) (by decide)
  exact ⟨rfl, N868, K867, f863, f865, f862, f864⟩
theorem ef_biniNR (m : MethodId) (ba : Addr) (bm : Addr) : entryFrame m #[(.ref ba), .null, (.ref bm)] 3 = mkF m 0 #[.val (.ref ba), .val .null, .val (.ref bm)] [] := by first | (simp [entryFrame, mkF, argsToLocals, Value.category]; done) | rfl
def Q_biniNR (Z : State) (ba : Addr) (bm : Addr) (u0 : Value) (u1 : Value) (h0 : Heap) (n0 : Nat) (v : Option Value) (h : Heap) (L : List Loc) : Prop := v = none ∧ Fr n0 L ∧ Keep h0 h [ba] ∧ Exa Z h ba "com/example/ferryline/ferryline/server/ApiError$Body" ∧ Fld Z h ba "com/example/ferryline/ferryline/server/ApiError$Body" "error" "Ljava/lang/String;" .null ∧ Fld Z h ba "com/example/ferryline/ferryline/server/ApiError$Body" "message" "Ljava/lang/String;" (.ref bm)
set_option maxRecDepth 65536 in
set_option maxHeartbeats 40000000 in
theorem rm_biniNR (l : Launch) (Z : State) (a0 : Array Value) (hw : ∀ d ∈ tables_1, d.before a0 Z = true) (ws : List Jvm.Cond) (ba : Addr) (bm : Addr) (u0 : Value) (u1 : Value) (h0 : Heap) (n0 : Nat) (O0 : Old Z n0 h0) (P0 : Exa Z h0 ba "com/example/ferryline/ferryline/server/ApiError$Body") (P1 : Fld Z h0 ba "com/example/ferryline/ferryline/server/ApiError$Body" "error" "Ljava/lang/String;" u0) (P2 : Fld Z h0 ba "com/example/ferryline/ferryline/server/ApiError$Body" "message" "Ljava/lang/String;" u1) (P3 : n0 ≤ ba) :
    MetFree l (⟨"com/example/ferryline/ferryline/server/ApiError$Body", "<init>", "(Ljava/lang/String;Ljava/lang/String;)V"⟩ : MethodName) (head1 (Jvm.Cond.code (⟨"com/example/ferryline/ferryline/server/ApiError$Body", "<init>", "(Ljava/lang/String;Ljava/lang/String;)V"⟩ : MethodName) prog_48_method_1_code 3 none :: ws) ({ frames := 2, cells := 0, slots := 0, locals := 24 } : Room)) (fun a U => a = #[(.ref ba), .null, (.ref bm)] ∧ Z.Warmed39 U.vm ∧ U.heap = h0) (fun _ _ _ _ _ => True) (fun _ U o U' => ∃ v L, o = .returned v ∧ Q_biniNR Z ba bm u0 u1 h0 n0 v U'.heap L ∧ FrameEnd U o U' L ({ frames := 2, cells := 0, slots := 0, locals := 24 } : Room).cells ({ frames := 2, cells := 0, slots := 0, locals := 24 } : Room).slots) := by
  refine MetFree.of_bodySF (plainFor_of_name pn_com_example_ferryline_ferryline_server_ApiError_Body) hisR ?_
  intro p e s m args below meth c s₁ Bd hml0 hP hK
  obtain ⟨rfl, hZ, hh⟩ := hP
  have hx := Bd.exec
  have hby := Bd.bytes
  have hml : c.maxLocals = 3 := hml0
  have hown : s.vm.findClass "com/example/ferryline/ferryline/server/ApiError$Body" = some m.cls := findClass_of_methodNamed Bd.named
  have hnm := (name_of_methodNamed Bd.named Bd.method).1
  have hlk : meth.locks = false := BodyLoose.notSynchronized Bd
  have X0 : Stand p l e ({ frames := 2, cells := 0, slots := 0, locals := 24 } : Room) s m #[(.ref ba), .null, (.ref bm)] below meth c s₁ [] 0 0 := Stand.of_body Bd
  have e0 : s₁.heap = h0 := by rw [← hh, Bd.state]; rfl
  have N0 := Fr.nil n0
  have K0 := Keep.refl h0 [ba]
  rw [ef_biniNR m ba bm]
  show Go p e below s (fun v h L => Q_biniNR Z ba bm u0 u1 h0 n0 v h L) ({ frames := 2, cells := 0, slots := 0, locals := 24 } : Room).cells ({ frames := 2, cells := 0, slots := 0, locals := 24 } : Room).slots s₁ (mkF m 0 #[.val (.ref ba), .val .null, .val (.ref bm)] [])
  refine Go.step (T' := s₁) (f' := (mkF m 1 #[.val (.ref ba), .val .null, .val (.ref bm)] [(.ref ba)])) (fun t k => XS.aloadN X0.here hx rfl (hb hby d16_0) rfl rfl k) ?_
  obtain ⟨_, _, ⟨T869, L869, k869, n869⟩, -, X869, ⟨Lc869, hQ869, l869, y869, z869⟩, st869⟩ := X0.specialBack hx (y := (⟨"java/lang/Record", "<init>", "()V"⟩ : MethodName)) rfl hown (mvT hZ (hw _ (List.mem_of_getElem? (i := 115) rfl))) (mvT hZ (hw _ (List.mem_of_getElem? (i := 116) rfl))) (mvT hZ (hw _ (List.mem_of_getElem? (i := 119) rfl))) (by decide) (backOf (W := 0) (rm_rec l Z a0 hw [] ba h0 n0 O0 ) hZ (hw _ (List.mem_of_getElem? (i := 119) rfl)) (hw _ (List.mem_of_getElem? (i := 118) rfl)) (by decide) (by decide)) (g := (mkF m 1 #[.val (.ref ba), .val .null, .val (.ref bm)] [(.ref ba)])) rfl (by rw [hml]; rfl) (Steps.refl _) (a := ba) (argsL := []) (rest := []) (lenOf pd7 rfl) rfl (by show 2 * 0 + _ ≤ _; exact Nat.le_of_eq rfl) (hb hby d16_1) (fun _ _ => ⟨rfl, e0, (by decide : 0 + 0 ≤ _), (by decide : 0 + 0 ≤ _)⟩)
  dsimp only [Pt.U, Pt.locs, Pt.cells, Pt.slots] at X869 l869 y869 z869 st869 hQ869
  subst l869 y869 z869
  obtain ⟨rfl, Nq869, hh869⟩ := hQ869
  have N870 := Fr.app N0 Nq869
  refine Go.via (T' := T869) (f' := (mkF m 4 #[.val (.ref ba), .val .null, .val (.ref bm)] [])) st869 ?_
  clear st869 X0 Nq869
  refine Go.step (T' := T869) (f' := (mkF m 5 #[.val (.ref ba), .val .null, .val (.ref bm)] [(.ref ba)])) (fun t k => XS.aloadN X869.here hx rfl (hb hby d16_4) rfl rfl k) ?_
  refine Go.step (T' := T869) (f' := (mkF m 6 #[.val (.ref ba), .val .null, .val (.ref bm)] [.null, (.ref ba)])) (fun t k => XS.aloadN X869.here hx rfl (hb hby d16_5) rfl rfl k) ?_
  obtain ⟨T871, h871, X871, e871, W871, st871⟩ := putF X869 hx hZ hown (host := "") (Or.inl (hw _ (List.mem_of_getElem? (i := 121) rfl))) Via.refl hh869 P1 P0 (Or.inr ⟨(hw _ (List.mem_of_getElem? (i := 122) rfl)), rfl, hnm⟩) (hw _ (List.mem_of_getElem? (i := 104) rfl)) (ty := (.object "java/lang/String")) (by decide) rfl rfl (g := (mkF m 6 #[.val (.ref ba), .val .null, .val (.ref bm)] [.null, (.ref ba)])) rfl rfl (hb hby d16_6)
  have f872 := P1.same W871
  have f873 := P0.wr W871
  have f874 := P2.other W871 (Or.inr (slot_ne (Or.inr (hw _ (List.mem_of_getElem? (i := 124) rfl))) (Or.inr (hw _ (List.mem_of_getElem? (i := 122) rfl))) (by decide) (t := (.object "java/lang/String")) (t' := (.object "java/lang/String")) (by decide) (by decide)))
  have O875 := O0.wr W871 P3
  have K876 := K0.wr W871 (Or.inl (List.mem_of_getElem? (i := 0) rfl))
  have N877 := Fr.snoc X871 N870 P3
  refine Go.step (T' := T871) (f' := (mkF m 9 #[.val (.ref ba), .val .null, .val (.ref bm)] [])) st871 ?_
  clear st871 X869 N870
  refine Go.step (T' := T871) (f' := (mkF m 10 #[.val (.ref ba), .val .null, .val (.ref bm)] [(.ref ba)])) (fun t k => XS.aloadN X871.here hx rfl (hb hby d16_9) rfl rfl k) ?_
  refine Go.step (T' := T871) (f' := (mkF m 11 #[.val (.ref ba), .val .null, .val (.ref bm)] [(.ref bm), (.ref ba)])) (fun t k => XS.aloadN X871.here hx rfl (hb hby d16_10) rfl rfl k) ?_
  obtain ⟨T878, h878, X878, e878, W878, st878⟩ := putF X871 hx hZ hown (host := "") (Or.inl (hw _ (List.mem_of_getElem? (i := 123) rfl))) Via.refl e871 f874 f873 (Or.inr ⟨(hw _ (List.mem_of_getElem? (i := 124) rfl)), rfl, hnm⟩) (hw _ (List.mem_of_getElem? (i := 104) rfl)) (ty := (.object "java/lang/String")) (by decide) rfl rfl (g := (mkF m 11 #[.val (.ref ba), .val .null, .val (.ref bm)] [(.ref bm), (.ref ba)])) rfl rfl (hb hby d16_11)
  have f879 := f874.same W878
  have f880 := f873.wr W878
  have f881 := f872.other W878 (Or.inr (slot_ne (Or.inr (hw _ (List.mem_of_getElem? (i := 122) rfl))) (Or.inr (hw _ (List.mem_of_getElem? (i := 124) rfl))) (by decide) (t := (.object "java/lang/String")) (t' := (.object "java/lang/String")) (by decide) (by decide)))
  have O882 := O875.wr W878 P3
  have K883 := K876.wr W878 (Or.inl (List.mem_of_getElem? (i := 0) rfl))
  have N884 := Fr.snoc X878 N877 P3
  refine Go.step (T' := T878) (f' := (mkF m 14 #[.val (.ref ba), .val .null, .val (.ref bm)] [])) st878 ?_
  clear st878 X871 f873 f872 O875 K876 N877
  refine Go.retV X878 hx hlk Bd.returns (hb hby d16_14) e878 ?_ (by decide) (by decide)
  exact ⟨rfl, N884, K883, f880, f881, f879⟩
theorem ef_bodyNR (m : MethodId) (ba : Addr) : entryFrame m #[(.ref ba)] 1 = mkF m 0 #[.val (.ref ba)] [] := by first | (simp [entryFrame, mkF, argsToLocals, Value.category]; done) | rfl
def Q_bodyNR (Z : State) (ba : Addr) (bm : Addr) (h0 : Heap) (n0 : Nat) (v : Option Value) (h : Heap) (L : List Loc) : Prop := ∃ bb : Addr, v = some (.ref bb) ∧ Fr n0 L ∧ Keep h0 h [] ∧ h0.size ≤ bb ∧ Exa Z h bb "com/example/ferryline/ferryline/server/ApiError$Body" ∧ Fld Z h bb "com/example/ferryline/ferryline/server/ApiError$Body" "error" "Ljava/lang/String;" .null ∧ Fld Z h bb "com/example/ferryline/ferryline/server/ApiError$Body" "message" "Ljava/lang/String;" (.ref bm)
set_option maxRecDepth 65536 in
set_option maxHeartbeats 40000000 in
theorem rm_bodyNR (l : Launch) (Z : State) (a0 : Array Value) (hw : ∀ d ∈ tables_1, d.before a0 Z = true) (ws : List Jvm.Cond) (ba : Addr) (bm : Addr) (h0 : Heap) (n0 : Nat) (O0 : Old Z n0 h0) (P0 : Exa Z h0 ba "com/example/ferryline/ferryline/server/ApiError") (P1 : Fld Z h0 ba "com/example/ferryline/ferryline/server/ApiError" "code" "Ljava/lang/String;" .null) (P2 : Fld Z h0 ba "java/lang/Throwable" "detailMessage" "Ljava/lang/String;" (.ref bm)) :
    MetFree l (⟨"com/example/ferryline/ferryline/server/ApiError", "body", "()Lcom/example/ferryline/ferryline/server/ApiError$Body;"⟩ : MethodName) (head1 (Jvm.Cond.code (⟨"com/example/ferryline/ferryline/server/ApiError", "body", "()Lcom/example/ferryline/ferryline/server/ApiError$Body;"⟩ : MethodName) prog_47_method_3_code 1 (some (.object "com/example/ferryline/ferryline/server/ApiError$Body")) :: ws) ({ frames := 3, cells := 1, slots := 2, locals := 39 } : Room)) (fun a U => a = #[(.ref ba)] ∧ Z.Warmed39 U.vm ∧ U.heap = h0) (fun _ _ _ _ _ => True) (fun _ U o U' => ∃ v L, o = .returned v ∧ Q_bodyNR Z ba bm h0 n0 v U'.heap L ∧ FrameEnd U o U' L ({ frames := 3, cells := 1, slots := 2, locals := 39 } : Room).cells ({ frames := 3, cells := 1, slots := 2, locals := 39 } : Room).slots) := by
  refine MetFree.of_bodySF (plainFor_of_name pn_com_example_ferryline_ferryline_server_ApiError) hisR ?_
  intro p e s m args below meth c s₁ Bd hml0 hP hK
  obtain ⟨rfl, hZ, hh⟩ := hP
  have hx := Bd.exec
  have hby := Bd.bytes
  have hml : c.maxLocals = 1 := hml0
  have hown : s.vm.findClass "com/example/ferryline/ferryline/server/ApiError" = some m.cls := findClass_of_methodNamed Bd.named
  have hnm := (name_of_methodNamed Bd.named Bd.method).1
  have hlk : meth.locks = false := BodyLoose.notSynchronized Bd
  have X0 : Stand p l e ({ frames := 3, cells := 1, slots := 2, locals := 39 } : Room) s m #[(.ref ba)] below meth c s₁ [] 0 0 := Stand.of_body Bd
  have e0 : s₁.heap = h0 := by rw [← hh, Bd.state]; rfl
  have N0 := Fr.nil n0
  have K0 := Keep.refl h0 []
  rw [ef_bodyNR m ba]
  show Go p e below s (fun v h L => Q_bodyNR Z ba bm h0 n0 v h L) ({ frames := 3, cells := 1, slots := 2, locals := 39 } : Room).cells ({ frames := 3, cells := 1, slots := 2, locals := 39 } : Room).slots s₁ (mkF m 0 #[.val (.ref ba)] [])
  obtain ⟨T885, h885, X885, e885, E885, A885, D885, -, st885⟩ := newO X0 hx hZ hown (hw _ (List.mem_of_getElem? (i := 103) rfl)) (hw _ (List.mem_of_getElem? (i := 104) rfl)) (hw _ (List.mem_of_getElem? (i := 105) rfl)) e0 (g := (mkF m 0 #[.val (.ref ba)] [])) rfl (hb hby d14_0) (by decide) (by decide)
  obtain ⟨b885, g885⟩ : ∃ z, z = h0.size := ⟨_, rfl⟩
  rw [← g885] at A885 D885 st885
  have g886 : n0 ≤ b885 := Nat.le_trans (own_old_le O0) (Nat.le_of_eq g885.symm)
  have g887 : h0.size ≤ b885 := Nat.le_trans K0.1 (Nat.le_of_eq g885.symm)
  have ne888 : ba ≠ b885 := Nat.ne_of_lt (Nat.lt_of_lt_of_le P0.lt (Nat.le_of_eq g885.symm))
  have f889 := P0.ext E885
  have f890 := P1.ext E885
  have f891 := P2.ext E885
  have O892 := O0.ext E885
  have K893 := K0.ext E885
  have f894 : Fld Z h885 b885 "com/example/ferryline/ferryline/server/ApiError$Body" "error" "Ljava/lang/String;" .null := D885 (Or.inr (hw _ (List.mem_of_getElem? (i := 122) rfl))) (ty := (.object "java/lang/String")) (by decide)
  have f895 : Fld Z h885 b885 "com/example/ferryline/ferryline/server/ApiError$Body" "message" "Ljava/lang/String;" .null := D885 (Or.inr (hw _ (List.mem_of_getElem? (i := 124) rfl))) (ty := (.object "java/lang/String")) (by decide)
  refine Go.step (T' := T885) (f' := (mkF m 3 #[.val (.ref ba)] [(.ref b885)])) st885 ?_
  clear st885 X0
  refine Go.step (T' := T885) (f' := (mkF m 4 #[.val (.ref ba)] [(.ref b885), (.ref b885)])) (fun t k => XS.dup X885.here hx rfl (hb hby d14_3) rfl rfl k) ?_
  refine Go.step (T' := T885) (f' := (mkF m 5 #[.val (.ref ba)] [(.ref ba), (.ref b885), (.ref b885)])) (fun t k => XS.aloadN X885.here hx rfl (hb hby d14_4) rfl rfl k) ?_
  obtain ⟨T896, X896, e896, st896⟩ := getF X885 hx hZ hown (host := "") (Or.inl (hw _ (List.mem_of_getElem? (i := 96) rfl))) Via.refl e885 f890 (g := (mkF m 5 #[.val (.ref ba)] [(.ref ba), (.ref b885), (.ref b885)])) rfl rfl (hb hby d14_5)
  refine Go.step (T' := T896) (f' := (mkF m 8 #[.val (.ref ba)] [.null, (.ref b885), (.ref b885)])) st896 ?_
  clear st896 X885
  refine Go.step (T' := T896) (f' := (mkF m 9 #[.val (.ref ba)] [(.ref ba), .null, (.ref b885), (.ref b885)])) (fun t k => XS.aloadN X896.here hx rfl (hb hby d14_8) rfl rfl k) ?_
  obtain ⟨cq897, kq897, q897a, q897b, q897c⟩ := isOf hZ e896 f889
  obtain ⟨_, _, ⟨T897, L897, k897, n897⟩, -, X897, ⟨Lc897, hQ897, l897, y897, z897⟩, st897⟩ := X896.virtualBackUp hx (x := (⟨"com/example/ferryline/ferryline/server/ApiError", "getMessage", "()Ljava/lang/String;"⟩ : MethodName)) (y := (⟨"java/lang/Throwable", "getMessage", "()Ljava/lang/String;"⟩ : MethodName)) (owner := "java/lang/Throwable") hown (mvT hZ (hw _ (List.mem_of_getElem? (i := 106) rfl))) (mvT hZ (hw _ (List.mem_of_getElem? (i := 107) rfl))) (mvT hZ (hw _ (List.mem_of_getElem? (i := 108) rfl))) (by decide) (mvT hZ (hw _ (List.mem_of_getElem? (i := 110) rfl))) (mvT hZ (hw _ (List.mem_of_getElem? (i := 109) rfl))) (backOf (W := 3) (rm_gmR l Z a0 hw [] ba bm h885 n0 O892 f891) hZ (hw _ (List.mem_of_getElem? (i := 111) rfl)) (hw _ (List.mem_of_getElem? (i := 55) rfl)) (by decide) (by decide)) q897a q897c (g := (mkF m 9 #[.val (.ref ba)] [(.ref ba), .null, (.ref b885), (.ref b885)])) rfl (by rw [hml]; rfl) (Steps.refl _) (argsL := []) (rest := [.null, (.ref b885), (.ref b885)]) (lenOf pd8 rfl) rfl (by show 2 * 0 + _ ≤ _; exact Nat.le_of_eq rfl) (hb hby d14_9) (fun _ _ => ⟨rfl, e896, (by decide : 1 + 0 ≤ _), (by decide : 2 + 0 ≤ _)⟩)
  dsimp only [Pt.U, Pt.locs, Pt.cells, Pt.slots] at X897 l897 y897 z897 st897 hQ897
  subst l897 y897 z897
  obtain ⟨rfl, Nq897, hh897⟩ := hQ897
  have N898 := Fr.app N0 Nq897
  refine Go.via (T' := T897) (f' := (mkF m 12 #[.val (.ref ba)] [(.ref bm), .null, (.ref b885), (.ref b885)])) st897 ?_
  clear st897 X896 Nq897
  obtain ⟨_, _, ⟨T899, L899, k899, n899⟩, -, X899, ⟨Lc899, hQ899, l899, y899, z899⟩, st899⟩ := X897.specialBack hx (y := (⟨"com/example/ferryline/ferryline/server/ApiError$Body", "<init>", "(Ljava/lang/String;Ljava/lang/String;)V"⟩ : MethodName)) rfl hown (mvT hZ (hw _ (List.mem_of_getElem? (i := 112) rfl))) (mvT hZ (hw _ (List.mem_of_getElem? (i := 113) rfl))) (mvT hZ (hw _ (List.mem_of_getElem? (i := 114) rfl))) (by decide) (backOf (W := 1) (rm_biniNR l Z a0 hw [] b885 bm .null .null h885 n0 O892 A885 f894 f895 g886) hZ (hw _ (List.mem_of_getElem? (i := 114) rfl)) (hw _ (List.mem_of_getElem? (i := 105) rfl)) (by decide) (by decide)) (g := (mkF m 12 #[.val (.ref ba)] [(.ref bm), .null, (.ref b885), (.ref b885)])) rfl (by rw [hml]; rfl) (Steps.refl _) (a := b885) (argsL := [.null, (.ref bm)]) (rest := [(.ref b885)]) (lenOf pd9 rfl) rfl (by show 2 * 0 + _ ≤ _; exact Nat.le_of_eq rfl) (hb hby d14_12) (fun _ _ => ⟨rfl, hh897, (by decide : 1 + 0 ≤ _), (by decide : 2 + 0 ≤ _)⟩)
  dsimp only [Pt.U, Pt.locs, Pt.cells, Pt.slots] at X899 l899 y899 z899 st899 hQ899
  subst l899 y899 z899
  obtain ⟨rfl, Nq899, hh899, p900, p901, p902⟩ := hQ899
  have N903 := Fr.app N898 Nq899
  have f904 := f889.keep hh899
  have f905 := f890.keep hh899 (ninS ne888 nin0)
  have f906 := f891.keep hh899 (ninS ne888 nin0)
  have f907 := A885.keep hh899
  have O908 := O892.keep hh899 (allS g886 all0)
  have K909 := K893.trans hh899 (allS (Or.inr g887) all0)
  refine Go.via (T' := T899) (f' := (mkF m 15 #[.val (.ref ba)] [(.ref b885)])) st899 ?_
  clear st899 X897 N898 Nq899 f890 f891
  refine Go.retA X899 hx hlk Bd.returns rfl rfl (hb hby d14_15) rfl ?_ (by decide) (by decide)
  exact ⟨b885, rfl, N903, K909, g887, p900, p901, p902⟩
theorem ef_aeiRN (m : MethodId) (ba : Addr) (ia : Int32) (bc : Addr) : entryFrame m #[(.ref ba), (.int ia), (.ref bc), .null] 4 = mkF m 0 #[.val (.ref ba), .val (.int ia), .val (.ref bc), .val .null] [] := by first | (simp [entryFrame, mkF, argsToLocals, Value.category]; done) | rfl
def Q_aeiRN (Z : State) (ba : Addr) (ia : Int32) (bc : Addr) (u0 : Value) (u1 : Value) (bu : Addr) (bz : Addr) (h0 : Heap) (n0 : Nat) (v : Option Value) (h : Heap) (L : List Loc) : Prop := v = none ∧ Fr n0 L ∧ Keep h0 h [ba] ∧ Exa Z h ba "com/example/ferryline/ferryline/server/ApiError" ∧ Fld Z h ba "com/example/ferryline/ferryline/server/ApiError" "status" "I" (.int ia) ∧ Fld Z h ba "com/example/ferryline/ferryline/server/ApiError" "code" "Ljava/lang/String;" (.ref bc) ∧ Fld Z h ba "java/lang/Throwable" "detailMessage" "Ljava/lang/String;" .null
set_option maxRecDepth 65536 in
set_option maxHeartbeats 40000000 in
theorem rm_aeiRN (l : Launch) (Z : State) (a0 : Array Value) (hw : ∀ d ∈ tables_1, d.before a0 Z = true) (ws : List Jvm.Cond) (ba : Addr) (ia : Int32) (bc : Addr) (u0 : Value) (u1 : Value) (bu : Addr) (bz : Addr) (h0 : Heap) (n0 : Nat) (O0 : Old Z n0 h0) (P0 : Exa Z h0 ba "com/example/ferryline/ferryline/server/ApiError") (P1 : Fld Z h0 ba "java/lang/Throwable" "cause" "Ljava/lang/Throwable;" .null) (P2 : Fld Z h0 ba "java/lang/Throwable" "stackTrace" "[Ljava/lang/StackTraceElement;" .null) (P3 : Fld Z h0 ba "java/lang/Throwable" "suppressedExceptions" "Ljava/util/List;" .null) (P4 : Fld Z h0 ba "java/lang/Throwable" "backtrace" "Ljava/lang/Object;" .null) (P5 : Fld Z h0 ba "java/lang/Throwable" "detailMessage" "Ljava/lang/String;" .null) (P6 : Fld Z h0 ba "com/example/ferryline/ferryline/server/ApiError" "status" "I" u0) (P7 : Fld Z h0 ba "com/example/ferryline/ferryline/server/ApiError" "code" "Ljava/lang/String;" u1) (P8 : n0 ≤ ba) (P9 : Unt h0 ba) (P10 : Sta Z Z.heap "java/lang/Throwable" "UNASSIGNED_STACK" "[Ljava/lang/StackTraceElement;" (.ref bu)) (P11 : Sta Z Z.heap "java/lang/Throwable" "SUPPRESSED_SENTINEL" "Ljava/util/List;" (.ref bz)) (htr : l.stackTraces = true) :
    MetFree l (⟨"com/example/ferryline/ferryline/server/ApiError", "<init>", "(ILjava/lang/String;Ljava/lang/String;)V"⟩ : MethodName) (head1 (Jvm.Cond.code (⟨"com/example/ferryline/ferryline/server/ApiError", "<init>", "(ILjava/lang/String;Ljava/lang/String;)V"⟩ : MethodName) prog_47_method_1_code 4 none :: ws) ({ frames := 6, cells := 1, slots := 2752, locals := 81 } : Room)) (fun a U => a = #[(.ref ba), (.int ia), (.ref bc), .null] ∧ Z.Warmed39 U.vm ∧ U.heap = h0) (fun _ _ bl s _ => s.vm.MethodsKnown ∧ s.vm.FramesKnown bl) (fun _ U o U' => ∃ v L, o = .returned v ∧ Q_aeiRN Z ba ia bc u0 u1 bu bz h0 n0 v U'.heap L ∧ FrameEnd U o U' L ({ frames := 6, cells := 1, slots := 2752, locals := 81 } : Room).cells ({ frames := 6, cells := 1, slots := 2752, locals := 81 } : Room).slots) := by
  refine MetFree.of_bodySF (plainFor_of_name pn_com_example_ferryline_ferryline_server_ApiError) hisR ?_
  intro p e s m args below meth c s₁ Bd hml0 hP hK
  obtain ⟨rfl, hZ, hh⟩ := hP
  have hx := Bd.exec
  have hby := Bd.bytes
  have hml : c.maxLocals = 4 := hml0
  have hown : s.vm.findClass "com/example/ferryline/ferryline/server/ApiError" = some m.cls := findClass_of_methodNamed Bd.named
  have hnm := (name_of_methodNamed Bd.named Bd.method).1
  have hlk : meth.locks = false := BodyLoose.notSynchronized Bd
  have X0 : Stand p l e ({ frames := 6, cells := 1, slots := 2752, locals := 81 } : Room) s m #[(.ref ba), (.int ia), (.ref bc), .null] below meth c s₁ [] 0 0 := Stand.of_body Bd
  have e0 : s₁.heap = h0 := by rw [← hh, Bd.state]; rfl
  have N0 := Fr.nil n0
  have K0 := Keep.refl h0 [ba]
  rw [ef_aeiRN m ba ia bc]
  show Go p e below s (fun v h L => Q_aeiRN Z ba ia bc u0 u1 bu bz h0 n0 v h L) ({ frames := 6, cells := 1, slots := 2752, locals := 81 } : Room).cells ({ frames := 6, cells := 1, slots := 2752, locals := 81 } : Room).slots s₁ (mkF m 0 #[.val (.ref ba), .val (.int ia), .val (.ref bc), .val .null] [])
  refine Go.step (T' := s₁) (f' := (mkF m 1 #[.val (.ref ba), .val (.int ia), .val (.ref bc), .val .null] [(.ref ba)])) (fun t k => XS.aloadN X0.here hx rfl (hb hby d8_0) rfl rfl k) ?_
  refine Go.step (T' := s₁) (f' := (mkF m 2 #[.val (.ref ba), .val (.int ia), .val (.ref bc), .val .null] [.null, (.ref ba)])) (fun t k => XS.aloadN X0.here hx rfl (hb hby d8_1) rfl rfl k) ?_
  obtain ⟨_, _, ⟨T910, L910, k910, n910⟩, -, X910, ⟨Lc910, hQ910, l910, y910, z910⟩, st910⟩ := X0.specialBack hx (y := (⟨"java/lang/RuntimeException", "<init>", "(Ljava/lang/String;)V"⟩ : MethodName)) rfl hown (mvT hZ (hw _ (List.mem_of_getElem? (i := 40) rfl))) (mvT hZ (hw _ (List.mem_of_getElem? (i := 41) rfl))) (mvT hZ (hw _ (List.mem_of_getElem? (i := 44) rfl))) (by decide) (backOfKL (W := 0) (rm_rteN l Z a0 hw [] ba u0 u1 bu bz h0 n0 O0 P0 P1 P2 P3 P4 P5 P6 P7 P8 P9 P10 P11 htr) hZ (hw _ (List.mem_of_getElem? (i := 44) rfl)) (hw _ (List.mem_of_getElem? (i := 43) rfl)) (by decide) (by decide) hK.1 hK.2) (g := (mkF m 2 #[.val (.ref ba), .val (.int ia), .val (.ref bc), .val .null] [.null, (.ref ba)])) rfl (by rw [hml]; rfl) (Steps.refl _) (a := ba) (argsL := [.null]) (rest := []) (lenOf pd6 rfl) rfl (by show 2 * 0 + _ ≤ _; exact Nat.le_of_eq rfl) (hb hby d8_2) (fun _ _ => ⟨rfl, e0, (by decide : 0 + 1 ≤ _), (by decide : 0 + 2752 ≤ _)⟩)
  dsimp only [Pt.U, Pt.locs, Pt.cells, Pt.slots] at X910 l910 y910 z910 st910 hQ910
  subst l910 y910 z910
  obtain ⟨rfl, Nq910, hh910, p911, p912, p913, p914⟩ := hQ910
  have N915 := Fr.app N0 Nq910
  have f916 := P0.keep hh910
  have O917 := O0.keep hh910 (allS P8 all0)
  have K918 := K0.trans hh910 (allS (Or.inl (List.mem_of_getElem? (i := 0) rfl)) all0)
  refine Go.via (T' := T910) (f' := (mkF m 5 #[.val (.ref ba), .val (.int ia), .val (.ref bc), .val .null] [])) st910 ?_
  clear st910 X0 Nq910
  refine Go.step (T' := T910) (f' := (mkF m 6 #[.val (.ref ba), .val (.int ia), .val (.ref bc), .val .null] [(.ref ba)])) (fun t k => XS.aloadN X910.here hx rfl (hb hby d8_5) rfl rfl k) ?_
  refine Go.step (T' := T910) (f' := (mkF m 7 #[.val (.ref ba), .val (.int ia), .val (.ref bc), .val .null] [(.int ia), (.ref ba)])) (fun t k => XS.iloadN X910.here hx rfl (hb hby d8_6) rfl k) ?_
  obtain ⟨T919, h919, X919, e919, W919, st919⟩ := putF X910 hx hZ hown (host := "") (Or.inl (hw _ (List.mem_of_getElem? (i := 94) rfl))) Via.refl rfl p913 p911 (Or.inr ⟨(hw _ (List.mem_of_getElem? (i := 95) rfl)), rfl, hnm⟩) (hw _ (List.mem_of_getElem? (i := 35) rfl)) (ty := .int) (by decide) rfl rfl (g := (mkF m 7 #[.val (.ref ba), .val (.int ia), .val (.ref bc), .val .null] [(.int ia), (.ref ba)])) rfl rfl (hb hby d8_7)
  have f920 := p913.same W919
  have f921 := p911.wr W919
  have f922 := p912.other W919 (Or.inr (slot_ne (Or.inl (hw _ (List.mem_of_getElem? (i := 89) rfl))) (Or.inr (hw _ (List.mem_of_getElem? (i := 95) rfl))) (by decide) (t := (.object "java/lang/String")) (t' := .int) (by decide) (by decide)))
  have f923 := p914.other W919 (Or.inr (slot_ne (Or.inr (hw _ (List.mem_of_getElem? (i := 97) rfl))) (Or.inr (hw _ (List.mem_of_getElem? (i := 95) rfl))) (by decide) (t := (.object "java/lang/String")) (t' := .int) (by decide) (by decide)))
  have O924 := O917.wr W919 P8
  have K925 := K918.wr W919 (Or.inl (List.mem_of_getElem? (i := 0) rfl))
  have N926 := Fr.snoc X919 N915 P8
  refine Go.step (T' := T919) (f' := (mkF m 10 #[.val (.ref ba), .val (.int ia), .val (.ref bc), .val .null] [])) st919 ?_
  clear st919 X910 p911 p912 p914 O917 K918 N915
  refine Go.step (T' := T919) (f' := (mkF m 11 #[.val (.ref ba), .val (.int ia), .val (.ref bc), .val .null] [(.ref ba)])) (fun t k => XS.aloadN X919.here hx rfl (hb hby d8_10) rfl rfl k) ?_
  refine Go.step (T' := T919) (f' := (mkF m 12 #[.val (.ref ba), .val (.int ia), .val (.ref bc), .val .null] [(.ref bc), (.ref ba)])) (fun t k => XS.aloadN X919.here hx rfl (hb hby d8_11) rfl rfl k) ?_
  obtain ⟨T927, h927, X927, e927, W927, st927⟩ := putF X919 hx hZ hown (host := "") (Or.inl (hw _ (List.mem_of_getElem? (i := 96) rfl))) Via.refl e919 f923 f921 (Or.inr ⟨(hw _ (List.mem_of_getElem? (i := 97) rfl)), rfl, hnm⟩) (hw _ (List.mem_of_getElem? (i := 35) rfl)) (ty := (.object "java/lang/String")) (by decide) rfl rfl (g := (mkF m 12 #[.val (.ref ba), .val (.int ia), .val (.ref bc), .val .null] [(.ref bc), (.ref ba)])) rfl rfl (hb hby d8_12)
  have f928 := f923.same W927
  have f929 := f921.wr W927
  have f930 := f922.other W927 (Or.inr (slot_ne (Or.inl (hw _ (List.mem_of_getElem? (i := 89) rfl))) (Or.inr (hw _ (List.mem_of_getElem? (i := 97) rfl))) (by decide) (t := (.object "java/lang/String")) (t' := (.object "java/lang/String")) (by decide) (by decide)))
  have f931 := f920.other W927 (Or.inr (slot_ne (Or.inr (hw _ (List.mem_of_getElem? (i := 95) rfl))) (Or.inr (hw _ (List.mem_of_getElem? (i := 97) rfl))) (by decide) (t := .int) (t' := (.object "java/lang/String")) (by decide) (by decide)))
  have O932 := O924.wr W927 P8
  have K933 := K925.wr W927 (Or.inl (List.mem_of_getElem? (i := 0) rfl))
  have N934 := Fr.snoc X927 N926 P8
  refine Go.step (T' := T927) (f' := (mkF m 15 #[.val (.ref ba), .val (.int ia), .val (.ref bc), .val .null] [])) st927 ?_
  clear st927 X919 f921 f922 f920 O924 K925 N926
  refine Go.retV X927 hx hlk Bd.returns (hb hby d8_15) e927 ?_ (by decide) (by decide)
  exact ⟨rfl, N934, K933, f929, f931, f928, f930⟩
theorem ef_biniRN (m : MethodId) (ba : Addr) (bc : Addr) : entryFrame m #[(.ref ba), (.ref bc), .null] 3 = mkF m 0 #[.val (.ref ba), .val (.ref bc), .val .null] [] := by first | (simp [entryFrame, mkF, argsToLocals, Value.category]; done) | rfl
def Q_biniRN (Z : State) (ba : Addr) (bc : Addr) (u0 : Value) (u1 : Value) (h0 : Heap) (n0 : Nat) (v : Option Value) (h : Heap) (L : List Loc) : Prop := v = none ∧ Fr n0 L ∧ Keep h0 h [ba] ∧ Exa Z h ba "com/example/ferryline/ferryline/server/ApiError$Body" ∧ Fld Z h ba "com/example/ferryline/ferryline/server/ApiError$Body" "error" "Ljava/lang/String;" (.ref bc) ∧ Fld Z h ba "com/example/ferryline/ferryline/server/ApiError$Body" "message" "Ljava/lang/String;" .null
set_option maxRecDepth 65536 in
set_option maxHeartbeats 40000000 in
theorem rm_biniRN (l : Launch) (Z : State) (a0 : Array Value) (hw : ∀ d ∈ tables_1, d.before a0 Z = true) (ws : List Jvm.Cond) (ba : Addr) (bc : Addr) (u0 : Value) (u1 : Value) (h0 : Heap) (n0 : Nat) (O0 : Old Z n0 h0) (P0 : Exa Z h0 ba "com/example/ferryline/ferryline/server/ApiError$Body") (P1 : Fld Z h0 ba "com/example/ferryline/ferryline/server/ApiError$Body" "error" "Ljava/lang/String;" u0) (P2 : Fld Z h0 ba "com/example/ferryline/ferryline/server/ApiError$Body" "message" "Ljava/lang/String;" u1) (P3 : n0 ≤ ba) :
    MetFree l (⟨"com/example/ferryline/ferryline/server/ApiError$Body", "<init>", "(Ljava/lang/String;Ljava/lang/String;)V"⟩ : MethodName) (head1 (Jvm.Cond.code (⟨"com/example/ferryline/ferryline/server/ApiError$Body", "<init>", "(Ljava/lang/String;Ljava/lang/String;)V"⟩ : MethodName) prog_48_method_1_code 3 none :: ws) ({ frames := 2, cells := 0, slots := 0, locals := 24 } : Room)) (fun a U => a = #[(.ref ba), (.ref bc), .null] ∧ Z.Warmed39 U.vm ∧ U.heap = h0) (fun _ _ _ _ _ => True) (fun _ U o U' => ∃ v L, o = .returned v ∧ Q_biniRN Z ba bc u0 u1 h0 n0 v U'.heap L ∧ FrameEnd U o U' L ({ frames := 2, cells := 0, slots := 0, locals := 24 } : Room).cells ({ frames := 2, cells := 0, slots := 0, locals := 24 } : Room).slots) := by
  refine MetFree.of_bodySF (plainFor_of_name pn_com_example_ferryline_ferryline_server_ApiError_Body) hisR ?_
  intro p e s m args below meth c s₁ Bd hml0 hP hK
  obtain ⟨rfl, hZ, hh⟩ := hP
  have hx := Bd.exec
  have hby := Bd.bytes
  have hml : c.maxLocals = 3 := hml0
  have hown : s.vm.findClass "com/example/ferryline/ferryline/server/ApiError$Body" = some m.cls := findClass_of_methodNamed Bd.named
  have hnm := (name_of_methodNamed Bd.named Bd.method).1
  have hlk : meth.locks = false := BodyLoose.notSynchronized Bd
  have X0 : Stand p l e ({ frames := 2, cells := 0, slots := 0, locals := 24 } : Room) s m #[(.ref ba), (.ref bc), .null] below meth c s₁ [] 0 0 := Stand.of_body Bd
  have e0 : s₁.heap = h0 := by rw [← hh, Bd.state]; rfl
  have N0 := Fr.nil n0
  have K0 := Keep.refl h0 [ba]
  rw [ef_biniRN m ba bc]
  show Go p e below s (fun v h L => Q_biniRN Z ba bc u0 u1 h0 n0 v h L) ({ frames := 2, cells := 0, slots := 0, locals := 24 } : Room).cells ({ frames := 2, cells := 0, slots := 0, locals := 24 } : Room).slots s₁ (mkF m 0 #[.val (.ref ba), .val (.ref bc), .val .null] [])
  refine Go.step (T' := s₁) (f' := (mkF m 1 #[.val (.ref ba), .val (.ref bc), .val .null] [(.ref ba)])) (fun t k => XS.aloadN X0.here hx rfl (hb hby d16_0) rfl rfl k) ?_
  obtain ⟨_, _, ⟨T935, L935, k935, n935⟩, -, X935, ⟨Lc935, hQ935, l935, y935, z935⟩, st935⟩ := X0.specialBack hx (y := (⟨"java/lang/Record", "<init>", "()V"⟩ : MethodName)) rfl hown (mvT hZ (hw _ (List.mem_of_getElem? (i := 115) rfl))) (mvT hZ (hw _ (List.mem_of_getElem? (i := 116) rfl))) (mvT hZ (hw _ (List.mem_of_getElem? (i := 119) rfl))) (by decide) (backOf (W := 0) (rm_rec l Z a0 hw [] ba h0 n0 O0 ) hZ (hw _ (List.mem_of_getElem? (i := 119) rfl)) (hw _ (List.mem_of_getElem? (i := 118) rfl)) (by decide) (by decide)) (g := (mkF m 1 #[.val (.ref ba), .val (.ref bc), .val .null] [(.ref ba)])) rfl (by rw [hml]; rfl) (Steps.refl _) (a := ba) (argsL := []) (rest := []) (lenOf pd7 rfl) rfl (by show 2 * 0 + _ ≤ _; exact Nat.le_of_eq rfl) (hb hby d16_1) (fun _ _ => ⟨rfl, e0, (by decide : 0 + 0 ≤ _), (by decide : 0 + 0 ≤ _)⟩)
  dsimp only [Pt.U, Pt.locs, Pt.cells, Pt.slots] at X935 l935 y935 z935 st935 hQ935
  subst l935 y935 z935
  obtain ⟨rfl, Nq935, hh935⟩ := hQ935
  have N936 := Fr.app N0 Nq935
  refine Go.via (T' := T935) (f' := (mkF m 4 #[.val (.ref ba), .val (.ref bc), .val .null] [])) st935 ?_
  clear st935 X0 Nq935
  refine Go.step (T' := T935) (f' := (mkF m 5 #[.val (.ref ba), .val (.ref bc), .val .null] [(.ref ba)])) (fun t k => XS.aloadN X935.here hx rfl (hb hby d16_4) rfl rfl k) ?_
  refine Go.step (T' := T935) (f' := (mkF m 6 #[.val (.ref ba), .val (.ref bc), .val .null] [(.ref bc), (.ref ba)])) (fun t k => XS.aloadN X935.here hx rfl (hb hby d16_5) rfl rfl k) ?_
  obtain ⟨T937, h937, X937, e937, W937, st937⟩ := putF X935 hx hZ hown (host := "") (Or.inl (hw _ (List.mem_of_getElem? (i := 121) rfl))) Via.refl hh935 P1 P0 (Or.inr ⟨(hw _ (List.mem_of_getElem? (i := 122) rfl)), rfl, hnm⟩) (hw _ (List.mem_of_getElem? (i := 104) rfl)) (ty := (.object "java/lang/String")) (by decide) rfl rfl (g := (mkF m 6 #[.val (.ref ba), .val (.ref bc), .val .null] [(.ref bc), (.ref ba)])) rfl rfl (hb hby d16_6)
  have f938 := P1.same W937
  have f939 := P0.wr W937
  have f940 := P2.other W937 (Or.inr (slot_ne (Or.inr (hw _ (List.mem_of_getElem? (i := 124) rfl))) (Or.inr (hw _ (List.mem_of_getElem? (i := 122) rfl))) (by decide) (t := (.object "java/lang/String")) (t' := (.object "java/lang/String")) (by decide) (by decide)))
  have O941 := O0.wr W937 P3
  have K942 := K0.wr W937 (Or.inl (List.mem_of_getElem? (i := 0) rfl))
  have N943 := Fr.snoc X937 N936 P3
  refine Go.step (T' := T937) (f' := (mkF m 9 #[.val (.ref ba), .val (.ref bc), .val .null] [])) st937 ?_
  clear st937 X935 N936
  refine Go.step (T' := T937) (f' := (mkF m 10 #[.val (.ref ba), .val (.ref bc), .val .null] [(.ref ba)])) (fun t k => XS.aloadN X937.here hx rfl (hb hby d16_9) rfl rfl k) ?_
  refine Go.step (T' := T937) (f' := (mkF m 11 #[.val (.ref ba), .val (.ref bc), .val .null] [.null, (.ref ba)])) (fun t k => XS.aloadN X937.here hx rfl (hb hby d16_10) rfl rfl k) ?_
  obtain ⟨T944, h944, X944, e944, W944, st944⟩ := putF X937 hx hZ hown (host := "") (Or.inl (hw _ (List.mem_of_getElem? (i := 123) rfl))) Via.refl e937 f940 f939 (Or.inr ⟨(hw _ (List.mem_of_getElem? (i := 124) rfl)), rfl, hnm⟩) (hw _ (List.mem_of_getElem? (i := 104) rfl)) (ty := (.object "java/lang/String")) (by decide) rfl rfl (g := (mkF m 11 #[.val (.ref ba), .val (.ref bc), .val .null] [.null, (.ref ba)])) rfl rfl (hb hby d16_11)
  have f945 := f940.same W944
  have f946 := f939.wr W944
  have f947 := f938.other W944 (Or.inr (slot_ne (Or.inr (hw _ (List.mem_of_getElem? (i := 122) rfl))) (Or.inr (hw _ (List.mem_of_getElem? (i := 124) rfl))) (by decide) (t := (.object "java/lang/String")) (t' := (.object "java/lang/String")) (by decide) (by decide)))
  have O948 := O941.wr W944 P3
  have K949 := K942.wr W944 (Or.inl (List.mem_of_getElem? (i := 0) rfl))
  have N950 := Fr.snoc X944 N943 P3
  refine Go.step (T' := T944) (f' := (mkF m 14 #[.val (.ref ba), .val (.ref bc), .val .null] [])) st944 ?_
  clear st944 X937 f939 f938 O941 K942 N943
  refine Go.retV X944 hx hlk Bd.returns (hb hby d16_14) e944 ?_ (by decide) (by decide)
  exact ⟨rfl, N950, K949, f946, f947, f945⟩
theorem ef_bodyRN (m : MethodId) (ba : Addr) : entryFrame m #[(.ref ba)] 1 = mkF m 0 #[.val (.ref ba)] [] := by first | (simp [entryFrame, mkF, argsToLocals, Value.category]; done) | rfl
def Q_bodyRN (Z : State) (ba : Addr) (bc : Addr) (h0 : Heap) (n0 : Nat) (v : Option Value) (h : Heap) (L : List Loc) : Prop := ∃ bb : Addr, v = some (.ref bb) ∧ Fr n0 L ∧ Keep h0 h [] ∧ h0.size ≤ bb ∧ Exa Z h bb "com/example/ferryline/ferryline/server/ApiError$Body" ∧ Fld Z h bb "com/example/ferryline/ferryline/server/ApiError$Body" "error" "Ljava/lang/String;" (.ref bc) ∧ Fld Z h bb "com/example/ferryline/ferryline/server/ApiError$Body" "message" "Ljava/lang/String;" .null
set_option maxRecDepth 65536 in
set_option maxHeartbeats 40000000 in
theorem rm_bodyRN (l : Launch) (Z : State) (a0 : Array Value) (hw : ∀ d ∈ tables_1, d.before a0 Z = true) (ws : List Jvm.Cond) (ba : Addr) (bc : Addr) (h0 : Heap) (n0 : Nat) (O0 : Old Z n0 h0) (P0 : Exa Z h0 ba "com/example/ferryline/ferryline/server/ApiError") (P1 : Fld Z h0 ba "com/example/ferryline/ferryline/server/ApiError" "code" "Ljava/lang/String;" (.ref bc)) (P2 : Fld Z h0 ba "java/lang/Throwable" "detailMessage" "Ljava/lang/String;" .null) :
    MetFree l (⟨"com/example/ferryline/ferryline/server/ApiError", "body", "()Lcom/example/ferryline/ferryline/server/ApiError$Body;"⟩ : MethodName) (head1 (Jvm.Cond.code (⟨"com/example/ferryline/ferryline/server/ApiError", "body", "()Lcom/example/ferryline/ferryline/server/ApiError$Body;"⟩ : MethodName) prog_47_method_3_code 1 (some (.object "com/example/ferryline/ferryline/server/ApiError$Body")) :: ws) ({ frames := 3, cells := 1, slots := 2, locals := 39 } : Room)) (fun a U => a = #[(.ref ba)] ∧ Z.Warmed39 U.vm ∧ U.heap = h0) (fun _ _ _ _ _ => True) (fun _ U o U' => ∃ v L, o = .returned v ∧ Q_bodyRN Z ba bc h0 n0 v U'.heap L ∧ FrameEnd U o U' L ({ frames := 3, cells := 1, slots := 2, locals := 39 } : Room).cells ({ frames := 3, cells := 1, slots := 2, locals := 39 } : Room).slots) := by
  refine MetFree.of_bodySF (plainFor_of_name pn_com_example_ferryline_ferryline_server_ApiError) hisR ?_
  intro p e s m args below meth c s₁ Bd hml0 hP hK
  obtain ⟨rfl, hZ, hh⟩ := hP
  have hx := Bd.exec
  have hby := Bd.bytes
  have hml : c.maxLocals = 1 := hml0
  have hown : s.vm.findClass "com/example/ferryline/ferryline/server/ApiError" = some m.cls := findClass_of_methodNamed Bd.named
  have hnm := (name_of_methodNamed Bd.named Bd.method).1
  have hlk : meth.locks = false := BodyLoose.notSynchronized Bd
  have X0 : Stand p l e ({ frames := 3, cells := 1, slots := 2, locals := 39 } : Room) s m #[(.ref ba)] below meth c s₁ [] 0 0 := Stand.of_body Bd
  have e0 : s₁.heap = h0 := by rw [← hh, Bd.state]; rfl
  have N0 := Fr.nil n0
  have K0 := Keep.refl h0 []
  rw [ef_bodyRN m ba]
  show Go p e below s (fun v h L => Q_bodyRN Z ba bc h0 n0 v h L) ({ frames := 3, cells := 1, slots := 2, locals := 39 } : Room).cells ({ frames := 3, cells := 1, slots := 2, locals := 39 } : Room).slots s₁ (mkF m 0 #[.val (.ref ba)] [])
  obtain ⟨T951, h951, X951, e951, E951, A951, D951, -, st951⟩ := newO X0 hx hZ hown (hw _ (List.mem_of_getElem? (i := 103) rfl)) (hw _ (List.mem_of_getElem? (i := 104) rfl)) (hw _ (List.mem_of_getElem? (i := 105) rfl)) e0 (g := (mkF m 0 #[.val (.ref ba)] [])) rfl (hb hby d14_0) (by decide) (by decide)
  obtain ⟨b951, g951⟩ : ∃ z, z = h0.size := ⟨_, rfl⟩
  rw [← g951] at A951 D951 st951
  have g952 : n0 ≤ b951 := Nat.le_trans (own_old_le O0) (Nat.le_of_eq g951.symm)
  have g953 : h0.size ≤ b951 := Nat.le_trans K0.1 (Nat.le_of_eq g951.symm)
  have ne954 : ba ≠ b951 := Nat.ne_of_lt (Nat.lt_of_lt_of_le P0.lt (Nat.le_of_eq g951.symm))
  have f955 := P0.ext E951
  have f956 := P1.ext E951
  have f957 := P2.ext E951
  have O958 := O0.ext E951
  have K959 := K0.ext E951
  have f960 : Fld Z h951 b951 "com/example/ferryline/ferryline/server/ApiError$Body" "error" "Ljava/lang/String;" .null := D951 (Or.inr (hw _ (List.mem_of_getElem? (i := 122) rfl))) (ty := (.object "java/lang/String")) (by decide)
  have f961 : Fld Z h951 b951 "com/example/ferryline/ferryline/server/ApiError$Body" "message" "Ljava/lang/String;" .null := D951 (Or.inr (hw _ (List.mem_of_getElem? (i := 124) rfl))) (ty := (.object "java/lang/String")) (by decide)
  refine Go.step (T' := T951) (f' := (mkF m 3 #[.val (.ref ba)] [(.ref b951)])) st951 ?_
  clear st951 X0
  refine Go.step (T' := T951) (f' := (mkF m 4 #[.val (.ref ba)] [(.ref b951), (.ref b951)])) (fun t k => XS.dup X951.here hx rfl (hb hby d14_3) rfl rfl k) ?_
  refine Go.step (T' := T951) (f' := (mkF m 5 #[.val (.ref ba)] [(.ref ba), (.ref b951), (.ref b951)])) (fun t k => XS.aloadN X951.here hx rfl (hb hby d14_4) rfl rfl k) ?_
  obtain ⟨T962, X962, e962, st962⟩ := getF X951 hx hZ hown (host := "") (Or.inl (hw _ (List.mem_of_getElem? (i := 96) rfl))) Via.refl e951 f956 (g := (mkF m 5 #[.val (.ref ba)] [(.ref ba), (.ref b951), (.ref b951)])) rfl rfl (hb hby d14_5)
  refine Go.step (T' := T962) (f' := (mkF m 8 #[.val (.ref ba)] [(.ref bc), (.ref b951), (.ref b951)])) st962 ?_
  clear st962 X951
  refine Go.step (T' := T962) (f' := (mkF m 9 #[.val (.ref ba)] [(.ref ba), (.ref bc), (.ref b951), (.ref b951)])) (fun t k => XS.aloadN X962.here hx rfl (hb hby d14_8) rfl rfl k) ?_
  obtain ⟨cq963, kq963, q963a, q963b, q963c⟩ := isOf hZ e962 f955
  obtain ⟨_, _, ⟨T963, L963, k963, n963⟩, -, X963, ⟨Lc963, hQ963, l963, y963, z963⟩, st963⟩ := X962.virtualBackUp hx (x := (⟨"com/example/ferryline/ferryline/server/ApiError", "getMessage", "()Ljava/lang/String;"⟩ : MethodName)) (y := (⟨"java/lang/Throwable", "getMessage", "()Ljava/lang/String;"⟩ : MethodName)) (owner := "java/lang/Throwable") hown (mvT hZ (hw _ (List.mem_of_getElem? (i := 106) rfl))) (mvT hZ (hw _ (List.mem_of_getElem? (i := 107) rfl))) (mvT hZ (hw _ (List.mem_of_getElem? (i := 108) rfl))) (by decide) (mvT hZ (hw _ (List.mem_of_getElem? (i := 110) rfl))) (mvT hZ (hw _ (List.mem_of_getElem? (i := 109) rfl))) (backOf (W := 3) (rm_gmN l Z a0 hw [] ba h951 n0 O958 f957) hZ (hw _ (List.mem_of_getElem? (i := 111) rfl)) (hw _ (List.mem_of_getElem? (i := 55) rfl)) (by decide) (by decide)) q963a q963c (g := (mkF m 9 #[.val (.ref ba)] [(.ref ba), (.ref bc), (.ref b951), (.ref b951)])) rfl (by rw [hml]; rfl) (Steps.refl _) (argsL := []) (rest := [(.ref bc), (.ref b951), (.ref b951)]) (lenOf pd8 rfl) rfl (by show 2 * 0 + _ ≤ _; exact Nat.le_of_eq rfl) (hb hby d14_9) (fun _ _ => ⟨rfl, e962, (by decide : 1 + 0 ≤ _), (by decide : 2 + 0 ≤ _)⟩)
  dsimp only [Pt.U, Pt.locs, Pt.cells, Pt.slots] at X963 l963 y963 z963 st963 hQ963
  subst l963 y963 z963
  obtain ⟨rfl, Nq963, hh963⟩ := hQ963
  have N964 := Fr.app N0 Nq963
  refine Go.via (T' := T963) (f' := (mkF m 12 #[.val (.ref ba)] [.null, (.ref bc), (.ref b951), (.ref b951)])) st963 ?_
  clear st963 X962 Nq963
  obtain ⟨_, _, ⟨T965, L965, k965, n965⟩, -, X965, ⟨Lc965, hQ965, l965, y965, z965⟩, st965⟩ := X963.specialBack hx (y := (⟨"com/example/ferryline/ferryline/server/ApiError$Body", "<init>", "(Ljava/lang/String;Ljava/lang/String;)V"⟩ : MethodName)) rfl hown (mvT hZ (hw _ (List.mem_of_getElem? (i := 112) rfl))) (mvT hZ (hw _ (List.mem_of_getElem? (i := 113) rfl))) (mvT hZ (hw _ (List.mem_of_getElem? (i := 114) rfl))) (by decide) (backOf (W := 1) (rm_biniRN l Z a0 hw [] b951 bc .null .null h951 n0 O958 A951 f960 f961 g952) hZ (hw _ (List.mem_of_getElem? (i := 114) rfl)) (hw _ (List.mem_of_getElem? (i := 105) rfl)) (by decide) (by decide)) (g := (mkF m 12 #[.val (.ref ba)] [.null, (.ref bc), (.ref b951), (.ref b951)])) rfl (by rw [hml]; rfl) (Steps.refl _) (a := b951) (argsL := [(.ref bc), .null]) (rest := [(.ref b951)]) (lenOf pd9 rfl) rfl (by show 2 * 0 + _ ≤ _; exact Nat.le_of_eq rfl) (hb hby d14_12) (fun _ _ => ⟨rfl, hh963, (by decide : 1 + 0 ≤ _), (by decide : 2 + 0 ≤ _)⟩)
  dsimp only [Pt.U, Pt.locs, Pt.cells, Pt.slots] at X965 l965 y965 z965 st965 hQ965
  subst l965 y965 z965
  obtain ⟨rfl, Nq965, hh965, p966, p967, p968⟩ := hQ965
  have N969 := Fr.app N964 Nq965
  have f970 := f955.keep hh965
  have f971 := f956.keep hh965 (ninS ne954 nin0)
  have f972 := f957.keep hh965 (ninS ne954 nin0)
  have f973 := A951.keep hh965
  have O974 := O958.keep hh965 (allS g952 all0)
  have K975 := K959.trans hh965 (allS (Or.inr g953) all0)
  refine Go.via (T' := T965) (f' := (mkF m 15 #[.val (.ref ba)] [(.ref b951)])) st965 ?_
  clear st965 X963 N964 Nq965 f956 f957
  refine Go.retA X965 hx hlk Bd.returns rfl rfl (hb hby d14_15) rfl ?_ (by decide) (by decide)
  exact ⟨b951, rfl, N969, K975, g953, p966, p967, p968⟩
theorem ef_aeiRR (m : MethodId) (ba : Addr) (ia : Int32) (bc : Addr) (bm : Addr) : entryFrame m #[(.ref ba), (.int ia), (.ref bc), (.ref bm)] 4 = mkF m 0 #[.val (.ref ba), .val (.int ia), .val (.ref bc), .val (.ref bm)] [] := by first | (simp [entryFrame, mkF, argsToLocals, Value.category]; done) | rfl
def Q_aeiRR (Z : State) (ba : Addr) (ia : Int32) (bc : Addr) (bm : Addr) (u0 : Value) (u1 : Value) (bu : Addr) (bz : Addr) (h0 : Heap) (n0 : Nat) (v : Option Value) (h : Heap) (L : List Loc) : Prop := v = none ∧ Fr n0 L ∧ Keep h0 h [ba] ∧ Exa Z h ba "com/example/ferryline/ferryline/server/ApiError" ∧ Fld Z h ba "com/example/ferryline/ferryline/server/ApiError" "status" "I" (.int ia) ∧ Fld Z h ba "com/example/ferryline/ferryline/server/ApiError" "code" "Ljava/lang/String;" (.ref bc) ∧ Fld Z h ba "java/lang/Throwable" "detailMessage" "Ljava/lang/String;" (.ref bm)
set_option maxRecDepth 65536 in
set_option maxHeartbeats 40000000 in
theorem rm_aeiRR (l : Launch) (Z : State) (a0 : Array Value) (hw : ∀ d ∈ tables_1, d.before a0 Z = true) (ws : List Jvm.Cond) (ba : Addr) (ia : Int32) (bc : Addr) (bm : Addr) (u0 : Value) (u1 : Value) (bu : Addr) (bz : Addr) (h0 : Heap) (n0 : Nat) (O0 : Old Z n0 h0) (P0 : Exa Z h0 ba "com/example/ferryline/ferryline/server/ApiError") (P1 : Fld Z h0 ba "java/lang/Throwable" "cause" "Ljava/lang/Throwable;" .null) (P2 : Fld Z h0 ba "java/lang/Throwable" "stackTrace" "[Ljava/lang/StackTraceElement;" .null) (P3 : Fld Z h0 ba "java/lang/Throwable" "suppressedExceptions" "Ljava/util/List;" .null) (P4 : Fld Z h0 ba "java/lang/Throwable" "backtrace" "Ljava/lang/Object;" .null) (P5 : Fld Z h0 ba "java/lang/Throwable" "detailMessage" "Ljava/lang/String;" .null) (P6 : Fld Z h0 ba "com/example/ferryline/ferryline/server/ApiError" "status" "I" u0) (P7 : Fld Z h0 ba "com/example/ferryline/ferryline/server/ApiError" "code" "Ljava/lang/String;" u1) (P8 : n0 ≤ ba) (P9 : Unt h0 ba) (P10 : Sta Z Z.heap "java/lang/Throwable" "UNASSIGNED_STACK" "[Ljava/lang/StackTraceElement;" (.ref bu)) (P11 : Sta Z Z.heap "java/lang/Throwable" "SUPPRESSED_SENTINEL" "Ljava/util/List;" (.ref bz)) (htr : l.stackTraces = true) :
    MetFree l (⟨"com/example/ferryline/ferryline/server/ApiError", "<init>", "(ILjava/lang/String;Ljava/lang/String;)V"⟩ : MethodName) (head1 (Jvm.Cond.code (⟨"com/example/ferryline/ferryline/server/ApiError", "<init>", "(ILjava/lang/String;Ljava/lang/String;)V"⟩ : MethodName) prog_47_method_1_code 4 none :: ws) ({ frames := 6, cells := 1, slots := 2752, locals := 81 } : Room)) (fun a U => a = #[(.ref ba), (.int ia), (.ref bc), (.ref bm)] ∧ Z.Warmed39 U.vm ∧ U.heap = h0) (fun _ _ bl s _ => s.vm.MethodsKnown ∧ s.vm.FramesKnown bl) (fun _ U o U' => ∃ v L, o = .returned v ∧ Q_aeiRR Z ba ia bc bm u0 u1 bu bz h0 n0 v U'.heap L ∧ FrameEnd U o U' L ({ frames := 6, cells := 1, slots := 2752, locals := 81 } : Room).cells ({ frames := 6, cells := 1, slots := 2752, locals := 81 } : Room).slots) := by
  refine MetFree.of_bodySF (plainFor_of_name pn_com_example_ferryline_ferryline_server_ApiError) hisR ?_
  intro p e s m args below meth c s₁ Bd hml0 hP hK
  obtain ⟨rfl, hZ, hh⟩ := hP
  have hx := Bd.exec
  have hby := Bd.bytes
  have hml : c.maxLocals = 4 := hml0
  have hown : s.vm.findClass "com/example/ferryline/ferryline/server/ApiError" = some m.cls := findClass_of_methodNamed Bd.named
  have hnm := (name_of_methodNamed Bd.named Bd.method).1
  have hlk : meth.locks = false := BodyLoose.notSynchronized Bd
  have X0 : Stand p l e ({ frames := 6, cells := 1, slots := 2752, locals := 81 } : Room) s m #[(.ref ba), (.int ia), (.ref bc), (.ref bm)] below meth c s₁ [] 0 0 := Stand.of_body Bd
  have e0 : s₁.heap = h0 := by rw [← hh, Bd.state]; rfl
  have N0 := Fr.nil n0
  have K0 := Keep.refl h0 [ba]
  rw [ef_aeiRR m ba ia bc bm]
  show Go p e below s (fun v h L => Q_aeiRR Z ba ia bc bm u0 u1 bu bz h0 n0 v h L) ({ frames := 6, cells := 1, slots := 2752, locals := 81 } : Room).cells ({ frames := 6, cells := 1, slots := 2752, locals := 81 } : Room).slots s₁ (mkF m 0 #[.val (.ref ba), .val (.int ia), .val (.ref bc), .val (.ref bm)] [])
  refine Go.step (T' := s₁) (f' := (mkF m 1 #[.val (.ref ba), .val (.int ia), .val (.ref bc), .val (.ref bm)] [(.ref ba)])) (fun t k => XS.aloadN X0.here hx rfl (hb hby d8_0) rfl rfl k) ?_
  refine Go.step (T' := s₁) (f' := (mkF m 2 #[.val (.ref ba), .val (.int ia), .val (.ref bc), .val (.ref bm)] [(.ref bm), (.ref ba)])) (fun t k => XS.aloadN X0.here hx rfl (hb hby d8_1) rfl rfl k) ?_
  obtain ⟨_, _, ⟨T976, L976, k976, n976⟩, -, X976, ⟨Lc976, hQ976, l976, y976, z976⟩, st976⟩ := X0.specialBack hx (y := (⟨"java/lang/RuntimeException", "<init>", "(Ljava/lang/String;)V"⟩ : MethodName)) rfl hown (mvT hZ (hw _ (List.mem_of_getElem? (i := 40) rfl))) (mvT hZ (hw _ (List.mem_of_getElem? (i := 41) rfl))) (mvT hZ (hw _ (List.mem_of_getElem? (i := 44) rfl))) (by decide) (backOfKL (W := 0) (rm_rteR l Z a0 hw [] ba bm u0 u1 bu bz h0 n0 O0 P0 P1 P2 P3 P4 P5 P6 P7 P8 P9 P10 P11 htr) hZ (hw _ (List.mem_of_getElem? (i := 44) rfl)) (hw _ (List.mem_of_getElem? (i := 43) rfl)) (by decide) (by decide) hK.1 hK.2) (g := (mkF m 2 #[.val (.ref ba), .val (.int ia), .val (.ref bc), .val (.ref bm)] [(.ref bm), (.ref ba)])) rfl (by rw [hml]; rfl) (Steps.refl _) (a := ba) (argsL := [(.ref bm)]) (rest := []) (lenOf pd6 rfl) rfl (by show 2 * 0 + _ ≤ _; exact Nat.le_of_eq rfl) (hb hby d8_2) (fun _ _ => ⟨rfl, e0, (by decide : 0 + 1 ≤ _), (by decide : 0 + 2752 ≤ _)⟩)
  dsimp only [Pt.U, Pt.locs, Pt.cells, Pt.slots] at X976 l976 y976 z976 st976 hQ976
  subst l976 y976 z976
  obtain ⟨rfl, Nq976, hh976, p977, p978, p979, p980⟩ := hQ976
  have N981 := Fr.app N0 Nq976
  have f982 := P0.keep hh976
  have O983 := O0.keep hh976 (allS P8 all0)
  have K984 := K0.trans hh976 (allS (Or.inl (List.mem_of_getElem? (i := 0) rfl)) all0)
  refine Go.via (T' := T976) (f' := (mkF m 5 #[.val (.ref ba), .val (.int ia), .val (.ref bc), .val (.ref bm)] [])) st976 ?_
  clear st976 X0 Nq976
  refine Go.step (T' := T976) (f' := (mkF m 6 #[.val (.ref ba), .val (.int ia), .val (.ref bc), .val (.ref bm)] [(.ref ba)])) (fun t k => XS.aloadN X976.here hx rfl (hb hby d8_5) rfl rfl k) ?_
  refine Go.step (T' := T976) (f' := (mkF m 7 #[.val (.ref ba), .val (.int ia), .val (.ref bc), .val (.ref bm)] [(.int ia), (.ref ba)])) (fun t k => XS.iloadN X976.here hx rfl (hb hby d8_6) rfl k) ?_
  obtain ⟨T985, h985, X985, e985, W985, st985⟩ := putF X976 hx hZ hown (host := "") (Or.inl (hw _ (List.mem_of_getElem? (i := 94) rfl))) Via.refl rfl p979 p977 (Or.inr ⟨(hw _ (List.mem_of_getElem? (i := 95) rfl)), rfl, hnm⟩) (hw _ (List.mem_of_getElem? (i := 35) rfl)) (ty := .int) (by decide) rfl rfl (g := (mkF m 7 #[.val (.ref ba), .val (.int ia), .val (.ref bc), .val (.ref bm)] [(.int ia), (.ref ba)])) rfl rfl (hb hby d8_7)
  have f986 := p979.same W985
  have f987 := p977.wr W985
  have f988 := p978.other W985 (Or.inr (slot_ne (Or.inl (hw _ (List.mem_of_getElem? (i := 89) rfl))) (Or.inr (hw _ (List.mem_of_getElem? (i := 95) rfl))) (by decide) (t := (.object "java/lang/String")) (t' := .int) (by decide) (by decide)))
  have f989 := p980.other W985 (Or.inr (slot_ne (Or.inr (hw _ (List.mem_of_getElem? (i := 97) rfl))) (Or.inr (hw _ (List.mem_of_getElem? (i := 95) rfl))) (by decide) (t := (.object "java/lang/String")) (t' := .int) (by decide) (by decide)))
  have O990 := O983.wr W985 P8
  have K991 := K984.wr W985 (Or.inl (List.mem_of_getElem? (i := 0) rfl))
  have N992 := Fr.snoc X985 N981 P8
  refine Go.step (T' := T985) (f' := (mkF m 10 #[.val (.ref ba), .val (.int ia), .val (.ref bc), .val (.ref bm)] [])) st985 ?_
  clear st985 X976 p977 p978 p980 O983 K984 N981
  refine Go.step (T' := T985) (f' := (mkF m 11 #[.val (.ref ba), .val (.int ia), .val (.ref bc), .val (.ref bm)] [(.ref ba)])) (fun t k => XS.aloadN X985.here hx rfl (hb hby d8_10) rfl rfl k) ?_
  refine Go.step (T' := T985) (f' := (mkF m 12 #[.val (.ref ba), .val (.int ia), .val (.ref bc), .val (.ref bm)] [(.ref bc), (.ref ba)])) (fun t k => XS.aloadN X985.here hx rfl (hb hby d8_11) rfl rfl k) ?_
  obtain ⟨T993, h993, X993, e993, W993, st993⟩ := putF X985 hx hZ hown (host := "") (Or.inl (hw _ (List.mem_of_getElem? (i := 96) rfl))) Via.refl e985 f989 f987 (Or.inr ⟨(hw _ (List.mem_of_getElem? (i := 97) rfl)), rfl, hnm⟩) (hw _ (List.mem_of_getElem? (i := 35) rfl)) (ty := (.object "java/lang/String")) (by decide) rfl rfl (g := (mkF m 12 #[.val (.ref ba), .val (.int ia), .val (.ref bc), .val (.ref bm)] [(.ref bc), (.ref ba)])) rfl rfl (hb hby d8_12)
  have f994 := f989.same W993
  have f995 := f987.wr W993
  have f996 := f988.other W993 (Or.inr (slot_ne (Or.inl (hw _ (List.mem_of_getElem? (i := 89) rfl))) (Or.inr (hw _ (List.mem_of_getElem? (i := 97) rfl))) (by decide) (t := (.object "java/lang/String")) (t' := (.object "java/lang/String")) (by decide) (by decide)))
  have f997 := f986.other W993 (Or.inr (slot_ne (Or.inr (hw _ (List.mem_of_getElem? (i := 95) rfl))) (Or.inr (hw _ (List.mem_of_getElem? (i := 97) rfl))) (by decide) (t := .int) (t' := (.object "java/lang/String")) (by decide) (by decide)))
  have O998 := O990.wr W993 P8
  have K999 := K991.wr W993 (Or.inl (List.mem_of_getElem? (i := 0) rfl))
  have N1000 := Fr.snoc X993 N992 P8
  refine Go.step (T' := T993) (f' := (mkF m 15 #[.val (.ref ba), .val (.int ia), .val (.ref bc), .val (.ref bm)] [])) st993 ?_
  clear st993 X985 f987 f988 f986 O990 K991 N992
  refine Go.retV X993 hx hlk Bd.returns (hb hby d8_15) e993 ?_ (by decide) (by decide)
  exact ⟨rfl, N1000, K999, f995, f997, f994, f996⟩
theorem ef_biniRR (m : MethodId) (ba : Addr) (bc : Addr) (bm : Addr) : entryFrame m #[(.ref ba), (.ref bc), (.ref bm)] 3 = mkF m 0 #[.val (.ref ba), .val (.ref bc), .val (.ref bm)] [] := by first | (simp [entryFrame, mkF, argsToLocals, Value.category]; done) | rfl
def Q_biniRR (Z : State) (ba : Addr) (bc : Addr) (bm : Addr) (u0 : Value) (u1 : Value) (h0 : Heap) (n0 : Nat) (v : Option Value) (h : Heap) (L : List Loc) : Prop := v = none ∧ Fr n0 L ∧ Keep h0 h [ba] ∧ Exa Z h ba "com/example/ferryline/ferryline/server/ApiError$Body" ∧ Fld Z h ba "com/example/ferryline/ferryline/server/ApiError$Body" "error" "Ljava/lang/String;" (.ref bc) ∧ Fld Z h ba "com/example/ferryline/ferryline/server/ApiError$Body" "message" "Ljava/lang/String;" (.ref bm)
set_option maxRecDepth 65536 in
set_option maxHeartbeats 40000000 in
theorem rm_biniRR (l : Launch) (Z : State) (a0 : Array Value) (hw : ∀ d ∈ tables_1, d.before a0 Z = true) (ws : List Jvm.Cond) (ba : Addr) (bc : Addr) (bm : Addr) (u0 : Value) (u1 : Value) (h0 : Heap) (n0 : Nat) (O0 : Old Z n0 h0) (P0 : Exa Z h0 ba "com/example/ferryline/ferryline/server/ApiError$Body") (P1 : Fld Z h0 ba "com/example/ferryline/ferryline/server/ApiError$Body" "error" "Ljava/lang/String;" u0) (P2 : Fld Z h0 ba "com/example/ferryline/ferryline/server/ApiError$Body" "message" "Ljava/lang/String;" u1) (P3 : n0 ≤ ba) :
    MetFree l (⟨"com/example/ferryline/ferryline/server/ApiError$Body", "<init>", "(Ljava/lang/String;Ljava/lang/String;)V"⟩ : MethodName) (head1 (Jvm.Cond.code (⟨"com/example/ferryline/ferryline/server/ApiError$Body", "<init>", "(Ljava/lang/String;Ljava/lang/String;)V"⟩ : MethodName) prog_48_method_1_code 3 none :: ws) ({ frames := 2, cells := 0, slots := 0, locals := 24 } : Room)) (fun a U => a = #[(.ref ba), (.ref bc), (.ref bm)] ∧ Z.Warmed39 U.vm ∧ U.heap = h0) (fun _ _ _ _ _ => True) (fun _ U o U' => ∃ v L, o = .returned v ∧ Q_biniRR Z ba bc bm u0 u1 h0 n0 v U'.heap L ∧ FrameEnd U o U' L ({ frames := 2, cells := 0, slots := 0, locals := 24 } : Room).cells ({ frames := 2, cells := 0, slots := 0, locals := 24 } : Room).slots) := by
  refine MetFree.of_bodySF (plainFor_of_name pn_com_example_ferryline_ferryline_server_ApiError_Body) hisR ?_
  intro p e s m args below meth c s₁ Bd hml0 hP hK
  obtain ⟨rfl, hZ, hh⟩ := hP
  have hx := Bd.exec
  have hby := Bd.bytes
  have hml : c.maxLocals = 3 := hml0
  have hown : s.vm.findClass "com/example/ferryline/ferryline/server/ApiError$Body" = some m.cls := findClass_of_methodNamed Bd.named
  have hnm := (name_of_methodNamed Bd.named Bd.method).1
  have hlk : meth.locks = false := BodyLoose.notSynchronized Bd
  have X0 : Stand p l e ({ frames := 2, cells := 0, slots := 0, locals := 24 } : Room) s m #[(.ref ba), (.ref bc), (.ref bm)] below meth c s₁ [] 0 0 := Stand.of_body Bd
  have e0 : s₁.heap = h0 := by rw [← hh, Bd.state]; rfl
  have N0 := Fr.nil n0
  have K0 := Keep.refl h0 [ba]
  rw [ef_biniRR m ba bc bm]
  show Go p e below s (fun v h L => Q_biniRR Z ba bc bm u0 u1 h0 n0 v h L) ({ frames := 2, cells := 0, slots := 0, locals := 24 } : Room).cells ({ frames := 2, cells := 0, slots := 0, locals := 24 } : Room).slots s₁ (mkF m 0 #[.val (.ref ba), .val (.ref bc), .val (.ref bm)] [])
  refine Go.step (T' := s₁) (f' := (mkF m 1 #[.val (.ref ba), .val (.ref bc), .val (.ref bm)] [(.ref ba)])) (fun t k => XS.aloadN X0.here hx rfl (hb hby d16_0) rfl rfl k) ?_
  obtain ⟨_, _, ⟨T1001, L1001, k1001, n1001⟩, -, X1001, ⟨Lc1001, hQ1001, l1001, y1001, z1001⟩, st1001⟩ := X0.specialBack hx (y := (⟨"java/lang/Record", "<init>", "()V"⟩ : MethodName)) rfl hown (mvT hZ (hw _ (List.mem_of_getElem? (i := 115) rfl))) (mvT hZ (hw _ (List.mem_of_getElem? (i := 116) rfl))) (mvT hZ (hw _ (List.mem_of_getElem? (i := 119) rfl))) (by decide) (backOf (W := 0) (rm_rec l Z a0 hw [] ba h0 n0 O0 ) hZ (hw _ (List.mem_of_getElem? (i := 119) rfl)) (hw _ (List.mem_of_getElem? (i := 118) rfl)) (by decide) (by decide)) (g := (mkF m 1 #[.val (.ref ba), .val (.ref bc), .val (.ref bm)] [(.ref ba)])) rfl (by rw [hml]; rfl) (Steps.refl _) (a := ba) (argsL := []) (rest := []) (lenOf pd7 rfl) rfl (by show 2 * 0 + _ ≤ _; exact Nat.le_of_eq rfl) (hb hby d16_1) (fun _ _ => ⟨rfl, e0, (by decide : 0 + 0 ≤ _), (by decide : 0 + 0 ≤ _)⟩)
  dsimp only [Pt.U, Pt.locs, Pt.cells, Pt.slots] at X1001 l1001 y1001 z1001 st1001 hQ1001
  subst l1001 y1001 z1001
  obtain ⟨rfl, Nq1001, hh1001⟩ := hQ1001
  have N1002 := Fr.app N0 Nq1001
  refine Go.via (T' := T1001) (f' := (mkF m 4 #[.val (.ref ba), .val (.ref bc), .val (.ref bm)] [])) st1001 ?_
  clear st1001 X0 Nq1001
  refine Go.step (T' := T1001) (f' := (mkF m 5 #[.val (.ref ba), .val (.ref bc), .val (.ref bm)] [(.ref ba)])) (fun t k => XS.aloadN X1001.here hx rfl (hb hby d16_4) rfl rfl k) ?_
  refine Go.step (T' := T1001) (f' := (mkF m 6 #[.val (.ref ba), .val (.ref bc), .val (.ref bm)] [(.ref bc), (.ref ba)])) (fun t k => XS.aloadN X1001.here hx rfl (hb hby d16_5) rfl rfl k) ?_
  obtain ⟨T1003, h1003, X1003, e1003, W1003, st1003⟩ := putF X1001 hx hZ hown (host := "") (Or.inl (hw _ (List.mem_of_getElem? (i := 121) rfl))) Via.refl hh1001 P1 P0 (Or.inr ⟨(hw _ (List.mem_of_getElem? (i := 122) rfl)), rfl, hnm⟩) (hw _ (List.mem_of_getElem? (i := 104) rfl)) (ty := (.object "java/lang/String")) (by decide) rfl rfl (g := (mkF m 6 #[.val (.ref ba), .val (.ref bc), .val (.ref bm)] [(.ref bc), (.ref ba)])) rfl rfl (hb hby d16_6)
  have f1004 := P1.same W1003
  have f1005 := P0.wr W1003
  have f1006 := P2.other W1003 (Or.inr (slot_ne (Or.inr (hw _ (List.mem_of_getElem? (i := 124) rfl))) (Or.inr (hw _ (List.mem_of_getElem? (i := 122) rfl))) (by decide) (t := (.object "java/lang/String")) (t' := (.object "java/lang/String")) (by decide) (by decide)))
  have O1007 := O0.wr W1003 P3
  have K1008 := K0.wr W1003 (Or.inl (List.mem_of_getElem? (i := 0) rfl))
  have N1009 := Fr.snoc X1003 N1002 P3
  refine Go.step (T' := T1003) (f' := (mkF m 9 #[.val (.ref ba), .val (.ref bc), .val (.ref bm)] [])) st1003 ?_
  clear st1003 X1001 N1002
  refine Go.step (T' := T1003) (f' := (mkF m 10 #[.val (.ref ba), .val (.ref bc), .val (.ref bm)] [(.ref ba)])) (fun t k => XS.aloadN X1003.here hx rfl (hb hby d16_9) rfl rfl k) ?_
  refine Go.step (T' := T1003) (f' := (mkF m 11 #[.val (.ref ba), .val (.ref bc), .val (.ref bm)] [(.ref bm), (.ref ba)])) (fun t k => XS.aloadN X1003.here hx rfl (hb hby d16_10) rfl rfl k) ?_
  obtain ⟨T1010, h1010, X1010, e1010, W1010, st1010⟩ := putF X1003 hx hZ hown (host := "") (Or.inl (hw _ (List.mem_of_getElem? (i := 123) rfl))) Via.refl e1003 f1006 f1005 (Or.inr ⟨(hw _ (List.mem_of_getElem? (i := 124) rfl)), rfl, hnm⟩) (hw _ (List.mem_of_getElem? (i := 104) rfl)) (ty := (.object "java/lang/String")) (by decide) rfl rfl (g := (mkF m 11 #[.val (.ref ba), .val (.ref bc), .val (.ref bm)] [(.ref bm), (.ref ba)])) rfl rfl (hb hby d16_11)
  have f1011 := f1006.same W1010
  have f1012 := f1005.wr W1010
  have f1013 := f1004.other W1010 (Or.inr (slot_ne (Or.inr (hw _ (List.mem_of_getElem? (i := 122) rfl))) (Or.inr (hw _ (List.mem_of_getElem? (i := 124) rfl))) (by decide) (t := (.object "java/lang/String")) (t' := (.object "java/lang/String")) (by decide) (by decide)))
  have O1014 := O1007.wr W1010 P3
  have K1015 := K1008.wr W1010 (Or.inl (List.mem_of_getElem? (i := 0) rfl))
  have N1016 := Fr.snoc X1010 N1009 P3
  refine Go.step (T' := T1010) (f' := (mkF m 14 #[.val (.ref ba), .val (.ref bc), .val (.ref bm)] [])) st1010 ?_
  clear st1010 X1003 f1005 f1004 O1007 K1008 N1009
  refine Go.retV X1010 hx hlk Bd.returns (hb hby d16_14) e1010 ?_ (by decide) (by decide)
  exact ⟨rfl, N1016, K1015, f1012, f1013, f1011⟩
theorem ef_bodyRR (m : MethodId) (ba : Addr) : entryFrame m #[(.ref ba)] 1 = mkF m 0 #[.val (.ref ba)] [] := by first | (simp [entryFrame, mkF, argsToLocals, Value.category]; done) | rfl
def Q_bodyRR (Z : State) (ba : Addr) (bc : Addr) (bm : Addr) (h0 : Heap) (n0 : Nat) (v : Option Value) (h : Heap) (L : List Loc) : Prop := ∃ bb : Addr, v = some (.ref bb) ∧ Fr n0 L ∧ Keep h0 h [] ∧ h0.size ≤ bb ∧ Exa Z h bb "com/example/ferryline/ferryline/server/ApiError$Body" ∧ Fld Z h bb "com/example/ferryline/ferryline/server/ApiError$Body" "error" "Ljava/lang/String;" (.ref bc) ∧ Fld Z h bb "com/example/ferryline/ferryline/server/ApiError$Body" "message" "Ljava/lang/String;" (.ref bm)
set_option maxRecDepth 65536 in
set_option maxHeartbeats 40000000 in
theorem rm_bodyRR (l : Launch) (Z : State) (a0 : Array Value) (hw : ∀ d ∈ tables_1, d.before a0 Z = true) (ws : List Jvm.Cond) (ba : Addr) (bc : Addr) (bm : Addr) (h0 : Heap) (n0 : Nat) (O0 : Old Z n0 h0) (P0 : Exa Z h0 ba "com/example/ferryline/ferryline/server/ApiError") (P1 : Fld Z h0 ba "com/example/ferryline/ferryline/server/ApiError" "code" "Ljava/lang/String;" (.ref bc)) (P2 : Fld Z h0 ba "java/lang/Throwable" "detailMessage" "Ljava/lang/String;" (.ref bm)) :
    MetFree l (⟨"com/example/ferryline/ferryline/server/ApiError", "body", "()Lcom/example/ferryline/ferryline/server/ApiError$Body;"⟩ : MethodName) (head1 (Jvm.Cond.code (⟨"com/example/ferryline/ferryline/server/ApiError", "body", "()Lcom/example/ferryline/ferryline/server/ApiError$Body;"⟩ : MethodName) prog_47_method_3_code 1 (some (.object "com/example/ferryline/ferryline/server/ApiError$Body")) :: ws) ({ frames := 3, cells := 1, slots := 2, locals := 39 } : Room)) (fun a U => a = #[(.ref ba)] ∧ Z.Warmed39 U.vm ∧ U.heap = h0) (fun _ _ _ _ _ => True) (fun _ U o U' => ∃ v L, o = .returned v ∧ Q_bodyRR Z ba bc bm h0 n0 v U'.heap L ∧ FrameEnd U o U' L ({ frames := 3, cells := 1, slots := 2, locals := 39 } : Room).cells ({ frames := 3, cells := 1, slots := 2, locals := 39 } : Room).slots) := by
  refine MetFree.of_bodySF (plainFor_of_name pn_com_example_ferryline_ferryline_server_ApiError) hisR ?_
  intro p e s m args below meth c s₁ Bd hml0 hP hK
  obtain ⟨rfl, hZ, hh⟩ := hP
  have hx := Bd.exec
  have hby := Bd.bytes
  have hml : c.maxLocals = 1 := hml0
  have hown : s.vm.findClass "com/example/ferryline/ferryline/server/ApiError" = some m.cls := findClass_of_methodNamed Bd.named
  have hnm := (name_of_methodNamed Bd.named Bd.method).1
  have hlk : meth.locks = false := BodyLoose.notSynchronized Bd
  have X0 : Stand p l e ({ frames := 3, cells := 1, slots := 2, locals := 39 } : Room) s m #[(.ref ba)] below meth c s₁ [] 0 0 := Stand.of_body Bd
  have e0 : s₁.heap = h0 := by rw [← hh, Bd.state]; rfl
  have N0 := Fr.nil n0
  have K0 := Keep.refl h0 []
  rw [ef_bodyRR m ba]
  show Go p e below s (fun v h L => Q_bodyRR Z ba bc bm h0 n0 v h L) ({ frames := 3, cells := 1, slots := 2, locals := 39 } : Room).cells ({ frames := 3, cells := 1, slots := 2, locals := 39 } : Room).slots s₁ (mkF m 0 #[.val (.ref ba)] [])
  obtain ⟨T1017, h1017, X1017, e1017, E1017, A1017, D1017, -, st1017⟩ := newO X0 hx hZ hown (hw _ (List.mem_of_getElem? (i := 103) rfl)) (hw _ (List.mem_of_getElem? (i := 104) rfl)) (hw _ (List.mem_of_getElem? (i := 105) rfl)) e0 (g := (mkF m 0 #[.val (.ref ba)] [])) rfl (hb hby d14_0) (by decide) (by decide)
  obtain ⟨b1017, g1017⟩ : ∃ z, z = h0.size := ⟨_, rfl⟩
  rw [← g1017] at A1017 D1017 st1017
  have g1018 : n0 ≤ b1017 := Nat.le_trans (own_old_le O0) (Nat.le_of_eq g1017.symm)
  have g1019 : h0.size ≤ b1017 := Nat.le_trans K0.1 (Nat.le_of_eq g1017.symm)
  have ne1020 : ba ≠ b1017 := Nat.ne_of_lt (Nat.lt_of_lt_of_le P0.lt (Nat.le_of_eq g1017.symm))
  have f1021 := P0.ext E1017
  have f1022 := P1.ext E1017
  have f1023 := P2.ext E1017
  have O1024 := O0.ext E1017
  have K1025 := K0.ext E1017
  have f1026 : Fld Z h1017 b1017 "com/example/ferryline/ferryline/server/ApiError$Body" "error" "Ljava/lang/String;" .null := D1017 (Or.inr (hw _ (List.mem_of_getElem? (i := 122) rfl))) (ty := (.object "java/lang/String")) (by decide)
  have f1027 : Fld Z h1017 b1017 "com/example/ferryline/ferryline/server/ApiError$Body" "message" "Ljava/lang/String;" .null := D1017 (Or.inr (hw _ (List.mem_of_getElem? (i := 124) rfl))) (ty := (.object "java/lang/String")) (by decide)
  refine Go.step (T' := T1017) (f' := (mkF m 3 #[.val (.ref ba)] [(.ref b1017)])) st1017 ?_
  clear st1017 X0
  refine Go.step (T' := T1017) (f' := (mkF m 4 #[.val (.ref ba)] [(.ref b1017), (.ref b1017)])) (fun t k => XS.dup X1017.here hx rfl (hb hby d14_3) rfl rfl k) ?_
  refine Go.step (T' := T1017) (f' := (mkF m 5 #[.val (.ref ba)] [(.ref ba), (.ref b1017), (.ref b1017)])) (fun t k => XS.aloadN X1017.here hx rfl (hb hby d14_4) rfl rfl k) ?_
  obtain ⟨T1028, X1028, e1028, st1028⟩ := getF X1017 hx hZ hown (host := "") (Or.inl (hw _ (List.mem_of_getElem? (i := 96) rfl))) Via.refl e1017 f1022 (g := (mkF m 5 #[.val (.ref ba)] [(.ref ba), (.ref b1017), (.ref b1017)])) rfl rfl (hb hby d14_5)
  refine Go.step (T' := T1028) (f' := (mkF m 8 #[.val (.ref ba)] [(.ref bc), (.ref b1017), (.ref b1017)])) st1028 ?_
  clear st1028 X1017
  refine Go.step (T' := T1028) (f' := (mkF m 9 #[.val (.ref ba)] [(.ref ba), (.ref bc), (.ref b1017), (.ref b1017)])) (fun t k => XS.aloadN X1028.here hx rfl (hb hby d14_8) rfl rfl k) ?_
  obtain ⟨cq1029, kq1029, q1029a, q1029b, q1029c⟩ := isOf hZ e1028 f1021
  obtain ⟨_, _, ⟨T1029, L1029, k1029, n1029⟩, -, X1029, ⟨Lc1029, hQ1029, l1029, y1029, z1029⟩, st1029⟩ := X1028.virtualBackUp hx (x := (⟨"com/example/ferryline/ferryline/server/ApiError", "getMessage", "()Ljava/lang/String;"⟩ : MethodName)) (y := (⟨"java/lang/Throwable", "getMessage", "()Ljava/lang/String;"⟩ : MethodName)) (owner := "java/lang/Throwable") hown (mvT hZ (hw _ (List.mem_of_getElem? (i := 106) rfl))) (mvT hZ (hw _ (List.mem_of_getElem? (i := 107) rfl))) (mvT hZ (hw _ (List.mem_of_getElem? (i := 108) rfl))) (by decide) (mvT hZ (hw _ (List.mem_of_getElem? (i := 110) rfl))) (mvT hZ (hw _ (List.mem_of_getElem? (i := 109) rfl))) (backOf (W := 3) (rm_gmR l Z a0 hw [] ba bm h1017 n0 O1024 f1023) hZ (hw _ (List.mem_of_getElem? (i := 111) rfl)) (hw _ (List.mem_of_getElem? (i := 55) rfl)) (by decide) (by decide)) q1029a q1029c (g := (mkF m 9 #[.val (.ref ba)] [(.ref ba), (.ref bc), (.ref b1017), (.ref b1017)])) rfl (by rw [hml]; rfl) (Steps.refl _) (argsL := []) (rest := [(.ref bc), (.ref b1017), (.ref b1017)]) (lenOf pd8 rfl) rfl (by show 2 * 0 + _ ≤ _; exact Nat.le_of_eq rfl) (hb hby d14_9) (fun _ _ => ⟨rfl, e1028, (by decide : 1 + 0 ≤ _), (by decide : 2 + 0 ≤ _)⟩)
  dsimp only [Pt.U, Pt.locs, Pt.cells, Pt.slots] at X1029 l1029 y1029 z1029 st1029 hQ1029
  subst l1029 y1029 z1029
  obtain ⟨rfl, Nq1029, hh1029⟩ := hQ1029
  have N1030 := Fr.app N0 Nq1029
  refine Go.via (T' := T1029) (f' := (mkF m 12 #[.val (.ref ba)] [(.ref bm), (.ref bc), (.ref b1017), (.ref b1017)])) st1029 ?_
  clear st1029 X1028 Nq1029
  obtain ⟨_, _, ⟨T1031, L1031, k1031, n1031⟩, -, X1031, ⟨Lc1031, hQ1031, l1031, y1031, z1031⟩, st1031⟩ := X1029.specialBack hx (y := (⟨"com/example/ferryline/ferryline/server/ApiError$Body", "<init>", "(Ljava/lang/String;Ljava/lang/String;)V"⟩ : MethodName)) rfl hown (mvT hZ (hw _ (List.mem_of_getElem? (i := 112) rfl))) (mvT hZ (hw _ (List.mem_of_getElem? (i := 113) rfl))) (mvT hZ (hw _ (List.mem_of_getElem? (i := 114) rfl))) (by decide) (backOf (W := 1) (rm_biniRR l Z a0 hw [] b1017 bc bm .null .null h1017 n0 O1024 A1017 f1026 f1027 g1018) hZ (hw _ (List.mem_of_getElem? (i := 114) rfl)) (hw _ (List.mem_of_getElem? (i := 105) rfl)) (by decide) (by decide)) (g := (mkF m 12 #[.val (.ref ba)] [(.ref bm), (.ref bc), (.ref b1017), (.ref b1017)])) rfl (by rw [hml]; rfl) (Steps.refl _) (a := b1017) (argsL := [(.ref bc), (.ref bm)]) (rest := [(.ref b1017)]) (lenOf pd9 rfl) rfl (by show 2 * 0 + _ ≤ _; exact Nat.le_of_eq rfl) (hb hby d14_12) (fun _ _ => ⟨rfl, hh1029, (by decide : 1 + 0 ≤ _), (by decide : 2 + 0 ≤ _)⟩)
  dsimp only [Pt.U, Pt.locs, Pt.cells, Pt.slots] at X1031 l1031 y1031 z1031 st1031 hQ1031
  subst l1031 y1031 z1031
  obtain ⟨rfl, Nq1031, hh1031, p1032, p1033, p1034⟩ := hQ1031
  have N1035 := Fr.app N1030 Nq1031
  have f1036 := f1021.keep hh1031
  have f1037 := f1022.keep hh1031 (ninS ne1020 nin0)
  have f1038 := f1023.keep hh1031 (ninS ne1020 nin0)
  have f1039 := A1017.keep hh1031
  have O1040 := O1024.keep hh1031 (allS g1018 all0)
  have K1041 := K1025.trans hh1031 (allS (Or.inr g1019) all0)
  refine Go.via (T' := T1031) (f' := (mkF m 15 #[.val (.ref ba)] [(.ref b1017)])) st1031 ?_
  clear st1031 X1029 N1030 Nq1031 f1022 f1023
  refine Go.retA X1031 hx hlk Bd.returns rfl rfl (hb hby d14_15) rfl ?_ (by decide) (by decide)
  exact ⟨b1017, rfl, N1035, K1041, g1019, p1032, p1033, p1034⟩
theorem pd10 : parseMethodDescriptor "(II)Ljava/lang/String;" = some ⟨[.int, .int], some (.object "java/lang/String")⟩ := by decide +kernel
theorem pd11 : parseMethodDescriptor "(ILjava/lang/String;Ljava/lang/String;)V" = some ⟨[.int, (.object "java/lang/String"), (.object "java/lang/String")], none⟩ := by decide +kernel
theorem pd12 : parseMethodDescriptor "()Lcom/example/ferryline/ferryline/server/ApiError$Body;" = some ⟨[], some (.object "com/example/ferryline/ferryline/server/ApiError$Body")⟩ := by decide +kernel
theorem pd13 : parseMethodDescriptor "(Ljava/lang/String;Ljava/lang/String;)Z" = some ⟨[(.object "java/lang/String"), (.object "java/lang/String")], some .boolean⟩ := by decide +kernel
theorem pd14 : parseMethodDescriptor "()I" = some ⟨[], some .int⟩ := by decide +kernel
theorem ef_law (m : MethodId) (ia : Int32) (ib : Int32) (ic : Int32) (ie : Int32) (ig : Int32) : entryFrame m #[(.int ia), (.int ib), (.int ic), (.int ie), (.int ig)] maxLocals = mkF m 0 #[.val (.int ia), .val (.int ib), .val (.int ic), .val (.int ie), .val (.int ig), .unset, .unset, .unset, .unset, .unset] [] := by first | (simp [entryFrame, mkF, argsToLocals, Value.category, maxLocals]; done) | rfl
def Q_law (Z : State) (ia : Int32) (ib : Int32) (ic : Int32) (ie : Int32) (ig : Int32) (wz : Int32) (bu : Addr) (bz : Addr) (h0 : Heap) (n0 : Nat) (v : Option Value) (h : Heap) (L : List Loc) : Prop := v = some (.int (1 : Int32)) ∧ Fr n0 L ∧ Keep h0 h []
set_option maxRecDepth 65536 in
set_option maxHeartbeats 40000000 in
theorem rm_law (l : Launch) (Z : State) (a0 : Array Value) (hw : ∀ d ∈ tables_1, d.before a0 Z = true) (ws : List Jvm.Cond) (ia : Int32) (ib : Int32) (ic : Int32) (ie : Int32) (ig : Int32) (wz : Int32) (bu : Addr) (bz : Addr) (h0 : Heap) (n0 : Nat) (O0 : Old Z n0 h0) (hEL : EW Z a0 own_EL) (P0 : Sta Z Z.heap "java/lang/String" "COMPACT_STRINGS" "Z" (.int wz)) (hwz : ¬ (wz = (0 : Int32))) (P2 : Sta Z Z.heap "java/lang/Throwable" "UNASSIGNED_STACK" "[Ljava/lang/StackTraceElement;" (.ref bu)) (P3 : Sta Z Z.heap "java/lang/Throwable" "SUPPRESSED_SENTINEL" "Ljava/util/List;" (.ref bz)) (htr : l.stackTraces = true) :
    MetFree l x (head1 (Jvm.Cond.code x code maxLocals ret :: ws) room_1) (fun a U => a = #[(.int ia), (.int ib), (.int ic), (.int ie), (.int ig)] ∧ Z.Warmed39 U.vm ∧ U.heap = h0 ∧ CHv Z own_EL U.vm h0) (fun _ _ bl s _ => s.vm.MethodsKnown ∧ s.vm.FramesKnown bl) (fun _ U o U' => ∃ v L, o = .returned v ∧ Q_law Z ia ib ic ie ig wz bu bz h0 n0 v U'.heap L ∧ CHr Z own_EL U.vm U.heap U'.vm U'.heap ∧ ReturnedEndW U o U' L room_1.cells room_1.slots) := by
  refine MetFree.of_bodySF (plainFor_of_name pn_com_example_ferryline_ferryline_server_ApiErrorBodyPinLaw) hisR ?_
  intro p e s m args below meth c s₁ Bd hml0 hP hK
  obtain ⟨rfl, hZ, hh, hC0⟩ := hP
  have hx := Bd.exec
  have hby := Bd.bytes
  have hml : c.maxLocals = 10 := hml0
  have hown : (s.setVm s.vm).vm.findClass "com/example/ferryline/ferryline/server/ApiErrorBodyPinLaw" = some m.cls := findClass_of_methodNamed Bd.named
  have hnm := (name_of_methodNamed Bd.named Bd.method).1
  have hlk : meth.locks = false := BodyLoose.notSynchronized Bd
  have X0 : Stand p l e room_1 (s.setVm s.vm) m #[(.int ia), (.int ib), (.int ic), (.int ie), (.int ig)] below meth c s₁ [] 0 0 := Stand.of_body Bd
  have e0 : s₁.heap = h0 := by rw [← hh, Bd.state]; rfl
  have N0 := Fr.nil n0
  have hZ : Z.Warmed39 (s.setVm s.vm).vm := hZ
  have hS0 : s.Since s.vm 0 := (State.WarmedH.refl s).since 0
  have hk0 : 0 ≤ h0.size := Nat.zero_le _
  have CR0 : CHr Z own_EL s.vm s.heap s.vm h0 := by rw [hh]; exact CHr.refl hC0
  have K0 := Keep.refl h0 []
  rw [ef_law m ia ib ic ie ig]
  show GoH p e below s Z own_EL (fun v h L => Q_law Z ia ib ic ie ig wz bu bz h0 n0 v h L) room_1.cells room_1.slots s₁ (mkF m 0 #[.val (.int ia), .val (.int ib), .val (.int ic), .val (.int ie), .val (.int ig), .unset, .unset, .unset, .unset, .unset] [])
  by_cases hc1042 : (ib &&& (4 : Int32)) = (0 : Int32)
  ·
    refine GoH.step (T' := s₁) (f' := (mkF m 1 #[.val (.int ia), .val (.int ib), .val (.int ic), .val (.int ie), .val (.int ig), .unset, .unset, .unset, .unset, .unset] [(.int ib)])) (fun t k => XS.iloadN X0.here hx rfl (hb hby at_0) rfl k) ?_
    refine GoH.step (T' := s₁) (f' := (mkF m 2 #[.val (.int ia), .val (.int ib), .val (.int ic), .val (.int ie), .val (.int ig), .unset, .unset, .unset, .unset, .unset] [(.int ic), (.int ib)])) (fun t k => XS.iloadN X0.here hx rfl (hb hby at_1) rfl k) ?_
    obtain ⟨_, _, ⟨T1043, L1043, k1043, n1043⟩, -, X1043, hS1043, hg1043, ⟨Lc1043, hQ1043, l1043, y1043, z1043, ch1043⟩, st1043⟩ := callSS X0 hx (y := (⟨"com/example/ferryline/ferryline/server/ApiErrorBodyPinLaw", "draw", "(II)Ljava/lang/String;"⟩ : MethodName)) hown (mvT hZ (hw _ (List.mem_of_getElem? (i := 0) rfl))) (mvT hZ (hw _ (List.mem_of_getElem? (i := 1) rfl))) (mvT hZ (hw _ (List.mem_of_getElem? (i := 2) rfl))) (mvT hZ (hw _ (List.mem_of_getElem? (i := 3) rfl))) (by decide) (backOfSH (s := s) (vm0 := s.vm) (W := 0) (rm_drawS l Z a0 hw [] ib ic wz h0 n0 O0 hEL P0 hwz (hc1042)) hZ (hw _ (List.mem_of_getElem? (i := 3) rfl)) (hw _ (List.mem_of_getElem? (i := 2) rfl)) (by decide) (by decide) hEL CR0.1) (g := (mkF m 2 #[.val (.int ia), .val (.int ib), .val (.int ic), .val (.int ie), .val (.int ig), .unset, .unset, .unset, .unset, .unset] [(.int ic), (.int ib)])) rfl (by rw [hml]; rfl) (argsL := [(.int ib), (.int ic)]) (rest := []) (lenOf pd10 rfl) rfl (by show 2 * 0 + _ ≤ _; exact Nat.le_of_eq rfl) (hb hby at_2) (fun _ _ => ⟨rfl, e0, (by decide : 0 + 6 ≤ _), (by decide : 0 + 12 ≤ _)⟩)
    dsimp only [Pt.U, Pt.locs, Pt.cells, Pt.slots] at X1043 l1043 y1043 z1043 st1043 hQ1043 hS1043 hg1043 ch1043
    subst l1043 y1043 z1043
    obtain ⟨X1043, hS1043, hZ, hown⟩ := rebS (s := s) (vm0 := s.vm) hS0 (show _ ≤ s₁.heap.size by rw [e0]; exact hk0) X1043 hS1043 hg1043 hZ hown
    obtain ⟨u1044, rfl, Nq1043, hh1043, p1045⟩ := hQ1043
    have N1046 := Fr.app N0 Nq1043
    have CR1047 := CR0.trans ch1043
    have hk1048 := Nat.le_refl T1043.heap.size
    have O1049 := O0.keep hh1043 all0
    have K1050 := K0.trans hh1043 all0
    refine GoH.via (T' := T1043) (f' := (mkF m 5 #[.val (.int ia), .val (.int ib), .val (.int ic), .val (.int ie), .val (.int ig), .unset, .unset, .unset, .unset, .unset] [(.ref u1044)])) st1043 ?_
    clear st1043 X0 Nq1043 CR0 hk0 hS0
    refine GoH.step (T' := T1043) (f' := (mkF m 7 #[.val (.int ia), .val (.int ib), .val (.int ic), .val (.int ie), .val (.int ig), .val (.ref u1044), .unset, .unset, .unset, .unset] [])) (fun t k => XS.astore X1043.here hx rfl (hb hby at_5) rfl rfl (l' := #[.val (.int ia), .val (.int ib), .val (.int ic), .val (.int ie), .val (.int ig), .val (.ref u1044), .unset, .unset, .unset, .unset]) rfl k) ?_
    by_cases hc1051 : (ie &&& (4 : Int32)) = (0 : Int32)
    ·
      refine GoH.step (T' := T1043) (f' := (mkF m 8 #[.val (.int ia), .val (.int ib), .val (.int ic), .val (.int ie), .val (.int ig), .val (.ref u1044), .unset, .unset, .unset, .unset] [(.int ie)])) (fun t k => XS.iloadN X1043.here hx rfl (hb hby at_7) rfl k) ?_
      refine GoH.step (T' := T1043) (f' := (mkF m 10 #[.val (.int ia), .val (.int ib), .val (.int ic), .val (.int ie), .val (.int ig), .val (.ref u1044), .unset, .unset, .unset, .unset] [(.int ig), (.int ie)])) (fun t k => XS.iload X1043.here hx rfl (hb hby at_8) rfl k) ?_
      obtain ⟨_, _, ⟨T1052, L1052, k1052, n1052⟩, -, X1052, hS1052, hg1052, ⟨Lc1052, hQ1052, l1052, y1052, z1052, ch1052⟩, st1052⟩ := callSS X1043 hx (y := (⟨"com/example/ferryline/ferryline/server/ApiErrorBodyPinLaw", "draw", "(II)Ljava/lang/String;"⟩ : MethodName)) hown (mvT hZ (hw _ (List.mem_of_getElem? (i := 0) rfl))) (mvT hZ (hw _ (List.mem_of_getElem? (i := 1) rfl))) (mvT hZ (hw _ (List.mem_of_getElem? (i := 2) rfl))) (mvT hZ (hw _ (List.mem_of_getElem? (i := 3) rfl))) (by decide) (backOfSH (s := s) (vm0 := T1043.vm) (W := 0) (rm_drawS l Z a0 hw [] ie ig wz T1043.heap n0 O1049 hEL P0 hwz (hc1051)) hZ (hw _ (List.mem_of_getElem? (i := 3) rfl)) (hw _ (List.mem_of_getElem? (i := 2) rfl)) (by decide) (by decide) hEL CR1047.1) (g := (mkF m 10 #[.val (.int ia), .val (.int ib), .val (.int ic), .val (.int ie), .val (.int ig), .val (.ref u1044), .unset, .unset, .unset, .unset] [(.int ig), (.int ie)])) rfl (by rw [hml]; rfl) (argsL := [(.int ie), (.int ig)]) (rest := []) (lenOf pd10 rfl) rfl (by show 2 * 0 + _ ≤ _; exact Nat.le_of_eq rfl) (hb hby at_10) (fun _ _ => ⟨rfl, rfl, (by decide : 6 + 6 ≤ _), (by decide : 12 + 12 ≤ _)⟩)
      dsimp only [Pt.U, Pt.locs, Pt.cells, Pt.slots] at X1052 l1052 y1052 z1052 st1052 hQ1052 hS1052 hg1052 ch1052
      subst l1052 y1052 z1052
      obtain ⟨X1052, hS1052, hZ, hown⟩ := rebS (s := s) (vm0 := T1043.vm) hS1043 (show _ ≤ T1043.heap.size by exact hk1048) X1052 hS1052 hg1052 hZ hown
      obtain ⟨u1053, rfl, Nq1052, hh1052, p1054⟩ := hQ1052
      have N1055 := Fr.app N1046 Nq1052
      have CR1056 := CR1047.trans ch1052
      have hk1057 := Nat.le_refl T1052.heap.size
      have f1058 := p1045.keep hh1052
      have O1059 := O1049.keep hh1052 all0
      have K1060 := K1050.trans hh1052 all0
      refine GoH.via (T' := T1052) (f' := (mkF m 13 #[.val (.int ia), .val (.int ib), .val (.int ic), .val (.int ie), .val (.int ig), .val (.ref u1044), .unset, .unset, .unset, .unset] [(.ref u1053)])) st1052 ?_
      clear st1052 X1043 N1046 Nq1052 CR1047 hk1048 hS1043
      refine GoH.step (T' := T1052) (f' := (mkF m 15 #[.val (.int ia), .val (.int ib), .val (.int ic), .val (.int ie), .val (.int ig), .val (.ref u1044), .val (.ref u1053), .unset, .unset, .unset] [])) (fun t k => XS.astore X1052.here hx rfl (hb hby at_13) rfl rfl (l' := #[.val (.int ia), .val (.int ib), .val (.int ic), .val (.int ie), .val (.int ig), .val (.ref u1044), .val (.ref u1053), .unset, .unset, .unset]) rfl k) ?_
      obtain ⟨T1061, h1061, X1061, e1061, E1061, A1061, D1061, U1061, st1061⟩ := newO X1052 hx hZ hown (hw _ (List.mem_of_getElem? (i := 34) rfl)) (hw _ (List.mem_of_getElem? (i := 35) rfl)) (hw _ (List.mem_of_getElem? (i := 36) rfl)) rfl (g := (mkF m 15 #[.val (.int ia), .val (.int ib), .val (.int ic), .val (.int ie), .val (.int ig), .val (.ref u1044), .val (.ref u1053), .unset, .unset, .unset] [])) rfl (hb hby at_15) (by decide) (by decide)
      obtain ⟨b1061, g1061⟩ : ∃ z, z = T1052.heap.size := ⟨_, rfl⟩
      rw [← g1061] at A1061 D1061 U1061 st1061
      have g1062 : n0 ≤ b1061 := Nat.le_trans (own_old_le O1059) (Nat.le_of_eq g1061.symm)
      have g1063 : h0.size ≤ b1061 := Nat.le_trans K1060.1 (Nat.le_of_eq g1061.symm)
      have ne1064 : u1044 ≠ b1061 := Nat.ne_of_lt (Nat.lt_of_lt_of_le f1058.lt (Nat.le_of_eq g1061.symm))
      have ne1065 : u1053 ≠ b1061 := Nat.ne_of_lt (Nat.lt_of_lt_of_le p1054.lt (Nat.le_of_eq g1061.symm))
      have CR1066 := CR1056.trans (CHr.ext E1061 CR1056.1)
      have hk1067 := Nat.le_trans hk1057 E1061.1
      have f1068 := f1058.ext E1061
      have f1069 := p1054.ext E1061
      have O1070 := O1059.ext E1061
      have K1071 := K1060.ext E1061
      have f1072 : Fld Z h1061 b1061 "java/lang/Throwable" "cause" "Ljava/lang/Throwable;" .null := D1061 (Or.inl (hw _ (List.mem_of_getElem? (i := 59) rfl))) (ty := (.object "java/lang/Throwable")) (by decide)
      have f1073 : Fld Z h1061 b1061 "java/lang/Throwable" "stackTrace" "[Ljava/lang/StackTraceElement;" .null := D1061 (Or.inl (hw _ (List.mem_of_getElem? (i := 62) rfl))) (ty := (.array (.object "java/lang/StackTraceElement"))) (by decide)
      have f1074 : Fld Z h1061 b1061 "java/lang/Throwable" "suppressedExceptions" "Ljava/util/List;" .null := D1061 (Or.inl (hw _ (List.mem_of_getElem? (i := 65) rfl))) (ty := (.object "java/util/List")) (by decide)
      have f1075 : Fld Z h1061 b1061 "java/lang/Throwable" "detailMessage" "Ljava/lang/String;" .null := D1061 (Or.inl (hw _ (List.mem_of_getElem? (i := 89) rfl))) (ty := (.object "java/lang/String")) (by decide)
      have f1076 : Fld Z h1061 b1061 "java/lang/Throwable" "backtrace" "Ljava/lang/Object;" .null := D1061 (Or.inl (hw _ (List.mem_of_getElem? (i := 90) rfl))) (ty := (.object "java/lang/Object")) (by decide)
      have f1077 : Fld Z h1061 b1061 "java/lang/Throwable" "depth" "I" (.int (0 : Int32)) := D1061 (Or.inl (hw _ (List.mem_of_getElem? (i := 91) rfl))) (ty := .int) (by decide)
      have f1078 : Fld Z h1061 b1061 "com/example/ferryline/ferryline/server/ApiError" "status" "I" (.int (0 : Int32)) := D1061 (Or.inr (hw _ (List.mem_of_getElem? (i := 95) rfl))) (ty := .int) (by decide)
      have f1079 : Fld Z h1061 b1061 "com/example/ferryline/ferryline/server/ApiError" "code" "Ljava/lang/String;" .null := D1061 (Or.inr (hw _ (List.mem_of_getElem? (i := 97) rfl))) (ty := (.object "java/lang/String")) (by decide)
      refine GoH.step (T' := T1061) (f' := (mkF m 18 #[.val (.int ia), .val (.int ib), .val (.int ic), .val (.int ie), .val (.int ig), .val (.ref u1044), .val (.ref u1053), .unset, .unset, .unset] [(.ref b1061)])) st1061 ?_
      clear st1061 X1052 CR1056 hk1057 f1058 p1054 O1059 K1060
      refine GoH.step (T' := T1061) (f' := (mkF m 19 #[.val (.int ia), .val (.int ib), .val (.int ic), .val (.int ie), .val (.int ig), .val (.ref u1044), .val (.ref u1053), .unset, .unset, .unset] [(.ref b1061), (.ref b1061)])) (fun t k => XS.dup X1061.here hx rfl (hb hby at_18) rfl rfl k) ?_
      refine GoH.step (T' := T1061) (f' := (mkF m 20 #[.val (.int ia), .val (.int ib), .val (.int ic), .val (.int ie), .val (.int ig), .val (.ref u1044), .val (.ref u1053), .unset, .unset, .unset] [(.int ia), (.ref b1061), (.ref b1061)])) (fun t k => XS.iloadN X1061.here hx rfl (hb hby at_19) rfl k) ?_
      refine GoH.step (T' := T1061) (f' := (mkF m 22 #[.val (.int ia), .val (.int ib), .val (.int ic), .val (.int ie), .val (.int ig), .val (.ref u1044), .val (.ref u1053), .unset, .unset, .unset] [(.ref u1044), (.int ia), (.ref b1061), (.ref b1061)])) (fun t k => XS.aload X1061.here hx rfl (hb hby at_20) rfl rfl k) ?_
      refine GoH.step (T' := T1061) (f' := (mkF m 24 #[.val (.int ia), .val (.int ib), .val (.int ic), .val (.int ie), .val (.int ig), .val (.ref u1044), .val (.ref u1053), .unset, .unset, .unset] [(.ref u1053), (.ref u1044), (.int ia), (.ref b1061), (.ref b1061)])) (fun t k => XS.aload X1061.here hx rfl (hb hby at_22) rfl rfl k) ?_
      obtain ⟨_, _, ⟨T1080, L1080, k1080, n1080⟩, -, X1080, ⟨Lc1080, hQ1080, l1080, y1080, z1080⟩, st1080⟩ := X1061.specialBack hx (y := (⟨"com/example/ferryline/ferryline/server/ApiError", "<init>", "(ILjava/lang/String;Ljava/lang/String;)V"⟩ : MethodName)) rfl hown (mvT hZ (hw _ (List.mem_of_getElem? (i := 37) rfl))) (mvT hZ (hw _ (List.mem_of_getElem? (i := 38) rfl))) (mvT hZ (hw _ (List.mem_of_getElem? (i := 39) rfl))) (by decide) (backOfKL (W := 1) (rm_aeiRR l Z a0 hw [] b1061 ia u1044 u1053 (.int (0 : Int32)) .null bu bz h1061 n0 O1070 A1061 f1072 f1073 f1074 f1076 f1075 f1078 f1079 g1062 U1061 P2 P3 htr) hZ (hw _ (List.mem_of_getElem? (i := 39) rfl)) (hw _ (List.mem_of_getElem? (i := 36) rfl)) (by decide) (by decide) (Vm.MethodsKnown.alikeC hS1052.1.alike hK.1) (Vm.FramesKnown.alikeC hS1052.1.alike hK.2)) (g := (mkF m 24 #[.val (.int ia), .val (.int ib), .val (.int ic), .val (.int ie), .val (.int ig), .val (.ref u1044), .val (.ref u1053), .unset, .unset, .unset] [(.ref u1053), (.ref u1044), (.int ia), (.ref b1061), (.ref b1061)])) rfl (by rw [hml]; rfl) (Steps.refl _) (a := b1061) (argsL := [(.int ia), (.ref u1044), (.ref u1053)]) (rest := [(.ref b1061)]) (lenOf pd11 rfl) rfl (by show 2 * 0 + _ ≤ _; exact Nat.le_of_eq rfl) (hb hby at_24) (fun _ _ => ⟨rfl, e1061, (by decide : 13 + 1 ≤ _), (by decide : 32 + 2752 ≤ _)⟩)
      dsimp only [Pt.U, Pt.locs, Pt.cells, Pt.slots] at X1080 l1080 y1080 z1080 st1080 hQ1080
      subst l1080 y1080 z1080
      obtain ⟨rfl, Nq1080, hh1080, p1081, p1082, p1083, p1084⟩ := hQ1080
      have N1085 := Fr.app N1055 Nq1080
      have sz1086 : ∀ x ∈ [b1061], Safe Z own_EL T1052.vm h1061 x := (sfS (Safe.exa (EL := own_EL) hZ.alike A1061 (by decide) (by decide)) sf0)
      have CR1087 := CR1066.trans (CHr.keep hh1080 sz1086 CR1066.1)
      have hk1088 := Nat.le_trans hk1067 hh1080.1
      have f1089 := f1068.keep hh1080
      have f1090 := f1069.keep hh1080
      have f1091 := A1061.keep hh1080
      have O1092 := O1070.keep hh1080 (allS g1062 all0)
      have K1093 := K1071.trans hh1080 (allS (Or.inr g1063) all0)
      refine GoH.via (T' := T1080) (f' := (mkF m 27 #[.val (.int ia), .val (.int ib), .val (.int ic), .val (.int ie), .val (.int ig), .val (.ref u1044), .val (.ref u1053), .unset, .unset, .unset] [(.ref b1061)])) st1080 ?_
      clear st1080 X1061 N1055 Nq1080 CR1066 hk1067 sz1086
      refine GoH.step (T' := T1080) (f' := (mkF m 29 #[.val (.int ia), .val (.int ib), .val (.int ic), .val (.int ie), .val (.int ig), .val (.ref u1044), .val (.ref u1053), .val (.ref b1061), .unset, .unset] [])) (fun t k => XS.astore X1080.here hx rfl (hb hby at_27) rfl rfl (l' := #[.val (.int ia), .val (.int ib), .val (.int ic), .val (.int ie), .val (.int ig), .val (.ref u1044), .val (.ref u1053), .val (.ref b1061), .unset, .unset]) rfl k) ?_
      refine GoH.step (T' := T1080) (f' := (mkF m 31 #[.val (.int ia), .val (.int ib), .val (.int ic), .val (.int ie), .val (.int ig), .val (.ref u1044), .val (.ref u1053), .val (.ref b1061), .unset, .unset] [(.ref b1061)])) (fun t k => XS.aload X1080.here hx rfl (hb hby at_29) rfl rfl k) ?_
      obtain ⟨cq1094, kq1094, q1094a, q1094b, q1094c⟩ := isOf hZ rfl p1081
      obtain ⟨_, _, ⟨T1094, L1094, k1094, n1094⟩, -, X1094, ⟨Lc1094, hQ1094, l1094, y1094, z1094⟩, st1094⟩ := X1080.virtualBack hx (y := (⟨"com/example/ferryline/ferryline/server/ApiError", "body", "()Lcom/example/ferryline/ferryline/server/ApiError$Body;"⟩ : MethodName)) (z := (⟨"com/example/ferryline/ferryline/server/ApiError", "body", "()Lcom/example/ferryline/ferryline/server/ApiError$Body;"⟩ : MethodName)) hown (mvT hZ (hw _ (List.mem_of_getElem? (i := 98) rfl))) (mvT hZ (hw _ (List.mem_of_getElem? (i := 99) rfl))) (notFace_of_selects (args := #[]) (mvT hZ (hw _ (List.mem_of_getElem? (i := 101) rfl)))) (mvT hZ (hw _ (List.mem_of_getElem? (i := 101) rfl))) (mvT hZ (hw _ (List.mem_of_getElem? (i := 100) rfl))) (by decide) (backOf (W := 0) (rm_bodyRR l Z a0 hw [] b1061 u1044 u1053 T1080.heap n0 O1092 p1081 p1083 p1084) hZ (hw _ (List.mem_of_getElem? (i := 102) rfl)) (hw _ (List.mem_of_getElem? (i := 36) rfl)) (by decide) (by decide)) q1094a q1094c (g := (mkF m 31 #[.val (.int ia), .val (.int ib), .val (.int ic), .val (.int ie), .val (.int ig), .val (.ref u1044), .val (.ref u1053), .val (.ref b1061), .unset, .unset] [(.ref b1061)])) rfl (by rw [hml]; rfl) (Steps.refl _) (argsL := []) (rest := []) (lenOf pd12 rfl) rfl (by show 2 * 0 + _ ≤ _; exact Nat.le_of_eq rfl) (hb hby at_31) (fun _ _ => ⟨rfl, rfl, (by decide : 14 + 1 ≤ _), (by decide : 2784 + 2 ≤ _)⟩)
      dsimp only [Pt.U, Pt.locs, Pt.cells, Pt.slots] at X1094 l1094 y1094 z1094 st1094 hQ1094
      subst l1094 y1094 z1094
      obtain ⟨u1095, rfl, Nq1094, hh1094, p1096, p1097, p1098, p1099⟩ := hQ1094
      have N1100 := Fr.app N1085 Nq1094
      have sz1101 : ∀ x ∈ ([] : List Addr), Safe Z own_EL T1052.vm T1080.heap x := sf0
      have CR1102 := CR1087.trans (CHr.keep hh1094 sz1101 CR1087.1)
      have hk1103 := Nat.le_trans hk1088 hh1094.1
      have f1104 := f1089.keep hh1094
      have f1105 := f1090.keep hh1094
      have f1106 := p1081.keep hh1094
      have f1107 := p1082.keep hh1094 nin0
      have f1108 := p1083.keep hh1094 nin0
      have f1109 := p1084.keep hh1094 nin0
      have O1110 := O1092.keep hh1094 all0
      have K1111 := K1093.trans hh1094 all0
      have g1112 : n0 ≤ u1095 := Nat.le_trans (own_old_le O1092) p1096
      have g1113 : h0.size ≤ u1095 := Nat.le_trans K1093.1 p1096
      have ne1114 : u1044 ≠ u1095 := Nat.ne_of_lt (Nat.lt_of_lt_of_le f1089.lt p1096)
      have ne1115 : u1053 ≠ u1095 := Nat.ne_of_lt (Nat.lt_of_lt_of_le f1090.lt p1096)
      have ne1116 : b1061 ≠ u1095 := Nat.ne_of_lt (Nat.lt_of_lt_of_le p1081.lt p1096)
      refine GoH.via (T' := T1094) (f' := (mkF m 34 #[.val (.int ia), .val (.int ib), .val (.int ic), .val (.int ie), .val (.int ig), .val (.ref u1044), .val (.ref u1053), .val (.ref b1061), .unset, .unset] [(.ref u1095)])) st1094 ?_
      clear st1094 X1080 N1085 Nq1094 CR1087 hk1088 sz1101 p1082 p1083 p1084
      refine GoH.step (T' := T1094) (f' := (mkF m 36 #[.val (.int ia), .val (.int ib), .val (.int ic), .val (.int ie), .val (.int ig), .val (.ref u1044), .val (.ref u1053), .val (.ref b1061), .val (.ref u1095), .unset] [])) (fun t k => XS.astore X1094.here hx rfl (hb hby at_34) rfl rfl (l' := #[.val (.int ia), .val (.int ib), .val (.int ic), .val (.int ie), .val (.int ig), .val (.ref u1044), .val (.ref u1053), .val (.ref b1061), .val (.ref u1095), .unset]) rfl k) ?_
      refine GoH.step (T' := T1094) (f' := (mkF m 38 #[.val (.int ia), .val (.int ib), .val (.int ic), .val (.int ie), .val (.int ig), .val (.ref u1044), .val (.ref u1053), .val (.ref b1061), .val (.ref u1095), .unset] [(.ref b1061)])) (fun t k => XS.aload X1094.here hx rfl (hb hby at_36) rfl rfl k) ?_
      obtain ⟨cq1117, kq1117, q1117a, q1117b, q1117c⟩ := isOf hZ rfl f1106
      obtain ⟨_, _, ⟨T1117, L1117, k1117, n1117⟩, -, X1117, ⟨Lc1117, hQ1117, l1117, y1117, z1117⟩, st1117⟩ := X1094.virtualBack hx (y := (⟨"com/example/ferryline/ferryline/server/ApiError", "body", "()Lcom/example/ferryline/ferryline/server/ApiError$Body;"⟩ : MethodName)) (z := (⟨"com/example/ferryline/ferryline/server/ApiError", "body", "()Lcom/example/ferryline/ferryline/server/ApiError$Body;"⟩ : MethodName)) hown (mvT hZ (hw _ (List.mem_of_getElem? (i := 98) rfl))) (mvT hZ (hw _ (List.mem_of_getElem? (i := 99) rfl))) (notFace_of_selects (args := #[]) (mvT hZ (hw _ (List.mem_of_getElem? (i := 101) rfl)))) (mvT hZ (hw _ (List.mem_of_getElem? (i := 101) rfl))) (mvT hZ (hw _ (List.mem_of_getElem? (i := 100) rfl))) (by decide) (backOf (W := 0) (rm_bodyRR l Z a0 hw [] b1061 u1044 u1053 T1094.heap n0 O1110 f1106 f1108 f1109) hZ (hw _ (List.mem_of_getElem? (i := 102) rfl)) (hw _ (List.mem_of_getElem? (i := 36) rfl)) (by decide) (by decide)) q1117a q1117c (g := (mkF m 38 #[.val (.int ia), .val (.int ib), .val (.int ic), .val (.int ie), .val (.int ig), .val (.ref u1044), .val (.ref u1053), .val (.ref b1061), .val (.ref u1095), .unset] [(.ref b1061)])) rfl (by rw [hml]; rfl) (Steps.refl _) (argsL := []) (rest := []) (lenOf pd12 rfl) rfl (by show 2 * 0 + _ ≤ _; exact Nat.le_of_eq rfl) (hb hby at_38) (fun _ _ => ⟨rfl, rfl, (by decide : 15 + 1 ≤ _), (by decide : 2786 + 2 ≤ _)⟩)
      dsimp only [Pt.U, Pt.locs, Pt.cells, Pt.slots] at X1117 l1117 y1117 z1117 st1117 hQ1117
      subst l1117 y1117 z1117
      obtain ⟨u1118, rfl, Nq1117, hh1117, p1119, p1120, p1121, p1122⟩ := hQ1117
      have N1123 := Fr.app N1100 Nq1117
      have sz1124 : ∀ x ∈ ([] : List Addr), Safe Z own_EL T1052.vm T1094.heap x := sf0
      have CR1125 := CR1102.trans (CHr.keep hh1117 sz1124 CR1102.1)
      have hk1126 := Nat.le_trans hk1103 hh1117.1
      have f1127 := f1104.keep hh1117
      have f1128 := f1105.keep hh1117
      have f1129 := f1106.keep hh1117
      have f1130 := f1107.keep hh1117 nin0
      have f1131 := f1108.keep hh1117 nin0
      have f1132 := f1109.keep hh1117 nin0
      have f1133 := p1097.keep hh1117
      have f1134 := p1098.keep hh1117 nin0
      have f1135 := p1099.keep hh1117 nin0
      have O1136 := O1110.keep hh1117 all0
      have K1137 := K1111.trans hh1117 all0
      have g1138 : n0 ≤ u1118 := Nat.le_trans (own_old_le O1110) p1119
      have g1139 : h0.size ≤ u1118 := Nat.le_trans K1111.1 p1119
      have ne1140 : u1044 ≠ u1118 := Nat.ne_of_lt (Nat.lt_of_lt_of_le f1104.lt p1119)
      have ne1141 : u1053 ≠ u1118 := Nat.ne_of_lt (Nat.lt_of_lt_of_le f1105.lt p1119)
      have ne1142 : b1061 ≠ u1118 := Nat.ne_of_lt (Nat.lt_of_lt_of_le f1106.lt p1119)
      have ne1143 : u1095 ≠ u1118 := Nat.ne_of_lt (Nat.lt_of_lt_of_le p1097.lt p1119)
      refine GoH.via (T' := T1117) (f' := (mkF m 41 #[.val (.int ia), .val (.int ib), .val (.int ic), .val (.int ie), .val (.int ig), .val (.ref u1044), .val (.ref u1053), .val (.ref b1061), .val (.ref u1095), .unset] [(.ref u1118)])) st1117 ?_
      clear st1117 X1094 N1100 Nq1117 CR1102 hk1103 sz1124 f1107 f1108 f1109 p1098 p1099
      refine GoH.step (T' := T1117) (f' := (mkF m 43 #[.val (.int ia), .val (.int ib), .val (.int ic), .val (.int ie), .val (.int ig), .val (.ref u1044), .val (.ref u1053), .val (.ref b1061), .val (.ref u1095), .val (.ref u1118)] [])) (fun t k => XS.astore X1117.here hx rfl (hb hby at_41) rfl rfl (l' := #[.val (.int ia), .val (.int ib), .val (.int ic), .val (.int ie), .val (.int ig), .val (.ref u1044), .val (.ref u1053), .val (.ref b1061), .val (.ref u1095), .val (.ref u1118)]) rfl k) ?_
      refine GoH.step (T' := T1117) (f' := (mkF m 45 #[.val (.int ia), .val (.int ib), .val (.int ic), .val (.int ie), .val (.int ig), .val (.ref u1044), .val (.ref u1053), .val (.ref b1061), .val (.ref u1095), .val (.ref u1118)] [(.ref u1095)])) (fun t k => XS.aload X1117.here hx rfl (hb hby at_43) rfl rfl k) ?_
      obtain ⟨cq1144, kq1144, q1144a, q1144b, q1144c⟩ := isOf hZ rfl f1133
      obtain ⟨_, _, ⟨T1144, L1144, k1144, n1144⟩, -, X1144, ⟨Lc1144, hQ1144, l1144, y1144, z1144⟩, st1144⟩ := X1117.virtualBack hx (y := (⟨"com/example/ferryline/ferryline/server/ApiError$Body", "error", "()Ljava/lang/String;"⟩ : MethodName)) (z := (⟨"com/example/ferryline/ferryline/server/ApiError$Body", "error", "()Ljava/lang/String;"⟩ : MethodName)) hown (mvT hZ (hw _ (List.mem_of_getElem? (i := 125) rfl))) (mvT hZ (hw _ (List.mem_of_getElem? (i := 126) rfl))) (notFace_of_selects (args := #[]) (mvT hZ (hw _ (List.mem_of_getElem? (i := 128) rfl)))) (mvT hZ (hw _ (List.mem_of_getElem? (i := 128) rfl))) (mvT hZ (hw _ (List.mem_of_getElem? (i := 127) rfl))) (by decide) (backOf (W := 0) (rm_errR l Z a0 hw [] u1095 u1044 T1117.heap n0 O1136 f1134) hZ (hw _ (List.mem_of_getElem? (i := 129) rfl)) (hw _ (List.mem_of_getElem? (i := 105) rfl)) (by decide) (by decide)) q1144a q1144c (g := (mkF m 45 #[.val (.int ia), .val (.int ib), .val (.int ic), .val (.int ie), .val (.int ig), .val (.ref u1044), .val (.ref u1053), .val (.ref b1061), .val (.ref u1095), .val (.ref u1118)] [(.ref u1095)])) rfl (by rw [hml]; rfl) (Steps.refl _) (argsL := []) (rest := []) (lenOf pd8 rfl) rfl (by show 2 * 0 + _ ≤ _; exact Nat.le_of_eq rfl) (hb hby at_45) (fun _ _ => ⟨rfl, rfl, (by decide : 16 + 0 ≤ _), (by decide : 2788 + 0 ≤ _)⟩)
      dsimp only [Pt.U, Pt.locs, Pt.cells, Pt.slots] at X1144 l1144 y1144 z1144 st1144 hQ1144
      subst l1144 y1144 z1144
      obtain ⟨rfl, Nq1144, hh1144⟩ := hQ1144
      have N1145 := Fr.app N1123 Nq1144
      refine GoH.via (T' := T1144) (f' := (mkF m 48 #[.val (.int ia), .val (.int ib), .val (.int ic), .val (.int ie), .val (.int ig), .val (.ref u1044), .val (.ref u1053), .val (.ref b1061), .val (.ref u1095), .val (.ref u1118)] [(.ref u1044)])) st1144 ?_
      clear st1144 X1117 N1123 Nq1144
      refine GoH.step (T' := T1144) (f' := (mkF m 50 #[.val (.int ia), .val (.int ib), .val (.int ic), .val (.int ie), .val (.int ig), .val (.ref u1044), .val (.ref u1053), .val (.ref b1061), .val (.ref u1095), .val (.ref u1118)] [(.ref u1044), (.ref u1044)])) (fun t k => XS.aload X1144.here hx rfl (hb hby at_48) rfl rfl k) ?_
      obtain ⟨_, _, ⟨T1146, L1146, k1146, n1146⟩, -, X1146, ⟨Lc1146, hQ1146, l1146, y1146, z1146⟩, st1146⟩ := Jvm.LawKit.callS X1144 hx (y := (⟨"com/example/ferryline/ferryline/server/ApiErrorBodyPinLaw", "same", "(Ljava/lang/String;Ljava/lang/String;)Z"⟩ : MethodName)) hown (mvT hZ (hw _ (List.mem_of_getElem? (i := 130) rfl))) (mvT hZ (hw _ (List.mem_of_getElem? (i := 131) rfl))) (mvT hZ (hw _ (List.mem_of_getElem? (i := 2) rfl))) (mvT hZ (hw _ (List.mem_of_getElem? (i := 132) rfl))) (by decide) (backOf (W := 0) (rm_sameR l Z a0 hw [] u1044 T1117.heap n0 O1136 f1127) hZ (hw _ (List.mem_of_getElem? (i := 132) rfl)) (hw _ (List.mem_of_getElem? (i := 2) rfl)) (by decide) (by decide)) (g := (mkF m 50 #[.val (.int ia), .val (.int ib), .val (.int ic), .val (.int ie), .val (.int ig), .val (.ref u1044), .val (.ref u1053), .val (.ref b1061), .val (.ref u1095), .val (.ref u1118)] [(.ref u1044), (.ref u1044)])) rfl (by rw [hml]; rfl) (argsL := [(.ref u1044), (.ref u1044)]) (rest := []) (lenOf pd13 rfl) rfl (by show 2 * 0 + _ ≤ _; exact Nat.le_of_eq rfl) (hb hby at_50) (fun _ _ => ⟨rfl, hh1144, (by decide : 16 + 0 ≤ _), (by decide : 2788 + 0 ≤ _)⟩)
      dsimp only [Pt.U, Pt.locs, Pt.cells, Pt.slots] at X1146 l1146 y1146 z1146 st1146 hQ1146
      subst l1146 y1146 z1146
      obtain ⟨rfl, Nq1146, hh1146⟩ := hQ1146
      have N1147 := Fr.app N1145 Nq1146
      refine GoH.step (T' := T1146) (f' := (mkF m 53 #[.val (.int ia), .val (.int ib), .val (.int ic), .val (.int ie), .val (.int ig), .val (.ref u1044), .val (.ref u1053), .val (.ref b1061), .val (.ref u1095), .val (.ref u1118)] [(.int (1 : Int32))])) st1146 ?_
      clear st1146 X1144 N1145 Nq1146
      refine GoH.step (T' := T1146) (f' := (mkF m 56 #[.val (.int ia), .val (.int ib), .val (.int ic), .val (.int ie), .val (.int ig), .val (.ref u1044), .val (.ref u1053), .val (.ref b1061), .val (.ref u1095), .val (.ref u1118)] [])) (fun t k => XS.ifNo X1146.here hx rfl (hb hby at_53) rfl ((if0 _ _).trans (feq (by decide : ¬ ((1 : Int32) = (0 : Int32)))).1) k) ?_
      refine GoH.step (T' := T1146) (f' := (mkF m 58 #[.val (.int ia), .val (.int ib), .val (.int ic), .val (.int ie), .val (.int ig), .val (.ref u1044), .val (.ref u1053), .val (.ref b1061), .val (.ref u1095), .val (.ref u1118)] [(.ref u1095)])) (fun t k => XS.aload X1146.here hx rfl (hb hby at_56) rfl rfl k) ?_
      obtain ⟨cq1148, kq1148, q1148a, q1148b, q1148c⟩ := isOf hZ hh1146 f1133
      obtain ⟨_, _, ⟨T1148, L1148, k1148, n1148⟩, -, X1148, ⟨Lc1148, hQ1148, l1148, y1148, z1148⟩, st1148⟩ := X1146.virtualBack hx (y := (⟨"com/example/ferryline/ferryline/server/ApiError$Body", "message", "()Ljava/lang/String;"⟩ : MethodName)) (z := (⟨"com/example/ferryline/ferryline/server/ApiError$Body", "message", "()Ljava/lang/String;"⟩ : MethodName)) hown (mvT hZ (hw _ (List.mem_of_getElem? (i := 138) rfl))) (mvT hZ (hw _ (List.mem_of_getElem? (i := 139) rfl))) (notFace_of_selects (args := #[]) (mvT hZ (hw _ (List.mem_of_getElem? (i := 141) rfl)))) (mvT hZ (hw _ (List.mem_of_getElem? (i := 141) rfl))) (mvT hZ (hw _ (List.mem_of_getElem? (i := 140) rfl))) (by decide) (backOf (W := 0) (rm_msgR l Z a0 hw [] u1095 u1053 T1117.heap n0 O1136 f1135) hZ (hw _ (List.mem_of_getElem? (i := 142) rfl)) (hw _ (List.mem_of_getElem? (i := 105) rfl)) (by decide) (by decide)) q1148a q1148c (g := (mkF m 58 #[.val (.int ia), .val (.int ib), .val (.int ic), .val (.int ie), .val (.int ig), .val (.ref u1044), .val (.ref u1053), .val (.ref b1061), .val (.ref u1095), .val (.ref u1118)] [(.ref u1095)])) rfl (by rw [hml]; rfl) (Steps.refl _) (argsL := []) (rest := []) (lenOf pd8 rfl) rfl (by show 2 * 0 + _ ≤ _; exact Nat.le_of_eq rfl) (hb hby at_58) (fun _ _ => ⟨rfl, hh1146, (by decide : 16 + 0 ≤ _), (by decide : 2788 + 0 ≤ _)⟩)
      dsimp only [Pt.U, Pt.locs, Pt.cells, Pt.slots] at X1148 l1148 y1148 z1148 st1148 hQ1148
      subst l1148 y1148 z1148
      obtain ⟨rfl, Nq1148, hh1148⟩ := hQ1148
      have N1149 := Fr.app N1147 Nq1148
      refine GoH.via (T' := T1148) (f' := (mkF m 61 #[.val (.int ia), .val (.int ib), .val (.int ic), .val (.int ie), .val (.int ig), .val (.ref u1044), .val (.ref u1053), .val (.ref b1061), .val (.ref u1095), .val (.ref u1118)] [(.ref u1053)])) st1148 ?_
      clear st1148 X1146 N1147 Nq1148
      refine GoH.step (T' := T1148) (f' := (mkF m 63 #[.val (.int ia), .val (.int ib), .val (.int ic), .val (.int ie), .val (.int ig), .val (.ref u1044), .val (.ref u1053), .val (.ref b1061), .val (.ref u1095), .val (.ref u1118)] [(.ref u1053), (.ref u1053)])) (fun t k => XS.aload X1148.here hx rfl (hb hby at_61) rfl rfl k) ?_
      obtain ⟨_, _, ⟨T1150, L1150, k1150, n1150⟩, -, X1150, ⟨Lc1150, hQ1150, l1150, y1150, z1150⟩, st1150⟩ := Jvm.LawKit.callS X1148 hx (y := (⟨"com/example/ferryline/ferryline/server/ApiErrorBodyPinLaw", "same", "(Ljava/lang/String;Ljava/lang/String;)Z"⟩ : MethodName)) hown (mvT hZ (hw _ (List.mem_of_getElem? (i := 130) rfl))) (mvT hZ (hw _ (List.mem_of_getElem? (i := 131) rfl))) (mvT hZ (hw _ (List.mem_of_getElem? (i := 2) rfl))) (mvT hZ (hw _ (List.mem_of_getElem? (i := 132) rfl))) (by decide) (backOf (W := 0) (rm_sameR l Z a0 hw [] u1053 T1117.heap n0 O1136 f1128) hZ (hw _ (List.mem_of_getElem? (i := 132) rfl)) (hw _ (List.mem_of_getElem? (i := 2) rfl)) (by decide) (by decide)) (g := (mkF m 63 #[.val (.int ia), .val (.int ib), .val (.int ic), .val (.int ie), .val (.int ig), .val (.ref u1044), .val (.ref u1053), .val (.ref b1061), .val (.ref u1095), .val (.ref u1118)] [(.ref u1053), (.ref u1053)])) rfl (by rw [hml]; rfl) (argsL := [(.ref u1053), (.ref u1053)]) (rest := []) (lenOf pd13 rfl) rfl (by show 2 * 0 + _ ≤ _; exact Nat.le_of_eq rfl) (hb hby at_63) (fun _ _ => ⟨rfl, hh1148, (by decide : 16 + 0 ≤ _), (by decide : 2788 + 0 ≤ _)⟩)
      dsimp only [Pt.U, Pt.locs, Pt.cells, Pt.slots] at X1150 l1150 y1150 z1150 st1150 hQ1150
      subst l1150 y1150 z1150
      obtain ⟨rfl, Nq1150, hh1150⟩ := hQ1150
      have N1151 := Fr.app N1149 Nq1150
      refine GoH.step (T' := T1150) (f' := (mkF m 66 #[.val (.int ia), .val (.int ib), .val (.int ic), .val (.int ie), .val (.int ig), .val (.ref u1044), .val (.ref u1053), .val (.ref b1061), .val (.ref u1095), .val (.ref u1118)] [(.int (1 : Int32))])) st1150 ?_
      clear st1150 X1148 N1149 Nq1150
      refine GoH.step (T' := T1150) (f' := (mkF m 69 #[.val (.int ia), .val (.int ib), .val (.int ic), .val (.int ie), .val (.int ig), .val (.ref u1044), .val (.ref u1053), .val (.ref b1061), .val (.ref u1095), .val (.ref u1118)] [])) (fun t k => XS.ifNo X1150.here hx rfl (hb hby at_66) rfl ((if0 _ _).trans (feq (by decide : ¬ ((1 : Int32) = (0 : Int32)))).1) k) ?_
      refine GoH.step (T' := T1150) (f' := (mkF m 71 #[.val (.int ia), .val (.int ib), .val (.int ic), .val (.int ie), .val (.int ig), .val (.ref u1044), .val (.ref u1053), .val (.ref b1061), .val (.ref u1095), .val (.ref u1118)] [(.ref u1118)])) (fun t k => XS.aload X1150.here hx rfl (hb hby at_69) rfl rfl k) ?_
      obtain ⟨cq1152, kq1152, q1152a, q1152b, q1152c⟩ := isOf hZ hh1150 p1120
      obtain ⟨_, _, ⟨T1152, L1152, k1152, n1152⟩, -, X1152, ⟨Lc1152, hQ1152, l1152, y1152, z1152⟩, st1152⟩ := X1150.virtualBack hx (y := (⟨"com/example/ferryline/ferryline/server/ApiError$Body", "error", "()Ljava/lang/String;"⟩ : MethodName)) (z := (⟨"com/example/ferryline/ferryline/server/ApiError$Body", "error", "()Ljava/lang/String;"⟩ : MethodName)) hown (mvT hZ (hw _ (List.mem_of_getElem? (i := 125) rfl))) (mvT hZ (hw _ (List.mem_of_getElem? (i := 126) rfl))) (notFace_of_selects (args := #[]) (mvT hZ (hw _ (List.mem_of_getElem? (i := 128) rfl)))) (mvT hZ (hw _ (List.mem_of_getElem? (i := 128) rfl))) (mvT hZ (hw _ (List.mem_of_getElem? (i := 127) rfl))) (by decide) (backOf (W := 0) (rm_errR l Z a0 hw [] u1118 u1044 T1117.heap n0 O1136 p1121) hZ (hw _ (List.mem_of_getElem? (i := 129) rfl)) (hw _ (List.mem_of_getElem? (i := 105) rfl)) (by decide) (by decide)) q1152a q1152c (g := (mkF m 71 #[.val (.int ia), .val (.int ib), .val (.int ic), .val (.int ie), .val (.int ig), .val (.ref u1044), .val (.ref u1053), .val (.ref b1061), .val (.ref u1095), .val (.ref u1118)] [(.ref u1118)])) rfl (by rw [hml]; rfl) (Steps.refl _) (argsL := []) (rest := []) (lenOf pd8 rfl) rfl (by show 2 * 0 + _ ≤ _; exact Nat.le_of_eq rfl) (hb hby at_71) (fun _ _ => ⟨rfl, hh1150, (by decide : 16 + 0 ≤ _), (by decide : 2788 + 0 ≤ _)⟩)
      dsimp only [Pt.U, Pt.locs, Pt.cells, Pt.slots] at X1152 l1152 y1152 z1152 st1152 hQ1152
      subst l1152 y1152 z1152
      obtain ⟨rfl, Nq1152, hh1152⟩ := hQ1152
      have N1153 := Fr.app N1151 Nq1152
      refine GoH.via (T' := T1152) (f' := (mkF m 74 #[.val (.int ia), .val (.int ib), .val (.int ic), .val (.int ie), .val (.int ig), .val (.ref u1044), .val (.ref u1053), .val (.ref b1061), .val (.ref u1095), .val (.ref u1118)] [(.ref u1044)])) st1152 ?_
      clear st1152 X1150 N1151 Nq1152
      refine GoH.step (T' := T1152) (f' := (mkF m 76 #[.val (.int ia), .val (.int ib), .val (.int ic), .val (.int ie), .val (.int ig), .val (.ref u1044), .val (.ref u1053), .val (.ref b1061), .val (.ref u1095), .val (.ref u1118)] [(.ref u1044), (.ref u1044)])) (fun t k => XS.aload X1152.here hx rfl (hb hby at_74) rfl rfl k) ?_
      obtain ⟨_, _, ⟨T1154, L1154, k1154, n1154⟩, -, X1154, ⟨Lc1154, hQ1154, l1154, y1154, z1154⟩, st1154⟩ := Jvm.LawKit.callS X1152 hx (y := (⟨"com/example/ferryline/ferryline/server/ApiErrorBodyPinLaw", "same", "(Ljava/lang/String;Ljava/lang/String;)Z"⟩ : MethodName)) hown (mvT hZ (hw _ (List.mem_of_getElem? (i := 130) rfl))) (mvT hZ (hw _ (List.mem_of_getElem? (i := 131) rfl))) (mvT hZ (hw _ (List.mem_of_getElem? (i := 2) rfl))) (mvT hZ (hw _ (List.mem_of_getElem? (i := 132) rfl))) (by decide) (backOf (W := 0) (rm_sameR l Z a0 hw [] u1044 T1117.heap n0 O1136 f1127) hZ (hw _ (List.mem_of_getElem? (i := 132) rfl)) (hw _ (List.mem_of_getElem? (i := 2) rfl)) (by decide) (by decide)) (g := (mkF m 76 #[.val (.int ia), .val (.int ib), .val (.int ic), .val (.int ie), .val (.int ig), .val (.ref u1044), .val (.ref u1053), .val (.ref b1061), .val (.ref u1095), .val (.ref u1118)] [(.ref u1044), (.ref u1044)])) rfl (by rw [hml]; rfl) (argsL := [(.ref u1044), (.ref u1044)]) (rest := []) (lenOf pd13 rfl) rfl (by show 2 * 0 + _ ≤ _; exact Nat.le_of_eq rfl) (hb hby at_76) (fun _ _ => ⟨rfl, hh1152, (by decide : 16 + 0 ≤ _), (by decide : 2788 + 0 ≤ _)⟩)
      dsimp only [Pt.U, Pt.locs, Pt.cells, Pt.slots] at X1154 l1154 y1154 z1154 st1154 hQ1154
      subst l1154 y1154 z1154
      obtain ⟨rfl, Nq1154, hh1154⟩ := hQ1154
      have N1155 := Fr.app N1153 Nq1154
      refine GoH.step (T' := T1154) (f' := (mkF m 79 #[.val (.int ia), .val (.int ib), .val (.int ic), .val (.int ie), .val (.int ig), .val (.ref u1044), .val (.ref u1053), .val (.ref b1061), .val (.ref u1095), .val (.ref u1118)] [(.int (1 : Int32))])) st1154 ?_
      clear st1154 X1152 N1153 Nq1154
      refine GoH.step (T' := T1154) (f' := (mkF m 82 #[.val (.int ia), .val (.int ib), .val (.int ic), .val (.int ie), .val (.int ig), .val (.ref u1044), .val (.ref u1053), .val (.ref b1061), .val (.ref u1095), .val (.ref u1118)] [])) (fun t k => XS.ifNo X1154.here hx rfl (hb hby at_79) rfl ((if0 _ _).trans (feq (by decide : ¬ ((1 : Int32) = (0 : Int32)))).1) k) ?_
      refine GoH.step (T' := T1154) (f' := (mkF m 84 #[.val (.int ia), .val (.int ib), .val (.int ic), .val (.int ie), .val (.int ig), .val (.ref u1044), .val (.ref u1053), .val (.ref b1061), .val (.ref u1095), .val (.ref u1118)] [(.ref u1118)])) (fun t k => XS.aload X1154.here hx rfl (hb hby at_82) rfl rfl k) ?_
      obtain ⟨cq1156, kq1156, q1156a, q1156b, q1156c⟩ := isOf hZ hh1154 p1120
      obtain ⟨_, _, ⟨T1156, L1156, k1156, n1156⟩, -, X1156, ⟨Lc1156, hQ1156, l1156, y1156, z1156⟩, st1156⟩ := X1154.virtualBack hx (y := (⟨"com/example/ferryline/ferryline/server/ApiError$Body", "message", "()Ljava/lang/String;"⟩ : MethodName)) (z := (⟨"com/example/ferryline/ferryline/server/ApiError$Body", "message", "()Ljava/lang/String;"⟩ : MethodName)) hown (mvT hZ (hw _ (List.mem_of_getElem? (i := 138) rfl))) (mvT hZ (hw _ (List.mem_of_getElem? (i := 139) rfl))) (notFace_of_selects (args := #[]) (mvT hZ (hw _ (List.mem_of_getElem? (i := 141) rfl)))) (mvT hZ (hw _ (List.mem_of_getElem? (i := 141) rfl))) (mvT hZ (hw _ (List.mem_of_getElem? (i := 140) rfl))) (by decide) (backOf (W := 0) (rm_msgR l Z a0 hw [] u1118 u1053 T1117.heap n0 O1136 p1122) hZ (hw _ (List.mem_of_getElem? (i := 142) rfl)) (hw _ (List.mem_of_getElem? (i := 105) rfl)) (by decide) (by decide)) q1156a q1156c (g := (mkF m 84 #[.val (.int ia), .val (.int ib), .val (.int ic), .val (.int ie), .val (.int ig), .val (.ref u1044), .val (.ref u1053), .val (.ref b1061), .val (.ref u1095), .val (.ref u1118)] [(.ref u1118)])) rfl (by rw [hml]; rfl) (Steps.refl _) (argsL := []) (rest := []) (lenOf pd8 rfl) rfl (by show 2 * 0 + _ ≤ _; exact Nat.le_of_eq rfl) (hb hby at_84) (fun _ _ => ⟨rfl, hh1154, (by decide : 16 + 0 ≤ _), (by decide : 2788 + 0 ≤ _)⟩)
      dsimp only [Pt.U, Pt.locs, Pt.cells, Pt.slots] at X1156 l1156 y1156 z1156 st1156 hQ1156
      subst l1156 y1156 z1156
      obtain ⟨rfl, Nq1156, hh1156⟩ := hQ1156
      have N1157 := Fr.app N1155 Nq1156
      refine GoH.via (T' := T1156) (f' := (mkF m 87 #[.val (.int ia), .val (.int ib), .val (.int ic), .val (.int ie), .val (.int ig), .val (.ref u1044), .val (.ref u1053), .val (.ref b1061), .val (.ref u1095), .val (.ref u1118)] [(.ref u1053)])) st1156 ?_
      clear st1156 X1154 N1155 Nq1156
      refine GoH.step (T' := T1156) (f' := (mkF m 89 #[.val (.int ia), .val (.int ib), .val (.int ic), .val (.int ie), .val (.int ig), .val (.ref u1044), .val (.ref u1053), .val (.ref b1061), .val (.ref u1095), .val (.ref u1118)] [(.ref u1053), (.ref u1053)])) (fun t k => XS.aload X1156.here hx rfl (hb hby at_87) rfl rfl k) ?_
      obtain ⟨_, _, ⟨T1158, L1158, k1158, n1158⟩, -, X1158, ⟨Lc1158, hQ1158, l1158, y1158, z1158⟩, st1158⟩ := Jvm.LawKit.callS X1156 hx (y := (⟨"com/example/ferryline/ferryline/server/ApiErrorBodyPinLaw", "same", "(Ljava/lang/String;Ljava/lang/String;)Z"⟩ : MethodName)) hown (mvT hZ (hw _ (List.mem_of_getElem? (i := 130) rfl))) (mvT hZ (hw _ (List.mem_of_getElem? (i := 131) rfl))) (mvT hZ (hw _ (List.mem_of_getElem? (i := 2) rfl))) (mvT hZ (hw _ (List.mem_of_getElem? (i := 132) rfl))) (by decide) (backOf (W := 0) (rm_sameR l Z a0 hw [] u1053 T1117.heap n0 O1136 f1128) hZ (hw _ (List.mem_of_getElem? (i := 132) rfl)) (hw _ (List.mem_of_getElem? (i := 2) rfl)) (by decide) (by decide)) (g := (mkF m 89 #[.val (.int ia), .val (.int ib), .val (.int ic), .val (.int ie), .val (.int ig), .val (.ref u1044), .val (.ref u1053), .val (.ref b1061), .val (.ref u1095), .val (.ref u1118)] [(.ref u1053), (.ref u1053)])) rfl (by rw [hml]; rfl) (argsL := [(.ref u1053), (.ref u1053)]) (rest := []) (lenOf pd13 rfl) rfl (by show 2 * 0 + _ ≤ _; exact Nat.le_of_eq rfl) (hb hby at_89) (fun _ _ => ⟨rfl, hh1156, (by decide : 16 + 0 ≤ _), (by decide : 2788 + 0 ≤ _)⟩)
      dsimp only [Pt.U, Pt.locs, Pt.cells, Pt.slots] at X1158 l1158 y1158 z1158 st1158 hQ1158
      subst l1158 y1158 z1158
      obtain ⟨rfl, Nq1158, hh1158⟩ := hQ1158
      have N1159 := Fr.app N1157 Nq1158
      refine GoH.step (T' := T1158) (f' := (mkF m 92 #[.val (.int ia), .val (.int ib), .val (.int ic), .val (.int ie), .val (.int ig), .val (.ref u1044), .val (.ref u1053), .val (.ref b1061), .val (.ref u1095), .val (.ref u1118)] [(.int (1 : Int32))])) st1158 ?_
      clear st1158 X1156 N1157 Nq1158
      refine GoH.step (T' := T1158) (f' := (mkF m 95 #[.val (.int ia), .val (.int ib), .val (.int ic), .val (.int ie), .val (.int ig), .val (.ref u1044), .val (.ref u1053), .val (.ref b1061), .val (.ref u1095), .val (.ref u1118)] [])) (fun t k => XS.ifNo X1158.here hx rfl (hb hby at_92) rfl ((if0 _ _).trans (feq (by decide : ¬ ((1 : Int32) = (0 : Int32)))).1) k) ?_
      refine GoH.step (T' := T1158) (f' := (mkF m 97 #[.val (.int ia), .val (.int ib), .val (.int ic), .val (.int ie), .val (.int ig), .val (.ref u1044), .val (.ref u1053), .val (.ref b1061), .val (.ref u1095), .val (.ref u1118)] [(.ref b1061)])) (fun t k => XS.aload X1158.here hx rfl (hb hby at_95) rfl rfl k) ?_
      obtain ⟨cq1160, kq1160, q1160a, q1160b, q1160c⟩ := isOf hZ hh1158 f1129
      obtain ⟨_, _, ⟨T1160, L1160, k1160, n1160⟩, -, X1160, ⟨Lc1160, hQ1160, l1160, y1160, z1160⟩, st1160⟩ := X1158.virtualBack hx (y := (⟨"com/example/ferryline/ferryline/server/ApiError", "status", "()I"⟩ : MethodName)) (z := (⟨"com/example/ferryline/ferryline/server/ApiError", "status", "()I"⟩ : MethodName)) hown (mvT hZ (hw _ (List.mem_of_getElem? (i := 143) rfl))) (mvT hZ (hw _ (List.mem_of_getElem? (i := 144) rfl))) (notFace_of_selects (args := #[]) (mvT hZ (hw _ (List.mem_of_getElem? (i := 146) rfl)))) (mvT hZ (hw _ (List.mem_of_getElem? (i := 146) rfl))) (mvT hZ (hw _ (List.mem_of_getElem? (i := 145) rfl))) (by decide) (backOf (W := 0) (rm_stat l Z a0 hw [] b1061 ia T1117.heap n0 O1136 f1130) hZ (hw _ (List.mem_of_getElem? (i := 147) rfl)) (hw _ (List.mem_of_getElem? (i := 36) rfl)) (by decide) (by decide)) q1160a q1160c (g := (mkF m 97 #[.val (.int ia), .val (.int ib), .val (.int ic), .val (.int ie), .val (.int ig), .val (.ref u1044), .val (.ref u1053), .val (.ref b1061), .val (.ref u1095), .val (.ref u1118)] [(.ref b1061)])) rfl (by rw [hml]; rfl) (Steps.refl _) (argsL := []) (rest := []) (lenOf pd14 rfl) rfl (by show 2 * 0 + _ ≤ _; exact Nat.le_of_eq rfl) (hb hby at_97) (fun _ _ => ⟨rfl, hh1158, (by decide : 16 + 0 ≤ _), (by decide : 2788 + 0 ≤ _)⟩)
      dsimp only [Pt.U, Pt.locs, Pt.cells, Pt.slots] at X1160 l1160 y1160 z1160 st1160 hQ1160
      subst l1160 y1160 z1160
      obtain ⟨rfl, Nq1160, hh1160⟩ := hQ1160
      have N1161 := Fr.app N1159 Nq1160
      refine GoH.via (T' := T1160) (f' := (mkF m 100 #[.val (.int ia), .val (.int ib), .val (.int ic), .val (.int ie), .val (.int ig), .val (.ref u1044), .val (.ref u1053), .val (.ref b1061), .val (.ref u1095), .val (.ref u1118)] [(.int ia)])) st1160 ?_
      clear st1160 X1158 N1159 Nq1160
      refine GoH.step (T' := T1160) (f' := (mkF m 101 #[.val (.int ia), .val (.int ib), .val (.int ic), .val (.int ie), .val (.int ig), .val (.ref u1044), .val (.ref u1053), .val (.ref b1061), .val (.ref u1095), .val (.ref u1118)] [(.int ia), (.int ia)])) (fun t k => XS.iloadN X1160.here hx rfl (hb hby at_100) rfl k) ?_
      refine GoH.step (T' := T1160) (f' := (mkF m 104 #[.val (.int ia), .val (.int ib), .val (.int ic), .val (.int ie), .val (.int ig), .val (.ref u1044), .val (.ref u1053), .val (.ref b1061), .val (.ref u1095), .val (.ref u1118)] [])) (fun t k => XS.icmpNo X1160.here hx rfl (hb hby at_101) rfl (teq (rfl : ia = ia)).2 k) ?_
      refine GoH.step (T' := T1160) (f' := (mkF m 105 #[.val (.int ia), .val (.int ib), .val (.int ic), .val (.int ie), .val (.int ig), .val (.ref u1044), .val (.ref u1053), .val (.ref b1061), .val (.ref u1095), .val (.ref u1118)] [(.int (1 : Int32))])) (fun t k => XS.iconst X1160.here hx rfl (hb hby at_104) k) ?_
      refine GoH.step (T' := T1160) (f' := (mkF m 109 #[.val (.int ia), .val (.int ib), .val (.int ic), .val (.int ie), .val (.int ig), .val (.ref u1044), .val (.ref u1053), .val (.ref b1061), .val (.ref u1095), .val (.ref u1118)] [(.int (1 : Int32))])) (fun t k => XS.goto X1160.here hx rfl (pc0 := 105) (pc' := 109) rfl (hb hby at_105) (by decide) (by decide) k) ?_
      refine GoH.fin X1160 hZ hEL hS1052 hk1126 CR1125 hlk (v := some (.int (nar .boolean (1 : Int32)))) (fun h => by rw [Bd.returns] at h; cases h) (fun fs hr => retN X1160 hx (t := .boolean) Bd.returns (by simp) (hb hby at_109) hr) hh1160 ?_ (by decide) (by decide)
      exact ⟨rfl, N1161, K1137⟩
    ·
      refine GoH.step (T' := T1043) (f' := (mkF m 8 #[.val (.int ia), .val (.int ib), .val (.int ic), .val (.int ie), .val (.int ig), .val (.ref u1044), .unset, .unset, .unset, .unset] [(.int ie)])) (fun t k => XS.iloadN X1043.here hx rfl (hb hby at_7) rfl k) ?_
      refine GoH.step (T' := T1043) (f' := (mkF m 10 #[.val (.int ia), .val (.int ib), .val (.int ic), .val (.int ie), .val (.int ig), .val (.ref u1044), .unset, .unset, .unset, .unset] [(.int ig), (.int ie)])) (fun t k => XS.iload X1043.here hx rfl (hb hby at_8) rfl k) ?_
      obtain ⟨_, _, ⟨T1162, L1162, k1162, n1162⟩, -, X1162, ⟨Lc1162, hQ1162, l1162, y1162, z1162⟩, st1162⟩ := Jvm.LawKit.callS X1043 hx (y := (⟨"com/example/ferryline/ferryline/server/ApiErrorBodyPinLaw", "draw", "(II)Ljava/lang/String;"⟩ : MethodName)) hown (mvT hZ (hw _ (List.mem_of_getElem? (i := 0) rfl))) (mvT hZ (hw _ (List.mem_of_getElem? (i := 1) rfl))) (mvT hZ (hw _ (List.mem_of_getElem? (i := 2) rfl))) (mvT hZ (hw _ (List.mem_of_getElem? (i := 3) rfl))) (by decide) (backOf (W := 0) (rm_drawN l Z a0 hw [] ie ig T1043.heap n0 O1049 (hc1051)) hZ (hw _ (List.mem_of_getElem? (i := 3) rfl)) (hw _ (List.mem_of_getElem? (i := 2) rfl)) (by decide) (by decide)) (g := (mkF m 10 #[.val (.int ia), .val (.int ib), .val (.int ic), .val (.int ie), .val (.int ig), .val (.ref u1044), .unset, .unset, .unset, .unset] [(.int ig), (.int ie)])) rfl (by rw [hml]; rfl) (argsL := [(.int ie), (.int ig)]) (rest := []) (lenOf pd10 rfl) rfl (by show 2 * 0 + _ ≤ _; exact Nat.le_of_eq rfl) (hb hby at_10) (fun _ _ => ⟨rfl, rfl, (by decide : 6 + 0 ≤ _), (by decide : 12 + 0 ≤ _)⟩)
      dsimp only [Pt.U, Pt.locs, Pt.cells, Pt.slots] at X1162 l1162 y1162 z1162 st1162 hQ1162
      subst l1162 y1162 z1162
      obtain ⟨rfl, Nq1162, hh1162⟩ := hQ1162
      have N1163 := Fr.app N1046 Nq1162
      refine GoH.step (T' := T1162) (f' := (mkF m 13 #[.val (.int ia), .val (.int ib), .val (.int ic), .val (.int ie), .val (.int ig), .val (.ref u1044), .unset, .unset, .unset, .unset] [.null])) st1162 ?_
      clear st1162 X1043 N1046 Nq1162
      refine GoH.step (T' := T1162) (f' := (mkF m 15 #[.val (.int ia), .val (.int ib), .val (.int ic), .val (.int ie), .val (.int ig), .val (.ref u1044), .val .null, .unset, .unset, .unset] [])) (fun t k => XS.astore X1162.here hx rfl (hb hby at_13) rfl rfl (l' := #[.val (.int ia), .val (.int ib), .val (.int ic), .val (.int ie), .val (.int ig), .val (.ref u1044), .val .null, .unset, .unset, .unset]) rfl k) ?_
      obtain ⟨T1164, h1164, X1164, e1164, E1164, A1164, D1164, U1164, st1164⟩ := newO X1162 hx hZ hown (hw _ (List.mem_of_getElem? (i := 34) rfl)) (hw _ (List.mem_of_getElem? (i := 35) rfl)) (hw _ (List.mem_of_getElem? (i := 36) rfl)) hh1162 (g := (mkF m 15 #[.val (.int ia), .val (.int ib), .val (.int ic), .val (.int ie), .val (.int ig), .val (.ref u1044), .val .null, .unset, .unset, .unset] [])) rfl (hb hby at_15) (by decide) (by decide)
      obtain ⟨b1164, g1164⟩ : ∃ z, z = T1043.heap.size := ⟨_, rfl⟩
      rw [← g1164] at A1164 D1164 U1164 st1164
      have g1165 : n0 ≤ b1164 := Nat.le_trans (own_old_le O1049) (Nat.le_of_eq g1164.symm)
      have g1166 : h0.size ≤ b1164 := Nat.le_trans K1050.1 (Nat.le_of_eq g1164.symm)
      have ne1167 : u1044 ≠ b1164 := Nat.ne_of_lt (Nat.lt_of_lt_of_le p1045.lt (Nat.le_of_eq g1164.symm))
      have CR1168 := CR1047.trans (CHr.ext E1164 CR1047.1)
      have hk1169 := Nat.le_trans hk1048 E1164.1
      have f1170 := p1045.ext E1164
      have O1171 := O1049.ext E1164
      have K1172 := K1050.ext E1164
      have f1173 : Fld Z h1164 b1164 "java/lang/Throwable" "cause" "Ljava/lang/Throwable;" .null := D1164 (Or.inl (hw _ (List.mem_of_getElem? (i := 59) rfl))) (ty := (.object "java/lang/Throwable")) (by decide)
      have f1174 : Fld Z h1164 b1164 "java/lang/Throwable" "stackTrace" "[Ljava/lang/StackTraceElement;" .null := D1164 (Or.inl (hw _ (List.mem_of_getElem? (i := 62) rfl))) (ty := (.array (.object "java/lang/StackTraceElement"))) (by decide)
      have f1175 : Fld Z h1164 b1164 "java/lang/Throwable" "suppressedExceptions" "Ljava/util/List;" .null := D1164 (Or.inl (hw _ (List.mem_of_getElem? (i := 65) rfl))) (ty := (.object "java/util/List")) (by decide)
      have f1176 : Fld Z h1164 b1164 "java/lang/Throwable" "detailMessage" "Ljava/lang/String;" .null := D1164 (Or.inl (hw _ (List.mem_of_getElem? (i := 89) rfl))) (ty := (.object "java/lang/String")) (by decide)
      have f1177 : Fld Z h1164 b1164 "java/lang/Throwable" "backtrace" "Ljava/lang/Object;" .null := D1164 (Or.inl (hw _ (List.mem_of_getElem? (i := 90) rfl))) (ty := (.object "java/lang/Object")) (by decide)
      have f1178 : Fld Z h1164 b1164 "java/lang/Throwable" "depth" "I" (.int (0 : Int32)) := D1164 (Or.inl (hw _ (List.mem_of_getElem? (i := 91) rfl))) (ty := .int) (by decide)
      have f1179 : Fld Z h1164 b1164 "com/example/ferryline/ferryline/server/ApiError" "status" "I" (.int (0 : Int32)) := D1164 (Or.inr (hw _ (List.mem_of_getElem? (i := 95) rfl))) (ty := .int) (by decide)
      have f1180 : Fld Z h1164 b1164 "com/example/ferryline/ferryline/server/ApiError" "code" "Ljava/lang/String;" .null := D1164 (Or.inr (hw _ (List.mem_of_getElem? (i := 97) rfl))) (ty := (.object "java/lang/String")) (by decide)
      refine GoH.step (T' := T1164) (f' := (mkF m 18 #[.val (.int ia), .val (.int ib), .val (.int ic), .val (.int ie), .val (.int ig), .val (.ref u1044), .val .null, .unset, .unset, .unset] [(.ref b1164)])) st1164 ?_
      clear st1164 X1162 CR1047 hk1048 p1045 O1049 K1050
      refine GoH.step (T' := T1164) (f' := (mkF m 19 #[.val (.int ia), .val (.int ib), .val (.int ic), .val (.int ie), .val (.int ig), .val (.ref u1044), .val .null, .unset, .unset, .unset] [(.ref b1164), (.ref b1164)])) (fun t k => XS.dup X1164.here hx rfl (hb hby at_18) rfl rfl k) ?_
      refine GoH.step (T' := T1164) (f' := (mkF m 20 #[.val (.int ia), .val (.int ib), .val (.int ic), .val (.int ie), .val (.int ig), .val (.ref u1044), .val .null, .unset, .unset, .unset] [(.int ia), (.ref b1164), (.ref b1164)])) (fun t k => XS.iloadN X1164.here hx rfl (hb hby at_19) rfl k) ?_
      refine GoH.step (T' := T1164) (f' := (mkF m 22 #[.val (.int ia), .val (.int ib), .val (.int ic), .val (.int ie), .val (.int ig), .val (.ref u1044), .val .null, .unset, .unset, .unset] [(.ref u1044), (.int ia), (.ref b1164), (.ref b1164)])) (fun t k => XS.aload X1164.here hx rfl (hb hby at_20) rfl rfl k) ?_
      refine GoH.step (T' := T1164) (f' := (mkF m 24 #[.val (.int ia), .val (.int ib), .val (.int ic), .val (.int ie), .val (.int ig), .val (.ref u1044), .val .null, .unset, .unset, .unset] [.null, (.ref u1044), (.int ia), (.ref b1164), (.ref b1164)])) (fun t k => XS.aload X1164.here hx rfl (hb hby at_22) rfl rfl k) ?_
      obtain ⟨_, _, ⟨T1181, L1181, k1181, n1181⟩, -, X1181, ⟨Lc1181, hQ1181, l1181, y1181, z1181⟩, st1181⟩ := X1164.specialBack hx (y := (⟨"com/example/ferryline/ferryline/server/ApiError", "<init>", "(ILjava/lang/String;Ljava/lang/String;)V"⟩ : MethodName)) rfl hown (mvT hZ (hw _ (List.mem_of_getElem? (i := 37) rfl))) (mvT hZ (hw _ (List.mem_of_getElem? (i := 38) rfl))) (mvT hZ (hw _ (List.mem_of_getElem? (i := 39) rfl))) (by decide) (backOfKL (W := 1) (rm_aeiRN l Z a0 hw [] b1164 ia u1044 (.int (0 : Int32)) .null bu bz h1164 n0 O1171 A1164 f1173 f1174 f1175 f1177 f1176 f1179 f1180 g1165 U1164 P2 P3 htr) hZ (hw _ (List.mem_of_getElem? (i := 39) rfl)) (hw _ (List.mem_of_getElem? (i := 36) rfl)) (by decide) (by decide) (Vm.MethodsKnown.alikeC hS1043.1.alike hK.1) (Vm.FramesKnown.alikeC hS1043.1.alike hK.2)) (g := (mkF m 24 #[.val (.int ia), .val (.int ib), .val (.int ic), .val (.int ie), .val (.int ig), .val (.ref u1044), .val .null, .unset, .unset, .unset] [.null, (.ref u1044), (.int ia), (.ref b1164), (.ref b1164)])) rfl (by rw [hml]; rfl) (Steps.refl _) (a := b1164) (argsL := [(.int ia), (.ref u1044), .null]) (rest := [(.ref b1164)]) (lenOf pd11 rfl) rfl (by show 2 * 0 + _ ≤ _; exact Nat.le_of_eq rfl) (hb hby at_24) (fun _ _ => ⟨rfl, e1164, (by decide : 7 + 1 ≤ _), (by decide : 20 + 2752 ≤ _)⟩)
      dsimp only [Pt.U, Pt.locs, Pt.cells, Pt.slots] at X1181 l1181 y1181 z1181 st1181 hQ1181
      subst l1181 y1181 z1181
      obtain ⟨rfl, Nq1181, hh1181, p1182, p1183, p1184, p1185⟩ := hQ1181
      have N1186 := Fr.app N1163 Nq1181
      have sz1187 : ∀ x ∈ [b1164], Safe Z own_EL T1043.vm h1164 x := (sfS (Safe.exa (EL := own_EL) hZ.alike A1164 (by decide) (by decide)) sf0)
      have CR1188 := CR1168.trans (CHr.keep hh1181 sz1187 CR1168.1)
      have hk1189 := Nat.le_trans hk1169 hh1181.1
      have f1190 := f1170.keep hh1181
      have f1191 := A1164.keep hh1181
      have O1192 := O1171.keep hh1181 (allS g1165 all0)
      have K1193 := K1172.trans hh1181 (allS (Or.inr g1166) all0)
      refine GoH.via (T' := T1181) (f' := (mkF m 27 #[.val (.int ia), .val (.int ib), .val (.int ic), .val (.int ie), .val (.int ig), .val (.ref u1044), .val .null, .unset, .unset, .unset] [(.ref b1164)])) st1181 ?_
      clear st1181 X1164 N1163 Nq1181 CR1168 hk1169 sz1187
      refine GoH.step (T' := T1181) (f' := (mkF m 29 #[.val (.int ia), .val (.int ib), .val (.int ic), .val (.int ie), .val (.int ig), .val (.ref u1044), .val .null, .val (.ref b1164), .unset, .unset] [])) (fun t k => XS.astore X1181.here hx rfl (hb hby at_27) rfl rfl (l' := #[.val (.int ia), .val (.int ib), .val (.int ic), .val (.int ie), .val (.int ig), .val (.ref u1044), .val .null, .val (.ref b1164), .unset, .unset]) rfl k) ?_
      refine GoH.step (T' := T1181) (f' := (mkF m 31 #[.val (.int ia), .val (.int ib), .val (.int ic), .val (.int ie), .val (.int ig), .val (.ref u1044), .val .null, .val (.ref b1164), .unset, .unset] [(.ref b1164)])) (fun t k => XS.aload X1181.here hx rfl (hb hby at_29) rfl rfl k) ?_
      obtain ⟨cq1194, kq1194, q1194a, q1194b, q1194c⟩ := isOf hZ rfl p1182
      obtain ⟨_, _, ⟨T1194, L1194, k1194, n1194⟩, -, X1194, ⟨Lc1194, hQ1194, l1194, y1194, z1194⟩, st1194⟩ := X1181.virtualBack hx (y := (⟨"com/example/ferryline/ferryline/server/ApiError", "body", "()Lcom/example/ferryline/ferryline/server/ApiError$Body;"⟩ : MethodName)) (z := (⟨"com/example/ferryline/ferryline/server/ApiError", "body", "()Lcom/example/ferryline/ferryline/server/ApiError$Body;"⟩ : MethodName)) hown (mvT hZ (hw _ (List.mem_of_getElem? (i := 98) rfl))) (mvT hZ (hw _ (List.mem_of_getElem? (i := 99) rfl))) (notFace_of_selects (args := #[]) (mvT hZ (hw _ (List.mem_of_getElem? (i := 101) rfl)))) (mvT hZ (hw _ (List.mem_of_getElem? (i := 101) rfl))) (mvT hZ (hw _ (List.mem_of_getElem? (i := 100) rfl))) (by decide) (backOf (W := 0) (rm_bodyRN l Z a0 hw [] b1164 u1044 T1181.heap n0 O1192 p1182 p1184 p1185) hZ (hw _ (List.mem_of_getElem? (i := 102) rfl)) (hw _ (List.mem_of_getElem? (i := 36) rfl)) (by decide) (by decide)) q1194a q1194c (g := (mkF m 31 #[.val (.int ia), .val (.int ib), .val (.int ic), .val (.int ie), .val (.int ig), .val (.ref u1044), .val .null, .val (.ref b1164), .unset, .unset] [(.ref b1164)])) rfl (by rw [hml]; rfl) (Steps.refl _) (argsL := []) (rest := []) (lenOf pd12 rfl) rfl (by show 2 * 0 + _ ≤ _; exact Nat.le_of_eq rfl) (hb hby at_31) (fun _ _ => ⟨rfl, rfl, (by decide : 8 + 1 ≤ _), (by decide : 2772 + 2 ≤ _)⟩)
      dsimp only [Pt.U, Pt.locs, Pt.cells, Pt.slots] at X1194 l1194 y1194 z1194 st1194 hQ1194
      subst l1194 y1194 z1194
      obtain ⟨u1195, rfl, Nq1194, hh1194, p1196, p1197, p1198, p1199⟩ := hQ1194
      have N1200 := Fr.app N1186 Nq1194
      have sz1201 : ∀ x ∈ ([] : List Addr), Safe Z own_EL T1043.vm T1181.heap x := sf0
      have CR1202 := CR1188.trans (CHr.keep hh1194 sz1201 CR1188.1)
      have hk1203 := Nat.le_trans hk1189 hh1194.1
      have f1204 := f1190.keep hh1194
      have f1205 := p1182.keep hh1194
      have f1206 := p1183.keep hh1194 nin0
      have f1207 := p1184.keep hh1194 nin0
      have f1208 := p1185.keep hh1194 nin0
      have O1209 := O1192.keep hh1194 all0
      have K1210 := K1193.trans hh1194 all0
      have g1211 : n0 ≤ u1195 := Nat.le_trans (own_old_le O1192) p1196
      have g1212 : h0.size ≤ u1195 := Nat.le_trans K1193.1 p1196
      have ne1213 : u1044 ≠ u1195 := Nat.ne_of_lt (Nat.lt_of_lt_of_le f1190.lt p1196)
      have ne1214 : b1164 ≠ u1195 := Nat.ne_of_lt (Nat.lt_of_lt_of_le p1182.lt p1196)
      refine GoH.via (T' := T1194) (f' := (mkF m 34 #[.val (.int ia), .val (.int ib), .val (.int ic), .val (.int ie), .val (.int ig), .val (.ref u1044), .val .null, .val (.ref b1164), .unset, .unset] [(.ref u1195)])) st1194 ?_
      clear st1194 X1181 N1186 Nq1194 CR1188 hk1189 sz1201 p1183 p1184 p1185
      refine GoH.step (T' := T1194) (f' := (mkF m 36 #[.val (.int ia), .val (.int ib), .val (.int ic), .val (.int ie), .val (.int ig), .val (.ref u1044), .val .null, .val (.ref b1164), .val (.ref u1195), .unset] [])) (fun t k => XS.astore X1194.here hx rfl (hb hby at_34) rfl rfl (l' := #[.val (.int ia), .val (.int ib), .val (.int ic), .val (.int ie), .val (.int ig), .val (.ref u1044), .val .null, .val (.ref b1164), .val (.ref u1195), .unset]) rfl k) ?_
      refine GoH.step (T' := T1194) (f' := (mkF m 38 #[.val (.int ia), .val (.int ib), .val (.int ic), .val (.int ie), .val (.int ig), .val (.ref u1044), .val .null, .val (.ref b1164), .val (.ref u1195), .unset] [(.ref b1164)])) (fun t k => XS.aload X1194.here hx rfl (hb hby at_36) rfl rfl k) ?_
      obtain ⟨cq1215, kq1215, q1215a, q1215b, q1215c⟩ := isOf hZ rfl f1205
      obtain ⟨_, _, ⟨T1215, L1215, k1215, n1215⟩, -, X1215, ⟨Lc1215, hQ1215, l1215, y1215, z1215⟩, st1215⟩ := X1194.virtualBack hx (y := (⟨"com/example/ferryline/ferryline/server/ApiError", "body", "()Lcom/example/ferryline/ferryline/server/ApiError$Body;"⟩ : MethodName)) (z := (⟨"com/example/ferryline/ferryline/server/ApiError", "body", "()Lcom/example/ferryline/ferryline/server/ApiError$Body;"⟩ : MethodName)) hown (mvT hZ (hw _ (List.mem_of_getElem? (i := 98) rfl))) (mvT hZ (hw _ (List.mem_of_getElem? (i := 99) rfl))) (notFace_of_selects (args := #[]) (mvT hZ (hw _ (List.mem_of_getElem? (i := 101) rfl)))) (mvT hZ (hw _ (List.mem_of_getElem? (i := 101) rfl))) (mvT hZ (hw _ (List.mem_of_getElem? (i := 100) rfl))) (by decide) (backOf (W := 0) (rm_bodyRN l Z a0 hw [] b1164 u1044 T1194.heap n0 O1209 f1205 f1207 f1208) hZ (hw _ (List.mem_of_getElem? (i := 102) rfl)) (hw _ (List.mem_of_getElem? (i := 36) rfl)) (by decide) (by decide)) q1215a q1215c (g := (mkF m 38 #[.val (.int ia), .val (.int ib), .val (.int ic), .val (.int ie), .val (.int ig), .val (.ref u1044), .val .null, .val (.ref b1164), .val (.ref u1195), .unset] [(.ref b1164)])) rfl (by rw [hml]; rfl) (Steps.refl _) (argsL := []) (rest := []) (lenOf pd12 rfl) rfl (by show 2 * 0 + _ ≤ _; exact Nat.le_of_eq rfl) (hb hby at_38) (fun _ _ => ⟨rfl, rfl, (by decide : 9 + 1 ≤ _), (by decide : 2774 + 2 ≤ _)⟩)
      dsimp only [Pt.U, Pt.locs, Pt.cells, Pt.slots] at X1215 l1215 y1215 z1215 st1215 hQ1215
      subst l1215 y1215 z1215
      obtain ⟨u1216, rfl, Nq1215, hh1215, p1217, p1218, p1219, p1220⟩ := hQ1215
      have N1221 := Fr.app N1200 Nq1215
      have sz1222 : ∀ x ∈ ([] : List Addr), Safe Z own_EL T1043.vm T1194.heap x := sf0
      have CR1223 := CR1202.trans (CHr.keep hh1215 sz1222 CR1202.1)
      have hk1224 := Nat.le_trans hk1203 hh1215.1
      have f1225 := f1204.keep hh1215
      have f1226 := f1205.keep hh1215
      have f1227 := f1206.keep hh1215 nin0
      have f1228 := f1207.keep hh1215 nin0
      have f1229 := f1208.keep hh1215 nin0
      have f1230 := p1197.keep hh1215
      have f1231 := p1198.keep hh1215 nin0
      have f1232 := p1199.keep hh1215 nin0
      have O1233 := O1209.keep hh1215 all0
      have K1234 := K1210.trans hh1215 all0
      have g1235 : n0 ≤ u1216 := Nat.le_trans (own_old_le O1209) p1217
      have g1236 : h0.size ≤ u1216 := Nat.le_trans K1210.1 p1217
      have ne1237 : u1044 ≠ u1216 := Nat.ne_of_lt (Nat.lt_of_lt_of_le f1204.lt p1217)
      have ne1238 : b1164 ≠ u1216 := Nat.ne_of_lt (Nat.lt_of_lt_of_le f1205.lt p1217)
      have ne1239 : u1195 ≠ u1216 := Nat.ne_of_lt (Nat.lt_of_lt_of_le p1197.lt p1217)
      refine GoH.via (T' := T1215) (f' := (mkF m 41 #[.val (.int ia), .val (.int ib), .val (.int ic), .val (.int ie), .val (.int ig), .val (.ref u1044), .val .null, .val (.ref b1164), .val (.ref u1195), .unset] [(.ref u1216)])) st1215 ?_
      clear st1215 X1194 N1200 Nq1215 CR1202 hk1203 sz1222 f1206 f1207 f1208 p1198 p1199
      refine GoH.step (T' := T1215) (f' := (mkF m 43 #[.val (.int ia), .val (.int ib), .val (.int ic), .val (.int ie), .val (.int ig), .val (.ref u1044), .val .null, .val (.ref b1164), .val (.ref u1195), .val (.ref u1216)] [])) (fun t k => XS.astore X1215.here hx rfl (hb hby at_41) rfl rfl (l' := #[.val (.int ia), .val (.int ib), .val (.int ic), .val (.int ie), .val (.int ig), .val (.ref u1044), .val .null, .val (.ref b1164), .val (.ref u1195), .val (.ref u1216)]) rfl k) ?_
      refine GoH.step (T' := T1215) (f' := (mkF m 45 #[.val (.int ia), .val (.int ib), .val (.int ic), .val (.int ie), .val (.int ig), .val (.ref u1044), .val .null, .val (.ref b1164), .val (.ref u1195), .val (.ref u1216)] [(.ref u1195)])) (fun t k => XS.aload X1215.here hx rfl (hb hby at_43) rfl rfl k) ?_
      obtain ⟨cq1240, kq1240, q1240a, q1240b, q1240c⟩ := isOf hZ rfl f1230
      obtain ⟨_, _, ⟨T1240, L1240, k1240, n1240⟩, -, X1240, ⟨Lc1240, hQ1240, l1240, y1240, z1240⟩, st1240⟩ := X1215.virtualBack hx (y := (⟨"com/example/ferryline/ferryline/server/ApiError$Body", "error", "()Ljava/lang/String;"⟩ : MethodName)) (z := (⟨"com/example/ferryline/ferryline/server/ApiError$Body", "error", "()Ljava/lang/String;"⟩ : MethodName)) hown (mvT hZ (hw _ (List.mem_of_getElem? (i := 125) rfl))) (mvT hZ (hw _ (List.mem_of_getElem? (i := 126) rfl))) (notFace_of_selects (args := #[]) (mvT hZ (hw _ (List.mem_of_getElem? (i := 128) rfl)))) (mvT hZ (hw _ (List.mem_of_getElem? (i := 128) rfl))) (mvT hZ (hw _ (List.mem_of_getElem? (i := 127) rfl))) (by decide) (backOf (W := 0) (rm_errR l Z a0 hw [] u1195 u1044 T1215.heap n0 O1233 f1231) hZ (hw _ (List.mem_of_getElem? (i := 129) rfl)) (hw _ (List.mem_of_getElem? (i := 105) rfl)) (by decide) (by decide)) q1240a q1240c (g := (mkF m 45 #[.val (.int ia), .val (.int ib), .val (.int ic), .val (.int ie), .val (.int ig), .val (.ref u1044), .val .null, .val (.ref b1164), .val (.ref u1195), .val (.ref u1216)] [(.ref u1195)])) rfl (by rw [hml]; rfl) (Steps.refl _) (argsL := []) (rest := []) (lenOf pd8 rfl) rfl (by show 2 * 0 + _ ≤ _; exact Nat.le_of_eq rfl) (hb hby at_45) (fun _ _ => ⟨rfl, rfl, (by decide : 10 + 0 ≤ _), (by decide : 2776 + 0 ≤ _)⟩)
      dsimp only [Pt.U, Pt.locs, Pt.cells, Pt.slots] at X1240 l1240 y1240 z1240 st1240 hQ1240
      subst l1240 y1240 z1240
      obtain ⟨rfl, Nq1240, hh1240⟩ := hQ1240
      have N1241 := Fr.app N1221 Nq1240
      refine GoH.via (T' := T1240) (f' := (mkF m 48 #[.val (.int ia), .val (.int ib), .val (.int ic), .val (.int ie), .val (.int ig), .val (.ref u1044), .val .null, .val (.ref b1164), .val (.ref u1195), .val (.ref u1216)] [(.ref u1044)])) st1240 ?_
      clear st1240 X1215 N1221 Nq1240
      refine GoH.step (T' := T1240) (f' := (mkF m 50 #[.val (.int ia), .val (.int ib), .val (.int ic), .val (.int ie), .val (.int ig), .val (.ref u1044), .val .null, .val (.ref b1164), .val (.ref u1195), .val (.ref u1216)] [(.ref u1044), (.ref u1044)])) (fun t k => XS.aload X1240.here hx rfl (hb hby at_48) rfl rfl k) ?_
      obtain ⟨_, _, ⟨T1242, L1242, k1242, n1242⟩, -, X1242, ⟨Lc1242, hQ1242, l1242, y1242, z1242⟩, st1242⟩ := Jvm.LawKit.callS X1240 hx (y := (⟨"com/example/ferryline/ferryline/server/ApiErrorBodyPinLaw", "same", "(Ljava/lang/String;Ljava/lang/String;)Z"⟩ : MethodName)) hown (mvT hZ (hw _ (List.mem_of_getElem? (i := 130) rfl))) (mvT hZ (hw _ (List.mem_of_getElem? (i := 131) rfl))) (mvT hZ (hw _ (List.mem_of_getElem? (i := 2) rfl))) (mvT hZ (hw _ (List.mem_of_getElem? (i := 132) rfl))) (by decide) (backOf (W := 0) (rm_sameR l Z a0 hw [] u1044 T1215.heap n0 O1233 f1225) hZ (hw _ (List.mem_of_getElem? (i := 132) rfl)) (hw _ (List.mem_of_getElem? (i := 2) rfl)) (by decide) (by decide)) (g := (mkF m 50 #[.val (.int ia), .val (.int ib), .val (.int ic), .val (.int ie), .val (.int ig), .val (.ref u1044), .val .null, .val (.ref b1164), .val (.ref u1195), .val (.ref u1216)] [(.ref u1044), (.ref u1044)])) rfl (by rw [hml]; rfl) (argsL := [(.ref u1044), (.ref u1044)]) (rest := []) (lenOf pd13 rfl) rfl (by show 2 * 0 + _ ≤ _; exact Nat.le_of_eq rfl) (hb hby at_50) (fun _ _ => ⟨rfl, hh1240, (by decide : 10 + 0 ≤ _), (by decide : 2776 + 0 ≤ _)⟩)
      dsimp only [Pt.U, Pt.locs, Pt.cells, Pt.slots] at X1242 l1242 y1242 z1242 st1242 hQ1242
      subst l1242 y1242 z1242
      obtain ⟨rfl, Nq1242, hh1242⟩ := hQ1242
      have N1243 := Fr.app N1241 Nq1242
      refine GoH.step (T' := T1242) (f' := (mkF m 53 #[.val (.int ia), .val (.int ib), .val (.int ic), .val (.int ie), .val (.int ig), .val (.ref u1044), .val .null, .val (.ref b1164), .val (.ref u1195), .val (.ref u1216)] [(.int (1 : Int32))])) st1242 ?_
      clear st1242 X1240 N1241 Nq1242
      refine GoH.step (T' := T1242) (f' := (mkF m 56 #[.val (.int ia), .val (.int ib), .val (.int ic), .val (.int ie), .val (.int ig), .val (.ref u1044), .val .null, .val (.ref b1164), .val (.ref u1195), .val (.ref u1216)] [])) (fun t k => XS.ifNo X1242.here hx rfl (hb hby at_53) rfl ((if0 _ _).trans (feq (by decide : ¬ ((1 : Int32) = (0 : Int32)))).1) k) ?_
      refine GoH.step (T' := T1242) (f' := (mkF m 58 #[.val (.int ia), .val (.int ib), .val (.int ic), .val (.int ie), .val (.int ig), .val (.ref u1044), .val .null, .val (.ref b1164), .val (.ref u1195), .val (.ref u1216)] [(.ref u1195)])) (fun t k => XS.aload X1242.here hx rfl (hb hby at_56) rfl rfl k) ?_
      obtain ⟨cq1244, kq1244, q1244a, q1244b, q1244c⟩ := isOf hZ hh1242 f1230
      obtain ⟨_, _, ⟨T1244, L1244, k1244, n1244⟩, -, X1244, ⟨Lc1244, hQ1244, l1244, y1244, z1244⟩, st1244⟩ := X1242.virtualBack hx (y := (⟨"com/example/ferryline/ferryline/server/ApiError$Body", "message", "()Ljava/lang/String;"⟩ : MethodName)) (z := (⟨"com/example/ferryline/ferryline/server/ApiError$Body", "message", "()Ljava/lang/String;"⟩ : MethodName)) hown (mvT hZ (hw _ (List.mem_of_getElem? (i := 138) rfl))) (mvT hZ (hw _ (List.mem_of_getElem? (i := 139) rfl))) (notFace_of_selects (args := #[]) (mvT hZ (hw _ (List.mem_of_getElem? (i := 141) rfl)))) (mvT hZ (hw _ (List.mem_of_getElem? (i := 141) rfl))) (mvT hZ (hw _ (List.mem_of_getElem? (i := 140) rfl))) (by decide) (backOf (W := 0) (rm_msgN l Z a0 hw [] u1195 T1215.heap n0 O1233 f1232) hZ (hw _ (List.mem_of_getElem? (i := 142) rfl)) (hw _ (List.mem_of_getElem? (i := 105) rfl)) (by decide) (by decide)) q1244a q1244c (g := (mkF m 58 #[.val (.int ia), .val (.int ib), .val (.int ic), .val (.int ie), .val (.int ig), .val (.ref u1044), .val .null, .val (.ref b1164), .val (.ref u1195), .val (.ref u1216)] [(.ref u1195)])) rfl (by rw [hml]; rfl) (Steps.refl _) (argsL := []) (rest := []) (lenOf pd8 rfl) rfl (by show 2 * 0 + _ ≤ _; exact Nat.le_of_eq rfl) (hb hby at_58) (fun _ _ => ⟨rfl, hh1242, (by decide : 10 + 0 ≤ _), (by decide : 2776 + 0 ≤ _)⟩)
      dsimp only [Pt.U, Pt.locs, Pt.cells, Pt.slots] at X1244 l1244 y1244 z1244 st1244 hQ1244
      subst l1244 y1244 z1244
      obtain ⟨rfl, Nq1244, hh1244⟩ := hQ1244
      have N1245 := Fr.app N1243 Nq1244
      refine GoH.via (T' := T1244) (f' := (mkF m 61 #[.val (.int ia), .val (.int ib), .val (.int ic), .val (.int ie), .val (.int ig), .val (.ref u1044), .val .null, .val (.ref b1164), .val (.ref u1195), .val (.ref u1216)] [.null])) st1244 ?_
      clear st1244 X1242 N1243 Nq1244
      refine GoH.step (T' := T1244) (f' := (mkF m 63 #[.val (.int ia), .val (.int ib), .val (.int ic), .val (.int ie), .val (.int ig), .val (.ref u1044), .val .null, .val (.ref b1164), .val (.ref u1195), .val (.ref u1216)] [.null, .null])) (fun t k => XS.aload X1244.here hx rfl (hb hby at_61) rfl rfl k) ?_
      obtain ⟨_, _, ⟨T1246, L1246, k1246, n1246⟩, -, X1246, ⟨Lc1246, hQ1246, l1246, y1246, z1246⟩, st1246⟩ := Jvm.LawKit.callS X1244 hx (y := (⟨"com/example/ferryline/ferryline/server/ApiErrorBodyPinLaw", "same", "(Ljava/lang/String;Ljava/lang/String;)Z"⟩ : MethodName)) hown (mvT hZ (hw _ (List.mem_of_getElem? (i := 130) rfl))) (mvT hZ (hw _ (List.mem_of_getElem? (i := 131) rfl))) (mvT hZ (hw _ (List.mem_of_getElem? (i := 2) rfl))) (mvT hZ (hw _ (List.mem_of_getElem? (i := 132) rfl))) (by decide) (backOf (W := 0) (rm_sameN l Z a0 hw []  T1215.heap n0 O1233 ) hZ (hw _ (List.mem_of_getElem? (i := 132) rfl)) (hw _ (List.mem_of_getElem? (i := 2) rfl)) (by decide) (by decide)) (g := (mkF m 63 #[.val (.int ia), .val (.int ib), .val (.int ic), .val (.int ie), .val (.int ig), .val (.ref u1044), .val .null, .val (.ref b1164), .val (.ref u1195), .val (.ref u1216)] [.null, .null])) rfl (by rw [hml]; rfl) (argsL := [.null, .null]) (rest := []) (lenOf pd13 rfl) rfl (by show 2 * 0 + _ ≤ _; exact Nat.le_of_eq rfl) (hb hby at_63) (fun _ _ => ⟨rfl, hh1244, (by decide : 10 + 0 ≤ _), (by decide : 2776 + 0 ≤ _)⟩)
      dsimp only [Pt.U, Pt.locs, Pt.cells, Pt.slots] at X1246 l1246 y1246 z1246 st1246 hQ1246
      subst l1246 y1246 z1246
      obtain ⟨rfl, Nq1246, hh1246⟩ := hQ1246
      have N1247 := Fr.app N1245 Nq1246
      refine GoH.step (T' := T1246) (f' := (mkF m 66 #[.val (.int ia), .val (.int ib), .val (.int ic), .val (.int ie), .val (.int ig), .val (.ref u1044), .val .null, .val (.ref b1164), .val (.ref u1195), .val (.ref u1216)] [(.int (1 : Int32))])) st1246 ?_
      clear st1246 X1244 N1245 Nq1246
      refine GoH.step (T' := T1246) (f' := (mkF m 69 #[.val (.int ia), .val (.int ib), .val (.int ic), .val (.int ie), .val (.int ig), .val (.ref u1044), .val .null, .val (.ref b1164), .val (.ref u1195), .val (.ref u1216)] [])) (fun t k => XS.ifNo X1246.here hx rfl (hb hby at_66) rfl ((if0 _ _).trans (feq (by decide : ¬ ((1 : Int32) = (0 : Int32)))).1) k) ?_
      refine GoH.step (T' := T1246) (f' := (mkF m 71 #[.val (.int ia), .val (.int ib), .val (.int ic), .val (.int ie), .val (.int ig), .val (.ref u1044), .val .null, .val (.ref b1164), .val (.ref u1195), .val (.ref u1216)] [(.ref u1216)])) (fun t k => XS.aload X1246.here hx rfl (hb hby at_69) rfl rfl k) ?_
      obtain ⟨cq1248, kq1248, q1248a, q1248b, q1248c⟩ := isOf hZ hh1246 p1218
      obtain ⟨_, _, ⟨T1248, L1248, k1248, n1248⟩, -, X1248, ⟨Lc1248, hQ1248, l1248, y1248, z1248⟩, st1248⟩ := X1246.virtualBack hx (y := (⟨"com/example/ferryline/ferryline/server/ApiError$Body", "error", "()Ljava/lang/String;"⟩ : MethodName)) (z := (⟨"com/example/ferryline/ferryline/server/ApiError$Body", "error", "()Ljava/lang/String;"⟩ : MethodName)) hown (mvT hZ (hw _ (List.mem_of_getElem? (i := 125) rfl))) (mvT hZ (hw _ (List.mem_of_getElem? (i := 126) rfl))) (notFace_of_selects (args := #[]) (mvT hZ (hw _ (List.mem_of_getElem? (i := 128) rfl)))) (mvT hZ (hw _ (List.mem_of_getElem? (i := 128) rfl))) (mvT hZ (hw _ (List.mem_of_getElem? (i := 127) rfl))) (by decide) (backOf (W := 0) (rm_errR l Z a0 hw [] u1216 u1044 T1215.heap n0 O1233 p1219) hZ (hw _ (List.mem_of_getElem? (i := 129) rfl)) (hw _ (List.mem_of_getElem? (i := 105) rfl)) (by decide) (by decide)) q1248a q1248c (g := (mkF m 71 #[.val (.int ia), .val (.int ib), .val (.int ic), .val (.int ie), .val (.int ig), .val (.ref u1044), .val .null, .val (.ref b1164), .val (.ref u1195), .val (.ref u1216)] [(.ref u1216)])) rfl (by rw [hml]; rfl) (Steps.refl _) (argsL := []) (rest := []) (lenOf pd8 rfl) rfl (by show 2 * 0 + _ ≤ _; exact Nat.le_of_eq rfl) (hb hby at_71) (fun _ _ => ⟨rfl, hh1246, (by decide : 10 + 0 ≤ _), (by decide : 2776 + 0 ≤ _)⟩)
      dsimp only [Pt.U, Pt.locs, Pt.cells, Pt.slots] at X1248 l1248 y1248 z1248 st1248 hQ1248
      subst l1248 y1248 z1248
      obtain ⟨rfl, Nq1248, hh1248⟩ := hQ1248
      have N1249 := Fr.app N1247 Nq1248
      refine GoH.via (T' := T1248) (f' := (mkF m 74 #[.val (.int ia), .val (.int ib), .val (.int ic), .val (.int ie), .val (.int ig), .val (.ref u1044), .val .null, .val (.ref b1164), .val (.ref u1195), .val (.ref u1216)] [(.ref u1044)])) st1248 ?_
      clear st1248 X1246 N1247 Nq1248
      refine GoH.step (T' := T1248) (f' := (mkF m 76 #[.val (.int ia), .val (.int ib), .val (.int ic), .val (.int ie), .val (.int ig), .val (.ref u1044), .val .null, .val (.ref b1164), .val (.ref u1195), .val (.ref u1216)] [(.ref u1044), (.ref u1044)])) (fun t k => XS.aload X1248.here hx rfl (hb hby at_74) rfl rfl k) ?_
      obtain ⟨_, _, ⟨T1250, L1250, k1250, n1250⟩, -, X1250, ⟨Lc1250, hQ1250, l1250, y1250, z1250⟩, st1250⟩ := Jvm.LawKit.callS X1248 hx (y := (⟨"com/example/ferryline/ferryline/server/ApiErrorBodyPinLaw", "same", "(Ljava/lang/String;Ljava/lang/String;)Z"⟩ : MethodName)) hown (mvT hZ (hw _ (List.mem_of_getElem? (i := 130) rfl))) (mvT hZ (hw _ (List.mem_of_getElem? (i := 131) rfl))) (mvT hZ (hw _ (List.mem_of_getElem? (i := 2) rfl))) (mvT hZ (hw _ (List.mem_of_getElem? (i := 132) rfl))) (by decide) (backOf (W := 0) (rm_sameR l Z a0 hw [] u1044 T1215.heap n0 O1233 f1225) hZ (hw _ (List.mem_of_getElem? (i := 132) rfl)) (hw _ (List.mem_of_getElem? (i := 2) rfl)) (by decide) (by decide)) (g := (mkF m 76 #[.val (.int ia), .val (.int ib), .val (.int ic), .val (.int ie), .val (.int ig), .val (.ref u1044), .val .null, .val (.ref b1164), .val (.ref u1195), .val (.ref u1216)] [(.ref u1044), (.ref u1044)])) rfl (by rw [hml]; rfl) (argsL := [(.ref u1044), (.ref u1044)]) (rest := []) (lenOf pd13 rfl) rfl (by show 2 * 0 + _ ≤ _; exact Nat.le_of_eq rfl) (hb hby at_76) (fun _ _ => ⟨rfl, hh1248, (by decide : 10 + 0 ≤ _), (by decide : 2776 + 0 ≤ _)⟩)
      dsimp only [Pt.U, Pt.locs, Pt.cells, Pt.slots] at X1250 l1250 y1250 z1250 st1250 hQ1250
      subst l1250 y1250 z1250
      obtain ⟨rfl, Nq1250, hh1250⟩ := hQ1250
      have N1251 := Fr.app N1249 Nq1250
      refine GoH.step (T' := T1250) (f' := (mkF m 79 #[.val (.int ia), .val (.int ib), .val (.int ic), .val (.int ie), .val (.int ig), .val (.ref u1044), .val .null, .val (.ref b1164), .val (.ref u1195), .val (.ref u1216)] [(.int (1 : Int32))])) st1250 ?_
      clear st1250 X1248 N1249 Nq1250
      refine GoH.step (T' := T1250) (f' := (mkF m 82 #[.val (.int ia), .val (.int ib), .val (.int ic), .val (.int ie), .val (.int ig), .val (.ref u1044), .val .null, .val (.ref b1164), .val (.ref u1195), .val (.ref u1216)] [])) (fun t k => XS.ifNo X1250.here hx rfl (hb hby at_79) rfl ((if0 _ _).trans (feq (by decide : ¬ ((1 : Int32) = (0 : Int32)))).1) k) ?_
      refine GoH.step (T' := T1250) (f' := (mkF m 84 #[.val (.int ia), .val (.int ib), .val (.int ic), .val (.int ie), .val (.int ig), .val (.ref u1044), .val .null, .val (.ref b1164), .val (.ref u1195), .val (.ref u1216)] [(.ref u1216)])) (fun t k => XS.aload X1250.here hx rfl (hb hby at_82) rfl rfl k) ?_
      obtain ⟨cq1252, kq1252, q1252a, q1252b, q1252c⟩ := isOf hZ hh1250 p1218
      obtain ⟨_, _, ⟨T1252, L1252, k1252, n1252⟩, -, X1252, ⟨Lc1252, hQ1252, l1252, y1252, z1252⟩, st1252⟩ := X1250.virtualBack hx (y := (⟨"com/example/ferryline/ferryline/server/ApiError$Body", "message", "()Ljava/lang/String;"⟩ : MethodName)) (z := (⟨"com/example/ferryline/ferryline/server/ApiError$Body", "message", "()Ljava/lang/String;"⟩ : MethodName)) hown (mvT hZ (hw _ (List.mem_of_getElem? (i := 138) rfl))) (mvT hZ (hw _ (List.mem_of_getElem? (i := 139) rfl))) (notFace_of_selects (args := #[]) (mvT hZ (hw _ (List.mem_of_getElem? (i := 141) rfl)))) (mvT hZ (hw _ (List.mem_of_getElem? (i := 141) rfl))) (mvT hZ (hw _ (List.mem_of_getElem? (i := 140) rfl))) (by decide) (backOf (W := 0) (rm_msgN l Z a0 hw [] u1216 T1215.heap n0 O1233 p1220) hZ (hw _ (List.mem_of_getElem? (i := 142) rfl)) (hw _ (List.mem_of_getElem? (i := 105) rfl)) (by decide) (by decide)) q1252a q1252c (g := (mkF m 84 #[.val (.int ia), .val (.int ib), .val (.int ic), .val (.int ie), .val (.int ig), .val (.ref u1044), .val .null, .val (.ref b1164), .val (.ref u1195), .val (.ref u1216)] [(.ref u1216)])) rfl (by rw [hml]; rfl) (Steps.refl _) (argsL := []) (rest := []) (lenOf pd8 rfl) rfl (by show 2 * 0 + _ ≤ _; exact Nat.le_of_eq rfl) (hb hby at_84) (fun _ _ => ⟨rfl, hh1250, (by decide : 10 + 0 ≤ _), (by decide : 2776 + 0 ≤ _)⟩)
      dsimp only [Pt.U, Pt.locs, Pt.cells, Pt.slots] at X1252 l1252 y1252 z1252 st1252 hQ1252
      subst l1252 y1252 z1252
      obtain ⟨rfl, Nq1252, hh1252⟩ := hQ1252
      have N1253 := Fr.app N1251 Nq1252
      refine GoH.via (T' := T1252) (f' := (mkF m 87 #[.val (.int ia), .val (.int ib), .val (.int ic), .val (.int ie), .val (.int ig), .val (.ref u1044), .val .null, .val (.ref b1164), .val (.ref u1195), .val (.ref u1216)] [.null])) st1252 ?_
      clear st1252 X1250 N1251 Nq1252
      refine GoH.step (T' := T1252) (f' := (mkF m 89 #[.val (.int ia), .val (.int ib), .val (.int ic), .val (.int ie), .val (.int ig), .val (.ref u1044), .val .null, .val (.ref b1164), .val (.ref u1195), .val (.ref u1216)] [.null, .null])) (fun t k => XS.aload X1252.here hx rfl (hb hby at_87) rfl rfl k) ?_
      obtain ⟨_, _, ⟨T1254, L1254, k1254, n1254⟩, -, X1254, ⟨Lc1254, hQ1254, l1254, y1254, z1254⟩, st1254⟩ := Jvm.LawKit.callS X1252 hx (y := (⟨"com/example/ferryline/ferryline/server/ApiErrorBodyPinLaw", "same", "(Ljava/lang/String;Ljava/lang/String;)Z"⟩ : MethodName)) hown (mvT hZ (hw _ (List.mem_of_getElem? (i := 130) rfl))) (mvT hZ (hw _ (List.mem_of_getElem? (i := 131) rfl))) (mvT hZ (hw _ (List.mem_of_getElem? (i := 2) rfl))) (mvT hZ (hw _ (List.mem_of_getElem? (i := 132) rfl))) (by decide) (backOf (W := 0) (rm_sameN l Z a0 hw []  T1215.heap n0 O1233 ) hZ (hw _ (List.mem_of_getElem? (i := 132) rfl)) (hw _ (List.mem_of_getElem? (i := 2) rfl)) (by decide) (by decide)) (g := (mkF m 89 #[.val (.int ia), .val (.int ib), .val (.int ic), .val (.int ie), .val (.int ig), .val (.ref u1044), .val .null, .val (.ref b1164), .val (.ref u1195), .val (.ref u1216)] [.null, .null])) rfl (by rw [hml]; rfl) (argsL := [.null, .null]) (rest := []) (lenOf pd13 rfl) rfl (by show 2 * 0 + _ ≤ _; exact Nat.le_of_eq rfl) (hb hby at_89) (fun _ _ => ⟨rfl, hh1252, (by decide : 10 + 0 ≤ _), (by decide : 2776 + 0 ≤ _)⟩)
      dsimp only [Pt.U, Pt.locs, Pt.cells, Pt.slots] at X1254 l1254 y1254 z1254 st1254 hQ1254
      subst l1254 y1254 z1254
      obtain ⟨rfl, Nq1254, hh1254⟩ := hQ1254
      have N1255 := Fr.app N1253 Nq1254
      refine GoH.step (T' := T1254) (f' := (mkF m 92 #[.val (.int ia), .val (.int ib), .val (.int ic), .val (.int ie), .val (.int ig), .val (.ref u1044), .val .null, .val (.ref b1164), .val (.ref u1195), .val (.ref u1216)] [(.int (1 : Int32))])) st1254 ?_
      clear st1254 X1252 N1253 Nq1254
      refine GoH.step (T' := T1254) (f' := (mkF m 95 #[.val (.int ia), .val (.int ib), .val (.int ic), .val (.int ie), .val (.int ig), .val (.ref u1044), .val .null, .val (.ref b1164), .val (.ref u1195), .val (.ref u1216)] [])) (fun t k => XS.ifNo X1254.here hx rfl (hb hby at_92) rfl ((if0 _ _).trans (feq (by decide : ¬ ((1 : Int32) = (0 : Int32)))).1) k) ?_
      refine GoH.step (T' := T1254) (f' := (mkF m 97 #[.val (.int ia), .val (.int ib), .val (.int ic), .val (.int ie), .val (.int ig), .val (.ref u1044), .val .null, .val (.ref b1164), .val (.ref u1195), .val (.ref u1216)] [(.ref b1164)])) (fun t k => XS.aload X1254.here hx rfl (hb hby at_95) rfl rfl k) ?_
      obtain ⟨cq1256, kq1256, q1256a, q1256b, q1256c⟩ := isOf hZ hh1254 f1226
      obtain ⟨_, _, ⟨T1256, L1256, k1256, n1256⟩, -, X1256, ⟨Lc1256, hQ1256, l1256, y1256, z1256⟩, st1256⟩ := X1254.virtualBack hx (y := (⟨"com/example/ferryline/ferryline/server/ApiError", "status", "()I"⟩ : MethodName)) (z := (⟨"com/example/ferryline/ferryline/server/ApiError", "status", "()I"⟩ : MethodName)) hown (mvT hZ (hw _ (List.mem_of_getElem? (i := 143) rfl))) (mvT hZ (hw _ (List.mem_of_getElem? (i := 144) rfl))) (notFace_of_selects (args := #[]) (mvT hZ (hw _ (List.mem_of_getElem? (i := 146) rfl)))) (mvT hZ (hw _ (List.mem_of_getElem? (i := 146) rfl))) (mvT hZ (hw _ (List.mem_of_getElem? (i := 145) rfl))) (by decide) (backOf (W := 0) (rm_stat l Z a0 hw [] b1164 ia T1215.heap n0 O1233 f1227) hZ (hw _ (List.mem_of_getElem? (i := 147) rfl)) (hw _ (List.mem_of_getElem? (i := 36) rfl)) (by decide) (by decide)) q1256a q1256c (g := (mkF m 97 #[.val (.int ia), .val (.int ib), .val (.int ic), .val (.int ie), .val (.int ig), .val (.ref u1044), .val .null, .val (.ref b1164), .val (.ref u1195), .val (.ref u1216)] [(.ref b1164)])) rfl (by rw [hml]; rfl) (Steps.refl _) (argsL := []) (rest := []) (lenOf pd14 rfl) rfl (by show 2 * 0 + _ ≤ _; exact Nat.le_of_eq rfl) (hb hby at_97) (fun _ _ => ⟨rfl, hh1254, (by decide : 10 + 0 ≤ _), (by decide : 2776 + 0 ≤ _)⟩)
      dsimp only [Pt.U, Pt.locs, Pt.cells, Pt.slots] at X1256 l1256 y1256 z1256 st1256 hQ1256
      subst l1256 y1256 z1256
      obtain ⟨rfl, Nq1256, hh1256⟩ := hQ1256
      have N1257 := Fr.app N1255 Nq1256
      refine GoH.via (T' := T1256) (f' := (mkF m 100 #[.val (.int ia), .val (.int ib), .val (.int ic), .val (.int ie), .val (.int ig), .val (.ref u1044), .val .null, .val (.ref b1164), .val (.ref u1195), .val (.ref u1216)] [(.int ia)])) st1256 ?_
      clear st1256 X1254 N1255 Nq1256
      refine GoH.step (T' := T1256) (f' := (mkF m 101 #[.val (.int ia), .val (.int ib), .val (.int ic), .val (.int ie), .val (.int ig), .val (.ref u1044), .val .null, .val (.ref b1164), .val (.ref u1195), .val (.ref u1216)] [(.int ia), (.int ia)])) (fun t k => XS.iloadN X1256.here hx rfl (hb hby at_100) rfl k) ?_
      refine GoH.step (T' := T1256) (f' := (mkF m 104 #[.val (.int ia), .val (.int ib), .val (.int ic), .val (.int ie), .val (.int ig), .val (.ref u1044), .val .null, .val (.ref b1164), .val (.ref u1195), .val (.ref u1216)] [])) (fun t k => XS.icmpNo X1256.here hx rfl (hb hby at_101) rfl (teq (rfl : ia = ia)).2 k) ?_
      refine GoH.step (T' := T1256) (f' := (mkF m 105 #[.val (.int ia), .val (.int ib), .val (.int ic), .val (.int ie), .val (.int ig), .val (.ref u1044), .val .null, .val (.ref b1164), .val (.ref u1195), .val (.ref u1216)] [(.int (1 : Int32))])) (fun t k => XS.iconst X1256.here hx rfl (hb hby at_104) k) ?_
      refine GoH.step (T' := T1256) (f' := (mkF m 109 #[.val (.int ia), .val (.int ib), .val (.int ic), .val (.int ie), .val (.int ig), .val (.ref u1044), .val .null, .val (.ref b1164), .val (.ref u1195), .val (.ref u1216)] [(.int (1 : Int32))])) (fun t k => XS.goto X1256.here hx rfl (pc0 := 105) (pc' := 109) rfl (hb hby at_105) (by decide) (by decide) k) ?_
      refine GoH.fin X1256 hZ hEL hS1043 hk1224 CR1223 hlk (v := some (.int (nar .boolean (1 : Int32)))) (fun h => by rw [Bd.returns] at h; cases h) (fun fs hr => retN X1256 hx (t := .boolean) Bd.returns (by simp) (hb hby at_109) hr) hh1256 ?_ (by decide) (by decide)
      exact ⟨rfl, N1257, K1234⟩
  ·
    refine GoH.step (T' := s₁) (f' := (mkF m 1 #[.val (.int ia), .val (.int ib), .val (.int ic), .val (.int ie), .val (.int ig), .unset, .unset, .unset, .unset, .unset] [(.int ib)])) (fun t k => XS.iloadN X0.here hx rfl (hb hby at_0) rfl k) ?_
    refine GoH.step (T' := s₁) (f' := (mkF m 2 #[.val (.int ia), .val (.int ib), .val (.int ic), .val (.int ie), .val (.int ig), .unset, .unset, .unset, .unset, .unset] [(.int ic), (.int ib)])) (fun t k => XS.iloadN X0.here hx rfl (hb hby at_1) rfl k) ?_
    obtain ⟨_, _, ⟨T1258, L1258, k1258, n1258⟩, -, X1258, ⟨Lc1258, hQ1258, l1258, y1258, z1258⟩, st1258⟩ := Jvm.LawKit.callS X0 hx (y := (⟨"com/example/ferryline/ferryline/server/ApiErrorBodyPinLaw", "draw", "(II)Ljava/lang/String;"⟩ : MethodName)) hown (mvT hZ (hw _ (List.mem_of_getElem? (i := 0) rfl))) (mvT hZ (hw _ (List.mem_of_getElem? (i := 1) rfl))) (mvT hZ (hw _ (List.mem_of_getElem? (i := 2) rfl))) (mvT hZ (hw _ (List.mem_of_getElem? (i := 3) rfl))) (by decide) (backOf (W := 0) (rm_drawN l Z a0 hw [] ib ic h0 n0 O0 (hc1042)) hZ (hw _ (List.mem_of_getElem? (i := 3) rfl)) (hw _ (List.mem_of_getElem? (i := 2) rfl)) (by decide) (by decide)) (g := (mkF m 2 #[.val (.int ia), .val (.int ib), .val (.int ic), .val (.int ie), .val (.int ig), .unset, .unset, .unset, .unset, .unset] [(.int ic), (.int ib)])) rfl (by rw [hml]; rfl) (argsL := [(.int ib), (.int ic)]) (rest := []) (lenOf pd10 rfl) rfl (by show 2 * 0 + _ ≤ _; exact Nat.le_of_eq rfl) (hb hby at_2) (fun _ _ => ⟨rfl, e0, (by decide : 0 + 0 ≤ _), (by decide : 0 + 0 ≤ _)⟩)
    dsimp only [Pt.U, Pt.locs, Pt.cells, Pt.slots] at X1258 l1258 y1258 z1258 st1258 hQ1258
    subst l1258 y1258 z1258
    obtain ⟨rfl, Nq1258, hh1258⟩ := hQ1258
    have N1259 := Fr.app N0 Nq1258
    refine GoH.step (T' := T1258) (f' := (mkF m 5 #[.val (.int ia), .val (.int ib), .val (.int ic), .val (.int ie), .val (.int ig), .unset, .unset, .unset, .unset, .unset] [.null])) st1258 ?_
    clear st1258 X0 Nq1258
    refine GoH.step (T' := T1258) (f' := (mkF m 7 #[.val (.int ia), .val (.int ib), .val (.int ic), .val (.int ie), .val (.int ig), .val .null, .unset, .unset, .unset, .unset] [])) (fun t k => XS.astore X1258.here hx rfl (hb hby at_5) rfl rfl (l' := #[.val (.int ia), .val (.int ib), .val (.int ic), .val (.int ie), .val (.int ig), .val .null, .unset, .unset, .unset, .unset]) rfl k) ?_
    by_cases hc1260 : (ie &&& (4 : Int32)) = (0 : Int32)
    ·
      refine GoH.step (T' := T1258) (f' := (mkF m 8 #[.val (.int ia), .val (.int ib), .val (.int ic), .val (.int ie), .val (.int ig), .val .null, .unset, .unset, .unset, .unset] [(.int ie)])) (fun t k => XS.iloadN X1258.here hx rfl (hb hby at_7) rfl k) ?_
      refine GoH.step (T' := T1258) (f' := (mkF m 10 #[.val (.int ia), .val (.int ib), .val (.int ic), .val (.int ie), .val (.int ig), .val .null, .unset, .unset, .unset, .unset] [(.int ig), (.int ie)])) (fun t k => XS.iload X1258.here hx rfl (hb hby at_8) rfl k) ?_
      obtain ⟨_, _, ⟨T1261, L1261, k1261, n1261⟩, -, X1261, hS1261, hg1261, ⟨Lc1261, hQ1261, l1261, y1261, z1261, ch1261⟩, st1261⟩ := callSS X1258 hx (y := (⟨"com/example/ferryline/ferryline/server/ApiErrorBodyPinLaw", "draw", "(II)Ljava/lang/String;"⟩ : MethodName)) hown (mvT hZ (hw _ (List.mem_of_getElem? (i := 0) rfl))) (mvT hZ (hw _ (List.mem_of_getElem? (i := 1) rfl))) (mvT hZ (hw _ (List.mem_of_getElem? (i := 2) rfl))) (mvT hZ (hw _ (List.mem_of_getElem? (i := 3) rfl))) (by decide) (backOfSH (s := s) (vm0 := s.vm) (W := 0) (rm_drawS l Z a0 hw [] ie ig wz h0 n0 O0 hEL P0 hwz (hc1260)) hZ (hw _ (List.mem_of_getElem? (i := 3) rfl)) (hw _ (List.mem_of_getElem? (i := 2) rfl)) (by decide) (by decide) hEL CR0.1) (g := (mkF m 10 #[.val (.int ia), .val (.int ib), .val (.int ic), .val (.int ie), .val (.int ig), .val .null, .unset, .unset, .unset, .unset] [(.int ig), (.int ie)])) rfl (by rw [hml]; rfl) (argsL := [(.int ie), (.int ig)]) (rest := []) (lenOf pd10 rfl) rfl (by show 2 * 0 + _ ≤ _; exact Nat.le_of_eq rfl) (hb hby at_10) (fun _ _ => ⟨rfl, hh1258, (by decide : 0 + 6 ≤ _), (by decide : 0 + 12 ≤ _)⟩)
      dsimp only [Pt.U, Pt.locs, Pt.cells, Pt.slots] at X1261 l1261 y1261 z1261 st1261 hQ1261 hS1261 hg1261 ch1261
      subst l1261 y1261 z1261
      obtain ⟨X1261, hS1261, hZ, hown⟩ := rebS (s := s) (vm0 := s.vm) hS0 (show _ ≤ T1258.heap.size by rw [hh1258]; exact hk0) X1261 hS1261 hg1261 hZ hown
      obtain ⟨u1262, rfl, Nq1261, hh1261, p1263⟩ := hQ1261
      have N1264 := Fr.app N1259 Nq1261
      have CR1265 := CR0.trans ch1261
      have hk1266 := Nat.le_refl T1261.heap.size
      have O1267 := O0.keep hh1261 all0
      have K1268 := K0.trans hh1261 all0
      refine GoH.via (T' := T1261) (f' := (mkF m 13 #[.val (.int ia), .val (.int ib), .val (.int ic), .val (.int ie), .val (.int ig), .val .null, .unset, .unset, .unset, .unset] [(.ref u1262)])) st1261 ?_
      clear st1261 X1258 N1259 Nq1261 CR0 hk0 hS0
      refine GoH.step (T' := T1261) (f' := (mkF m 15 #[.val (.int ia), .val (.int ib), .val (.int ic), .val (.int ie), .val (.int ig), .val .null, .val (.ref u1262), .unset, .unset, .unset] [])) (fun t k => XS.astore X1261.here hx rfl (hb hby at_13) rfl rfl (l' := #[.val (.int ia), .val (.int ib), .val (.int ic), .val (.int ie), .val (.int ig), .val .null, .val (.ref u1262), .unset, .unset, .unset]) rfl k) ?_
      obtain ⟨T1269, h1269, X1269, e1269, E1269, A1269, D1269, U1269, st1269⟩ := newO X1261 hx hZ hown (hw _ (List.mem_of_getElem? (i := 34) rfl)) (hw _ (List.mem_of_getElem? (i := 35) rfl)) (hw _ (List.mem_of_getElem? (i := 36) rfl)) rfl (g := (mkF m 15 #[.val (.int ia), .val (.int ib), .val (.int ic), .val (.int ie), .val (.int ig), .val .null, .val (.ref u1262), .unset, .unset, .unset] [])) rfl (hb hby at_15) (by decide) (by decide)
      obtain ⟨b1269, g1269⟩ : ∃ z, z = T1261.heap.size := ⟨_, rfl⟩
      rw [← g1269] at A1269 D1269 U1269 st1269
      have g1270 : n0 ≤ b1269 := Nat.le_trans (own_old_le O1267) (Nat.le_of_eq g1269.symm)
      have g1271 : h0.size ≤ b1269 := Nat.le_trans K1268.1 (Nat.le_of_eq g1269.symm)
      have ne1272 : u1262 ≠ b1269 := Nat.ne_of_lt (Nat.lt_of_lt_of_le p1263.lt (Nat.le_of_eq g1269.symm))
      have CR1273 := CR1265.trans (CHr.ext E1269 CR1265.1)
      have hk1274 := Nat.le_trans hk1266 E1269.1
      have f1275 := p1263.ext E1269
      have O1276 := O1267.ext E1269
      have K1277 := K1268.ext E1269
      have f1278 : Fld Z h1269 b1269 "java/lang/Throwable" "cause" "Ljava/lang/Throwable;" .null := D1269 (Or.inl (hw _ (List.mem_of_getElem? (i := 59) rfl))) (ty := (.object "java/lang/Throwable")) (by decide)
      have f1279 : Fld Z h1269 b1269 "java/lang/Throwable" "stackTrace" "[Ljava/lang/StackTraceElement;" .null := D1269 (Or.inl (hw _ (List.mem_of_getElem? (i := 62) rfl))) (ty := (.array (.object "java/lang/StackTraceElement"))) (by decide)
      have f1280 : Fld Z h1269 b1269 "java/lang/Throwable" "suppressedExceptions" "Ljava/util/List;" .null := D1269 (Or.inl (hw _ (List.mem_of_getElem? (i := 65) rfl))) (ty := (.object "java/util/List")) (by decide)
      have f1281 : Fld Z h1269 b1269 "java/lang/Throwable" "detailMessage" "Ljava/lang/String;" .null := D1269 (Or.inl (hw _ (List.mem_of_getElem? (i := 89) rfl))) (ty := (.object "java/lang/String")) (by decide)
      have f1282 : Fld Z h1269 b1269 "java/lang/Throwable" "backtrace" "Ljava/lang/Object;" .null := D1269 (Or.inl (hw _ (List.mem_of_getElem? (i := 90) rfl))) (ty := (.object "java/lang/Object")) (by decide)
      have f1283 : Fld Z h1269 b1269 "java/lang/Throwable" "depth" "I" (.int (0 : Int32)) := D1269 (Or.inl (hw _ (List.mem_of_getElem? (i := 91) rfl))) (ty := .int) (by decide)
      have f1284 : Fld Z h1269 b1269 "com/example/ferryline/ferryline/server/ApiError" "status" "I" (.int (0 : Int32)) := D1269 (Or.inr (hw _ (List.mem_of_getElem? (i := 95) rfl))) (ty := .int) (by decide)
      have f1285 : Fld Z h1269 b1269 "com/example/ferryline/ferryline/server/ApiError" "code" "Ljava/lang/String;" .null := D1269 (Or.inr (hw _ (List.mem_of_getElem? (i := 97) rfl))) (ty := (.object "java/lang/String")) (by decide)
      refine GoH.step (T' := T1269) (f' := (mkF m 18 #[.val (.int ia), .val (.int ib), .val (.int ic), .val (.int ie), .val (.int ig), .val .null, .val (.ref u1262), .unset, .unset, .unset] [(.ref b1269)])) st1269 ?_
      clear st1269 X1261 CR1265 hk1266 p1263 O1267 K1268
      refine GoH.step (T' := T1269) (f' := (mkF m 19 #[.val (.int ia), .val (.int ib), .val (.int ic), .val (.int ie), .val (.int ig), .val .null, .val (.ref u1262), .unset, .unset, .unset] [(.ref b1269), (.ref b1269)])) (fun t k => XS.dup X1269.here hx rfl (hb hby at_18) rfl rfl k) ?_
      refine GoH.step (T' := T1269) (f' := (mkF m 20 #[.val (.int ia), .val (.int ib), .val (.int ic), .val (.int ie), .val (.int ig), .val .null, .val (.ref u1262), .unset, .unset, .unset] [(.int ia), (.ref b1269), (.ref b1269)])) (fun t k => XS.iloadN X1269.here hx rfl (hb hby at_19) rfl k) ?_
      refine GoH.step (T' := T1269) (f' := (mkF m 22 #[.val (.int ia), .val (.int ib), .val (.int ic), .val (.int ie), .val (.int ig), .val .null, .val (.ref u1262), .unset, .unset, .unset] [.null, (.int ia), (.ref b1269), (.ref b1269)])) (fun t k => XS.aload X1269.here hx rfl (hb hby at_20) rfl rfl k) ?_
      refine GoH.step (T' := T1269) (f' := (mkF m 24 #[.val (.int ia), .val (.int ib), .val (.int ic), .val (.int ie), .val (.int ig), .val .null, .val (.ref u1262), .unset, .unset, .unset] [(.ref u1262), .null, (.int ia), (.ref b1269), (.ref b1269)])) (fun t k => XS.aload X1269.here hx rfl (hb hby at_22) rfl rfl k) ?_
      obtain ⟨_, _, ⟨T1286, L1286, k1286, n1286⟩, -, X1286, ⟨Lc1286, hQ1286, l1286, y1286, z1286⟩, st1286⟩ := X1269.specialBack hx (y := (⟨"com/example/ferryline/ferryline/server/ApiError", "<init>", "(ILjava/lang/String;Ljava/lang/String;)V"⟩ : MethodName)) rfl hown (mvT hZ (hw _ (List.mem_of_getElem? (i := 37) rfl))) (mvT hZ (hw _ (List.mem_of_getElem? (i := 38) rfl))) (mvT hZ (hw _ (List.mem_of_getElem? (i := 39) rfl))) (by decide) (backOfKL (W := 1) (rm_aeiNR l Z a0 hw [] b1269 ia u1262 (.int (0 : Int32)) .null bu bz h1269 n0 O1276 A1269 f1278 f1279 f1280 f1282 f1281 f1284 f1285 g1270 U1269 P2 P3 htr) hZ (hw _ (List.mem_of_getElem? (i := 39) rfl)) (hw _ (List.mem_of_getElem? (i := 36) rfl)) (by decide) (by decide) (Vm.MethodsKnown.alikeC hS1261.1.alike hK.1) (Vm.FramesKnown.alikeC hS1261.1.alike hK.2)) (g := (mkF m 24 #[.val (.int ia), .val (.int ib), .val (.int ic), .val (.int ie), .val (.int ig), .val .null, .val (.ref u1262), .unset, .unset, .unset] [(.ref u1262), .null, (.int ia), (.ref b1269), (.ref b1269)])) rfl (by rw [hml]; rfl) (Steps.refl _) (a := b1269) (argsL := [(.int ia), .null, (.ref u1262)]) (rest := [(.ref b1269)]) (lenOf pd11 rfl) rfl (by show 2 * 0 + _ ≤ _; exact Nat.le_of_eq rfl) (hb hby at_24) (fun _ _ => ⟨rfl, e1269, (by decide : 7 + 1 ≤ _), (by decide : 20 + 2752 ≤ _)⟩)
      dsimp only [Pt.U, Pt.locs, Pt.cells, Pt.slots] at X1286 l1286 y1286 z1286 st1286 hQ1286
      subst l1286 y1286 z1286
      obtain ⟨rfl, Nq1286, hh1286, p1287, p1288, p1289, p1290⟩ := hQ1286
      have N1291 := Fr.app N1264 Nq1286
      have sz1292 : ∀ x ∈ [b1269], Safe Z own_EL T1261.vm h1269 x := (sfS (Safe.exa (EL := own_EL) hZ.alike A1269 (by decide) (by decide)) sf0)
      have CR1293 := CR1273.trans (CHr.keep hh1286 sz1292 CR1273.1)
      have hk1294 := Nat.le_trans hk1274 hh1286.1
      have f1295 := f1275.keep hh1286
      have f1296 := A1269.keep hh1286
      have O1297 := O1276.keep hh1286 (allS g1270 all0)
      have K1298 := K1277.trans hh1286 (allS (Or.inr g1271) all0)
      refine GoH.via (T' := T1286) (f' := (mkF m 27 #[.val (.int ia), .val (.int ib), .val (.int ic), .val (.int ie), .val (.int ig), .val .null, .val (.ref u1262), .unset, .unset, .unset] [(.ref b1269)])) st1286 ?_
      clear st1286 X1269 N1264 Nq1286 CR1273 hk1274 sz1292
      refine GoH.step (T' := T1286) (f' := (mkF m 29 #[.val (.int ia), .val (.int ib), .val (.int ic), .val (.int ie), .val (.int ig), .val .null, .val (.ref u1262), .val (.ref b1269), .unset, .unset] [])) (fun t k => XS.astore X1286.here hx rfl (hb hby at_27) rfl rfl (l' := #[.val (.int ia), .val (.int ib), .val (.int ic), .val (.int ie), .val (.int ig), .val .null, .val (.ref u1262), .val (.ref b1269), .unset, .unset]) rfl k) ?_
      refine GoH.step (T' := T1286) (f' := (mkF m 31 #[.val (.int ia), .val (.int ib), .val (.int ic), .val (.int ie), .val (.int ig), .val .null, .val (.ref u1262), .val (.ref b1269), .unset, .unset] [(.ref b1269)])) (fun t k => XS.aload X1286.here hx rfl (hb hby at_29) rfl rfl k) ?_
      obtain ⟨cq1299, kq1299, q1299a, q1299b, q1299c⟩ := isOf hZ rfl p1287
      obtain ⟨_, _, ⟨T1299, L1299, k1299, n1299⟩, -, X1299, ⟨Lc1299, hQ1299, l1299, y1299, z1299⟩, st1299⟩ := X1286.virtualBack hx (y := (⟨"com/example/ferryline/ferryline/server/ApiError", "body", "()Lcom/example/ferryline/ferryline/server/ApiError$Body;"⟩ : MethodName)) (z := (⟨"com/example/ferryline/ferryline/server/ApiError", "body", "()Lcom/example/ferryline/ferryline/server/ApiError$Body;"⟩ : MethodName)) hown (mvT hZ (hw _ (List.mem_of_getElem? (i := 98) rfl))) (mvT hZ (hw _ (List.mem_of_getElem? (i := 99) rfl))) (notFace_of_selects (args := #[]) (mvT hZ (hw _ (List.mem_of_getElem? (i := 101) rfl)))) (mvT hZ (hw _ (List.mem_of_getElem? (i := 101) rfl))) (mvT hZ (hw _ (List.mem_of_getElem? (i := 100) rfl))) (by decide) (backOf (W := 0) (rm_bodyNR l Z a0 hw [] b1269 u1262 T1286.heap n0 O1297 p1287 p1289 p1290) hZ (hw _ (List.mem_of_getElem? (i := 102) rfl)) (hw _ (List.mem_of_getElem? (i := 36) rfl)) (by decide) (by decide)) q1299a q1299c (g := (mkF m 31 #[.val (.int ia), .val (.int ib), .val (.int ic), .val (.int ie), .val (.int ig), .val .null, .val (.ref u1262), .val (.ref b1269), .unset, .unset] [(.ref b1269)])) rfl (by rw [hml]; rfl) (Steps.refl _) (argsL := []) (rest := []) (lenOf pd12 rfl) rfl (by show 2 * 0 + _ ≤ _; exact Nat.le_of_eq rfl) (hb hby at_31) (fun _ _ => ⟨rfl, rfl, (by decide : 8 + 1 ≤ _), (by decide : 2772 + 2 ≤ _)⟩)
      dsimp only [Pt.U, Pt.locs, Pt.cells, Pt.slots] at X1299 l1299 y1299 z1299 st1299 hQ1299
      subst l1299 y1299 z1299
      obtain ⟨u1300, rfl, Nq1299, hh1299, p1301, p1302, p1303, p1304⟩ := hQ1299
      have N1305 := Fr.app N1291 Nq1299
      have sz1306 : ∀ x ∈ ([] : List Addr), Safe Z own_EL T1261.vm T1286.heap x := sf0
      have CR1307 := CR1293.trans (CHr.keep hh1299 sz1306 CR1293.1)
      have hk1308 := Nat.le_trans hk1294 hh1299.1
      have f1309 := f1295.keep hh1299
      have f1310 := p1287.keep hh1299
      have f1311 := p1288.keep hh1299 nin0
      have f1312 := p1289.keep hh1299 nin0
      have f1313 := p1290.keep hh1299 nin0
      have O1314 := O1297.keep hh1299 all0
      have K1315 := K1298.trans hh1299 all0
      have g1316 : n0 ≤ u1300 := Nat.le_trans (own_old_le O1297) p1301
      have g1317 : h0.size ≤ u1300 := Nat.le_trans K1298.1 p1301
      have ne1318 : u1262 ≠ u1300 := Nat.ne_of_lt (Nat.lt_of_lt_of_le f1295.lt p1301)
      have ne1319 : b1269 ≠ u1300 := Nat.ne_of_lt (Nat.lt_of_lt_of_le p1287.lt p1301)
      refine GoH.via (T' := T1299) (f' := (mkF m 34 #[.val (.int ia), .val (.int ib), .val (.int ic), .val (.int ie), .val (.int ig), .val .null, .val (.ref u1262), .val (.ref b1269), .unset, .unset] [(.ref u1300)])) st1299 ?_
      clear st1299 X1286 N1291 Nq1299 CR1293 hk1294 sz1306 p1288 p1289 p1290
      refine GoH.step (T' := T1299) (f' := (mkF m 36 #[.val (.int ia), .val (.int ib), .val (.int ic), .val (.int ie), .val (.int ig), .val .null, .val (.ref u1262), .val (.ref b1269), .val (.ref u1300), .unset] [])) (fun t k => XS.astore X1299.here hx rfl (hb hby at_34) rfl rfl (l' := #[.val (.int ia), .val (.int ib), .val (.int ic), .val (.int ie), .val (.int ig), .val .null, .val (.ref u1262), .val (.ref b1269), .val (.ref u1300), .unset]) rfl k) ?_
      refine GoH.step (T' := T1299) (f' := (mkF m 38 #[.val (.int ia), .val (.int ib), .val (.int ic), .val (.int ie), .val (.int ig), .val .null, .val (.ref u1262), .val (.ref b1269), .val (.ref u1300), .unset] [(.ref b1269)])) (fun t k => XS.aload X1299.here hx rfl (hb hby at_36) rfl rfl k) ?_
      obtain ⟨cq1320, kq1320, q1320a, q1320b, q1320c⟩ := isOf hZ rfl f1310
      obtain ⟨_, _, ⟨T1320, L1320, k1320, n1320⟩, -, X1320, ⟨Lc1320, hQ1320, l1320, y1320, z1320⟩, st1320⟩ := X1299.virtualBack hx (y := (⟨"com/example/ferryline/ferryline/server/ApiError", "body", "()Lcom/example/ferryline/ferryline/server/ApiError$Body;"⟩ : MethodName)) (z := (⟨"com/example/ferryline/ferryline/server/ApiError", "body", "()Lcom/example/ferryline/ferryline/server/ApiError$Body;"⟩ : MethodName)) hown (mvT hZ (hw _ (List.mem_of_getElem? (i := 98) rfl))) (mvT hZ (hw _ (List.mem_of_getElem? (i := 99) rfl))) (notFace_of_selects (args := #[]) (mvT hZ (hw _ (List.mem_of_getElem? (i := 101) rfl)))) (mvT hZ (hw _ (List.mem_of_getElem? (i := 101) rfl))) (mvT hZ (hw _ (List.mem_of_getElem? (i := 100) rfl))) (by decide) (backOf (W := 0) (rm_bodyNR l Z a0 hw [] b1269 u1262 T1299.heap n0 O1314 f1310 f1312 f1313) hZ (hw _ (List.mem_of_getElem? (i := 102) rfl)) (hw _ (List.mem_of_getElem? (i := 36) rfl)) (by decide) (by decide)) q1320a q1320c (g := (mkF m 38 #[.val (.int ia), .val (.int ib), .val (.int ic), .val (.int ie), .val (.int ig), .val .null, .val (.ref u1262), .val (.ref b1269), .val (.ref u1300), .unset] [(.ref b1269)])) rfl (by rw [hml]; rfl) (Steps.refl _) (argsL := []) (rest := []) (lenOf pd12 rfl) rfl (by show 2 * 0 + _ ≤ _; exact Nat.le_of_eq rfl) (hb hby at_38) (fun _ _ => ⟨rfl, rfl, (by decide : 9 + 1 ≤ _), (by decide : 2774 + 2 ≤ _)⟩)
      dsimp only [Pt.U, Pt.locs, Pt.cells, Pt.slots] at X1320 l1320 y1320 z1320 st1320 hQ1320
      subst l1320 y1320 z1320
      obtain ⟨u1321, rfl, Nq1320, hh1320, p1322, p1323, p1324, p1325⟩ := hQ1320
      have N1326 := Fr.app N1305 Nq1320
      have sz1327 : ∀ x ∈ ([] : List Addr), Safe Z own_EL T1261.vm T1299.heap x := sf0
      have CR1328 := CR1307.trans (CHr.keep hh1320 sz1327 CR1307.1)
      have hk1329 := Nat.le_trans hk1308 hh1320.1
      have f1330 := f1309.keep hh1320
      have f1331 := f1310.keep hh1320
      have f1332 := f1311.keep hh1320 nin0
      have f1333 := f1312.keep hh1320 nin0
      have f1334 := f1313.keep hh1320 nin0
      have f1335 := p1302.keep hh1320
      have f1336 := p1303.keep hh1320 nin0
      have f1337 := p1304.keep hh1320 nin0
      have O1338 := O1314.keep hh1320 all0
      have K1339 := K1315.trans hh1320 all0
      have g1340 : n0 ≤ u1321 := Nat.le_trans (own_old_le O1314) p1322
      have g1341 : h0.size ≤ u1321 := Nat.le_trans K1315.1 p1322
      have ne1342 : u1262 ≠ u1321 := Nat.ne_of_lt (Nat.lt_of_lt_of_le f1309.lt p1322)
      have ne1343 : b1269 ≠ u1321 := Nat.ne_of_lt (Nat.lt_of_lt_of_le f1310.lt p1322)
      have ne1344 : u1300 ≠ u1321 := Nat.ne_of_lt (Nat.lt_of_lt_of_le p1302.lt p1322)
      refine GoH.via (T' := T1320) (f' := (mkF m 41 #[.val (.int ia), .val (.int ib), .val (.int ic), .val (.int ie), .val (.int ig), .val .null, .val (.ref u1262), .val (.ref b1269), .val (.ref u1300), .unset] [(.ref u1321)])) st1320 ?_
      clear st1320 X1299 N1305 Nq1320 CR1307 hk1308 sz1327 f1311 f1312 f1313 p1303 p1304
      refine GoH.step (T' := T1320) (f' := (mkF m 43 #[.val (.int ia), .val (.int ib), .val (.int ic), .val (.int ie), .val (.int ig), .val .null, .val (.ref u1262), .val (.ref b1269), .val (.ref u1300), .val (.ref u1321)] [])) (fun t k => XS.astore X1320.here hx rfl (hb hby at_41) rfl rfl (l' := #[.val (.int ia), .val (.int ib), .val (.int ic), .val (.int ie), .val (.int ig), .val .null, .val (.ref u1262), .val (.ref b1269), .val (.ref u1300), .val (.ref u1321)]) rfl k) ?_
      refine GoH.step (T' := T1320) (f' := (mkF m 45 #[.val (.int ia), .val (.int ib), .val (.int ic), .val (.int ie), .val (.int ig), .val .null, .val (.ref u1262), .val (.ref b1269), .val (.ref u1300), .val (.ref u1321)] [(.ref u1300)])) (fun t k => XS.aload X1320.here hx rfl (hb hby at_43) rfl rfl k) ?_
      obtain ⟨cq1345, kq1345, q1345a, q1345b, q1345c⟩ := isOf hZ rfl f1335
      obtain ⟨_, _, ⟨T1345, L1345, k1345, n1345⟩, -, X1345, ⟨Lc1345, hQ1345, l1345, y1345, z1345⟩, st1345⟩ := X1320.virtualBack hx (y := (⟨"com/example/ferryline/ferryline/server/ApiError$Body", "error", "()Ljava/lang/String;"⟩ : MethodName)) (z := (⟨"com/example/ferryline/ferryline/server/ApiError$Body", "error", "()Ljava/lang/String;"⟩ : MethodName)) hown (mvT hZ (hw _ (List.mem_of_getElem? (i := 125) rfl))) (mvT hZ (hw _ (List.mem_of_getElem? (i := 126) rfl))) (notFace_of_selects (args := #[]) (mvT hZ (hw _ (List.mem_of_getElem? (i := 128) rfl)))) (mvT hZ (hw _ (List.mem_of_getElem? (i := 128) rfl))) (mvT hZ (hw _ (List.mem_of_getElem? (i := 127) rfl))) (by decide) (backOf (W := 0) (rm_errN l Z a0 hw [] u1300 T1320.heap n0 O1338 f1336) hZ (hw _ (List.mem_of_getElem? (i := 129) rfl)) (hw _ (List.mem_of_getElem? (i := 105) rfl)) (by decide) (by decide)) q1345a q1345c (g := (mkF m 45 #[.val (.int ia), .val (.int ib), .val (.int ic), .val (.int ie), .val (.int ig), .val .null, .val (.ref u1262), .val (.ref b1269), .val (.ref u1300), .val (.ref u1321)] [(.ref u1300)])) rfl (by rw [hml]; rfl) (Steps.refl _) (argsL := []) (rest := []) (lenOf pd8 rfl) rfl (by show 2 * 0 + _ ≤ _; exact Nat.le_of_eq rfl) (hb hby at_45) (fun _ _ => ⟨rfl, rfl, (by decide : 10 + 0 ≤ _), (by decide : 2776 + 0 ≤ _)⟩)
      dsimp only [Pt.U, Pt.locs, Pt.cells, Pt.slots] at X1345 l1345 y1345 z1345 st1345 hQ1345
      subst l1345 y1345 z1345
      obtain ⟨rfl, Nq1345, hh1345⟩ := hQ1345
      have N1346 := Fr.app N1326 Nq1345
      refine GoH.via (T' := T1345) (f' := (mkF m 48 #[.val (.int ia), .val (.int ib), .val (.int ic), .val (.int ie), .val (.int ig), .val .null, .val (.ref u1262), .val (.ref b1269), .val (.ref u1300), .val (.ref u1321)] [.null])) st1345 ?_
      clear st1345 X1320 N1326 Nq1345
      refine GoH.step (T' := T1345) (f' := (mkF m 50 #[.val (.int ia), .val (.int ib), .val (.int ic), .val (.int ie), .val (.int ig), .val .null, .val (.ref u1262), .val (.ref b1269), .val (.ref u1300), .val (.ref u1321)] [.null, .null])) (fun t k => XS.aload X1345.here hx rfl (hb hby at_48) rfl rfl k) ?_
      obtain ⟨_, _, ⟨T1347, L1347, k1347, n1347⟩, -, X1347, ⟨Lc1347, hQ1347, l1347, y1347, z1347⟩, st1347⟩ := Jvm.LawKit.callS X1345 hx (y := (⟨"com/example/ferryline/ferryline/server/ApiErrorBodyPinLaw", "same", "(Ljava/lang/String;Ljava/lang/String;)Z"⟩ : MethodName)) hown (mvT hZ (hw _ (List.mem_of_getElem? (i := 130) rfl))) (mvT hZ (hw _ (List.mem_of_getElem? (i := 131) rfl))) (mvT hZ (hw _ (List.mem_of_getElem? (i := 2) rfl))) (mvT hZ (hw _ (List.mem_of_getElem? (i := 132) rfl))) (by decide) (backOf (W := 0) (rm_sameN l Z a0 hw []  T1320.heap n0 O1338 ) hZ (hw _ (List.mem_of_getElem? (i := 132) rfl)) (hw _ (List.mem_of_getElem? (i := 2) rfl)) (by decide) (by decide)) (g := (mkF m 50 #[.val (.int ia), .val (.int ib), .val (.int ic), .val (.int ie), .val (.int ig), .val .null, .val (.ref u1262), .val (.ref b1269), .val (.ref u1300), .val (.ref u1321)] [.null, .null])) rfl (by rw [hml]; rfl) (argsL := [.null, .null]) (rest := []) (lenOf pd13 rfl) rfl (by show 2 * 0 + _ ≤ _; exact Nat.le_of_eq rfl) (hb hby at_50) (fun _ _ => ⟨rfl, hh1345, (by decide : 10 + 0 ≤ _), (by decide : 2776 + 0 ≤ _)⟩)
      dsimp only [Pt.U, Pt.locs, Pt.cells, Pt.slots] at X1347 l1347 y1347 z1347 st1347 hQ1347
      subst l1347 y1347 z1347
      obtain ⟨rfl, Nq1347, hh1347⟩ := hQ1347
      have N1348 := Fr.app N1346 Nq1347
      refine GoH.step (T' := T1347) (f' := (mkF m 53 #[.val (.int ia), .val (.int ib), .val (.int ic), .val (.int ie), .val (.int ig), .val .null, .val (.ref u1262), .val (.ref b1269), .val (.ref u1300), .val (.ref u1321)] [(.int (1 : Int32))])) st1347 ?_
      clear st1347 X1345 N1346 Nq1347
      refine GoH.step (T' := T1347) (f' := (mkF m 56 #[.val (.int ia), .val (.int ib), .val (.int ic), .val (.int ie), .val (.int ig), .val .null, .val (.ref u1262), .val (.ref b1269), .val (.ref u1300), .val (.ref u1321)] [])) (fun t k => XS.ifNo X1347.here hx rfl (hb hby at_53) rfl ((if0 _ _).trans (feq (by decide : ¬ ((1 : Int32) = (0 : Int32)))).1) k) ?_
      refine GoH.step (T' := T1347) (f' := (mkF m 58 #[.val (.int ia), .val (.int ib), .val (.int ic), .val (.int ie), .val (.int ig), .val .null, .val (.ref u1262), .val (.ref b1269), .val (.ref u1300), .val (.ref u1321)] [(.ref u1300)])) (fun t k => XS.aload X1347.here hx rfl (hb hby at_56) rfl rfl k) ?_
      obtain ⟨cq1349, kq1349, q1349a, q1349b, q1349c⟩ := isOf hZ hh1347 f1335
      obtain ⟨_, _, ⟨T1349, L1349, k1349, n1349⟩, -, X1349, ⟨Lc1349, hQ1349, l1349, y1349, z1349⟩, st1349⟩ := X1347.virtualBack hx (y := (⟨"com/example/ferryline/ferryline/server/ApiError$Body", "message", "()Ljava/lang/String;"⟩ : MethodName)) (z := (⟨"com/example/ferryline/ferryline/server/ApiError$Body", "message", "()Ljava/lang/String;"⟩ : MethodName)) hown (mvT hZ (hw _ (List.mem_of_getElem? (i := 138) rfl))) (mvT hZ (hw _ (List.mem_of_getElem? (i := 139) rfl))) (notFace_of_selects (args := #[]) (mvT hZ (hw _ (List.mem_of_getElem? (i := 141) rfl)))) (mvT hZ (hw _ (List.mem_of_getElem? (i := 141) rfl))) (mvT hZ (hw _ (List.mem_of_getElem? (i := 140) rfl))) (by decide) (backOf (W := 0) (rm_msgR l Z a0 hw [] u1300 u1262 T1320.heap n0 O1338 f1337) hZ (hw _ (List.mem_of_getElem? (i := 142) rfl)) (hw _ (List.mem_of_getElem? (i := 105) rfl)) (by decide) (by decide)) q1349a q1349c (g := (mkF m 58 #[.val (.int ia), .val (.int ib), .val (.int ic), .val (.int ie), .val (.int ig), .val .null, .val (.ref u1262), .val (.ref b1269), .val (.ref u1300), .val (.ref u1321)] [(.ref u1300)])) rfl (by rw [hml]; rfl) (Steps.refl _) (argsL := []) (rest := []) (lenOf pd8 rfl) rfl (by show 2 * 0 + _ ≤ _; exact Nat.le_of_eq rfl) (hb hby at_58) (fun _ _ => ⟨rfl, hh1347, (by decide : 10 + 0 ≤ _), (by decide : 2776 + 0 ≤ _)⟩)
      dsimp only [Pt.U, Pt.locs, Pt.cells, Pt.slots] at X1349 l1349 y1349 z1349 st1349 hQ1349
      subst l1349 y1349 z1349
      obtain ⟨rfl, Nq1349, hh1349⟩ := hQ1349
      have N1350 := Fr.app N1348 Nq1349
      refine GoH.via (T' := T1349) (f' := (mkF m 61 #[.val (.int ia), .val (.int ib), .val (.int ic), .val (.int ie), .val (.int ig), .val .null, .val (.ref u1262), .val (.ref b1269), .val (.ref u1300), .val (.ref u1321)] [(.ref u1262)])) st1349 ?_
      clear st1349 X1347 N1348 Nq1349
      refine GoH.step (T' := T1349) (f' := (mkF m 63 #[.val (.int ia), .val (.int ib), .val (.int ic), .val (.int ie), .val (.int ig), .val .null, .val (.ref u1262), .val (.ref b1269), .val (.ref u1300), .val (.ref u1321)] [(.ref u1262), (.ref u1262)])) (fun t k => XS.aload X1349.here hx rfl (hb hby at_61) rfl rfl k) ?_
      obtain ⟨_, _, ⟨T1351, L1351, k1351, n1351⟩, -, X1351, ⟨Lc1351, hQ1351, l1351, y1351, z1351⟩, st1351⟩ := Jvm.LawKit.callS X1349 hx (y := (⟨"com/example/ferryline/ferryline/server/ApiErrorBodyPinLaw", "same", "(Ljava/lang/String;Ljava/lang/String;)Z"⟩ : MethodName)) hown (mvT hZ (hw _ (List.mem_of_getElem? (i := 130) rfl))) (mvT hZ (hw _ (List.mem_of_getElem? (i := 131) rfl))) (mvT hZ (hw _ (List.mem_of_getElem? (i := 2) rfl))) (mvT hZ (hw _ (List.mem_of_getElem? (i := 132) rfl))) (by decide) (backOf (W := 0) (rm_sameR l Z a0 hw [] u1262 T1320.heap n0 O1338 f1330) hZ (hw _ (List.mem_of_getElem? (i := 132) rfl)) (hw _ (List.mem_of_getElem? (i := 2) rfl)) (by decide) (by decide)) (g := (mkF m 63 #[.val (.int ia), .val (.int ib), .val (.int ic), .val (.int ie), .val (.int ig), .val .null, .val (.ref u1262), .val (.ref b1269), .val (.ref u1300), .val (.ref u1321)] [(.ref u1262), (.ref u1262)])) rfl (by rw [hml]; rfl) (argsL := [(.ref u1262), (.ref u1262)]) (rest := []) (lenOf pd13 rfl) rfl (by show 2 * 0 + _ ≤ _; exact Nat.le_of_eq rfl) (hb hby at_63) (fun _ _ => ⟨rfl, hh1349, (by decide : 10 + 0 ≤ _), (by decide : 2776 + 0 ≤ _)⟩)
      dsimp only [Pt.U, Pt.locs, Pt.cells, Pt.slots] at X1351 l1351 y1351 z1351 st1351 hQ1351
      subst l1351 y1351 z1351
      obtain ⟨rfl, Nq1351, hh1351⟩ := hQ1351
      have N1352 := Fr.app N1350 Nq1351
      refine GoH.step (T' := T1351) (f' := (mkF m 66 #[.val (.int ia), .val (.int ib), .val (.int ic), .val (.int ie), .val (.int ig), .val .null, .val (.ref u1262), .val (.ref b1269), .val (.ref u1300), .val (.ref u1321)] [(.int (1 : Int32))])) st1351 ?_
      clear st1351 X1349 N1350 Nq1351
      refine GoH.step (T' := T1351) (f' := (mkF m 69 #[.val (.int ia), .val (.int ib), .val (.int ic), .val (.int ie), .val (.int ig), .val .null, .val (.ref u1262), .val (.ref b1269), .val (.ref u1300), .val (.ref u1321)] [])) (fun t k => XS.ifNo X1351.here hx rfl (hb hby at_66) rfl ((if0 _ _).trans (feq (by decide : ¬ ((1 : Int32) = (0 : Int32)))).1) k) ?_
      refine GoH.step (T' := T1351) (f' := (mkF m 71 #[.val (.int ia), .val (.int ib), .val (.int ic), .val (.int ie), .val (.int ig), .val .null, .val (.ref u1262), .val (.ref b1269), .val (.ref u1300), .val (.ref u1321)] [(.ref u1321)])) (fun t k => XS.aload X1351.here hx rfl (hb hby at_69) rfl rfl k) ?_
      obtain ⟨cq1353, kq1353, q1353a, q1353b, q1353c⟩ := isOf hZ hh1351 p1323
      obtain ⟨_, _, ⟨T1353, L1353, k1353, n1353⟩, -, X1353, ⟨Lc1353, hQ1353, l1353, y1353, z1353⟩, st1353⟩ := X1351.virtualBack hx (y := (⟨"com/example/ferryline/ferryline/server/ApiError$Body", "error", "()Ljava/lang/String;"⟩ : MethodName)) (z := (⟨"com/example/ferryline/ferryline/server/ApiError$Body", "error", "()Ljava/lang/String;"⟩ : MethodName)) hown (mvT hZ (hw _ (List.mem_of_getElem? (i := 125) rfl))) (mvT hZ (hw _ (List.mem_of_getElem? (i := 126) rfl))) (notFace_of_selects (args := #[]) (mvT hZ (hw _ (List.mem_of_getElem? (i := 128) rfl)))) (mvT hZ (hw _ (List.mem_of_getElem? (i := 128) rfl))) (mvT hZ (hw _ (List.mem_of_getElem? (i := 127) rfl))) (by decide) (backOf (W := 0) (rm_errN l Z a0 hw [] u1321 T1320.heap n0 O1338 p1324) hZ (hw _ (List.mem_of_getElem? (i := 129) rfl)) (hw _ (List.mem_of_getElem? (i := 105) rfl)) (by decide) (by decide)) q1353a q1353c (g := (mkF m 71 #[.val (.int ia), .val (.int ib), .val (.int ic), .val (.int ie), .val (.int ig), .val .null, .val (.ref u1262), .val (.ref b1269), .val (.ref u1300), .val (.ref u1321)] [(.ref u1321)])) rfl (by rw [hml]; rfl) (Steps.refl _) (argsL := []) (rest := []) (lenOf pd8 rfl) rfl (by show 2 * 0 + _ ≤ _; exact Nat.le_of_eq rfl) (hb hby at_71) (fun _ _ => ⟨rfl, hh1351, (by decide : 10 + 0 ≤ _), (by decide : 2776 + 0 ≤ _)⟩)
      dsimp only [Pt.U, Pt.locs, Pt.cells, Pt.slots] at X1353 l1353 y1353 z1353 st1353 hQ1353
      subst l1353 y1353 z1353
      obtain ⟨rfl, Nq1353, hh1353⟩ := hQ1353
      have N1354 := Fr.app N1352 Nq1353
      refine GoH.via (T' := T1353) (f' := (mkF m 74 #[.val (.int ia), .val (.int ib), .val (.int ic), .val (.int ie), .val (.int ig), .val .null, .val (.ref u1262), .val (.ref b1269), .val (.ref u1300), .val (.ref u1321)] [.null])) st1353 ?_
      clear st1353 X1351 N1352 Nq1353
      refine GoH.step (T' := T1353) (f' := (mkF m 76 #[.val (.int ia), .val (.int ib), .val (.int ic), .val (.int ie), .val (.int ig), .val .null, .val (.ref u1262), .val (.ref b1269), .val (.ref u1300), .val (.ref u1321)] [.null, .null])) (fun t k => XS.aload X1353.here hx rfl (hb hby at_74) rfl rfl k) ?_
      obtain ⟨_, _, ⟨T1355, L1355, k1355, n1355⟩, -, X1355, ⟨Lc1355, hQ1355, l1355, y1355, z1355⟩, st1355⟩ := Jvm.LawKit.callS X1353 hx (y := (⟨"com/example/ferryline/ferryline/server/ApiErrorBodyPinLaw", "same", "(Ljava/lang/String;Ljava/lang/String;)Z"⟩ : MethodName)) hown (mvT hZ (hw _ (List.mem_of_getElem? (i := 130) rfl))) (mvT hZ (hw _ (List.mem_of_getElem? (i := 131) rfl))) (mvT hZ (hw _ (List.mem_of_getElem? (i := 2) rfl))) (mvT hZ (hw _ (List.mem_of_getElem? (i := 132) rfl))) (by decide) (backOf (W := 0) (rm_sameN l Z a0 hw []  T1320.heap n0 O1338 ) hZ (hw _ (List.mem_of_getElem? (i := 132) rfl)) (hw _ (List.mem_of_getElem? (i := 2) rfl)) (by decide) (by decide)) (g := (mkF m 76 #[.val (.int ia), .val (.int ib), .val (.int ic), .val (.int ie), .val (.int ig), .val .null, .val (.ref u1262), .val (.ref b1269), .val (.ref u1300), .val (.ref u1321)] [.null, .null])) rfl (by rw [hml]; rfl) (argsL := [.null, .null]) (rest := []) (lenOf pd13 rfl) rfl (by show 2 * 0 + _ ≤ _; exact Nat.le_of_eq rfl) (hb hby at_76) (fun _ _ => ⟨rfl, hh1353, (by decide : 10 + 0 ≤ _), (by decide : 2776 + 0 ≤ _)⟩)
      dsimp only [Pt.U, Pt.locs, Pt.cells, Pt.slots] at X1355 l1355 y1355 z1355 st1355 hQ1355
      subst l1355 y1355 z1355
      obtain ⟨rfl, Nq1355, hh1355⟩ := hQ1355
      have N1356 := Fr.app N1354 Nq1355
      refine GoH.step (T' := T1355) (f' := (mkF m 79 #[.val (.int ia), .val (.int ib), .val (.int ic), .val (.int ie), .val (.int ig), .val .null, .val (.ref u1262), .val (.ref b1269), .val (.ref u1300), .val (.ref u1321)] [(.int (1 : Int32))])) st1355 ?_
      clear st1355 X1353 N1354 Nq1355
      refine GoH.step (T' := T1355) (f' := (mkF m 82 #[.val (.int ia), .val (.int ib), .val (.int ic), .val (.int ie), .val (.int ig), .val .null, .val (.ref u1262), .val (.ref b1269), .val (.ref u1300), .val (.ref u1321)] [])) (fun t k => XS.ifNo X1355.here hx rfl (hb hby at_79) rfl ((if0 _ _).trans (feq (by decide : ¬ ((1 : Int32) = (0 : Int32)))).1) k) ?_
      refine GoH.step (T' := T1355) (f' := (mkF m 84 #[.val (.int ia), .val (.int ib), .val (.int ic), .val (.int ie), .val (.int ig), .val .null, .val (.ref u1262), .val (.ref b1269), .val (.ref u1300), .val (.ref u1321)] [(.ref u1321)])) (fun t k => XS.aload X1355.here hx rfl (hb hby at_82) rfl rfl k) ?_
      obtain ⟨cq1357, kq1357, q1357a, q1357b, q1357c⟩ := isOf hZ hh1355 p1323
      obtain ⟨_, _, ⟨T1357, L1357, k1357, n1357⟩, -, X1357, ⟨Lc1357, hQ1357, l1357, y1357, z1357⟩, st1357⟩ := X1355.virtualBack hx (y := (⟨"com/example/ferryline/ferryline/server/ApiError$Body", "message", "()Ljava/lang/String;"⟩ : MethodName)) (z := (⟨"com/example/ferryline/ferryline/server/ApiError$Body", "message", "()Ljava/lang/String;"⟩ : MethodName)) hown (mvT hZ (hw _ (List.mem_of_getElem? (i := 138) rfl))) (mvT hZ (hw _ (List.mem_of_getElem? (i := 139) rfl))) (notFace_of_selects (args := #[]) (mvT hZ (hw _ (List.mem_of_getElem? (i := 141) rfl)))) (mvT hZ (hw _ (List.mem_of_getElem? (i := 141) rfl))) (mvT hZ (hw _ (List.mem_of_getElem? (i := 140) rfl))) (by decide) (backOf (W := 0) (rm_msgR l Z a0 hw [] u1321 u1262 T1320.heap n0 O1338 p1325) hZ (hw _ (List.mem_of_getElem? (i := 142) rfl)) (hw _ (List.mem_of_getElem? (i := 105) rfl)) (by decide) (by decide)) q1357a q1357c (g := (mkF m 84 #[.val (.int ia), .val (.int ib), .val (.int ic), .val (.int ie), .val (.int ig), .val .null, .val (.ref u1262), .val (.ref b1269), .val (.ref u1300), .val (.ref u1321)] [(.ref u1321)])) rfl (by rw [hml]; rfl) (Steps.refl _) (argsL := []) (rest := []) (lenOf pd8 rfl) rfl (by show 2 * 0 + _ ≤ _; exact Nat.le_of_eq rfl) (hb hby at_84) (fun _ _ => ⟨rfl, hh1355, (by decide : 10 + 0 ≤ _), (by decide : 2776 + 0 ≤ _)⟩)
      dsimp only [Pt.U, Pt.locs, Pt.cells, Pt.slots] at X1357 l1357 y1357 z1357 st1357 hQ1357
      subst l1357 y1357 z1357
      obtain ⟨rfl, Nq1357, hh1357⟩ := hQ1357
      have N1358 := Fr.app N1356 Nq1357
      refine GoH.via (T' := T1357) (f' := (mkF m 87 #[.val (.int ia), .val (.int ib), .val (.int ic), .val (.int ie), .val (.int ig), .val .null, .val (.ref u1262), .val (.ref b1269), .val (.ref u1300), .val (.ref u1321)] [(.ref u1262)])) st1357 ?_
      clear st1357 X1355 N1356 Nq1357
      refine GoH.step (T' := T1357) (f' := (mkF m 89 #[.val (.int ia), .val (.int ib), .val (.int ic), .val (.int ie), .val (.int ig), .val .null, .val (.ref u1262), .val (.ref b1269), .val (.ref u1300), .val (.ref u1321)] [(.ref u1262), (.ref u1262)])) (fun t k => XS.aload X1357.here hx rfl (hb hby at_87) rfl rfl k) ?_
      obtain ⟨_, _, ⟨T1359, L1359, k1359, n1359⟩, -, X1359, ⟨Lc1359, hQ1359, l1359, y1359, z1359⟩, st1359⟩ := Jvm.LawKit.callS X1357 hx (y := (⟨"com/example/ferryline/ferryline/server/ApiErrorBodyPinLaw", "same", "(Ljava/lang/String;Ljava/lang/String;)Z"⟩ : MethodName)) hown (mvT hZ (hw _ (List.mem_of_getElem? (i := 130) rfl))) (mvT hZ (hw _ (List.mem_of_getElem? (i := 131) rfl))) (mvT hZ (hw _ (List.mem_of_getElem? (i := 2) rfl))) (mvT hZ (hw _ (List.mem_of_getElem? (i := 132) rfl))) (by decide) (backOf (W := 0) (rm_sameR l Z a0 hw [] u1262 T1320.heap n0 O1338 f1330) hZ (hw _ (List.mem_of_getElem? (i := 132) rfl)) (hw _ (List.mem_of_getElem? (i := 2) rfl)) (by decide) (by decide)) (g := (mkF m 89 #[.val (.int ia), .val (.int ib), .val (.int ic), .val (.int ie), .val (.int ig), .val .null, .val (.ref u1262), .val (.ref b1269), .val (.ref u1300), .val (.ref u1321)] [(.ref u1262), (.ref u1262)])) rfl (by rw [hml]; rfl) (argsL := [(.ref u1262), (.ref u1262)]) (rest := []) (lenOf pd13 rfl) rfl (by show 2 * 0 + _ ≤ _; exact Nat.le_of_eq rfl) (hb hby at_89) (fun _ _ => ⟨rfl, hh1357, (by decide : 10 + 0 ≤ _), (by decide : 2776 + 0 ≤ _)⟩)
      dsimp only [Pt.U, Pt.locs, Pt.cells, Pt.slots] at X1359 l1359 y1359 z1359 st1359 hQ1359
      subst l1359 y1359 z1359
      obtain ⟨rfl, Nq1359, hh1359⟩ := hQ1359
      have N1360 := Fr.app N1358 Nq1359
      refine GoH.step (T' := T1359) (f' := (mkF m 92 #[.val (.int ia), .val (.int ib), .val (.int ic), .val (.int ie), .val (.int ig), .val .null, .val (.ref u1262), .val (.ref b1269), .val (.ref u1300), .val (.ref u1321)] [(.int (1 : Int32))])) st1359 ?_
      clear st1359 X1357 N1358 Nq1359
      refine GoH.step (T' := T1359) (f' := (mkF m 95 #[.val (.int ia), .val (.int ib), .val (.int ic), .val (.int ie), .val (.int ig), .val .null, .val (.ref u1262), .val (.ref b1269), .val (.ref u1300), .val (.ref u1321)] [])) (fun t k => XS.ifNo X1359.here hx rfl (hb hby at_92) rfl ((if0 _ _).trans (feq (by decide : ¬ ((1 : Int32) = (0 : Int32)))).1) k) ?_
      refine GoH.step (T' := T1359) (f' := (mkF m 97 #[.val (.int ia), .val (.int ib), .val (.int ic), .val (.int ie), .val (.int ig), .val .null, .val (.ref u1262), .val (.ref b1269), .val (.ref u1300), .val (.ref u1321)] [(.ref b1269)])) (fun t k => XS.aload X1359.here hx rfl (hb hby at_95) rfl rfl k) ?_
      obtain ⟨cq1361, kq1361, q1361a, q1361b, q1361c⟩ := isOf hZ hh1359 f1331
      obtain ⟨_, _, ⟨T1361, L1361, k1361, n1361⟩, -, X1361, ⟨Lc1361, hQ1361, l1361, y1361, z1361⟩, st1361⟩ := X1359.virtualBack hx (y := (⟨"com/example/ferryline/ferryline/server/ApiError", "status", "()I"⟩ : MethodName)) (z := (⟨"com/example/ferryline/ferryline/server/ApiError", "status", "()I"⟩ : MethodName)) hown (mvT hZ (hw _ (List.mem_of_getElem? (i := 143) rfl))) (mvT hZ (hw _ (List.mem_of_getElem? (i := 144) rfl))) (notFace_of_selects (args := #[]) (mvT hZ (hw _ (List.mem_of_getElem? (i := 146) rfl)))) (mvT hZ (hw _ (List.mem_of_getElem? (i := 146) rfl))) (mvT hZ (hw _ (List.mem_of_getElem? (i := 145) rfl))) (by decide) (backOf (W := 0) (rm_stat l Z a0 hw [] b1269 ia T1320.heap n0 O1338 f1332) hZ (hw _ (List.mem_of_getElem? (i := 147) rfl)) (hw _ (List.mem_of_getElem? (i := 36) rfl)) (by decide) (by decide)) q1361a q1361c (g := (mkF m 97 #[.val (.int ia), .val (.int ib), .val (.int ic), .val (.int ie), .val (.int ig), .val .null, .val (.ref u1262), .val (.ref b1269), .val (.ref u1300), .val (.ref u1321)] [(.ref b1269)])) rfl (by rw [hml]; rfl) (Steps.refl _) (argsL := []) (rest := []) (lenOf pd14 rfl) rfl (by show 2 * 0 + _ ≤ _; exact Nat.le_of_eq rfl) (hb hby at_97) (fun _ _ => ⟨rfl, hh1359, (by decide : 10 + 0 ≤ _), (by decide : 2776 + 0 ≤ _)⟩)
      dsimp only [Pt.U, Pt.locs, Pt.cells, Pt.slots] at X1361 l1361 y1361 z1361 st1361 hQ1361
      subst l1361 y1361 z1361
      obtain ⟨rfl, Nq1361, hh1361⟩ := hQ1361
      have N1362 := Fr.app N1360 Nq1361
      refine GoH.via (T' := T1361) (f' := (mkF m 100 #[.val (.int ia), .val (.int ib), .val (.int ic), .val (.int ie), .val (.int ig), .val .null, .val (.ref u1262), .val (.ref b1269), .val (.ref u1300), .val (.ref u1321)] [(.int ia)])) st1361 ?_
      clear st1361 X1359 N1360 Nq1361
      refine GoH.step (T' := T1361) (f' := (mkF m 101 #[.val (.int ia), .val (.int ib), .val (.int ic), .val (.int ie), .val (.int ig), .val .null, .val (.ref u1262), .val (.ref b1269), .val (.ref u1300), .val (.ref u1321)] [(.int ia), (.int ia)])) (fun t k => XS.iloadN X1361.here hx rfl (hb hby at_100) rfl k) ?_
      refine GoH.step (T' := T1361) (f' := (mkF m 104 #[.val (.int ia), .val (.int ib), .val (.int ic), .val (.int ie), .val (.int ig), .val .null, .val (.ref u1262), .val (.ref b1269), .val (.ref u1300), .val (.ref u1321)] [])) (fun t k => XS.icmpNo X1361.here hx rfl (hb hby at_101) rfl (teq (rfl : ia = ia)).2 k) ?_
      refine GoH.step (T' := T1361) (f' := (mkF m 105 #[.val (.int ia), .val (.int ib), .val (.int ic), .val (.int ie), .val (.int ig), .val .null, .val (.ref u1262), .val (.ref b1269), .val (.ref u1300), .val (.ref u1321)] [(.int (1 : Int32))])) (fun t k => XS.iconst X1361.here hx rfl (hb hby at_104) k) ?_
      refine GoH.step (T' := T1361) (f' := (mkF m 109 #[.val (.int ia), .val (.int ib), .val (.int ic), .val (.int ie), .val (.int ig), .val .null, .val (.ref u1262), .val (.ref b1269), .val (.ref u1300), .val (.ref u1321)] [(.int (1 : Int32))])) (fun t k => XS.goto X1361.here hx rfl (pc0 := 105) (pc' := 109) rfl (hb hby at_105) (by decide) (by decide) k) ?_
      refine GoH.fin X1361 hZ hEL hS1261 hk1329 CR1328 hlk (v := some (.int (nar .boolean (1 : Int32)))) (fun h => by rw [Bd.returns] at h; cases h) (fun fs hr => retN X1361 hx (t := .boolean) Bd.returns (by simp) (hb hby at_109) hr) hh1361 ?_ (by decide) (by decide)
      exact ⟨rfl, N1362, K1339⟩
    ·
      refine GoH.step (T' := T1258) (f' := (mkF m 8 #[.val (.int ia), .val (.int ib), .val (.int ic), .val (.int ie), .val (.int ig), .val .null, .unset, .unset, .unset, .unset] [(.int ie)])) (fun t k => XS.iloadN X1258.here hx rfl (hb hby at_7) rfl k) ?_
      refine GoH.step (T' := T1258) (f' := (mkF m 10 #[.val (.int ia), .val (.int ib), .val (.int ic), .val (.int ie), .val (.int ig), .val .null, .unset, .unset, .unset, .unset] [(.int ig), (.int ie)])) (fun t k => XS.iload X1258.here hx rfl (hb hby at_8) rfl k) ?_
      obtain ⟨_, _, ⟨T1363, L1363, k1363, n1363⟩, -, X1363, ⟨Lc1363, hQ1363, l1363, y1363, z1363⟩, st1363⟩ := Jvm.LawKit.callS X1258 hx (y := (⟨"com/example/ferryline/ferryline/server/ApiErrorBodyPinLaw", "draw", "(II)Ljava/lang/String;"⟩ : MethodName)) hown (mvT hZ (hw _ (List.mem_of_getElem? (i := 0) rfl))) (mvT hZ (hw _ (List.mem_of_getElem? (i := 1) rfl))) (mvT hZ (hw _ (List.mem_of_getElem? (i := 2) rfl))) (mvT hZ (hw _ (List.mem_of_getElem? (i := 3) rfl))) (by decide) (backOf (W := 0) (rm_drawN l Z a0 hw [] ie ig h0 n0 O0 (hc1260)) hZ (hw _ (List.mem_of_getElem? (i := 3) rfl)) (hw _ (List.mem_of_getElem? (i := 2) rfl)) (by decide) (by decide)) (g := (mkF m 10 #[.val (.int ia), .val (.int ib), .val (.int ic), .val (.int ie), .val (.int ig), .val .null, .unset, .unset, .unset, .unset] [(.int ig), (.int ie)])) rfl (by rw [hml]; rfl) (argsL := [(.int ie), (.int ig)]) (rest := []) (lenOf pd10 rfl) rfl (by show 2 * 0 + _ ≤ _; exact Nat.le_of_eq rfl) (hb hby at_10) (fun _ _ => ⟨rfl, hh1258, (by decide : 0 + 0 ≤ _), (by decide : 0 + 0 ≤ _)⟩)
      dsimp only [Pt.U, Pt.locs, Pt.cells, Pt.slots] at X1363 l1363 y1363 z1363 st1363 hQ1363
      subst l1363 y1363 z1363
      obtain ⟨rfl, Nq1363, hh1363⟩ := hQ1363
      have N1364 := Fr.app N1259 Nq1363
      refine GoH.step (T' := T1363) (f' := (mkF m 13 #[.val (.int ia), .val (.int ib), .val (.int ic), .val (.int ie), .val (.int ig), .val .null, .unset, .unset, .unset, .unset] [.null])) st1363 ?_
      clear st1363 X1258 N1259 Nq1363
      refine GoH.step (T' := T1363) (f' := (mkF m 15 #[.val (.int ia), .val (.int ib), .val (.int ic), .val (.int ie), .val (.int ig), .val .null, .val .null, .unset, .unset, .unset] [])) (fun t k => XS.astore X1363.here hx rfl (hb hby at_13) rfl rfl (l' := #[.val (.int ia), .val (.int ib), .val (.int ic), .val (.int ie), .val (.int ig), .val .null, .val .null, .unset, .unset, .unset]) rfl k) ?_
      obtain ⟨T1365, h1365, X1365, e1365, E1365, A1365, D1365, U1365, st1365⟩ := newO X1363 hx hZ hown (hw _ (List.mem_of_getElem? (i := 34) rfl)) (hw _ (List.mem_of_getElem? (i := 35) rfl)) (hw _ (List.mem_of_getElem? (i := 36) rfl)) hh1363 (g := (mkF m 15 #[.val (.int ia), .val (.int ib), .val (.int ic), .val (.int ie), .val (.int ig), .val .null, .val .null, .unset, .unset, .unset] [])) rfl (hb hby at_15) (by decide) (by decide)
      obtain ⟨b1365, g1365⟩ : ∃ z, z = h0.size := ⟨_, rfl⟩
      rw [← g1365] at A1365 D1365 U1365 st1365
      have g1366 : n0 ≤ b1365 := Nat.le_trans (own_old_le O0) (Nat.le_of_eq g1365.symm)
      have g1367 : h0.size ≤ b1365 := Nat.le_trans K0.1 (Nat.le_of_eq g1365.symm)
      have CR1368 := CR0.trans (CHr.ext E1365 CR0.1)
      have hk1369 := Nat.le_trans hk0 E1365.1
      have O1370 := O0.ext E1365
      have K1371 := K0.ext E1365
      have f1372 : Fld Z h1365 b1365 "java/lang/Throwable" "cause" "Ljava/lang/Throwable;" .null := D1365 (Or.inl (hw _ (List.mem_of_getElem? (i := 59) rfl))) (ty := (.object "java/lang/Throwable")) (by decide)
      have f1373 : Fld Z h1365 b1365 "java/lang/Throwable" "stackTrace" "[Ljava/lang/StackTraceElement;" .null := D1365 (Or.inl (hw _ (List.mem_of_getElem? (i := 62) rfl))) (ty := (.array (.object "java/lang/StackTraceElement"))) (by decide)
      have f1374 : Fld Z h1365 b1365 "java/lang/Throwable" "suppressedExceptions" "Ljava/util/List;" .null := D1365 (Or.inl (hw _ (List.mem_of_getElem? (i := 65) rfl))) (ty := (.object "java/util/List")) (by decide)
      have f1375 : Fld Z h1365 b1365 "java/lang/Throwable" "detailMessage" "Ljava/lang/String;" .null := D1365 (Or.inl (hw _ (List.mem_of_getElem? (i := 89) rfl))) (ty := (.object "java/lang/String")) (by decide)
      have f1376 : Fld Z h1365 b1365 "java/lang/Throwable" "backtrace" "Ljava/lang/Object;" .null := D1365 (Or.inl (hw _ (List.mem_of_getElem? (i := 90) rfl))) (ty := (.object "java/lang/Object")) (by decide)
      have f1377 : Fld Z h1365 b1365 "java/lang/Throwable" "depth" "I" (.int (0 : Int32)) := D1365 (Or.inl (hw _ (List.mem_of_getElem? (i := 91) rfl))) (ty := .int) (by decide)
      have f1378 : Fld Z h1365 b1365 "com/example/ferryline/ferryline/server/ApiError" "status" "I" (.int (0 : Int32)) := D1365 (Or.inr (hw _ (List.mem_of_getElem? (i := 95) rfl))) (ty := .int) (by decide)
      have f1379 : Fld Z h1365 b1365 "com/example/ferryline/ferryline/server/ApiError" "code" "Ljava/lang/String;" .null := D1365 (Or.inr (hw _ (List.mem_of_getElem? (i := 97) rfl))) (ty := (.object "java/lang/String")) (by decide)
      refine GoH.step (T' := T1365) (f' := (mkF m 18 #[.val (.int ia), .val (.int ib), .val (.int ic), .val (.int ie), .val (.int ig), .val .null, .val .null, .unset, .unset, .unset] [(.ref b1365)])) st1365 ?_
      clear st1365 X1363 CR0 hk0
      refine GoH.step (T' := T1365) (f' := (mkF m 19 #[.val (.int ia), .val (.int ib), .val (.int ic), .val (.int ie), .val (.int ig), .val .null, .val .null, .unset, .unset, .unset] [(.ref b1365), (.ref b1365)])) (fun t k => XS.dup X1365.here hx rfl (hb hby at_18) rfl rfl k) ?_
      refine GoH.step (T' := T1365) (f' := (mkF m 20 #[.val (.int ia), .val (.int ib), .val (.int ic), .val (.int ie), .val (.int ig), .val .null, .val .null, .unset, .unset, .unset] [(.int ia), (.ref b1365), (.ref b1365)])) (fun t k => XS.iloadN X1365.here hx rfl (hb hby at_19) rfl k) ?_
      refine GoH.step (T' := T1365) (f' := (mkF m 22 #[.val (.int ia), .val (.int ib), .val (.int ic), .val (.int ie), .val (.int ig), .val .null, .val .null, .unset, .unset, .unset] [.null, (.int ia), (.ref b1365), (.ref b1365)])) (fun t k => XS.aload X1365.here hx rfl (hb hby at_20) rfl rfl k) ?_
      refine GoH.step (T' := T1365) (f' := (mkF m 24 #[.val (.int ia), .val (.int ib), .val (.int ic), .val (.int ie), .val (.int ig), .val .null, .val .null, .unset, .unset, .unset] [.null, .null, (.int ia), (.ref b1365), (.ref b1365)])) (fun t k => XS.aload X1365.here hx rfl (hb hby at_22) rfl rfl k) ?_
      obtain ⟨_, _, ⟨T1380, L1380, k1380, n1380⟩, -, X1380, ⟨Lc1380, hQ1380, l1380, y1380, z1380⟩, st1380⟩ := X1365.specialBack hx (y := (⟨"com/example/ferryline/ferryline/server/ApiError", "<init>", "(ILjava/lang/String;Ljava/lang/String;)V"⟩ : MethodName)) rfl hown (mvT hZ (hw _ (List.mem_of_getElem? (i := 37) rfl))) (mvT hZ (hw _ (List.mem_of_getElem? (i := 38) rfl))) (mvT hZ (hw _ (List.mem_of_getElem? (i := 39) rfl))) (by decide) (backOfKL (W := 1) (rm_aeiNN l Z a0 hw [] b1365 ia (.int (0 : Int32)) .null bu bz h1365 n0 O1370 A1365 f1372 f1373 f1374 f1376 f1375 f1378 f1379 g1366 U1365 P2 P3 htr) hZ (hw _ (List.mem_of_getElem? (i := 39) rfl)) (hw _ (List.mem_of_getElem? (i := 36) rfl)) (by decide) (by decide) (Vm.MethodsKnown.alikeC hS0.1.alike hK.1) (Vm.FramesKnown.alikeC hS0.1.alike hK.2)) (g := (mkF m 24 #[.val (.int ia), .val (.int ib), .val (.int ic), .val (.int ie), .val (.int ig), .val .null, .val .null, .unset, .unset, .unset] [.null, .null, (.int ia), (.ref b1365), (.ref b1365)])) rfl (by rw [hml]; rfl) (Steps.refl _) (a := b1365) (argsL := [(.int ia), .null, .null]) (rest := [(.ref b1365)]) (lenOf pd11 rfl) rfl (by show 2 * 0 + _ ≤ _; exact Nat.le_of_eq rfl) (hb hby at_24) (fun _ _ => ⟨rfl, e1365, (by decide : 1 + 1 ≤ _), (by decide : 8 + 2752 ≤ _)⟩)
      dsimp only [Pt.U, Pt.locs, Pt.cells, Pt.slots] at X1380 l1380 y1380 z1380 st1380 hQ1380
      subst l1380 y1380 z1380
      obtain ⟨rfl, Nq1380, hh1380, p1381, p1382, p1383, p1384⟩ := hQ1380
      have N1385 := Fr.app N1364 Nq1380
      have sz1386 : ∀ x ∈ [b1365], Safe Z own_EL s.vm h1365 x := (sfS (Safe.exa (EL := own_EL) hZ.alike A1365 (by decide) (by decide)) sf0)
      have CR1387 := CR1368.trans (CHr.keep hh1380 sz1386 CR1368.1)
      have hk1388 := Nat.le_trans hk1369 hh1380.1
      have f1389 := A1365.keep hh1380
      have O1390 := O1370.keep hh1380 (allS g1366 all0)
      have K1391 := K1371.trans hh1380 (allS (Or.inr g1367) all0)
      refine GoH.via (T' := T1380) (f' := (mkF m 27 #[.val (.int ia), .val (.int ib), .val (.int ic), .val (.int ie), .val (.int ig), .val .null, .val .null, .unset, .unset, .unset] [(.ref b1365)])) st1380 ?_
      clear st1380 X1365 N1364 Nq1380 CR1368 hk1369 sz1386
      refine GoH.step (T' := T1380) (f' := (mkF m 29 #[.val (.int ia), .val (.int ib), .val (.int ic), .val (.int ie), .val (.int ig), .val .null, .val .null, .val (.ref b1365), .unset, .unset] [])) (fun t k => XS.astore X1380.here hx rfl (hb hby at_27) rfl rfl (l' := #[.val (.int ia), .val (.int ib), .val (.int ic), .val (.int ie), .val (.int ig), .val .null, .val .null, .val (.ref b1365), .unset, .unset]) rfl k) ?_
      refine GoH.step (T' := T1380) (f' := (mkF m 31 #[.val (.int ia), .val (.int ib), .val (.int ic), .val (.int ie), .val (.int ig), .val .null, .val .null, .val (.ref b1365), .unset, .unset] [(.ref b1365)])) (fun t k => XS.aload X1380.here hx rfl (hb hby at_29) rfl rfl k) ?_
      obtain ⟨cq1392, kq1392, q1392a, q1392b, q1392c⟩ := isOf hZ rfl p1381
      obtain ⟨_, _, ⟨T1392, L1392, k1392, n1392⟩, -, X1392, ⟨Lc1392, hQ1392, l1392, y1392, z1392⟩, st1392⟩ := X1380.virtualBack hx (y := (⟨"com/example/ferryline/ferryline/server/ApiError", "body", "()Lcom/example/ferryline/ferryline/server/ApiError$Body;"⟩ : MethodName)) (z := (⟨"com/example/ferryline/ferryline/server/ApiError", "body", "()Lcom/example/ferryline/ferryline/server/ApiError$Body;"⟩ : MethodName)) hown (mvT hZ (hw _ (List.mem_of_getElem? (i := 98) rfl))) (mvT hZ (hw _ (List.mem_of_getElem? (i := 99) rfl))) (notFace_of_selects (args := #[]) (mvT hZ (hw _ (List.mem_of_getElem? (i := 101) rfl)))) (mvT hZ (hw _ (List.mem_of_getElem? (i := 101) rfl))) (mvT hZ (hw _ (List.mem_of_getElem? (i := 100) rfl))) (by decide) (backOf (W := 0) (rm_bodyNN l Z a0 hw [] b1365 T1380.heap n0 O1390 p1381 p1383 p1384) hZ (hw _ (List.mem_of_getElem? (i := 102) rfl)) (hw _ (List.mem_of_getElem? (i := 36) rfl)) (by decide) (by decide)) q1392a q1392c (g := (mkF m 31 #[.val (.int ia), .val (.int ib), .val (.int ic), .val (.int ie), .val (.int ig), .val .null, .val .null, .val (.ref b1365), .unset, .unset] [(.ref b1365)])) rfl (by rw [hml]; rfl) (Steps.refl _) (argsL := []) (rest := []) (lenOf pd12 rfl) rfl (by show 2 * 0 + _ ≤ _; exact Nat.le_of_eq rfl) (hb hby at_31) (fun _ _ => ⟨rfl, rfl, (by decide : 2 + 1 ≤ _), (by decide : 2760 + 2 ≤ _)⟩)
      dsimp only [Pt.U, Pt.locs, Pt.cells, Pt.slots] at X1392 l1392 y1392 z1392 st1392 hQ1392
      subst l1392 y1392 z1392
      obtain ⟨u1393, rfl, Nq1392, hh1392, p1394, p1395, p1396, p1397⟩ := hQ1392
      have N1398 := Fr.app N1385 Nq1392
      have sz1399 : ∀ x ∈ ([] : List Addr), Safe Z own_EL s.vm T1380.heap x := sf0
      have CR1400 := CR1387.trans (CHr.keep hh1392 sz1399 CR1387.1)
      have hk1401 := Nat.le_trans hk1388 hh1392.1
      have f1402 := p1381.keep hh1392
      have f1403 := p1382.keep hh1392 nin0
      have f1404 := p1383.keep hh1392 nin0
      have f1405 := p1384.keep hh1392 nin0
      have O1406 := O1390.keep hh1392 all0
      have K1407 := K1391.trans hh1392 all0
      have g1408 : n0 ≤ u1393 := Nat.le_trans (own_old_le O1390) p1394
      have g1409 : h0.size ≤ u1393 := Nat.le_trans K1391.1 p1394
      have ne1410 : b1365 ≠ u1393 := Nat.ne_of_lt (Nat.lt_of_lt_of_le p1381.lt p1394)
      refine GoH.via (T' := T1392) (f' := (mkF m 34 #[.val (.int ia), .val (.int ib), .val (.int ic), .val (.int ie), .val (.int ig), .val .null, .val .null, .val (.ref b1365), .unset, .unset] [(.ref u1393)])) st1392 ?_
      clear st1392 X1380 N1385 Nq1392 CR1387 hk1388 sz1399 p1382 p1383 p1384
      refine GoH.step (T' := T1392) (f' := (mkF m 36 #[.val (.int ia), .val (.int ib), .val (.int ic), .val (.int ie), .val (.int ig), .val .null, .val .null, .val (.ref b1365), .val (.ref u1393), .unset] [])) (fun t k => XS.astore X1392.here hx rfl (hb hby at_34) rfl rfl (l' := #[.val (.int ia), .val (.int ib), .val (.int ic), .val (.int ie), .val (.int ig), .val .null, .val .null, .val (.ref b1365), .val (.ref u1393), .unset]) rfl k) ?_
      refine GoH.step (T' := T1392) (f' := (mkF m 38 #[.val (.int ia), .val (.int ib), .val (.int ic), .val (.int ie), .val (.int ig), .val .null, .val .null, .val (.ref b1365), .val (.ref u1393), .unset] [(.ref b1365)])) (fun t k => XS.aload X1392.here hx rfl (hb hby at_36) rfl rfl k) ?_
      obtain ⟨cq1411, kq1411, q1411a, q1411b, q1411c⟩ := isOf hZ rfl f1402
      obtain ⟨_, _, ⟨T1411, L1411, k1411, n1411⟩, -, X1411, ⟨Lc1411, hQ1411, l1411, y1411, z1411⟩, st1411⟩ := X1392.virtualBack hx (y := (⟨"com/example/ferryline/ferryline/server/ApiError", "body", "()Lcom/example/ferryline/ferryline/server/ApiError$Body;"⟩ : MethodName)) (z := (⟨"com/example/ferryline/ferryline/server/ApiError", "body", "()Lcom/example/ferryline/ferryline/server/ApiError$Body;"⟩ : MethodName)) hown (mvT hZ (hw _ (List.mem_of_getElem? (i := 98) rfl))) (mvT hZ (hw _ (List.mem_of_getElem? (i := 99) rfl))) (notFace_of_selects (args := #[]) (mvT hZ (hw _ (List.mem_of_getElem? (i := 101) rfl)))) (mvT hZ (hw _ (List.mem_of_getElem? (i := 101) rfl))) (mvT hZ (hw _ (List.mem_of_getElem? (i := 100) rfl))) (by decide) (backOf (W := 0) (rm_bodyNN l Z a0 hw [] b1365 T1392.heap n0 O1406 f1402 f1404 f1405) hZ (hw _ (List.mem_of_getElem? (i := 102) rfl)) (hw _ (List.mem_of_getElem? (i := 36) rfl)) (by decide) (by decide)) q1411a q1411c (g := (mkF m 38 #[.val (.int ia), .val (.int ib), .val (.int ic), .val (.int ie), .val (.int ig), .val .null, .val .null, .val (.ref b1365), .val (.ref u1393), .unset] [(.ref b1365)])) rfl (by rw [hml]; rfl) (Steps.refl _) (argsL := []) (rest := []) (lenOf pd12 rfl) rfl (by show 2 * 0 + _ ≤ _; exact Nat.le_of_eq rfl) (hb hby at_38) (fun _ _ => ⟨rfl, rfl, (by decide : 3 + 1 ≤ _), (by decide : 2762 + 2 ≤ _)⟩)
      dsimp only [Pt.U, Pt.locs, Pt.cells, Pt.slots] at X1411 l1411 y1411 z1411 st1411 hQ1411
      subst l1411 y1411 z1411
      obtain ⟨u1412, rfl, Nq1411, hh1411, p1413, p1414, p1415, p1416⟩ := hQ1411
      have N1417 := Fr.app N1398 Nq1411
      have sz1418 : ∀ x ∈ ([] : List Addr), Safe Z own_EL s.vm T1392.heap x := sf0
      have CR1419 := CR1400.trans (CHr.keep hh1411 sz1418 CR1400.1)
      have hk1420 := Nat.le_trans hk1401 hh1411.1
      have f1421 := f1402.keep hh1411
      have f1422 := f1403.keep hh1411 nin0
      have f1423 := f1404.keep hh1411 nin0
      have f1424 := f1405.keep hh1411 nin0
      have f1425 := p1395.keep hh1411
      have f1426 := p1396.keep hh1411 nin0
      have f1427 := p1397.keep hh1411 nin0
      have O1428 := O1406.keep hh1411 all0
      have K1429 := K1407.trans hh1411 all0
      have g1430 : n0 ≤ u1412 := Nat.le_trans (own_old_le O1406) p1413
      have g1431 : h0.size ≤ u1412 := Nat.le_trans K1407.1 p1413
      have ne1432 : b1365 ≠ u1412 := Nat.ne_of_lt (Nat.lt_of_lt_of_le f1402.lt p1413)
      have ne1433 : u1393 ≠ u1412 := Nat.ne_of_lt (Nat.lt_of_lt_of_le p1395.lt p1413)
      refine GoH.via (T' := T1411) (f' := (mkF m 41 #[.val (.int ia), .val (.int ib), .val (.int ic), .val (.int ie), .val (.int ig), .val .null, .val .null, .val (.ref b1365), .val (.ref u1393), .unset] [(.ref u1412)])) st1411 ?_
      clear st1411 X1392 N1398 Nq1411 CR1400 hk1401 sz1418 f1403 f1404 f1405 p1396 p1397
      refine GoH.step (T' := T1411) (f' := (mkF m 43 #[.val (.int ia), .val (.int ib), .val (.int ic), .val (.int ie), .val (.int ig), .val .null, .val .null, .val (.ref b1365), .val (.ref u1393), .val (.ref u1412)] [])) (fun t k => XS.astore X1411.here hx rfl (hb hby at_41) rfl rfl (l' := #[.val (.int ia), .val (.int ib), .val (.int ic), .val (.int ie), .val (.int ig), .val .null, .val .null, .val (.ref b1365), .val (.ref u1393), .val (.ref u1412)]) rfl k) ?_
      refine GoH.step (T' := T1411) (f' := (mkF m 45 #[.val (.int ia), .val (.int ib), .val (.int ic), .val (.int ie), .val (.int ig), .val .null, .val .null, .val (.ref b1365), .val (.ref u1393), .val (.ref u1412)] [(.ref u1393)])) (fun t k => XS.aload X1411.here hx rfl (hb hby at_43) rfl rfl k) ?_
      obtain ⟨cq1434, kq1434, q1434a, q1434b, q1434c⟩ := isOf hZ rfl f1425
      obtain ⟨_, _, ⟨T1434, L1434, k1434, n1434⟩, -, X1434, ⟨Lc1434, hQ1434, l1434, y1434, z1434⟩, st1434⟩ := X1411.virtualBack hx (y := (⟨"com/example/ferryline/ferryline/server/ApiError$Body", "error", "()Ljava/lang/String;"⟩ : MethodName)) (z := (⟨"com/example/ferryline/ferryline/server/ApiError$Body", "error", "()Ljava/lang/String;"⟩ : MethodName)) hown (mvT hZ (hw _ (List.mem_of_getElem? (i := 125) rfl))) (mvT hZ (hw _ (List.mem_of_getElem? (i := 126) rfl))) (notFace_of_selects (args := #[]) (mvT hZ (hw _ (List.mem_of_getElem? (i := 128) rfl)))) (mvT hZ (hw _ (List.mem_of_getElem? (i := 128) rfl))) (mvT hZ (hw _ (List.mem_of_getElem? (i := 127) rfl))) (by decide) (backOf (W := 0) (rm_errN l Z a0 hw [] u1393 T1411.heap n0 O1428 f1426) hZ (hw _ (List.mem_of_getElem? (i := 129) rfl)) (hw _ (List.mem_of_getElem? (i := 105) rfl)) (by decide) (by decide)) q1434a q1434c (g := (mkF m 45 #[.val (.int ia), .val (.int ib), .val (.int ic), .val (.int ie), .val (.int ig), .val .null, .val .null, .val (.ref b1365), .val (.ref u1393), .val (.ref u1412)] [(.ref u1393)])) rfl (by rw [hml]; rfl) (Steps.refl _) (argsL := []) (rest := []) (lenOf pd8 rfl) rfl (by show 2 * 0 + _ ≤ _; exact Nat.le_of_eq rfl) (hb hby at_45) (fun _ _ => ⟨rfl, rfl, (by decide : 4 + 0 ≤ _), (by decide : 2764 + 0 ≤ _)⟩)
      dsimp only [Pt.U, Pt.locs, Pt.cells, Pt.slots] at X1434 l1434 y1434 z1434 st1434 hQ1434
      subst l1434 y1434 z1434
      obtain ⟨rfl, Nq1434, hh1434⟩ := hQ1434
      have N1435 := Fr.app N1417 Nq1434
      refine GoH.via (T' := T1434) (f' := (mkF m 48 #[.val (.int ia), .val (.int ib), .val (.int ic), .val (.int ie), .val (.int ig), .val .null, .val .null, .val (.ref b1365), .val (.ref u1393), .val (.ref u1412)] [.null])) st1434 ?_
      clear st1434 X1411 N1417 Nq1434
      refine GoH.step (T' := T1434) (f' := (mkF m 50 #[.val (.int ia), .val (.int ib), .val (.int ic), .val (.int ie), .val (.int ig), .val .null, .val .null, .val (.ref b1365), .val (.ref u1393), .val (.ref u1412)] [.null, .null])) (fun t k => XS.aload X1434.here hx rfl (hb hby at_48) rfl rfl k) ?_
      obtain ⟨_, _, ⟨T1436, L1436, k1436, n1436⟩, -, X1436, ⟨Lc1436, hQ1436, l1436, y1436, z1436⟩, st1436⟩ := Jvm.LawKit.callS X1434 hx (y := (⟨"com/example/ferryline/ferryline/server/ApiErrorBodyPinLaw", "same", "(Ljava/lang/String;Ljava/lang/String;)Z"⟩ : MethodName)) hown (mvT hZ (hw _ (List.mem_of_getElem? (i := 130) rfl))) (mvT hZ (hw _ (List.mem_of_getElem? (i := 131) rfl))) (mvT hZ (hw _ (List.mem_of_getElem? (i := 2) rfl))) (mvT hZ (hw _ (List.mem_of_getElem? (i := 132) rfl))) (by decide) (backOf (W := 0) (rm_sameN l Z a0 hw []  T1411.heap n0 O1428 ) hZ (hw _ (List.mem_of_getElem? (i := 132) rfl)) (hw _ (List.mem_of_getElem? (i := 2) rfl)) (by decide) (by decide)) (g := (mkF m 50 #[.val (.int ia), .val (.int ib), .val (.int ic), .val (.int ie), .val (.int ig), .val .null, .val .null, .val (.ref b1365), .val (.ref u1393), .val (.ref u1412)] [.null, .null])) rfl (by rw [hml]; rfl) (argsL := [.null, .null]) (rest := []) (lenOf pd13 rfl) rfl (by show 2 * 0 + _ ≤ _; exact Nat.le_of_eq rfl) (hb hby at_50) (fun _ _ => ⟨rfl, hh1434, (by decide : 4 + 0 ≤ _), (by decide : 2764 + 0 ≤ _)⟩)
      dsimp only [Pt.U, Pt.locs, Pt.cells, Pt.slots] at X1436 l1436 y1436 z1436 st1436 hQ1436
      subst l1436 y1436 z1436
      obtain ⟨rfl, Nq1436, hh1436⟩ := hQ1436
      have N1437 := Fr.app N1435 Nq1436
      refine GoH.step (T' := T1436) (f' := (mkF m 53 #[.val (.int ia), .val (.int ib), .val (.int ic), .val (.int ie), .val (.int ig), .val .null, .val .null, .val (.ref b1365), .val (.ref u1393), .val (.ref u1412)] [(.int (1 : Int32))])) st1436 ?_
      clear st1436 X1434 N1435 Nq1436
      refine GoH.step (T' := T1436) (f' := (mkF m 56 #[.val (.int ia), .val (.int ib), .val (.int ic), .val (.int ie), .val (.int ig), .val .null, .val .null, .val (.ref b1365), .val (.ref u1393), .val (.ref u1412)] [])) (fun t k => XS.ifNo X1436.here hx rfl (hb hby at_53) rfl ((if0 _ _).trans (feq (by decide : ¬ ((1 : Int32) = (0 : Int32)))).1) k) ?_
      refine GoH.step (T' := T1436) (f' := (mkF m 58 #[.val (.int ia), .val (.int ib), .val (.int ic), .val (.int ie), .val (.int ig), .val .null, .val .null, .val (.ref b1365), .val (.ref u1393), .val (.ref u1412)] [(.ref u1393)])) (fun t k => XS.aload X1436.here hx rfl (hb hby at_56) rfl rfl k) ?_
      obtain ⟨cq1438, kq1438, q1438a, q1438b, q1438c⟩ := isOf hZ hh1436 f1425
      obtain ⟨_, _, ⟨T1438, L1438, k1438, n1438⟩, -, X1438, ⟨Lc1438, hQ1438, l1438, y1438, z1438⟩, st1438⟩ := X1436.virtualBack hx (y := (⟨"com/example/ferryline/ferryline/server/ApiError$Body", "message", "()Ljava/lang/String;"⟩ : MethodName)) (z := (⟨"com/example/ferryline/ferryline/server/ApiError$Body", "message", "()Ljava/lang/String;"⟩ : MethodName)) hown (mvT hZ (hw _ (List.mem_of_getElem? (i := 138) rfl))) (mvT hZ (hw _ (List.mem_of_getElem? (i := 139) rfl))) (notFace_of_selects (args := #[]) (mvT hZ (hw _ (List.mem_of_getElem? (i := 141) rfl)))) (mvT hZ (hw _ (List.mem_of_getElem? (i := 141) rfl))) (mvT hZ (hw _ (List.mem_of_getElem? (i := 140) rfl))) (by decide) (backOf (W := 0) (rm_msgN l Z a0 hw [] u1393 T1411.heap n0 O1428 f1427) hZ (hw _ (List.mem_of_getElem? (i := 142) rfl)) (hw _ (List.mem_of_getElem? (i := 105) rfl)) (by decide) (by decide)) q1438a q1438c (g := (mkF m 58 #[.val (.int ia), .val (.int ib), .val (.int ic), .val (.int ie), .val (.int ig), .val .null, .val .null, .val (.ref b1365), .val (.ref u1393), .val (.ref u1412)] [(.ref u1393)])) rfl (by rw [hml]; rfl) (Steps.refl _) (argsL := []) (rest := []) (lenOf pd8 rfl) rfl (by show 2 * 0 + _ ≤ _; exact Nat.le_of_eq rfl) (hb hby at_58) (fun _ _ => ⟨rfl, hh1436, (by decide : 4 + 0 ≤ _), (by decide : 2764 + 0 ≤ _)⟩)
      dsimp only [Pt.U, Pt.locs, Pt.cells, Pt.slots] at X1438 l1438 y1438 z1438 st1438 hQ1438
      subst l1438 y1438 z1438
      obtain ⟨rfl, Nq1438, hh1438⟩ := hQ1438
      have N1439 := Fr.app N1437 Nq1438
      refine GoH.via (T' := T1438) (f' := (mkF m 61 #[.val (.int ia), .val (.int ib), .val (.int ic), .val (.int ie), .val (.int ig), .val .null, .val .null, .val (.ref b1365), .val (.ref u1393), .val (.ref u1412)] [.null])) st1438 ?_
      clear st1438 X1436 N1437 Nq1438
      refine GoH.step (T' := T1438) (f' := (mkF m 63 #[.val (.int ia), .val (.int ib), .val (.int ic), .val (.int ie), .val (.int ig), .val .null, .val .null, .val (.ref b1365), .val (.ref u1393), .val (.ref u1412)] [.null, .null])) (fun t k => XS.aload X1438.here hx rfl (hb hby at_61) rfl rfl k) ?_
      obtain ⟨_, _, ⟨T1440, L1440, k1440, n1440⟩, -, X1440, ⟨Lc1440, hQ1440, l1440, y1440, z1440⟩, st1440⟩ := Jvm.LawKit.callS X1438 hx (y := (⟨"com/example/ferryline/ferryline/server/ApiErrorBodyPinLaw", "same", "(Ljava/lang/String;Ljava/lang/String;)Z"⟩ : MethodName)) hown (mvT hZ (hw _ (List.mem_of_getElem? (i := 130) rfl))) (mvT hZ (hw _ (List.mem_of_getElem? (i := 131) rfl))) (mvT hZ (hw _ (List.mem_of_getElem? (i := 2) rfl))) (mvT hZ (hw _ (List.mem_of_getElem? (i := 132) rfl))) (by decide) (backOf (W := 0) (rm_sameN l Z a0 hw []  T1411.heap n0 O1428 ) hZ (hw _ (List.mem_of_getElem? (i := 132) rfl)) (hw _ (List.mem_of_getElem? (i := 2) rfl)) (by decide) (by decide)) (g := (mkF m 63 #[.val (.int ia), .val (.int ib), .val (.int ic), .val (.int ie), .val (.int ig), .val .null, .val .null, .val (.ref b1365), .val (.ref u1393), .val (.ref u1412)] [.null, .null])) rfl (by rw [hml]; rfl) (argsL := [.null, .null]) (rest := []) (lenOf pd13 rfl) rfl (by show 2 * 0 + _ ≤ _; exact Nat.le_of_eq rfl) (hb hby at_63) (fun _ _ => ⟨rfl, hh1438, (by decide : 4 + 0 ≤ _), (by decide : 2764 + 0 ≤ _)⟩)
      dsimp only [Pt.U, Pt.locs, Pt.cells, Pt.slots] at X1440 l1440 y1440 z1440 st1440 hQ1440
      subst l1440 y1440 z1440
      obtain ⟨rfl, Nq1440, hh1440⟩ := hQ1440
      have N1441 := Fr.app N1439 Nq1440
      refine GoH.step (T' := T1440) (f' := (mkF m 66 #[.val (.int ia), .val (.int ib), .val (.int ic), .val (.int ie), .val (.int ig), .val .null, .val .null, .val (.ref b1365), .val (.ref u1393), .val (.ref u1412)] [(.int (1 : Int32))])) st1440 ?_
      clear st1440 X1438 N1439 Nq1440
      refine GoH.step (T' := T1440) (f' := (mkF m 69 #[.val (.int ia), .val (.int ib), .val (.int ic), .val (.int ie), .val (.int ig), .val .null, .val .null, .val (.ref b1365), .val (.ref u1393), .val (.ref u1412)] [])) (fun t k => XS.ifNo X1440.here hx rfl (hb hby at_66) rfl ((if0 _ _).trans (feq (by decide : ¬ ((1 : Int32) = (0 : Int32)))).1) k) ?_
      refine GoH.step (T' := T1440) (f' := (mkF m 71 #[.val (.int ia), .val (.int ib), .val (.int ic), .val (.int ie), .val (.int ig), .val .null, .val .null, .val (.ref b1365), .val (.ref u1393), .val (.ref u1412)] [(.ref u1412)])) (fun t k => XS.aload X1440.here hx rfl (hb hby at_69) rfl rfl k) ?_
      obtain ⟨cq1442, kq1442, q1442a, q1442b, q1442c⟩ := isOf hZ hh1440 p1414
      obtain ⟨_, _, ⟨T1442, L1442, k1442, n1442⟩, -, X1442, ⟨Lc1442, hQ1442, l1442, y1442, z1442⟩, st1442⟩ := X1440.virtualBack hx (y := (⟨"com/example/ferryline/ferryline/server/ApiError$Body", "error", "()Ljava/lang/String;"⟩ : MethodName)) (z := (⟨"com/example/ferryline/ferryline/server/ApiError$Body", "error", "()Ljava/lang/String;"⟩ : MethodName)) hown (mvT hZ (hw _ (List.mem_of_getElem? (i := 125) rfl))) (mvT hZ (hw _ (List.mem_of_getElem? (i := 126) rfl))) (notFace_of_selects (args := #[]) (mvT hZ (hw _ (List.mem_of_getElem? (i := 128) rfl)))) (mvT hZ (hw _ (List.mem_of_getElem? (i := 128) rfl))) (mvT hZ (hw _ (List.mem_of_getElem? (i := 127) rfl))) (by decide) (backOf (W := 0) (rm_errN l Z a0 hw [] u1412 T1411.heap n0 O1428 p1415) hZ (hw _ (List.mem_of_getElem? (i := 129) rfl)) (hw _ (List.mem_of_getElem? (i := 105) rfl)) (by decide) (by decide)) q1442a q1442c (g := (mkF m 71 #[.val (.int ia), .val (.int ib), .val (.int ic), .val (.int ie), .val (.int ig), .val .null, .val .null, .val (.ref b1365), .val (.ref u1393), .val (.ref u1412)] [(.ref u1412)])) rfl (by rw [hml]; rfl) (Steps.refl _) (argsL := []) (rest := []) (lenOf pd8 rfl) rfl (by show 2 * 0 + _ ≤ _; exact Nat.le_of_eq rfl) (hb hby at_71) (fun _ _ => ⟨rfl, hh1440, (by decide : 4 + 0 ≤ _), (by decide : 2764 + 0 ≤ _)⟩)
      dsimp only [Pt.U, Pt.locs, Pt.cells, Pt.slots] at X1442 l1442 y1442 z1442 st1442 hQ1442
      subst l1442 y1442 z1442
      obtain ⟨rfl, Nq1442, hh1442⟩ := hQ1442
      have N1443 := Fr.app N1441 Nq1442
      refine GoH.via (T' := T1442) (f' := (mkF m 74 #[.val (.int ia), .val (.int ib), .val (.int ic), .val (.int ie), .val (.int ig), .val .null, .val .null, .val (.ref b1365), .val (.ref u1393), .val (.ref u1412)] [.null])) st1442 ?_
      clear st1442 X1440 N1441 Nq1442
      refine GoH.step (T' := T1442) (f' := (mkF m 76 #[.val (.int ia), .val (.int ib), .val (.int ic), .val (.int ie), .val (.int ig), .val .null, .val .null, .val (.ref b1365), .val (.ref u1393), .val (.ref u1412)] [.null, .null])) (fun t k => XS.aload X1442.here hx rfl (hb hby at_74) rfl rfl k) ?_
      obtain ⟨_, _, ⟨T1444, L1444, k1444, n1444⟩, -, X1444, ⟨Lc1444, hQ1444, l1444, y1444, z1444⟩, st1444⟩ := Jvm.LawKit.callS X1442 hx (y := (⟨"com/example/ferryline/ferryline/server/ApiErrorBodyPinLaw", "same", "(Ljava/lang/String;Ljava/lang/String;)Z"⟩ : MethodName)) hown (mvT hZ (hw _ (List.mem_of_getElem? (i := 130) rfl))) (mvT hZ (hw _ (List.mem_of_getElem? (i := 131) rfl))) (mvT hZ (hw _ (List.mem_of_getElem? (i := 2) rfl))) (mvT hZ (hw _ (List.mem_of_getElem? (i := 132) rfl))) (by decide) (backOf (W := 0) (rm_sameN l Z a0 hw []  T1411.heap n0 O1428 ) hZ (hw _ (List.mem_of_getElem? (i := 132) rfl)) (hw _ (List.mem_of_getElem? (i := 2) rfl)) (by decide) (by decide)) (g := (mkF m 76 #[.val (.int ia), .val (.int ib), .val (.int ic), .val (.int ie), .val (.int ig), .val .null, .val .null, .val (.ref b1365), .val (.ref u1393), .val (.ref u1412)] [.null, .null])) rfl (by rw [hml]; rfl) (argsL := [.null, .null]) (rest := []) (lenOf pd13 rfl) rfl (by show 2 * 0 + _ ≤ _; exact Nat.le_of_eq rfl) (hb hby at_76) (fun _ _ => ⟨rfl, hh1442, (by decide : 4 + 0 ≤ _), (by decide : 2764 + 0 ≤ _)⟩)
      dsimp only [Pt.U, Pt.locs, Pt.cells, Pt.slots] at X1444 l1444 y1444 z1444 st1444 hQ1444
      subst l1444 y1444 z1444
      obtain ⟨rfl, Nq1444, hh1444⟩ := hQ1444
      have N1445 := Fr.app N1443 Nq1444
      refine GoH.step (T' := T1444) (f' := (mkF m 79 #[.val (.int ia), .val (.int ib), .val (.int ic), .val (.int ie), .val (.int ig), .val .null, .val .null, .val (.ref b1365), .val (.ref u1393), .val (.ref u1412)] [(.int (1 : Int32))])) st1444 ?_
      clear st1444 X1442 N1443 Nq1444
      refine GoH.step (T' := T1444) (f' := (mkF m 82 #[.val (.int ia), .val (.int ib), .val (.int ic), .val (.int ie), .val (.int ig), .val .null, .val .null, .val (.ref b1365), .val (.ref u1393), .val (.ref u1412)] [])) (fun t k => XS.ifNo X1444.here hx rfl (hb hby at_79) rfl ((if0 _ _).trans (feq (by decide : ¬ ((1 : Int32) = (0 : Int32)))).1) k) ?_
      refine GoH.step (T' := T1444) (f' := (mkF m 84 #[.val (.int ia), .val (.int ib), .val (.int ic), .val (.int ie), .val (.int ig), .val .null, .val .null, .val (.ref b1365), .val (.ref u1393), .val (.ref u1412)] [(.ref u1412)])) (fun t k => XS.aload X1444.here hx rfl (hb hby at_82) rfl rfl k) ?_
      obtain ⟨cq1446, kq1446, q1446a, q1446b, q1446c⟩ := isOf hZ hh1444 p1414
      obtain ⟨_, _, ⟨T1446, L1446, k1446, n1446⟩, -, X1446, ⟨Lc1446, hQ1446, l1446, y1446, z1446⟩, st1446⟩ := X1444.virtualBack hx (y := (⟨"com/example/ferryline/ferryline/server/ApiError$Body", "message", "()Ljava/lang/String;"⟩ : MethodName)) (z := (⟨"com/example/ferryline/ferryline/server/ApiError$Body", "message", "()Ljava/lang/String;"⟩ : MethodName)) hown (mvT hZ (hw _ (List.mem_of_getElem? (i := 138) rfl))) (mvT hZ (hw _ (List.mem_of_getElem? (i := 139) rfl))) (notFace_of_selects (args := #[]) (mvT hZ (hw _ (List.mem_of_getElem? (i := 141) rfl)))) (mvT hZ (hw _ (List.mem_of_getElem? (i := 141) rfl))) (mvT hZ (hw _ (List.mem_of_getElem? (i := 140) rfl))) (by decide) (backOf (W := 0) (rm_msgN l Z a0 hw [] u1412 T1411.heap n0 O1428 p1416) hZ (hw _ (List.mem_of_getElem? (i := 142) rfl)) (hw _ (List.mem_of_getElem? (i := 105) rfl)) (by decide) (by decide)) q1446a q1446c (g := (mkF m 84 #[.val (.int ia), .val (.int ib), .val (.int ic), .val (.int ie), .val (.int ig), .val .null, .val .null, .val (.ref b1365), .val (.ref u1393), .val (.ref u1412)] [(.ref u1412)])) rfl (by rw [hml]; rfl) (Steps.refl _) (argsL := []) (rest := []) (lenOf pd8 rfl) rfl (by show 2 * 0 + _ ≤ _; exact Nat.le_of_eq rfl) (hb hby at_84) (fun _ _ => ⟨rfl, hh1444, (by decide : 4 + 0 ≤ _), (by decide : 2764 + 0 ≤ _)⟩)
      dsimp only [Pt.U, Pt.locs, Pt.cells, Pt.slots] at X1446 l1446 y1446 z1446 st1446 hQ1446
      subst l1446 y1446 z1446
      obtain ⟨rfl, Nq1446, hh1446⟩ := hQ1446
      have N1447 := Fr.app N1445 Nq1446
      refine GoH.via (T' := T1446) (f' := (mkF m 87 #[.val (.int ia), .val (.int ib), .val (.int ic), .val (.int ie), .val (.int ig), .val .null, .val .null, .val (.ref b1365), .val (.ref u1393), .val (.ref u1412)] [.null])) st1446 ?_
      clear st1446 X1444 N1445 Nq1446
      refine GoH.step (T' := T1446) (f' := (mkF m 89 #[.val (.int ia), .val (.int ib), .val (.int ic), .val (.int ie), .val (.int ig), .val .null, .val .null, .val (.ref b1365), .val (.ref u1393), .val (.ref u1412)] [.null, .null])) (fun t k => XS.aload X1446.here hx rfl (hb hby at_87) rfl rfl k) ?_
      obtain ⟨_, _, ⟨T1448, L1448, k1448, n1448⟩, -, X1448, ⟨Lc1448, hQ1448, l1448, y1448, z1448⟩, st1448⟩ := Jvm.LawKit.callS X1446 hx (y := (⟨"com/example/ferryline/ferryline/server/ApiErrorBodyPinLaw", "same", "(Ljava/lang/String;Ljava/lang/String;)Z"⟩ : MethodName)) hown (mvT hZ (hw _ (List.mem_of_getElem? (i := 130) rfl))) (mvT hZ (hw _ (List.mem_of_getElem? (i := 131) rfl))) (mvT hZ (hw _ (List.mem_of_getElem? (i := 2) rfl))) (mvT hZ (hw _ (List.mem_of_getElem? (i := 132) rfl))) (by decide) (backOf (W := 0) (rm_sameN l Z a0 hw []  T1411.heap n0 O1428 ) hZ (hw _ (List.mem_of_getElem? (i := 132) rfl)) (hw _ (List.mem_of_getElem? (i := 2) rfl)) (by decide) (by decide)) (g := (mkF m 89 #[.val (.int ia), .val (.int ib), .val (.int ic), .val (.int ie), .val (.int ig), .val .null, .val .null, .val (.ref b1365), .val (.ref u1393), .val (.ref u1412)] [.null, .null])) rfl (by rw [hml]; rfl) (argsL := [.null, .null]) (rest := []) (lenOf pd13 rfl) rfl (by show 2 * 0 + _ ≤ _; exact Nat.le_of_eq rfl) (hb hby at_89) (fun _ _ => ⟨rfl, hh1446, (by decide : 4 + 0 ≤ _), (by decide : 2764 + 0 ≤ _)⟩)
      dsimp only [Pt.U, Pt.locs, Pt.cells, Pt.slots] at X1448 l1448 y1448 z1448 st1448 hQ1448
      subst l1448 y1448 z1448
      obtain ⟨rfl, Nq1448, hh1448⟩ := hQ1448
      have N1449 := Fr.app N1447 Nq1448
      refine GoH.step (T' := T1448) (f' := (mkF m 92 #[.val (.int ia), .val (.int ib), .val (.int ic), .val (.int ie), .val (.int ig), .val .null, .val .null, .val (.ref b1365), .val (.ref u1393), .val (.ref u1412)] [(.int (1 : Int32))])) st1448 ?_
      clear st1448 X1446 N1447 Nq1448
      refine GoH.step (T' := T1448) (f' := (mkF m 95 #[.val (.int ia), .val (.int ib), .val (.int ic), .val (.int ie), .val (.int ig), .val .null, .val .null, .val (.ref b1365), .val (.ref u1393), .val (.ref u1412)] [])) (fun t k => XS.ifNo X1448.here hx rfl (hb hby at_92) rfl ((if0 _ _).trans (feq (by decide : ¬ ((1 : Int32) = (0 : Int32)))).1) k) ?_
      refine GoH.step (T' := T1448) (f' := (mkF m 97 #[.val (.int ia), .val (.int ib), .val (.int ic), .val (.int ie), .val (.int ig), .val .null, .val .null, .val (.ref b1365), .val (.ref u1393), .val (.ref u1412)] [(.ref b1365)])) (fun t k => XS.aload X1448.here hx rfl (hb hby at_95) rfl rfl k) ?_
      obtain ⟨cq1450, kq1450, q1450a, q1450b, q1450c⟩ := isOf hZ hh1448 f1421
      obtain ⟨_, _, ⟨T1450, L1450, k1450, n1450⟩, -, X1450, ⟨Lc1450, hQ1450, l1450, y1450, z1450⟩, st1450⟩ := X1448.virtualBack hx (y := (⟨"com/example/ferryline/ferryline/server/ApiError", "status", "()I"⟩ : MethodName)) (z := (⟨"com/example/ferryline/ferryline/server/ApiError", "status", "()I"⟩ : MethodName)) hown (mvT hZ (hw _ (List.mem_of_getElem? (i := 143) rfl))) (mvT hZ (hw _ (List.mem_of_getElem? (i := 144) rfl))) (notFace_of_selects (args := #[]) (mvT hZ (hw _ (List.mem_of_getElem? (i := 146) rfl)))) (mvT hZ (hw _ (List.mem_of_getElem? (i := 146) rfl))) (mvT hZ (hw _ (List.mem_of_getElem? (i := 145) rfl))) (by decide) (backOf (W := 0) (rm_stat l Z a0 hw [] b1365 ia T1411.heap n0 O1428 f1422) hZ (hw _ (List.mem_of_getElem? (i := 147) rfl)) (hw _ (List.mem_of_getElem? (i := 36) rfl)) (by decide) (by decide)) q1450a q1450c (g := (mkF m 97 #[.val (.int ia), .val (.int ib), .val (.int ic), .val (.int ie), .val (.int ig), .val .null, .val .null, .val (.ref b1365), .val (.ref u1393), .val (.ref u1412)] [(.ref b1365)])) rfl (by rw [hml]; rfl) (Steps.refl _) (argsL := []) (rest := []) (lenOf pd14 rfl) rfl (by show 2 * 0 + _ ≤ _; exact Nat.le_of_eq rfl) (hb hby at_97) (fun _ _ => ⟨rfl, hh1448, (by decide : 4 + 0 ≤ _), (by decide : 2764 + 0 ≤ _)⟩)
      dsimp only [Pt.U, Pt.locs, Pt.cells, Pt.slots] at X1450 l1450 y1450 z1450 st1450 hQ1450
      subst l1450 y1450 z1450
      obtain ⟨rfl, Nq1450, hh1450⟩ := hQ1450
      have N1451 := Fr.app N1449 Nq1450
      refine GoH.via (T' := T1450) (f' := (mkF m 100 #[.val (.int ia), .val (.int ib), .val (.int ic), .val (.int ie), .val (.int ig), .val .null, .val .null, .val (.ref b1365), .val (.ref u1393), .val (.ref u1412)] [(.int ia)])) st1450 ?_
      clear st1450 X1448 N1449 Nq1450
      refine GoH.step (T' := T1450) (f' := (mkF m 101 #[.val (.int ia), .val (.int ib), .val (.int ic), .val (.int ie), .val (.int ig), .val .null, .val .null, .val (.ref b1365), .val (.ref u1393), .val (.ref u1412)] [(.int ia), (.int ia)])) (fun t k => XS.iloadN X1450.here hx rfl (hb hby at_100) rfl k) ?_
      refine GoH.step (T' := T1450) (f' := (mkF m 104 #[.val (.int ia), .val (.int ib), .val (.int ic), .val (.int ie), .val (.int ig), .val .null, .val .null, .val (.ref b1365), .val (.ref u1393), .val (.ref u1412)] [])) (fun t k => XS.icmpNo X1450.here hx rfl (hb hby at_101) rfl (teq (rfl : ia = ia)).2 k) ?_
      refine GoH.step (T' := T1450) (f' := (mkF m 105 #[.val (.int ia), .val (.int ib), .val (.int ic), .val (.int ie), .val (.int ig), .val .null, .val .null, .val (.ref b1365), .val (.ref u1393), .val (.ref u1412)] [(.int (1 : Int32))])) (fun t k => XS.iconst X1450.here hx rfl (hb hby at_104) k) ?_
      refine GoH.step (T' := T1450) (f' := (mkF m 109 #[.val (.int ia), .val (.int ib), .val (.int ic), .val (.int ie), .val (.int ig), .val .null, .val .null, .val (.ref b1365), .val (.ref u1393), .val (.ref u1412)] [(.int (1 : Int32))])) (fun t k => XS.goto X1450.here hx rfl (pc0 := 105) (pc' := 109) rfl (hb hby at_105) (by decide) (by decide) k) ?_
      refine GoH.fin X1450 hZ hEL hS0 hk1420 CR1419 hlk (v := some (.int (nar .boolean (1 : Int32)))) (fun h => by rw [Bd.returns] at h; cases h) (fun fs hr => retN X1450 hx (t := .boolean) Bd.returns (by simp) (hb hby at_109) hr) hh1450 ?_ (by decide) (by decide)
      exact ⟨rfl, N1451, K1429⟩
set_option maxRecDepth 65536 in
set_option maxHeartbeats 40000000 in
theorem comes_1 {Post : Tables → Env → Array Value → State → Outcome → State → Prop} (hpost : ∀ tb e args s v u, (limb_1_1.after args s (.returned v) u = true ∧ limb_1_2.after args s (.returned v) u = true ∧ True) → ReturnedEndW s (.returned v) u (Jvm.fieldLocs frame_1_writes args s ++ Jvm.arrayLocs frame_1_arrays args s ++ Jvm.staticLocs frame_1_statics s) 32 6720 → Post tb e args s (.returned v) u) :
    ArmFor flags0 classFile x code maxLocals ret World_1 tables_1 room_1 Calls_1 rest_1 Pre_1 Post := by
  intro l hfl _ _ p e ha hc hk s m args below hf hA hF happ hP
  obtain ⟨hcalls, hrest, hpre⟩ := hP
  obtain ⟨-, -, -, hnamed, -, -, -, hat⟩ := (Spec.applies_iff hf).mp happ
  obtain ⟨hg, hn⟩ := and_e (Cond.before_iff.mp (show (Jvm.Cond.and given_1 narrow_1).before args s = true from hpre))
  obtain ⟨c1, c2⟩ := and_e hg
  obtain ⟨c3, c4⟩ := and_e c2
  obtain ⟨c5, c6⟩ := and_e c4
  obtain ⟨c7, c8⟩ := and_e c6
  obtain ⟨c9, c10⟩ := and_e c8
  obtain ⟨w0, w1, w2, w3, w4, rfl⟩ : ∃ w0 w1 w2 w3 w4 : Value, args = #[w0, w1, w2, w3, w4] := by
    have hs : args.size = 5 := by simpa [Cond.value, given_1] using c1
    obtain ⟨L⟩ := args
    match L, hs with
    | [w0, w1, w2, w3, w4], _ => exact ⟨w0, w1, w2, w3, w4, rfl⟩
  have hw := fun d (hd : d ∈ tables_1) => atoms_spec (ws := Jvm.Cond.code x code maxLocals ret :: tables_1) hat d (List.mem_cons_of_mem _ hd)
  have hfit : Fit s := fun {y c} hc i hi => by
    obtain ⟨ha, rfl⟩ := Array.getElem?_eq_some_iff.mp hc
    have q := List.all_eq_true.mp ((Array.all_eq_true_iff_forall_mem.mp hF) _ (Array.getElem_mem ha)) i (List.mem_range.mpr hi)
    simpa [Array.getElem?_eq_getElem hi] using q
  obtain ⟨i0, ei0⟩ := is_v c3
  obtain rfl : w0 = (.int i0) := Option.some.inj ei0
  obtain ⟨i1, ei1⟩ := is_v c5
  obtain rfl : w1 = (.int i1) := Option.some.inj ei1
  obtain ⟨i2, ei2⟩ := is_v c7
  obtain rfl : w2 = (.int i2) := Option.some.inj ei2
  obtain ⟨i3, ei3⟩ := is_v c9
  obtain rfl : w3 = (.int i3) := Option.some.inj ei3
  obtain ⟨i4, ei4⟩ := is_v c10
  obtain rfl : w4 = (.int i4) := Option.some.inj ei4
  obtain ⟨hsets, hown0⟩ := atoms_of _ (rest_1_c_eq ▸ (show rest_1_c.before _ s = true from hrest))
  obtain ⟨zcs, evcs⟩ := is_v (Cond.before_iff.mp (hsets _ (List.mem_of_getElem? (i := 1) rfl)))
  have Scs := Sta.start evcs (Or.inl (hsets _ (List.mem_of_getElem? (i := 0) rfl)))
  have hcs : ¬ zcs = (0 : Int32) := gotF (Jvm.Cond.eq_ints evcs (Term.int_eval (0))) (not_v (Cond.before_iff.mp (hsets _ (List.mem_of_getElem? (i := 2) rfl))))
  have hEL : EW s _ own_EL := EW.cons (hw _ (List.mem_of_getElem? (i := 148) rfl)) (by decide) EW.nil
  have hCH : CHv s own_EL s.vm s.heap := CHv.start hEL (fun p hp => hcalls.2.2.1 p ((by decide : ∀ q ∈ own_EL, q ∈ consts_1) p hp)) (hsets _ (List.mem_of_getElem? (i := 2) rfl)) (hw _ (List.mem_of_getElem? (i := 23) rfl)) (hw _ (List.mem_of_getElem? (i := 5) rfl))
  obtain ⟨zu, evu⟩ := arr_v (Cond.before_iff.mp (hsets _ (List.mem_of_getElem? (i := 17) rfl)))
  have Su := Sta.start evu (Or.inr ⟨(hw _ (List.mem_of_getElem? (i := 55) rfl)), (hw _ (List.mem_of_getElem? (i := 86) rfl))⟩)
  obtain ⟨zz, evz⟩ := exa_v (Cond.before_iff.mp (hsets _ (List.mem_of_getElem? (i := 22) rfl)))
  have Sz := Sta.start evz (Or.inr ⟨(hw _ (List.mem_of_getElem? (i := 55) rfl)), (hw _ (List.mem_of_getElem? (i := 87) rfl))⟩)
  obtain ⟨n, o, h1, h2, h3, _, L, rfl, ⟨rfl, N, -⟩, -, hq⟩ := rm_law l s _ hw tables_1 i0 i1 i2 i3 i4 zcs zu zz s.heap s.heap.size (Old.start s) hEL Scs hcs Su Sz (by unfold Launch.stackTraces; rw [hfl]; decide) p e ha hc hk s m _ below hf ((Spec.applies_iff_loose hf).mp happ).1 ⟨rfl, State.Warmed39.refl s, rfl, hCH⟩ ⟨Jvm.MethodsKnown_of_tablesKnown hcalls.2.1, Jvm.FramesKnown_of_framesKnown hcalls.1 hf⟩
  refine ⟨n, _, h1, h2, h3, hpost _ _ _ _ _ _ ⟨Cond.after_iff.mpr rfl, Cond.after_iff.mpr (eq_i res_at (Term.int_eval (1)) rfl), trivial⟩ ⟨hq.1, hq.2.1, hq.2.2.1, (hq.2.2.2.sift fun y hy => Or.inr (N y hy)).mono (by decide) (by decide)⟩⟩
theorem main_1_1 : Claimed_1_1 := comes_1 fun _ _ _ _ _ _ h hF => ⟨h.1, hF⟩
theorem main_1_2 : Claimed_1_2 := comes_1 fun _ _ _ _ _ _ h hF => ⟨h.2.1, hF⟩
end Jvm.Pilot.@@N@@
namespace Jvm.Pilot.@@N@@
open Jvm Jvm.ClassFile Sem Op Lib Jvm.Free Jvm.Stand Jvm.Pilot.@@N@@.Jvm.D
/-! MADE BY PROGRAM (witnessworld.py) out of the Statement's table words and the real class files: 38 classes; the members and pool entries that the words name. The judged class is class 1, her method 3. -/
namespace start1
open Jvm.ClassFile
def u (s : String) : CpInfo := .utf8 (stringToUtf16 s)
/-- a pool by its gaps: so many unusable entries, then the entry; so many at the end -/
def gap : Nat → List CpInfo → List CpInfo
  | 0, r => r
  | n + 1, r => .unusable :: gap n r
def poolList (es : List (Nat × CpInfo)) (last : Nat) : List CpInfo := es.foldr (fun e r => gap e.1 (e.2 :: r)) (gap last [])
def pool (es : List (Nat × CpInfo)) (last : Nat) : Array CpInfo := ⟨poolList es last⟩
def fileOf (pool : Array CpInfo) (this : Nat) (attrs : Array Attribute := #[]) (ms : Array MethodInfo := #[]) (fl : Nat := 33) (sup : Nat := 0) (ifs : Array Nat := #[]) (fds : Array FieldInfo := #[]) : ClassFile where
  minorVersion := 0
  majorVersion := 65
  constantPool := pool
  accessFlags := fl
  thisClass := this
  superClass := sup
  interfaces := ifs
  fields := fds
  methods := ms
  attributes := attrs
def plain (name : String) (sup : Option ClassId) : Class where
  name := name
  kind := .ordinary
  loader := none
  accessFlags := 33
  super := sup
  interfaces := #[]
  cf := none
  fields := #[]
  methods := #[]
  instanceTypes := #[]
  staticTypes := #[]
  resolved := #[]
  callSites := []
  init := .initialized
  statics := none
  mirror := none

def pool0 : Array CpInfo := pool [(5, u "<init>"), (0, u "()V"), (1, .class_ 10), (1, u "java/lang/Object")] 113

def k0c0 : Code := { maxStack := 0, maxLocals := 1, code := object_method_1_code, exceptionTable := #[], attributes := #[] }
def k0m0 : Method := { name := "<init>", desc := "()V", sig := { parameters := [], returnType := none }, accessFlags := 1, code := some k0c0 }
/-- java/lang/Object -/
def k0 : Class := { plain "java/lang/Object" none with
  accessFlags := 33
  interfaces := #[]
  cf := some (fileOf pool0 8 #[] #[{ accessFlags := 1, nameIndex := 5, descriptorIndex := 6, attributes := #[] }] 33 0 #[] #[])
  fields := #[]
  methods := #[k0m0]
  instanceTypes := #[]
  staticTypes := #[]
  resolved := Array.replicate 124 none
  statics := none }

def pool1 : Array CpInfo := pool [(2, .class_ 4), (1, u "java/lang/Object"), (0, u "<init>"), (0, u "()V"), (0, .class_ 8), (0, u "java/lang/String"), (0, .methodref 7 10), (0, .nameAndType 5 11), (0, u "([C)V"), (0, .methodref 7 13), (0, .nameAndType 14 15), (0, u "equals"), (0, u "(Ljava/lang/Object;)Z"), (0, .methodref 17 18), (0, .class_ 19), (0, .nameAndType 20 21), (0, u "com/example/ferryline/ferryline/server/ApiErrorBodyPinLaw"), (0, u "draw"), (0, u "(II)Ljava/lang/String;"), (0, .class_ 23), (0, u "com/example/ferryline/ferryline/server/ApiError"), (0, .methodref 22 25), (0, .nameAndType 5 26), (0, u "(ILjava/lang/String;Ljava/lang/String;)V"), (0, .methodref 22 28), (0, .nameAndType 29 30), (0, u "body"), (0, u "()Lcom/example/ferryline/ferryline/server/ApiError$Body;"), (0, .methodref 32 33), (0, .class_ 34), (0, .nameAndType 35 36), (0, u "com/example/ferryline/ferryline/server/ApiError$Body"), (0, u "error"), (0, u "()Ljava/lang/String;"), (0, .methodref 17 38), (0, .nameAndType 39 40), (0, u "same"), (0, u "(Ljava/lang/String;Ljava/lang/String;)Z"), (0, .methodref 32 42), (0, .nameAndType 43 36), (0, u "message"), (0, .methodref 22 45), (0, .nameAndType 46 47), (0, u "status"), (0, u "()I"), (3, u "law"), (0, u "(IIIII)Z")] 4

def k1m0 : Method := { name := "<init>", desc := "()V", sig := { parameters := [], returnType := none }, accessFlags := 1, code := none }
def k1c1 : Code := { maxStack := 6, maxLocals := 6, code := method_2_code, exceptionTable := #[], attributes := #[] }
def k1m1 : Method := { name := "draw", desc := "(II)Ljava/lang/String;", sig := { parameters := [.int, .int], returnType := some (.object "java/lang/String") }, accessFlags := 10, code := some k1c1 }
def k1c2 : Code := { maxStack := 2, maxLocals := 2, code := method_3_code, exceptionTable := #[], attributes := #[] }
def k1m2 : Method := { name := "same", desc := "(Ljava/lang/String;Ljava/lang/String;)Z", sig := { parameters := [(.object "java/lang/String"), (.object "java/lang/String")], returnType := some .boolean }, accessFlags := 10, code := some k1c2 }
def k1c3 : Code := { maxStack := 5, maxLocals := 10, code := code, exceptionTable := #[], attributes := #[] }
def k1m3 : Method := { name := "law", desc := "(IIIII)Z", sig := { parameters := [.int, .int, .int, .int, .int], returnType := some .boolean }, accessFlags := 9, code := some k1c3 }
/-- com/example/ferryline/ferryline/server/ApiErrorBodyPinLaw -/
def k1 : Class := { plain "com/example/ferryline/ferryline/server/ApiErrorBodyPinLaw" (some 0) with
  accessFlags := 49
  interfaces := #[]
  cf := some (fileOf pool1 17 #[] #[{ accessFlags := 1, nameIndex := 5, descriptorIndex := 6, attributes := #[] }, { accessFlags := 10, nameIndex := 20, descriptorIndex := 21, attributes := #[] }, { accessFlags := 10, nameIndex := 39, descriptorIndex := 40, attributes := #[] }, { accessFlags := 9, nameIndex := 51, descriptorIndex := 52, attributes := #[] }] 49 2 #[] #[])
  fields := #[]
  methods := #[k1m0, k1m1, k1m2, k1m3]
  instanceTypes := #[]
  staticTypes := #[]
  resolved := Array.replicate 57 none
  statics := none }

def pool2 : Array CpInfo := pool [(1, .class_ 2), (0, u "java/io/Serializable"), (0, .class_ 4), (0, u "java/lang/Object")] 2

/-- java/io/Serializable -/
def k2 : Class := { plain "java/io/Serializable" (some 0) with
  accessFlags := 1537
  interfaces := #[]
  cf := some (fileOf pool2 1 #[] #[] 1537 3 #[] #[])
  fields := #[]
  methods := #[]
  instanceTypes := #[]
  staticTypes := #[]
  resolved := Array.replicate 7 none
  statics := none }

def pool3 : Array CpInfo := pool [(1, .class_ 2), (0, u "java/lang/Comparable"), (0, .class_ 4), (0, u "java/lang/Object")] 7

/-- java/lang/Comparable -/
def k3 : Class := { plain "java/lang/Comparable" (some 0) with
  accessFlags := 1537
  interfaces := #[]
  cf := some (fileOf pool3 1 #[] #[] 1537 3 #[] #[])
  fields := #[]
  methods := #[]
  instanceTypes := #[]
  staticTypes := #[]
  resolved := Array.replicate 12 none
  statics := none }

def pool4 : Array CpInfo := pool [(2, .class_ 4), (1, u "java/lang/CharSequence"), (42, .class_ 48), (0, u "java/lang/CharSequence$1CodePointIterator"), (10, .class_ 60), (0, u "java/lang/CharSequence$1CharIterator"), (5, .class_ 67), (0, u "java/lang/Object")] 63

/-- java/lang/CharSequence -/
def k4 : Class := { plain "java/lang/CharSequence" (some 0) with
  accessFlags := 1537
  interfaces := #[]
  cf := some (fileOf pool4 2 #[.nestMembers #[47, 59]] #[] 1537 66 #[] #[])
  fields := #[]
  methods := #[]
  instanceTypes := #[]
  staticTypes := #[]
  resolved := Array.replicate 131 none
  statics := none }

def pool5 : Array CpInfo := pool [(1, .class_ 2), (0, u "java/lang/constant/Constable"), (0, .class_ 4), (0, u "java/lang/Object")] 6

/-- java/lang/constant/Constable -/
def k5 : Class := { plain "java/lang/constant/Constable" (some 0) with
  accessFlags := 1537
  interfaces := #[]
  cf := some (fileOf pool5 1 #[] #[] 1537 3 #[] #[])
  fields := #[]
  methods := #[]
  instanceTypes := #[]
  staticTypes := #[]
  resolved := Array.replicate 11 none
  statics := none }

def pool6 : Array CpInfo := pool [(1, .class_ 2), (0, u "java/lang/constant/ConstantDesc"), (0, .class_ 4), (0, u "java/lang/Object")] 32

/-- java/lang/constant/ConstantDesc -/
def k6 : Class := { plain "java/lang/constant/ConstantDesc" (some 0) with
  accessFlags := 1537
  interfaces := #[]
  cf := some (fileOf pool6 1 #[] #[] 1537 3 #[] #[])
  fields := #[]
  methods := #[]
  instanceTypes := #[]
  staticTypes := #[]
  resolved := Array.replicate 37 none
  statics := none }

def pool7 : Array CpInfo := pool [(1, .methodref 2 3), (0, .class_ 4), (0, .nameAndType 5 6), (0, u "java/lang/Object"), (0, u "<init>"), (0, u "()V"), (0, .string 8), (0, u ""), (0, .fieldref 10 11), (0, .class_ 12), (0, .nameAndType 13 14), (0, u "java/lang/String"), (0, u "value"), (0, u "[B"), (0, .fieldref 10 16), (0, .nameAndType 17 18), (0, u "coder"), (0, u "B"), (2, u "hash"), (0, u "I"), (2, u "hashIsZero"), (0, u "Z"), (0, .methodref 10 28), (0, .nameAndType 5 29), (0, u "([CIILjava/lang/Void;)V"), (8, .fieldref 10 39), (0, .nameAndType 40 26), (0, u "COMPACT_STRINGS"), (1, .class_ 44), (1, u "java/lang/StringUTF16"), (0, u "compress"), (1, .methodref 42 48), (0, .nameAndType 49 50), (0, u "coderFromArrayLen"), (0, u "([BI)B"), (126, .methodref 42 178), (0, .nameAndType 45 179), (0, u "([CII)[B"), (363, u "equals"), (29, u "(Ljava/lang/Object;)Z"), (1, .class_ 576), (0, u "java/lang/CharSequence"), (22, u "CASE_INSENSITIVE_ORDER"), (0, u "Ljava/util/Comparator;"), (409, u "([C)V"), (90, u "serialPersistentFields"), (0, u "[Ljava/io/ObjectStreamField;"), (0, .class_ 1104), (0, u "java/lang/String$CaseInsensitiveComparator"), (1, .class_ 1107), (0, u "java/io/Serializable"), (0, .class_ 1109), (0, u "java/lang/Comparable"), (0, .class_ 1111), (0, u "java/lang/constant/Constable"), (0, .class_ 1113), (0, u "java/lang/constant/ConstantDesc"), (2, u "serialVersionUID"), (0, u "J"), (3, u "REPL"), (0, u "C"), (2, u "LATIN1"), (1, u "UTF16")] 323

def k7m0 : Method := { name := "<init>", desc := "()V", sig := { parameters := [], returnType := none }, accessFlags := 1, code := none }
def k7c1 : Code := { maxStack := 5, maxLocals := 2, code := jdk_42_method_3_code, exceptionTable := #[], attributes := #[] }
def k7m1 : Method := { name := "<init>", desc := "([C)V", sig := { parameters := [(.array .char)], returnType := none }, accessFlags := 1, code := some k7c1 }
def k7c2 : Code := { maxStack := 2, maxLocals := 3, code := jdk_42_method_66_code, exceptionTable := #[], attributes := #[] }
def k7m2 : Method := { name := "equals", desc := "(Ljava/lang/Object;)Z", sig := { parameters := [(.object "java/lang/Object")], returnType := some .boolean }, accessFlags := 1, code := some k7c2 }
def k7c3 : Code := { maxStack := 4, maxLocals := 6, code := jdk_42_method_149_code, exceptionTable := #[], attributes := #[] }
def k7m3 : Method := { name := "<init>", desc := "([CIILjava/lang/Void;)V", sig := { parameters := [(.array .char), .int, .int, (.object "java/lang/Void")], returnType := none }, accessFlags := 2, code := some k7c3 }
/-- java/lang/String -/
def k7 : Class := { plain "java/lang/String" (some 0) with
  accessFlags := 49
  interfaces := #[2, 3, 4, 5, 6]
  cf := some (fileOf pool7 10 #[.nestMembers #[1103]] #[{ accessFlags := 1, nameIndex := 5, descriptorIndex := 6, attributes := #[] }, { accessFlags := 1, nameIndex := 5, descriptorIndex := 1010, attributes := #[] }, { accessFlags := 1, nameIndex := 543, descriptorIndex := 573, attributes := #[] }, { accessFlags := 2, nameIndex := 5, descriptorIndex := 29, attributes := #[] }] 49 2 #[1106, 1108, 575, 1110, 1112] #[{ accessFlags := 18, nameIndex := 13, descriptorIndex := 14, attributes := #[] }, { accessFlags := 18, nameIndex := 17, descriptorIndex := 18, attributes := #[] }, { accessFlags := 2, nameIndex := 21, descriptorIndex := 22, attributes := #[] }, { accessFlags := 2, nameIndex := 25, descriptorIndex := 26, attributes := #[] }, { accessFlags := 26, nameIndex := 1116, descriptorIndex := 1117, attributes := #[] }, { accessFlags := 24, nameIndex := 40, descriptorIndex := 26, attributes := #[] }, { accessFlags := 26, nameIndex := 1101, descriptorIndex := 1102, attributes := #[] }, { accessFlags := 26, nameIndex := 1121, descriptorIndex := 1122, attributes := #[] }, { accessFlags := 25, nameIndex := 599, descriptorIndex := 600, attributes := #[] }, { accessFlags := 24, nameIndex := 1125, descriptorIndex := 18, attributes := #[] }, { accessFlags := 24, nameIndex := 1127, descriptorIndex := 18, attributes := #[] }])
  fields := #[{ name := "value", type := (.array .byte), accessFlags := 18, slot := 0, constantValue := 0 }, { name := "coder", type := .byte, accessFlags := 18, slot := 1, constantValue := 0 }, { name := "hash", type := .int, accessFlags := 2, slot := 2, constantValue := 0 }, { name := "hashIsZero", type := .boolean, accessFlags := 2, slot := 3, constantValue := 0 }, { name := "serialVersionUID", type := .long, accessFlags := 26, slot := 0, constantValue := 0 }, { name := "COMPACT_STRINGS", type := .boolean, accessFlags := 24, slot := 1, constantValue := 0 }, { name := "serialPersistentFields", type := (.array (.object "java/io/ObjectStreamField")), accessFlags := 26, slot := 2, constantValue := 0 }, { name := "REPL", type := .char, accessFlags := 26, slot := 3, constantValue := 0 }, { name := "CASE_INSENSITIVE_ORDER", type := (.object "java/util/Comparator"), accessFlags := 25, slot := 4, constantValue := 0 }, { name := "LATIN1", type := .byte, accessFlags := 24, slot := 5, constantValue := 0 }, { name := "UTF16", type := .byte, accessFlags := 24, slot := 6, constantValue := 0 }]
  methods := #[k7m0, k7m1, k7m2, k7m3]
  instanceTypes := #[(.array .byte), .byte, .int, .boolean]
  staticTypes := #[.long, .boolean, (.array (.object "java/io/ObjectStreamField")), .char, (.object "java/util/Comparator"), .byte, .byte]
  resolved := Array.replicate 1451 none
  statics := some 0 }

def pool8 : Array CpInfo := pool [(6, .class_ 8), (1, u "java/lang/Object"), (0, u "<init>"), (0, u "()V"), (1, .class_ 14), (1, u "java/lang/StringUTF16"), (31, u "$assertionsDisabled"), (0, u "Z"), (13, u "HI_BYTE_SHIFT"), (0, u "I"), (2, u "LO_BYTE_SHIFT"), (49, .methodref 12 116), (0, .nameAndType 117 118), (0, u "compress"), (0, u "([CI[BII)I"), (3, u "([CII)[B"), (138, u "coderFromArrayLen"), (0, u "([BI)B"), (106, .class_ 371), (1, u "java/lang/StringUTF16$LinesSpliterator"), (58, u "MAX_LENGTH"), (196, .class_ 628), (0, u "java/lang/StringUTF16$CodePointsSpliterator"), (0, .class_ 630), (0, u "java/lang/StringUTF16$CharsSpliterator")] 4

def k8m0 : Method := { name := "<init>", desc := "()V", sig := { parameters := [], returnType := none }, accessFlags := 0, code := none }
def k8c1 : Code := { maxStack := 2, maxLocals := 2, code := jdk_52_method_15_code, exceptionTable := #[], attributes := #[] }
def k8m1 : Method := { name := "coderFromArrayLen", desc := "([BI)B", sig := { parameters := [(.array .byte), .int], returnType := some .byte }, accessFlags := 8, code := some k8c1 }
def k8c2 : Code := { maxStack := 5, maxLocals := 6, code := jdk_52_method_16_code, exceptionTable := #[], attributes := #[] }
def k8m2 : Method := { name := "compress", desc := "([CII)[B", sig := { parameters := [(.array .char), .int, .int], returnType := some (.array .byte) }, accessFlags := 9, code := some k8c2 }
def k8c3 : Code := { maxStack := 3, maxLocals := 7, code := jdk_52_method_21_code, exceptionTable := #[], attributes := #[] }
def k8m3 : Method := { name := "compress", desc := "([CI[BII)I", sig := { parameters := [(.array .char), .int, (.array .byte), .int, .int], returnType := some .int }, accessFlags := 9, code := some k8c3 }
/-- java/lang/StringUTF16 -/
def k8 : Class := { plain "java/lang/StringUTF16" (some 0) with
  accessFlags := 48
  interfaces := #[]
  cf := some (fileOf pool8 12 #[.nestMembers #[627, 629, 369]] #[{ accessFlags := 0, nameIndex := 9, descriptorIndex := 10, attributes := #[] }, { accessFlags := 8, nameIndex := 261, descriptorIndex := 262, attributes := #[] }, { accessFlags := 9, nameIndex := 117, descriptorIndex := 122, attributes := #[] }, { accessFlags := 9, nameIndex := 117, descriptorIndex := 118, attributes := #[] }] 48 6 #[] #[{ accessFlags := 26, nameIndex := 61, descriptorIndex := 62, attributes := #[] }, { accessFlags := 26, nameIndex := 65, descriptorIndex := 62, attributes := #[] }, { accessFlags := 24, nameIndex := 430, descriptorIndex := 62, attributes := #[] }, { accessFlags := 4120, nameIndex := 46, descriptorIndex := 47, attributes := #[] }])
  fields := #[{ name := "HI_BYTE_SHIFT", type := .int, accessFlags := 26, slot := 0, constantValue := 0 }, { name := "LO_BYTE_SHIFT", type := .int, accessFlags := 26, slot := 1, constantValue := 0 }, { name := "MAX_LENGTH", type := .int, accessFlags := 24, slot := 2, constantValue := 0 }, { name := "$assertionsDisabled", type := .boolean, accessFlags := 4120, slot := 3, constantValue := 0 }]
  methods := #[k8m0, k8m1, k8m2, k8m3]
  instanceTypes := #[]
  staticTypes := #[.int, .int, .int, .boolean]
  resolved := Array.replicate 635 none
  statics := none }

def pool9 : Array CpInfo := pool [(1, .methodref 2 3), (0, .class_ 4), (0, .nameAndType 5 6), (0, u "java/lang/Object"), (0, u "<init>"), (0, u "()V"), (0, .fieldref 8 9), (0, .class_ 10), (0, .nameAndType 11 12), (0, u "java/lang/Throwable"), (0, u "cause"), (0, u "Ljava/lang/Throwable;"), (0, .fieldref 8 14), (0, .nameAndType 15 16), (0, u "UNASSIGNED_STACK"), (0, u "[Ljava/lang/StackTraceElement;"), (0, .fieldref 8 18), (0, .nameAndType 19 16), (0, u "stackTrace"), (0, .fieldref 8 21), (0, .nameAndType 22 23), (0, u "SUPPRESSED_SENTINEL"), (0, u "Ljava/util/List;"), (0, .fieldref 8 25), (0, .nameAndType 26 23), (0, u "suppressedExceptions"), (0, .methodref 8 28), (0, .nameAndType 29 30), (0, u "fillInStackTrace"), (0, u "()Ljava/lang/Throwable;"), (0, .fieldref 8 32), (0, .nameAndType 33 34), (0, u "detailMessage"), (0, u "Ljava/lang/String;"), (3, u "()Ljava/lang/String;"), (2, u "getMessage"), (51, .class_ 94), (0, u "java/lang/Throwable$WrappedPrintStream"), (6, .class_ 103), (1, u "java/lang/Throwable$PrintStreamOrWriter"), (61, u "$assertionsDisabled"), (0, u "Z"), (26, .class_ 194), (0, u "java/lang/Throwable$WrappedPrintWriter"), (3, .fieldref 8 199), (0, .nameAndType 200 201), (0, u "backtrace"), (0, u "Ljava/lang/Object;"), (0, .methodref 8 203), (0, .nameAndType 29 204), (0, u "(I)Ljava/lang/Throwable;"), (6, u "depth"), (0, u "I"), (10, u "(Ljava/lang/String;)V"), (45, .class_ 271), (1, u "java/lang/Throwable$SentinelHolder"), (32, u "EMPTY_THROWABLE_ARRAY"), (0, u "[Ljava/lang/Throwable;"), (12, .class_ 319), (0, u "java/io/Serializable"), (0, u "serialVersionUID"), (0, u "J"), (5, u "NULL_CAUSE_MESSAGE"), (0, u "SELF_SUPPRESSION_MESSAGE"), (0, u "CAUSE_CAPTION"), (0, u "SUPPRESSED_CAPTION")] 73

def k9c0 : Code := { maxStack := 2, maxLocals := 1, code := jdk_78_method_1_code, exceptionTable := #[], attributes := #[] }
def k9m0 : Method := { name := "<init>", desc := "()V", sig := { parameters := [], returnType := none }, accessFlags := 1, code := some k9c0 }
def k9c1 : Code := { maxStack := 2, maxLocals := 2, code := jdk_78_method_2_code, exceptionTable := #[], attributes := #[] }
def k9m1 : Method := { name := "<init>", desc := "(Ljava/lang/String;)V", sig := { parameters := [(.object "java/lang/String")], returnType := none }, accessFlags := 1, code := some k9c1 }
def k9c2 : Code := { maxStack := 1, maxLocals := 1, code := jdk_78_method_6_code, exceptionTable := #[], attributes := #[] }
def k9m2 : Method := { name := "getMessage", desc := "()Ljava/lang/String;", sig := { parameters := [], returnType := some (.object "java/lang/String") }, accessFlags := 1, code := some k9c2 }
def k9c3 : Code := { maxStack := 2, maxLocals := 1, code := ⟨#[0x2a, 0xb4, 0x00, 0x11, 0xc7, 0x00, 0x0a, 0x2a, 0xb4, 0x00, 0xc6, 0xc6, 0x00, 0x10, 0x2a, 0x03, 0xb6, 0x00, 0xca, 0x57, 0x2a, 0xb2, 0x00, 0x0d, 0xb5, 0x00, 0x11, 0x2a, 0xb0]⟩, exceptionTable := #[], attributes := #[] }
def k9m3 : Method := { name := "fillInStackTrace", desc := "()Ljava/lang/Throwable;", sig := { parameters := [], returnType := some (.object "java/lang/Throwable") }, accessFlags := 33, code := some k9c3 }
def k9m4 : Method := { name := "fillInStackTrace", desc := "(I)Ljava/lang/Throwable;", sig := { parameters := [.int], returnType := some (.object "java/lang/Throwable") }, accessFlags := 258, code := none }
/-- java/lang/Throwable -/
def k9 : Class := { plain "java/lang/Throwable" (some 0) with
  accessFlags := 33
  interfaces := #[2]
  cf := some (fileOf pool9 8 #[.nestMembers #[193, 93, 101, 269]] #[{ accessFlags := 1, nameIndex := 5, descriptorIndex := 6, attributes := #[] }, { accessFlags := 1, nameIndex := 5, descriptorIndex := 223, attributes := #[] }, { accessFlags := 1, nameIndex := 41, descriptorIndex := 38, attributes := #[] }, { accessFlags := 33, nameIndex := 29, descriptorIndex := 30, attributes := #[] }, { accessFlags := 258, nameIndex := 29, descriptorIndex := 204, attributes := #[] }] 33 2 #[318] #[{ accessFlags := 26, nameIndex := 320, descriptorIndex := 321, attributes := #[] }, { accessFlags := 130, nameIndex := 200, descriptorIndex := 201, attributes := #[] }, { accessFlags := 2, nameIndex := 33, descriptorIndex := 34, attributes := #[] }, { accessFlags := 26, nameIndex := 15, descriptorIndex := 16, attributes := #[] }, { accessFlags := 2, nameIndex := 11, descriptorIndex := 12, attributes := #[] }, { accessFlags := 2, nameIndex := 19, descriptorIndex := 16, attributes := #[] }, { accessFlags := 130, nameIndex := 211, descriptorIndex := 212, attributes := #[] }, { accessFlags := 26, nameIndex := 22, descriptorIndex := 23, attributes := #[] }, { accessFlags := 2, nameIndex := 26, descriptorIndex := 23, attributes := #[] }, { accessFlags := 26, nameIndex := 327, descriptorIndex := 34, attributes := #[] }, { accessFlags := 26, nameIndex := 328, descriptorIndex := 34, attributes := #[] }, { accessFlags := 26, nameIndex := 329, descriptorIndex := 34, attributes := #[] }, { accessFlags := 26, nameIndex := 330, descriptorIndex := 34, attributes := #[] }, { accessFlags := 26, nameIndex := 304, descriptorIndex := 305, attributes := #[] }, { accessFlags := 4120, nameIndex := 165, descriptorIndex := 166, attributes := #[] }])
  fields := #[{ name := "serialVersionUID", type := .long, accessFlags := 26, slot := 0, constantValue := 0 }, { name := "backtrace", type := (.object "java/lang/Object"), accessFlags := 130, slot := 0, constantValue := 0 }, { name := "detailMessage", type := (.object "java/lang/String"), accessFlags := 2, slot := 1, constantValue := 0 }, { name := "UNASSIGNED_STACK", type := (.array (.object "java/lang/StackTraceElement")), accessFlags := 26, slot := 1, constantValue := 0 }, { name := "cause", type := (.object "java/lang/Throwable"), accessFlags := 2, slot := 2, constantValue := 0 }, { name := "stackTrace", type := (.array (.object "java/lang/StackTraceElement")), accessFlags := 2, slot := 3, constantValue := 0 }, { name := "depth", type := .int, accessFlags := 130, slot := 4, constantValue := 0 }, { name := "SUPPRESSED_SENTINEL", type := (.object "java/util/List"), accessFlags := 26, slot := 2, constantValue := 0 }, { name := "suppressedExceptions", type := (.object "java/util/List"), accessFlags := 2, slot := 5, constantValue := 0 }, { name := "NULL_CAUSE_MESSAGE", type := (.object "java/lang/String"), accessFlags := 26, slot := 3, constantValue := 0 }, { name := "SELF_SUPPRESSION_MESSAGE", type := (.object "java/lang/String"), accessFlags := 26, slot := 4, constantValue := 0 }, { name := "CAUSE_CAPTION", type := (.object "java/lang/String"), accessFlags := 26, slot := 5, constantValue := 0 }, { name := "SUPPRESSED_CAPTION", type := (.object "java/lang/String"), accessFlags := 26, slot := 6, constantValue := 0 }, { name := "EMPTY_THROWABLE_ARRAY", type := (.array (.object "java/lang/Throwable")), accessFlags := 26, slot := 7, constantValue := 0 }, { name := "$assertionsDisabled", type := .boolean, accessFlags := 4120, slot := 8, constantValue := 0 }]
  methods := #[k9m0, k9m1, k9m2, k9m3, k9m4]
  instanceTypes := #[(.object "java/lang/Object"), (.object "java/lang/String"), (.object "java/lang/Throwable"), (.array (.object "java/lang/StackTraceElement")), .int, (.object "java/util/List")]
  staticTypes := #[.long, (.array (.object "java/lang/StackTraceElement")), (.object "java/util/List"), (.object "java/lang/String"), (.object "java/lang/String"), (.object "java/lang/String"), (.object "java/lang/String"), (.array (.object "java/lang/Throwable")), .boolean]
  resolved := Array.replicate 404 none
  statics := some 1 }

def pool10 : Array CpInfo := pool [(2, .class_ 4), (1, u "java/lang/Throwable"), (0, u "<init>"), (0, u "()V"), (0, .methodref 2 8), (0, .nameAndType 5 9), (0, u "(Ljava/lang/String;)V"), (9, .class_ 20), (0, u "java/lang/Exception"), (0, u "serialVersionUID"), (0, u "J")] 17

def k10m0 : Method := { name := "<init>", desc := "()V", sig := { parameters := [], returnType := none }, accessFlags := 1, code := none }
def k10c1 : Code := { maxStack := 2, maxLocals := 2, code := jdk_59_method_2_code, exceptionTable := #[], attributes := #[] }
def k10m1 : Method := { name := "<init>", desc := "(Ljava/lang/String;)V", sig := { parameters := [(.object "java/lang/String")], returnType := none }, accessFlags := 1, code := some k10c1 }
/-- java/lang/Exception -/
def k10 : Class := { plain "java/lang/Exception" (some 9) with
  accessFlags := 33
  interfaces := #[]
  cf := some (fileOf pool10 19 #[] #[{ accessFlags := 1, nameIndex := 5, descriptorIndex := 6, attributes := #[] }, { accessFlags := 1, nameIndex := 5, descriptorIndex := 9, attributes := #[] }] 33 2 #[] #[{ accessFlags := 24, nameIndex := 21, descriptorIndex := 22, attributes := #[] }])
  fields := #[{ name := "serialVersionUID", type := .long, accessFlags := 24, slot := 0, constantValue := 0 }]
  methods := #[k10m0, k10m1]
  instanceTypes := #[(.object "java/lang/Object"), (.object "java/lang/String"), (.object "java/lang/Throwable"), (.array (.object "java/lang/StackTraceElement")), .int, (.object "java/util/List")]
  staticTypes := #[.long]
  resolved := Array.replicate 40 none
  statics := none }

def pool11 : Array CpInfo := pool [(2, .class_ 4), (1, u "java/lang/Exception"), (0, u "<init>"), (0, u "()V"), (0, .methodref 2 8), (0, .nameAndType 5 9), (0, u "(Ljava/lang/String;)V"), (9, .class_ 20), (0, u "java/lang/RuntimeException"), (0, u "serialVersionUID"), (0, u "J")] 17

def k11m0 : Method := { name := "<init>", desc := "()V", sig := { parameters := [], returnType := none }, accessFlags := 1, code := none }
def k11c1 : Code := { maxStack := 2, maxLocals := 2, code := jdk_58_method_2_code, exceptionTable := #[], attributes := #[] }
def k11m1 : Method := { name := "<init>", desc := "(Ljava/lang/String;)V", sig := { parameters := [(.object "java/lang/String")], returnType := none }, accessFlags := 1, code := some k11c1 }
/-- java/lang/RuntimeException -/
def k11 : Class := { plain "java/lang/RuntimeException" (some 10) with
  accessFlags := 33
  interfaces := #[]
  cf := some (fileOf pool11 19 #[] #[{ accessFlags := 1, nameIndex := 5, descriptorIndex := 6, attributes := #[] }, { accessFlags := 1, nameIndex := 5, descriptorIndex := 9, attributes := #[] }] 33 2 #[] #[{ accessFlags := 24, nameIndex := 21, descriptorIndex := 22, attributes := #[] }])
  fields := #[{ name := "serialVersionUID", type := .long, accessFlags := 24, slot := 0, constantValue := 0 }]
  methods := #[k11m0, k11m1]
  instanceTypes := #[(.object "java/lang/Object"), (.object "java/lang/String"), (.object "java/lang/Throwable"), (.array (.object "java/lang/StackTraceElement")), .int, (.object "java/util/List")]
  staticTypes := #[.long]
  resolved := Array.replicate 40 none
  statics := none }

def pool12 : Array CpInfo := pool [(1, .methodref 2 3), (0, .class_ 4), (0, .nameAndType 5 6), (0, u "java/lang/RuntimeException"), (0, u "<init>"), (0, u "(Ljava/lang/String;)V"), (0, .fieldref 8 9), (0, .class_ 10), (0, .nameAndType 11 12), (0, u "com/example/ferryline/ferryline/server/ApiError"), (0, u "status"), (0, u "I"), (0, .fieldref 8 14), (0, .nameAndType 15 16), (0, u "code"), (0, u "Ljava/lang/String;"), (0, .class_ 18), (0, u "com/example/ferryline/ferryline/server/ApiError$Body"), (0, .methodref 8 20), (0, .nameAndType 21 22), (0, u "getMessage"), (0, u "()Ljava/lang/String;"), (0, .methodref 17 24), (0, .nameAndType 5 25), (0, u "(Ljava/lang/String;Ljava/lang/String;)V"), (0, u "serialVersionUID"), (0, u "J"), (3, u "(ILjava/lang/String;Ljava/lang/String;)V"), (2, u "()I"), (0, u "body"), (0, u "()Lcom/example/ferryline/ferryline/server/ApiError$Body;")] 5

def k12c0 : Code := { maxStack := 2, maxLocals := 4, code := prog_47_method_1_code, exceptionTable := #[], attributes := #[] }
def k12m0 : Method := { name := "<init>", desc := "(ILjava/lang/String;Ljava/lang/String;)V", sig := { parameters := [.int, (.object "java/lang/String"), (.object "java/lang/String")], returnType := none }, accessFlags := 0, code := some k12c0 }
def k12c1 : Code := { maxStack := 1, maxLocals := 1, code := prog_47_method_2_code, exceptionTable := #[], attributes := #[] }
def k12m1 : Method := { name := "status", desc := "()I", sig := { parameters := [], returnType := some .int }, accessFlags := 0, code := some k12c1 }
def k12c2 : Code := { maxStack := 4, maxLocals := 1, code := prog_47_method_3_code, exceptionTable := #[], attributes := #[] }
def k12m2 : Method := { name := "body", desc := "()Lcom/example/ferryline/ferryline/server/ApiError$Body;", sig := { parameters := [], returnType := some (.object "com/example/ferryline/ferryline/server/ApiError$Body") }, accessFlags := 0, code := some k12c2 }
/-- com/example/ferryline/ferryline/server/ApiError -/
def k12 : Class := { plain "com/example/ferryline/ferryline/server/ApiError" (some 11) with
  accessFlags := 48
  interfaces := #[]
  cf := some (fileOf pool12 8 #[.nestMembers #[17]] #[{ accessFlags := 0, nameIndex := 5, descriptorIndex := 31, attributes := #[] }, { accessFlags := 0, nameIndex := 11, descriptorIndex := 34, attributes := #[] }, { accessFlags := 0, nameIndex := 35, descriptorIndex := 36, attributes := #[] }] 48 2 #[] #[{ accessFlags := 26, nameIndex := 26, descriptorIndex := 27, attributes := #[] }, { accessFlags := 18, nameIndex := 11, descriptorIndex := 12, attributes := #[] }, { accessFlags := 18, nameIndex := 15, descriptorIndex := 16, attributes := #[] }])
  fields := #[{ name := "serialVersionUID", type := .long, accessFlags := 26, slot := 0, constantValue := 0 }, { name := "status", type := .int, accessFlags := 18, slot := 6, constantValue := 0 }, { name := "code", type := (.object "java/lang/String"), accessFlags := 18, slot := 7, constantValue := 0 }]
  methods := #[k12m0, k12m1, k12m2]
  instanceTypes := #[(.object "java/lang/Object"), (.object "java/lang/String"), (.object "java/lang/Throwable"), (.array (.object "java/lang/StackTraceElement")), .int, (.object "java/util/List"), .int, (.object "java/lang/String")]
  staticTypes := #[.long]
  resolved := Array.replicate 42 none
  statics := none }

def pool13 : Array CpInfo := pool [(1, .methodref 2 3), (0, .class_ 4), (0, .nameAndType 5 6), (0, u "java/lang/Object"), (0, u "<init>"), (0, u "()V"), (0, .class_ 8), (0, u "java/lang/Record")] 13

def k13c0 : Code := { maxStack := 1, maxLocals := 1, code := jdk_30_method_1_code, exceptionTable := #[], attributes := #[] }
def k13m0 : Method := { name := "<init>", desc := "()V", sig := { parameters := [], returnType := none }, accessFlags := 4, code := some k13c0 }
/-- java/lang/Record -/
def k13 : Class := { plain "java/lang/Record" (some 0) with
  accessFlags := 1057
  interfaces := #[]
  cf := some (fileOf pool13 7 #[] #[{ accessFlags := 4, nameIndex := 5, descriptorIndex := 6, attributes := #[] }] 1057 2 #[] #[])
  fields := #[]
  methods := #[k13m0]
  instanceTypes := #[]
  staticTypes := #[]
  resolved := Array.replicate 22 none
  statics := none }

def pool14 : Array CpInfo := pool [(1, .methodref 2 3), (0, .class_ 4), (0, .nameAndType 5 6), (0, u "java/lang/Record"), (0, u "<init>"), (0, u "()V"), (0, .fieldref 8 9), (0, .class_ 10), (0, .nameAndType 11 12), (0, u "com/example/ferryline/ferryline/server/ApiError$Body"), (0, u "error"), (0, u "Ljava/lang/String;"), (0, .fieldref 8 14), (0, .nameAndType 15 12), (0, u "message"), (12, u "(Ljava/lang/String;Ljava/lang/String;)V"), (3, u "()Ljava/lang/String;"), (5, .class_ 39), (0, u "com/example/ferryline/ferryline/server/ApiError")] 20

def k14c0 : Code := { maxStack := 2, maxLocals := 3, code := prog_48_method_1_code, exceptionTable := #[], attributes := #[] }
def k14m0 : Method := { name := "<init>", desc := "(Ljava/lang/String;Ljava/lang/String;)V", sig := { parameters := [(.object "java/lang/String"), (.object "java/lang/String")], returnType := none }, accessFlags := 0, code := some k14c0 }
def k14c1 : Code := { maxStack := 1, maxLocals := 1, code := prog_48_method_5_code, exceptionTable := #[], attributes := #[] }
def k14m1 : Method := { name := "error", desc := "()Ljava/lang/String;", sig := { parameters := [], returnType := some (.object "java/lang/String") }, accessFlags := 1, code := some k14c1 }
def k14c2 : Code := { maxStack := 1, maxLocals := 1, code := prog_48_method_6_code, exceptionTable := #[], attributes := #[] }
def k14m2 : Method := { name := "message", desc := "()Ljava/lang/String;", sig := { parameters := [], returnType := some (.object "java/lang/String") }, accessFlags := 1, code := some k14c2 }
/-- com/example/ferryline/ferryline/server/ApiError$Body -/
def k14 : Class := { plain "com/example/ferryline/ferryline/server/ApiError$Body" (some 13) with
  accessFlags := 48
  interfaces := #[]
  cf := some (fileOf pool14 8 #[.nestHost 38] #[{ accessFlags := 0, nameIndex := 5, descriptorIndex := 28, attributes := #[] }, { accessFlags := 1, nameIndex := 11, descriptorIndex := 32, attributes := #[] }, { accessFlags := 1, nameIndex := 15, descriptorIndex := 32, attributes := #[] }] 48 2 #[] #[{ accessFlags := 18, nameIndex := 11, descriptorIndex := 12, attributes := #[] }, { accessFlags := 18, nameIndex := 15, descriptorIndex := 12, attributes := #[] }])
  fields := #[{ name := "error", type := (.object "java/lang/String"), accessFlags := 18, slot := 0, constantValue := 0 }, { name := "message", type := (.object "java/lang/String"), accessFlags := 18, slot := 1, constantValue := 0 }]
  methods := #[k14m0, k14m1, k14m2]
  instanceTypes := #[(.object "java/lang/String"), (.object "java/lang/String")]
  staticTypes := #[]
  resolved := Array.replicate 60 none
  statics := none }

def pool15 : Array CpInfo := pool [(4, .class_ 6), (1, u "java/lang/Object"), (0, u "<init>"), (0, u "()V"), (5, .class_ 16), (1, u "java/lang/StringLatin1"), (104, u "$assertionsDisabled"), (0, u "Z"), (98, .class_ 223), (1, u "java/lang/StringLatin1$LinesSpliterator"), (166, .class_ 391), (0, u "java/lang/StringLatin1$CharsSpliterator")] 3

def k15m0 : Method := { name := "<init>", desc := "()V", sig := { parameters := [], returnType := none }, accessFlags := 0, code := none }
/-- java/lang/StringLatin1 -/
def k15 : Class := { plain "java/lang/StringLatin1" (some 0) with
  accessFlags := 48
  interfaces := #[]
  cf := some (fileOf pool15 14 #[.nestMembers #[390, 221]] #[{ accessFlags := 0, nameIndex := 7, descriptorIndex := 8, attributes := #[] }] 48 4 #[] #[{ accessFlags := 4120, nameIndex := 121, descriptorIndex := 122, attributes := #[] }])
  fields := #[{ name := "$assertionsDisabled", type := .boolean, accessFlags := 4120, slot := 0, constantValue := 0 }]
  methods := #[k15m0]
  instanceTypes := #[]
  staticTypes := #[.boolean]
  resolved := Array.replicate 395 none
  statics := none }

def pool16 : Array CpInfo := pool [(2, .class_ 4), (1, u "java/lang/Object"), (0, u "<init>"), (0, u "()V"), (17, .class_ 26), (1, u "jdk/internal/util/Preconditions"), (28, .class_ 56), (0, u "jdk/internal/util/Preconditions$4"), (57, .class_ 115), (0, u "jdk/internal/util/Preconditions$1"), (7, u "SIOOBE_FORMATTER"), (0, u "Ljava/util/function/BiFunction;"), (0, .class_ 126), (0, u "jdk/internal/util/Preconditions$2"), (3, u "AIOOBE_FORMATTER"), (0, .class_ 132), (0, u "jdk/internal/util/Preconditions$3"), (3, u "IOOBE_FORMATTER")] 57

def k16m0 : Method := { name := "<init>", desc := "()V", sig := { parameters := [], returnType := none }, accessFlags := 1, code := none }
/-- jdk/internal/util/Preconditions -/
def k16 : Class := { plain "jdk/internal/util/Preconditions" (some 0) with
  accessFlags := 33
  interfaces := #[]
  cf := some (fileOf pool16 24 #[.nestMembers #[55, 131, 125, 114]] #[{ accessFlags := 1, nameIndex := 5, descriptorIndex := 6, attributes := #[] }] 33 2 #[] #[{ accessFlags := 25, nameIndex := 123, descriptorIndex := 124, attributes := #[] }, { accessFlags := 25, nameIndex := 130, descriptorIndex := 124, attributes := #[] }, { accessFlags := 25, nameIndex := 136, descriptorIndex := 124, attributes := #[] }])
  fields := #[{ name := "SIOOBE_FORMATTER", type := (.object "java/util/function/BiFunction"), accessFlags := 25, slot := 0, constantValue := 0 }, { name := "AIOOBE_FORMATTER", type := (.object "java/util/function/BiFunction"), accessFlags := 25, slot := 1, constantValue := 0 }, { name := "IOOBE_FORMATTER", type := (.object "java/util/function/BiFunction"), accessFlags := 25, slot := 2, constantValue := 0 }]
  methods := #[k16m0]
  instanceTypes := #[]
  staticTypes := #[(.object "java/util/function/BiFunction"), (.object "java/util/function/BiFunction"), (.object "java/util/function/BiFunction")]
  resolved := Array.replicate 194 none
  statics := some 2 }

def pool17 : Array CpInfo := pool [(9, u "<init>"), (6, .class_ 18), (1, u "java/lang/Object"), (0, u "()V"), (1, .class_ 23), (1, u "jdk/internal/util/ArraysSupport"), (0, u "LOG2_ARRAY_LONG_INDEX_SCALE"), (0, u "I"), (2, u "U"), (0, u "Ljdk/internal/misc/Unsafe;"), (8, u "BIG_ENDIAN"), (0, u "Z"), (8, u "LOG2_BYTE_BIT_SIZE"), (4, u "LOG2_ARRAY_INT_INDEX_SCALE"), (54, u "JLA"), (0, u "Ljdk/internal/access/JavaLangAccess;"), (11, u "LOG2_ARRAY_BOOLEAN_INDEX_SCALE"), (9, u "LOG2_ARRAY_BYTE_INDEX_SCALE"), (5, u "LOG2_ARRAY_CHAR_INDEX_SCALE"), (5, u "LOG2_ARRAY_SHORT_INDEX_SCALE"), (18, u "LOG2_ARRAY_FLOAT_INDEX_SCALE"), (24, u "LOG2_ARRAY_DOUBLE_INDEX_SCALE"), (89, u "T_BOOLEAN"), (2, u "T_CHAR"), (1, u "T_FLOAT"), (1, u "T_DOUBLE"), (1, u "T_BYTE"), (1, u "T_SHORT"), (1, u "T_INT"), (1, u "T_LONG"), (1, u "SOFT_MAX_ARRAY_LENGTH")] 83

def k17m0 : Method := { name := "<init>", desc := "()V", sig := { parameters := [], returnType := none }, accessFlags := 2, code := none }
/-- jdk/internal/util/ArraysSupport -/
def k17 : Class := { plain "jdk/internal/util/ArraysSupport" (some 0) with
  accessFlags := 33
  interfaces := #[]
  cf := some (fileOf pool17 21 #[] #[{ accessFlags := 2, nameIndex := 9, descriptorIndex := 19, attributes := #[] }] 33 16 #[] #[{ accessFlags := 24, nameIndex := 28, descriptorIndex := 29, attributes := #[] }, { accessFlags := 26, nameIndex := 38, descriptorIndex := 39, attributes := #[] }, { accessFlags := 25, nameIndex := 121, descriptorIndex := 25, attributes := #[] }, { accessFlags := 25, nameIndex := 131, descriptorIndex := 25, attributes := #[] }, { accessFlags := 25, nameIndex := 137, descriptorIndex := 25, attributes := #[] }, { accessFlags := 25, nameIndex := 143, descriptorIndex := 25, attributes := #[] }, { accessFlags := 25, nameIndex := 53, descriptorIndex := 25, attributes := #[] }, { accessFlags := 25, nameIndex := 24, descriptorIndex := 25, attributes := #[] }, { accessFlags := 25, nameIndex := 162, descriptorIndex := 25, attributes := #[] }, { accessFlags := 25, nameIndex := 187, descriptorIndex := 25, attributes := #[] }, { accessFlags := 26, nameIndex := 48, descriptorIndex := 25, attributes := #[] }, { accessFlags := 25, nameIndex := 277, descriptorIndex := 25, attributes := #[] }, { accessFlags := 25, nameIndex := 280, descriptorIndex := 25, attributes := #[] }, { accessFlags := 25, nameIndex := 282, descriptorIndex := 25, attributes := #[] }, { accessFlags := 25, nameIndex := 284, descriptorIndex := 25, attributes := #[] }, { accessFlags := 25, nameIndex := 286, descriptorIndex := 25, attributes := #[] }, { accessFlags := 25, nameIndex := 288, descriptorIndex := 25, attributes := #[] }, { accessFlags := 25, nameIndex := 290, descriptorIndex := 25, attributes := #[] }, { accessFlags := 25, nameIndex := 292, descriptorIndex := 25, attributes := #[] }, { accessFlags := 26, nameIndex := 108, descriptorIndex := 109, attributes := #[] }, { accessFlags := 25, nameIndex := 294, descriptorIndex := 25, attributes := #[] }])
  fields := #[{ name := "U", type := (.object "jdk/internal/misc/Unsafe"), accessFlags := 24, slot := 0, constantValue := 0 }, { name := "BIG_ENDIAN", type := .boolean, accessFlags := 26, slot := 1, constantValue := 0 }, { name := "LOG2_ARRAY_BOOLEAN_INDEX_SCALE", type := .int, accessFlags := 25, slot := 2, constantValue := 0 }, { name := "LOG2_ARRAY_BYTE_INDEX_SCALE", type := .int, accessFlags := 25, slot := 3, constantValue := 0 }, { name := "LOG2_ARRAY_CHAR_INDEX_SCALE", type := .int, accessFlags := 25, slot := 4, constantValue := 0 }, { name := "LOG2_ARRAY_SHORT_INDEX_SCALE", type := .int, accessFlags := 25, slot := 5, constantValue := 0 }, { name := "LOG2_ARRAY_INT_INDEX_SCALE", type := .int, accessFlags := 25, slot := 6, constantValue := 0 }, { name := "LOG2_ARRAY_LONG_INDEX_SCALE", type := .int, accessFlags := 25, slot := 7, constantValue := 0 }, { name := "LOG2_ARRAY_FLOAT_INDEX_SCALE", type := .int, accessFlags := 25, slot := 8, constantValue := 0 }, { name := "LOG2_ARRAY_DOUBLE_INDEX_SCALE", type := .int, accessFlags := 25, slot := 9, constantValue := 0 }, { name := "LOG2_BYTE_BIT_SIZE", type := .int, accessFlags := 26, slot := 10, constantValue := 0 }, { name := "T_BOOLEAN", type := .int, accessFlags := 25, slot := 11, constantValue := 0 }, { name := "T_CHAR", type := .int, accessFlags := 25, slot := 12, constantValue := 0 }, { name := "T_FLOAT", type := .int, accessFlags := 25, slot := 13, constantValue := 0 }, { name := "T_DOUBLE", type := .int, accessFlags := 25, slot := 14, constantValue := 0 }, { name := "T_BYTE", type := .int, accessFlags := 25, slot := 15, constantValue := 0 }, { name := "T_SHORT", type := .int, accessFlags := 25, slot := 16, constantValue := 0 }, { name := "T_INT", type := .int, accessFlags := 25, slot := 17, constantValue := 0 }, { name := "T_LONG", type := .int, accessFlags := 25, slot := 18, constantValue := 0 }, { name := "JLA", type := (.object "jdk/internal/access/JavaLangAccess"), accessFlags := 26, slot := 19, constantValue := 0 }, { name := "SOFT_MAX_ARRAY_LENGTH", type := .int, accessFlags := 25, slot := 20, constantValue := 0 }]
  methods := #[k17m0]
  instanceTypes := #[]
  staticTypes := #[(.object "jdk/internal/misc/Unsafe"), .boolean, .int, .int, .int, .int, .int, .int, .int, .int, .int, .int, .int, .int, .int, .int, .int, .int, .int, (.object "jdk/internal/access/JavaLangAccess"), .int]
  resolved := Array.replicate 378 none
  statics := none }

def pool18 : Array CpInfo := pool [(2, .class_ 4), (1, u "java/lang/Object"), (0, u "<init>"), (0, u "()V"), (12, .class_ 20), (0, u "java/util/Collections"), (63, u "r"), (0, u "Ljava/util/Random;"), (80, .class_ 167), (0, u "java/util/Collections$UnmodifiableCollection"), (6, .class_ 175), (0, u "java/util/Collections$UnmodifiableSequencedCollection"), (6, .class_ 183), (0, u "java/util/Collections$UnmodifiableSet"), (6, .class_ 191), (0, u "java/util/Collections$UnmodifiableSequencedSet"), (6, .class_ 199), (0, u "java/util/Collections$UnmodifiableSortedSet"), (6, .class_ 207), (0, u "java/util/Collections$UnmodifiableNavigableSet"), (4, .class_ 213), (0, u "java/util/Collections$UnmodifiableList"), (1, .class_ 216), (0, u "java/util/Collections$UnmodifiableRandomAccessList"), (6, .class_ 224), (0, u "java/util/Collections$UnmodifiableMap"), (6, .class_ 232), (0, u "java/util/Collections$UnmodifiableSequencedMap"), (4, .class_ 238), (0, u "java/util/Collections$UnmodifiableSortedMap"), (6, .class_ 246), (0, u "java/util/Collections$UnmodifiableNavigableMap"), (3, .class_ 251), (0, u "java/util/Collections$SynchronizedCollection"), (4, .class_ 257), (0, u "java/util/Collections$SynchronizedSet"), (4, .class_ 263), (0, u "java/util/Collections$SynchronizedSortedSet"), (1, .class_ 266), (0, u "java/util/Collections$SynchronizedNavigableSet"), (1, .class_ 269), (0, u "java/util/Collections$SynchronizedRandomAccessList"), (1, .class_ 272), (0, u "java/util/Collections$SynchronizedList"), (5, .class_ 279), (0, u "java/util/Collections$SynchronizedMap"), (1, .class_ 282), (0, u "java/util/Collections$SynchronizedSortedMap"), (1, .class_ 285), (0, u "java/util/Collections$SynchronizedNavigableMap"), (1, .class_ 288), (0, u "java/util/Collections$CheckedCollection"), (11, .class_ 301), (0, u "java/util/Collections$CheckedQueue"), (3, .class_ 306), (0, u "java/util/Collections$CheckedSet"), (3, .class_ 311), (0, u "java/util/Collections$CheckedSortedSet"), (3, .class_ 316), (0, u "java/util/Collections$CheckedNavigableSet"), (3, .class_ 321), (0, u "java/util/Collections$CheckedRandomAccessList"), (3, .class_ 326), (0, u "java/util/Collections$CheckedList"), (1, .class_ 329), (0, u "java/util/Collections$CheckedMap"), (3, .class_ 334), (0, u "java/util/Collections$CheckedSortedMap"), (3, .class_ 339), (0, u "java/util/Collections$CheckedNavigableMap"), (4, .class_ 346), (1, u "java/util/Collections$EmptyIterator"), (3, .class_ 352), (1, u "java/util/Collections$EmptyListIterator"), (2, .class_ 357), (1, u "java/util/Collections$EmptyEnumeration"), (4, u "EMPTY_SET"), (0, u "Ljava/util/Set;"), (6, u "EMPTY_LIST"), (0, u "Ljava/util/List;"), (2, u "EMPTY_MAP"), (0, u "Ljava/util/Map;"), (4, .class_ 381), (0, u "java/util/Collections$SingletonSet"), (2, .class_ 385), (0, u "java/util/Collections$1"), (1, .class_ 388), (0, u "java/util/Collections$2"), (1, .class_ 391), (0, u "java/util/Collections$SingletonList"), (1, .class_ 394), (0, u "java/util/Collections$SingletonMap"), (22, .class_ 418), (0, u "java/util/Collections$CopiesList"), (4, .class_ 425), (1, u "java/util/Collections$ReverseComparator"), (8, .class_ 435), (0, u "java/util/Collections$ReverseComparator2"), (6, .class_ 443), (0, u "java/util/Collections$3"), (25, .class_ 470), (0, u "java/util/Collections$SetFromMap"), (2, .class_ 474), (0, u "java/util/Collections$SequencedSetFromMap"), (3, .class_ 479), (0, u "java/util/Collections$AsLIFOQueue"), (11, .class_ 492), (0, u "java/util/Collections$EmptySet"), (1, .class_ 495), (0, u "java/util/Collections$EmptyList"), (1, .class_ 498), (0, u "java/util/Collections$EmptyMap"), (1, u "BINARYSEARCH_THRESHOLD"), (0, u "I"), (2, u "REVERSE_THRESHOLD"), (1, u "SHUFFLE_THRESHOLD"), (1, u "FILL_THRESHOLD"), (1, u "ROTATE_THRESHOLD"), (1, u "COPY_THRESHOLD"), (1, u "REPLACEALL_THRESHOLD"), (1, u "INDEXOFSUBLIST_THRESHOLD"), (333, .class_ 851), (0, u "java/util/Collections$CheckedMap$CheckedEntrySet"), (0, .class_ 853), (0, u "java/util/Collections$CheckedMap$CheckedEntrySet$CheckedEntry"), (0, .class_ 855), (0, u "java/util/Collections$CheckedMap$CheckedEntrySet$1"), (0, .class_ 857), (0, u "java/util/Collections$CheckedList$1"), (0, .class_ 859), (0, u "java/util/Collections$CheckedCollection$1"), (0, .class_ 861), (0, u "java/util/Collections$UnmodifiableNavigableMap$EmptyNavigableMap"), (0, .class_ 863), (0, u "java/util/Collections$UnmodifiableMap$UnmodifiableEntrySet"), (0, .class_ 865), (0, u "java/util/Collections$UnmodifiableMap$UnmodifiableEntrySet$UnmodifiableEntry"), (0, .class_ 867), (0, u "java/util/Collections$UnmodifiableMap$UnmodifiableEntrySet$UnmodifiableEntrySetSpliterator"), (0, .class_ 869), (0, u "java/util/Collections$UnmodifiableMap$UnmodifiableEntrySet$1"), (0, .class_ 871), (0, u "java/util/Collections$UnmodifiableList$1"), (0, .class_ 873), (0, u "java/util/Collections$UnmodifiableNavigableSet$EmptyNavigableSet"), (0, .class_ 875), (0, u "java/util/Collections$UnmodifiableCollection$1")] 57

def k18m0 : Method := { name := "<init>", desc := "()V", sig := { parameters := [], returnType := none }, accessFlags := 2, code := none }
/-- java/util/Collections -/
def k18 : Class := { plain "java/util/Collections" (some 0) with
  accessFlags := 33
  interfaces := #[]
  cf := some (fileOf pool18 19 #[.nestMembers #[478, 473, 469, 434, 423, 417, 393, 390, 380, 497, 494, 491, 355, 350, 344, 338, 333, 328, 850, 852, 854, 320, 325, 856, 315, 310, 305, 300, 287, 858, 284, 281, 278, 268, 271, 265, 262, 256, 250, 245, 860, 237, 231, 223, 862, 864, 866, 868, 215, 212, 870, 206, 872, 198, 190, 182, 174, 166, 874, 442, 387, 384]] #[{ accessFlags := 2, nameIndex := 5, descriptorIndex := 6, attributes := #[] }] 33 2 #[] #[{ accessFlags := 26, nameIndex := 500, descriptorIndex := 501, attributes := #[] }, { accessFlags := 26, nameIndex := 504, descriptorIndex := 501, attributes := #[] }, { accessFlags := 26, nameIndex := 506, descriptorIndex := 501, attributes := #[] }, { accessFlags := 26, nameIndex := 508, descriptorIndex := 501, attributes := #[] }, { accessFlags := 26, nameIndex := 510, descriptorIndex := 501, attributes := #[] }, { accessFlags := 26, nameIndex := 512, descriptorIndex := 501, attributes := #[] }, { accessFlags := 26, nameIndex := 514, descriptorIndex := 501, attributes := #[] }, { accessFlags := 26, nameIndex := 516, descriptorIndex := 501, attributes := #[] }, { accessFlags := 10, nameIndex := 84, descriptorIndex := 85, attributes := #[] }, { accessFlags := 25, nameIndex := 362, descriptorIndex := 363, attributes := #[] }, { accessFlags := 25, nameIndex := 370, descriptorIndex := 371, attributes := #[] }, { accessFlags := 25, nameIndex := 374, descriptorIndex := 375, attributes := #[] }])
  fields := #[{ name := "BINARYSEARCH_THRESHOLD", type := .int, accessFlags := 26, slot := 0, constantValue := 0 }, { name := "REVERSE_THRESHOLD", type := .int, accessFlags := 26, slot := 1, constantValue := 0 }, { name := "SHUFFLE_THRESHOLD", type := .int, accessFlags := 26, slot := 2, constantValue := 0 }, { name := "FILL_THRESHOLD", type := .int, accessFlags := 26, slot := 3, constantValue := 0 }, { name := "ROTATE_THRESHOLD", type := .int, accessFlags := 26, slot := 4, constantValue := 0 }, { name := "COPY_THRESHOLD", type := .int, accessFlags := 26, slot := 5, constantValue := 0 }, { name := "REPLACEALL_THRESHOLD", type := .int, accessFlags := 26, slot := 6, constantValue := 0 }, { name := "INDEXOFSUBLIST_THRESHOLD", type := .int, accessFlags := 26, slot := 7, constantValue := 0 }, { name := "r", type := (.object "java/util/Random"), accessFlags := 10, slot := 8, constantValue := 0 }, { name := "EMPTY_SET", type := (.object "java/util/Set"), accessFlags := 25, slot := 9, constantValue := 0 }, { name := "EMPTY_LIST", type := (.object "java/util/List"), accessFlags := 25, slot := 10, constantValue := 0 }, { name := "EMPTY_MAP", type := (.object "java/util/Map"), accessFlags := 25, slot := 11, constantValue := 0 }]
  methods := #[k18m0]
  instanceTypes := #[]
  staticTypes := #[.int, .int, .int, .int, .int, .int, .int, .int, (.object "java/util/Random"), (.object "java/util/Set"), (.object "java/util/List"), (.object "java/util/Map")]
  resolved := Array.replicate 933 none
  statics := some 3 }

def pool19 : Array CpInfo := pool [(8, .class_ 10), (1, u "java/lang/Iterable"), (24, .class_ 36), (0, u "java/lang/Object")] 25

/-- java/lang/Iterable -/
def k19 : Class := { plain "java/lang/Iterable" (some 0) with
  accessFlags := 1537
  interfaces := #[]
  cf := some (fileOf pool19 8 #[] #[] 1537 35 #[] #[])
  fields := #[]
  methods := #[]
  instanceTypes := #[]
  staticTypes := #[]
  resolved := Array.replicate 62 none
  statics := none }

def pool20 : Array CpInfo := pool [(10, .class_ 12), (1, u "java/util/Collection"), (47, .class_ 61), (0, u "java/lang/Object"), (0, .class_ 63), (0, u "java/lang/Iterable")] 51

/-- java/util/Collection -/
def k20 : Class := { plain "java/util/Collection" (some 0) with
  accessFlags := 1537
  interfaces := #[19]
  cf := some (fileOf pool20 10 #[] #[] 1537 60 #[62] #[])
  fields := #[]
  methods := #[]
  instanceTypes := #[]
  staticTypes := #[]
  resolved := Array.replicate 115 none
  statics := none }

def pool21 : Array CpInfo := pool [(2, .class_ 4), (1, u "java/lang/Object"), (0, u "<init>"), (0, u "()V"), (1, .class_ 10), (1, u "java/util/AbstractCollection"), (66, .class_ 78), (0, u "java/util/Collection")] 81

def k21m0 : Method := { name := "<init>", desc := "()V", sig := { parameters := [], returnType := none }, accessFlags := 4, code := none }
/-- java/util/AbstractCollection -/
def k21 : Class := { plain "java/util/AbstractCollection" (some 0) with
  accessFlags := 1057
  interfaces := #[20]
  cf := some (fileOf pool21 8 #[] #[{ accessFlags := 4, nameIndex := 5, descriptorIndex := 6, attributes := #[] }] 1057 2 #[77] #[])
  fields := #[]
  methods := #[k21m0]
  instanceTypes := #[]
  staticTypes := #[]
  resolved := Array.replicate 160 none
  statics := none }

def pool22 : Array CpInfo := pool [(8, .class_ 10), (1, u "java/util/SequencedCollection"), (15, .class_ 27), (0, u "java/lang/Object"), (0, .class_ 29), (0, u "java/util/Collection")] 27

/-- java/util/SequencedCollection -/
def k22 : Class := { plain "java/util/SequencedCollection" (some 0) with
  accessFlags := 1537
  interfaces := #[20]
  cf := some (fileOf pool22 8 #[] #[] 1537 26 #[28] #[])
  fields := #[]
  methods := #[]
  instanceTypes := #[]
  staticTypes := #[]
  resolved := Array.replicate 57 none
  statics := none }

def pool23 : Array CpInfo := pool [(8, .class_ 10), (1, u "java/util/List"), (92, .class_ 104), (0, u "java/lang/Object"), (15, .class_ 121), (0, u "java/util/SequencedCollection")] 129

/-- java/util/List -/
def k23 : Class := { plain "java/util/List" (some 0) with
  accessFlags := 1537
  interfaces := #[22]
  cf := some (fileOf pool23 8 #[] #[] 1537 103 #[120] #[])
  fields := #[]
  methods := #[]
  instanceTypes := #[]
  staticTypes := #[]
  resolved := Array.replicate 251 none
  statics := none }

def pool24 : Array CpInfo := pool [(2, .class_ 4), (1, u "java/util/AbstractCollection"), (0, u "<init>"), (0, u "()V"), (1, .class_ 10), (1, u "java/util/AbstractList"), (0, u "modCount"), (0, u "I"), (64, .class_ 78), (0, u "java/util/AbstractList$Itr"), (3, .class_ 83), (0, u "java/util/AbstractList$ListItr"), (9, .class_ 94), (0, u "java/util/AbstractList$RandomAccessSubList"), (3, .class_ 99), (0, u "java/util/AbstractList$SubList"), (33, .class_ 134), (0, u "java/util/List"), (73, .class_ 209), (0, u "java/util/AbstractList$SubList$1"), (0, .class_ 211), (0, u "java/util/AbstractList$RandomAccessSpliterator")] 6

def k24m0 : Method := { name := "<init>", desc := "()V", sig := { parameters := [], returnType := none }, accessFlags := 4, code := none }
/-- java/util/AbstractList -/
def k24 : Class := { plain "java/util/AbstractList" (some 21) with
  accessFlags := 1057
  interfaces := #[23]
  cf := some (fileOf pool24 8 #[.nestMembers #[93, 98, 208, 210, 82, 77]] #[{ accessFlags := 4, nameIndex := 5, descriptorIndex := 6, attributes := #[] }] 1057 2 #[133] #[{ accessFlags := 132, nameIndex := 11, descriptorIndex := 12, attributes := #[] }])
  fields := #[{ name := "modCount", type := .int, accessFlags := 132, slot := 0, constantValue := 0 }]
  methods := #[k24m0]
  instanceTypes := #[.int]
  staticTypes := #[]
  resolved := Array.replicate 218 none
  statics := none }

def pool25 : Array CpInfo := pool [(1, .class_ 2), (0, u "java/util/RandomAccess"), (0, .class_ 4), (0, u "java/lang/Object")] 2

/-- java/util/RandomAccess -/
def k25 : Class := { plain "java/util/RandomAccess" (some 0) with
  accessFlags := 1537
  interfaces := #[]
  cf := some (fileOf pool25 1 #[] #[] 1537 3 #[] #[])
  fields := #[]
  methods := #[]
  instanceTypes := #[]
  staticTypes := #[]
  resolved := Array.replicate 7 none
  statics := none }

def pool26 : Array CpInfo := pool [(2, .class_ 4), (1, u "java/util/AbstractList"), (0, u "<init>"), (0, u "()V"), (1, .class_ 10), (1, u "java/util/Collections"), (54, .class_ 66), (0, u "java/util/Collections$EmptyList"), (0, .class_ 68), (0, u "java/util/RandomAccess"), (0, .class_ 70), (0, u "java/io/Serializable"), (0, u "serialVersionUID"), (0, u "J")] 77

def k26m0 : Method := { name := "<init>", desc := "()V", sig := { parameters := [], returnType := none }, accessFlags := 2, code := none }
/-- java/util/Collections$EmptyList -/
def k26 : Class := { plain "java/util/Collections$EmptyList" (some 24) with
  accessFlags := 32
  interfaces := #[25, 2]
  cf := some (fileOf pool26 65 #[.nestHost 8] #[{ accessFlags := 2, nameIndex := 5, descriptorIndex := 6, attributes := #[] }] 32 2 #[67, 69] #[{ accessFlags := 26, nameIndex := 71, descriptorIndex := 72, attributes := #[] }])
  fields := #[{ name := "serialVersionUID", type := .long, accessFlags := 26, slot := 0, constantValue := 0 }]
  methods := #[k26m0]
  instanceTypes := #[.int]
  staticTypes := #[.long]
  resolved := Array.replicate 150 none
  statics := none }

def pool27 : Array CpInfo := pool [(2, .class_ 4), (1, u "java/lang/StackTraceElement"), (0, u "<init>"), (2, .class_ 10), (1, u "java/lang/Object"), (0, u "()V"), (2, u "format"), (0, u "B"), (2, u "classLoaderName"), (0, u "Ljava/lang/String;"), (2, u "moduleName"), (2, u "moduleVersion"), (12, u "declaringClass"), (4, u "methodName"), (2, u "fileName"), (2, u "lineNumber"), (0, u "I"), (65, u "declaringClassObject"), (0, u "Ljava/lang/Class;"), (33, .class_ 153), (1, u "java/lang/StackTraceElement$HashedModules"), (17, .class_ 172), (0, u "java/io/Serializable"), (0, u "NATIVE_METHOD"), (1, u "UNKNOWN_SOURCE"), (2, u "BUILTIN_CLASS_LOADER"), (1, u "JDK_NON_UPGRADEABLE_MODULE"), (1, u "serialVersionUID"), (0, u "J")] 51

def k27m0 : Method := { name := "<init>", desc := "()V", sig := { parameters := [], returnType := none }, accessFlags := 2, code := none }
/-- java/lang/StackTraceElement -/
def k27 : Class := { plain "java/lang/StackTraceElement" (some 0) with
  accessFlags := 49
  interfaces := #[2]
  cf := some (fileOf pool27 2 #[.nestMembers #[151]] #[{ accessFlags := 2, nameIndex := 5, descriptorIndex := 11, attributes := #[] }] 49 8 #[171] #[{ accessFlags := 26, nameIndex := 173, descriptorIndex := 19, attributes := #[] }, { accessFlags := 26, nameIndex := 175, descriptorIndex := 19, attributes := #[] }, { accessFlags := 130, nameIndex := 116, descriptorIndex := 117, attributes := #[] }, { accessFlags := 2, nameIndex := 18, descriptorIndex := 19, attributes := #[] }, { accessFlags := 2, nameIndex := 22, descriptorIndex := 19, attributes := #[] }, { accessFlags := 2, nameIndex := 25, descriptorIndex := 19, attributes := #[] }, { accessFlags := 2, nameIndex := 38, descriptorIndex := 19, attributes := #[] }, { accessFlags := 2, nameIndex := 43, descriptorIndex := 19, attributes := #[] }, { accessFlags := 2, nameIndex := 46, descriptorIndex := 19, attributes := #[] }, { accessFlags := 2, nameIndex := 49, descriptorIndex := 50, attributes := #[] }, { accessFlags := 2, nameIndex := 14, descriptorIndex := 15, attributes := #[] }, { accessFlags := 26, nameIndex := 178, descriptorIndex := 15, attributes := #[] }, { accessFlags := 26, nameIndex := 180, descriptorIndex := 15, attributes := #[] }, { accessFlags := 26, nameIndex := 182, descriptorIndex := 183, attributes := #[] }])
  fields := #[{ name := "NATIVE_METHOD", type := (.object "java/lang/String"), accessFlags := 26, slot := 0, constantValue := 0 }, { name := "UNKNOWN_SOURCE", type := (.object "java/lang/String"), accessFlags := 26, slot := 1, constantValue := 0 }, { name := "declaringClassObject", type := (.object "java/lang/Class"), accessFlags := 130, slot := 0, constantValue := 0 }, { name := "classLoaderName", type := (.object "java/lang/String"), accessFlags := 2, slot := 1, constantValue := 0 }, { name := "moduleName", type := (.object "java/lang/String"), accessFlags := 2, slot := 2, constantValue := 0 }, { name := "moduleVersion", type := (.object "java/lang/String"), accessFlags := 2, slot := 3, constantValue := 0 }, { name := "declaringClass", type := (.object "java/lang/String"), accessFlags := 2, slot := 4, constantValue := 0 }, { name := "methodName", type := (.object "java/lang/String"), accessFlags := 2, slot := 5, constantValue := 0 }, { name := "fileName", type := (.object "java/lang/String"), accessFlags := 2, slot := 6, constantValue := 0 }, { name := "lineNumber", type := .int, accessFlags := 2, slot := 7, constantValue := 0 }, { name := "format", type := .byte, accessFlags := 2, slot := 8, constantValue := 0 }, { name := "BUILTIN_CLASS_LOADER", type := .byte, accessFlags := 26, slot := 2, constantValue := 0 }, { name := "JDK_NON_UPGRADEABLE_MODULE", type := .byte, accessFlags := 26, slot := 3, constantValue := 0 }, { name := "serialVersionUID", type := .long, accessFlags := 26, slot := 4, constantValue := 0 }]
  methods := #[k27m0]
  instanceTypes := #[(.object "java/lang/Class"), (.object "java/lang/String"), (.object "java/lang/String"), (.object "java/lang/String"), (.object "java/lang/String"), (.object "java/lang/String"), (.object "java/lang/String"), .int, .byte]
  staticTypes := #[(.object "java/lang/String"), (.object "java/lang/String"), .byte, .byte, .long]
  resolved := Array.replicate 235 none
  statics := none }

def pool28 : Array CpInfo := pool [(1, u "java/lang/Cloneable"), (0, .class_ 1), (0, u "java/lang/Object"), (0, .class_ 3)] 3

/-- java/lang/Cloneable -/
def k28 : Class := { plain "java/lang/Cloneable" (some 0) with
  accessFlags := 1537
  interfaces := #[]
  cf := some (fileOf pool28 2 #[] #[] 1537 4 #[] #[])
  fields := #[]
  methods := #[]
  instanceTypes := #[]
  staticTypes := #[]
  resolved := Array.replicate 8 none
  statics := none }

/-- the primitive byte -/
def k29 : Class := { plain "byte" none with kind := .primitive 'B', accessFlags := 0x411 }
/-- [B -/
def k30 : Class := { plain "[B" (some 0) with kind := .array 29 .byte, interfaces := #[28, 2], accessFlags := 1041 }

/-- the primitive char -/
def k31 : Class := { plain "char" none with kind := .primitive 'C', accessFlags := 0x411 }
/-- [C -/
def k32 : Class := { plain "[C" (some 0) with kind := .array 31 .char, interfaces := #[28, 2], accessFlags := 1041 }

/-- the primitive int -/
def k33 : Class := { plain "int" none with kind := .primitive 'I', accessFlags := 0x411 }
/-- [I -/
def k34 : Class := { plain "[I" (some 0) with kind := .array 33 .int, interfaces := #[28, 2], accessFlags := 1041 }

/-- [Ljava/lang/Object; -/
def k35 : Class := { plain "[Ljava/lang/Object;" (some 0) with kind := .array 0 (.object "java/lang/Object"), interfaces := #[28, 2], accessFlags := 1041 }

/-- [Ljava/lang/StackTraceElement; -/
def k36 : Class := { plain "[Ljava/lang/StackTraceElement;" (some 0) with kind := .array 27 (.object "java/lang/StackTraceElement"), interfaces := #[28, 2], accessFlags := 1041 }

/-- [Ljava/lang/Throwable; -/
def k37 : Class := { plain "[Ljava/lang/Throwable;" (some 0) with kind := .array 9 (.object "java/lang/Throwable"), interfaces := #[28, 2], accessFlags := 1041 }

def heap : Heap := #[{ cls := 7, slots := #[.long 0, .int 1, .null, .int 0, .null, .int 0, .int 0], vm := .statics 7 },
  { cls := 9, slots := #[.long 0, .ref 4, .ref 5, .null, .null, .null, .null, .ref 6, .int 1], vm := .statics 9 },
  { cls := 16, slots := #[.null, .null, .null], vm := .statics 16 },
  { cls := 18, slots := #[.int 0, .int 0, .int 0, .int 0, .int 0, .int 0, .int 0, .int 0, .null, .null, .ref 5, .null], vm := .statics 18 },
  { cls := 36, slots := #[], vm := .none },
  { cls := 26, slots := #[.int 0], vm := .none },
  { cls := 37, slots := #[], vm := .none }]
def classes : Array Class := #[k0, k1, k2, k3, k4, k5, k6, k7, k8, k9, k10, k11, k12, k13, k14, k15, k16, k17, k18, k19, k20, k21, k22, k23, k24, k25, k26, k27, k28, k29, k30, k31, k32, k33, k34, k35, k36, k37]
def interned : List (Array UInt16 × Addr) := []
def slotsUsed : Nat := 32
def theMethod : MethodId := ⟨1, 3⟩
def args0 : Array Value := #[.int 5, .int 5, .int 5, .int 5, .int 5]
def aboutOver (below : List Frame) : State where
  vm := { classes := classes, interned := interned.toArray }
  heap := heap
  slotsUsed := slotsUsed
  threads := #[{ frames := .invoking theMethod args0 :: below }]
def below0 : List Frame := [.native { method := ⟨0, 0⟩, args := #[] }]
def about1 : State := aboutOver below0
def p0 : Program := .bare "" "" ""
def e0 : Env := launch0.env 0 0 0
theorem w_frames : about1.frames = Frame.invoking theMethod args0 :: below0 := rfl
set_option maxRecDepth 65536 in
theorem w_args : argsFit about1.vm theMethod args0 = true := by decide +kernel
set_option maxRecDepth 65536 in
theorem w_heap : heapFits about1 = true := by decide +kernel
set_option maxRecDepth 65536 in
theorem w_runnable : about1.curStatus? = some .runnable := by decide +kernel
set_option maxRecDepth 65536 in
theorem w_alone : about1.alone = true := by decide +kernel
set_option maxRecDepth 65536 in
theorem w_named : about1.methodNamed? x = some theMethod := by decide +kernel
set_option maxRecDepth 65536 in
theorem w_hears : about1.hears theMethod below0 = true := by decide +kernel
set_option maxRecDepth 65536 in
theorem w_ripe : about1.ripe theMethod args0 below0 = true := by decide +kernel
theorem w_running : about1.status = .running := rfl
set_option maxRecDepth 65536 in
theorem w_room : about1.hasRoom e0.platform room_1 = true :=
  launch0.hasRoom_least _ room_1 (by decide +kernel) (by decide +kernel) (by decide +kernel) (by decide +kernel) (by decide +kernel) (by decide +kernel)
theorem allAtoms_all (ts : List Jvm.Cond) (a : Array Jvm.Value) (st : Jvm.State) : (allAtoms ts).before a st = ts.all (fun c => c.before a st) := by
  induction ts with
  | nil => rfl
  | cons c t ih =>
    show (Jvm.Cond.and c (allAtoms t)).before a st = _
    rw [Jvm.Cond.before_and, ih, List.all_cons]
def words1 : List Jvm.Cond := Jvm.Cond.code x code maxLocals ret :: tables_1
/-- a 'code' word, met by the world's own term for the bytes: nothing is compared byte by byte -/
theorem code_word {y : MethodName} {bytes : ByteArray} {mx : Nat} {rt : Option FieldType} {a : Array Value} {s : State} {m : MethodId} {meth : Method} {c : Code} (h1 : s.methodNamed? y = some m) (h2 : s.vm.method? m = some meth) (h3 : meth.code = some c) (h4 : c.code = bytes)
    (h5 : (c.maxLocals == mx && c.exceptionTable.isEmpty && decide (c.maxStack ≤ mostOperands) && decide (meth.sig.returnType = rt) && !meth.locks && decide (parseMethodDescriptor y.desc = some meth.sig)) = true) : (Jvm.Cond.code y bytes mx rt).before a s = true := by
  simp only [Bool.and_eq_true, beq_iff_eq, Bool.not_eq_true', decide_eq_true_eq] at h5
  obtain ⟨⟨⟨⟨⟨g1, g2⟩, g3⟩, g4⟩, g5⟩, g6⟩ := h5
  simp [Cond.before, Cond.holds, Cond.value, h1, h2, h3, h4, g1, g2, g3, g4, g5, g6]
def isCode : Jvm.Cond → Bool
  | .code _ _ _ _ => true
  | _ => false
theorem all_split {L : List Jvm.Cond} {P : Jvm.Cond → Bool} (h1 : L.all (fun c => isCode c || P c) = true) (h2 : ∀ c ∈ L.filter isCode, P c = true) : L.all P = true := by
  refine List.all_eq_true.mpr fun c hc => ?_
  have h := List.all_eq_true.mp h1 c hc
  rcases Bool.eq_false_or_eq_true (isCode c) with hi | hi
  · exact h2 c (List.mem_filter.mpr ⟨hc, hi⟩)
  · simpa [hi] using h
set_option maxRecDepth 65536 in
theorem w_c0 : (Jvm.Cond.code x code maxLocals ret).before args0 about1 = true := code_word (m := ⟨1, 3⟩) (meth := k1m3) (c := k1c3) (by decide +kernel) rfl rfl rfl (by decide +kernel)
set_option maxRecDepth 65536 in
theorem w_c1 : (Jvm.Cond.code ({ cls := "com/example/ferryline/ferryline/server/ApiErrorBodyPinLaw", name := "draw", desc := "(II)Ljava/lang/String;" } : Jvm.MethodName) method_2_code (6 : Nat) (Option.some (Jvm.ClassFile.FieldType.object "java/lang/String"))).before args0 about1 = true := code_word (m := ⟨1, 1⟩) (meth := k1m1) (c := k1c1) (by decide +kernel) rfl rfl rfl (by decide +kernel)
set_option maxRecDepth 65536 in
theorem w_c2 : (Jvm.Cond.code ({ cls := "java/lang/String", name := "<init>", desc := "([C)V" } : Jvm.MethodName) jdk_42_method_3_code (2 : Nat) (Option.none : Option Jvm.ClassFile.FieldType)).before args0 about1 = true := code_word (m := ⟨7, 1⟩) (meth := k7m1) (c := k7c1) (by decide +kernel) rfl rfl rfl (by decide +kernel)
set_option maxRecDepth 65536 in
theorem w_c3 : (Jvm.Cond.code ({ cls := "java/lang/String", name := "<init>", desc := "([CIILjava/lang/Void;)V" } : Jvm.MethodName) jdk_42_method_149_code (6 : Nat) (Option.none : Option Jvm.ClassFile.FieldType)).before args0 about1 = true := code_word (m := ⟨7, 3⟩) (meth := k7m3) (c := k7c3) (by decide +kernel) rfl rfl rfl (by decide +kernel)
set_option maxRecDepth 65536 in
theorem w_c4 : (Jvm.Cond.code ({ cls := "java/lang/Object", name := "<init>", desc := "()V" } : Jvm.MethodName) object_method_1_code (1 : Nat) (Option.none : Option Jvm.ClassFile.FieldType)).before args0 about1 = true := code_word (m := ⟨0, 0⟩) (meth := k0m0) (c := k0c0) (by decide +kernel) rfl rfl rfl (by decide +kernel)
set_option maxRecDepth 65536 in
theorem w_c5 : (Jvm.Cond.code ({ cls := "java/lang/StringUTF16", name := "compress", desc := "([CII)[B" } : Jvm.MethodName) jdk_52_method_16_code (6 : Nat) (Option.some (Jvm.ClassFile.FieldType.array Jvm.ClassFile.FieldType.byte))).before args0 about1 = true := code_word (m := ⟨8, 2⟩) (meth := k8m2) (c := k8c2) (by decide +kernel) rfl rfl rfl (by decide +kernel)
set_option maxRecDepth 65536 in
theorem w_c6 : (Jvm.Cond.code ({ cls := "java/lang/StringUTF16", name := "compress", desc := "([CI[BII)I" } : Jvm.MethodName) jdk_52_method_21_code (7 : Nat) (Option.some Jvm.ClassFile.FieldType.int)).before args0 about1 = true := code_word (m := ⟨8, 3⟩) (meth := k8m3) (c := k8c3) (by decide +kernel) rfl rfl rfl (by decide +kernel)
set_option maxRecDepth 65536 in
theorem w_c7 : (Jvm.Cond.code ({ cls := "java/lang/StringUTF16", name := "coderFromArrayLen", desc := "([BI)B" } : Jvm.MethodName) jdk_52_method_15_code (2 : Nat) (Option.some Jvm.ClassFile.FieldType.byte)).before args0 about1 = true := code_word (m := ⟨8, 1⟩) (meth := k8m1) (c := k8c1) (by decide +kernel) rfl rfl rfl (by decide +kernel)
set_option maxRecDepth 65536 in
theorem w_c8 : (Jvm.Cond.code ({ cls := "com/example/ferryline/ferryline/server/ApiError", name := "<init>", desc := "(ILjava/lang/String;Ljava/lang/String;)V" } : Jvm.MethodName) prog_47_method_1_code (4 : Nat) (Option.none : Option Jvm.ClassFile.FieldType)).before args0 about1 = true := code_word (m := ⟨12, 0⟩) (meth := k12m0) (c := k12c0) (by decide +kernel) rfl rfl rfl (by decide +kernel)
set_option maxRecDepth 65536 in
theorem w_c9 : (Jvm.Cond.code ({ cls := "java/lang/RuntimeException", name := "<init>", desc := "(Ljava/lang/String;)V" } : Jvm.MethodName) jdk_58_method_2_code (2 : Nat) (Option.none : Option Jvm.ClassFile.FieldType)).before args0 about1 = true := code_word (m := ⟨11, 1⟩) (meth := k11m1) (c := k11c1) (by decide +kernel) rfl rfl rfl (by decide +kernel)
set_option maxRecDepth 65536 in
theorem w_c10 : (Jvm.Cond.code ({ cls := "java/lang/Exception", name := "<init>", desc := "(Ljava/lang/String;)V" } : Jvm.MethodName) jdk_59_method_2_code (2 : Nat) (Option.none : Option Jvm.ClassFile.FieldType)).before args0 about1 = true := code_word (m := ⟨10, 1⟩) (meth := k10m1) (c := k10c1) (by decide +kernel) rfl rfl rfl (by decide +kernel)
set_option maxRecDepth 65536 in
theorem w_c11 : (Jvm.Cond.code ({ cls := "java/lang/Throwable", name := "<init>", desc := "(Ljava/lang/String;)V" } : Jvm.MethodName) jdk_78_method_2_code (2 : Nat) (Option.none : Option Jvm.ClassFile.FieldType)).before args0 about1 = true := code_word (m := ⟨9, 1⟩) (meth := k9m1) (c := k9c1) (by decide +kernel) rfl rfl rfl (by decide +kernel)
set_option maxRecDepth 65536 in
theorem w_c12 : (Jvm.Cond.code ({ cls := "java/lang/Throwable", name := "<init>", desc := "()V" } : Jvm.MethodName) jdk_78_method_1_code (1 : Nat) (Option.none : Option Jvm.ClassFile.FieldType)).before args0 about1 = true := code_word (m := ⟨9, 0⟩) (meth := k9m0) (c := k9c0) (by decide +kernel) rfl rfl rfl (by decide +kernel)
set_option maxRecDepth 65536 in
theorem w_c13 : (Jvm.Cond.code ({ cls := "com/example/ferryline/ferryline/server/ApiError", name := "body", desc := "()Lcom/example/ferryline/ferryline/server/ApiError$Body;" } : Jvm.MethodName) prog_47_method_3_code (1 : Nat) (Option.some (Jvm.ClassFile.FieldType.object "com/example/ferryline/ferryline/server/ApiError$Body"))).before args0 about1 = true := code_word (m := ⟨12, 2⟩) (meth := k12m2) (c := k12c2) (by decide +kernel) rfl rfl rfl (by decide +kernel)
set_option maxRecDepth 65536 in
theorem w_c14 : (Jvm.Cond.code ({ cls := "java/lang/Throwable", name := "getMessage", desc := "()Ljava/lang/String;" } : Jvm.MethodName) jdk_78_method_6_code (1 : Nat) (Option.some (Jvm.ClassFile.FieldType.object "java/lang/String"))).before args0 about1 = true := code_word (m := ⟨9, 2⟩) (meth := k9m2) (c := k9c2) (by decide +kernel) rfl rfl rfl (by decide +kernel)
set_option maxRecDepth 65536 in
theorem w_c15 : (Jvm.Cond.code ({ cls := "com/example/ferryline/ferryline/server/ApiError$Body", name := "<init>", desc := "(Ljava/lang/String;Ljava/lang/String;)V" } : Jvm.MethodName) prog_48_method_1_code (3 : Nat) (Option.none : Option Jvm.ClassFile.FieldType)).before args0 about1 = true := code_word (m := ⟨14, 0⟩) (meth := k14m0) (c := k14c0) (by decide +kernel) rfl rfl rfl (by decide +kernel)
set_option maxRecDepth 65536 in
theorem w_c16 : (Jvm.Cond.code ({ cls := "java/lang/Record", name := "<init>", desc := "()V" } : Jvm.MethodName) jdk_30_method_1_code (1 : Nat) (Option.none : Option Jvm.ClassFile.FieldType)).before args0 about1 = true := code_word (m := ⟨13, 0⟩) (meth := k13m0) (c := k13c0) (by decide +kernel) rfl rfl rfl (by decide +kernel)
set_option maxRecDepth 65536 in
theorem w_c17 : (Jvm.Cond.code ({ cls := "com/example/ferryline/ferryline/server/ApiError$Body", name := "error", desc := "()Ljava/lang/String;" } : Jvm.MethodName) prog_48_method_5_code (1 : Nat) (Option.some (Jvm.ClassFile.FieldType.object "java/lang/String"))).before args0 about1 = true := code_word (m := ⟨14, 1⟩) (meth := k14m1) (c := k14c1) (by decide +kernel) rfl rfl rfl (by decide +kernel)
set_option maxRecDepth 65536 in
theorem w_c18 : (Jvm.Cond.code ({ cls := "com/example/ferryline/ferryline/server/ApiErrorBodyPinLaw", name := "same", desc := "(Ljava/lang/String;Ljava/lang/String;)Z" } : Jvm.MethodName) method_3_code (2 : Nat) (Option.some Jvm.ClassFile.FieldType.boolean)).before args0 about1 = true := code_word (m := ⟨1, 2⟩) (meth := k1m2) (c := k1c2) (by decide +kernel) rfl rfl rfl (by decide +kernel)
set_option maxRecDepth 65536 in
theorem w_c19 : (Jvm.Cond.code ({ cls := "java/lang/String", name := "equals", desc := "(Ljava/lang/Object;)Z" } : Jvm.MethodName) jdk_42_method_66_code (3 : Nat) (Option.some Jvm.ClassFile.FieldType.boolean)).before args0 about1 = true := code_word (m := ⟨7, 2⟩) (meth := k7m2) (c := k7c2) (by decide +kernel) rfl rfl rfl (by decide +kernel)
set_option maxRecDepth 65536 in
theorem w_c20 : (Jvm.Cond.code ({ cls := "com/example/ferryline/ferryline/server/ApiError$Body", name := "message", desc := "()Ljava/lang/String;" } : Jvm.MethodName) prog_48_method_6_code (1 : Nat) (Option.some (Jvm.ClassFile.FieldType.object "java/lang/String"))).before args0 about1 = true := code_word (m := ⟨14, 2⟩) (meth := k14m2) (c := k14c2) (by decide +kernel) rfl rfl rfl (by decide +kernel)
set_option maxRecDepth 65536 in
theorem w_c21 : (Jvm.Cond.code ({ cls := "com/example/ferryline/ferryline/server/ApiError", name := "status", desc := "()I" } : Jvm.MethodName) prog_47_method_2_code (1 : Nat) (Option.some Jvm.ClassFile.FieldType.int)).before args0 about1 = true := code_word (m := ⟨12, 1⟩) (meth := k12m1) (c := k12c1) (by decide +kernel) rfl rfl rfl (by decide +kernel)
def codes1 : List Jvm.Cond := [Jvm.Cond.code x code maxLocals ret, Jvm.Cond.code ({ cls := "com/example/ferryline/ferryline/server/ApiErrorBodyPinLaw", name := "draw", desc := "(II)Ljava/lang/String;" } : Jvm.MethodName) method_2_code (6 : Nat) (Option.some (Jvm.ClassFile.FieldType.object "java/lang/String")), Jvm.Cond.code ({ cls := "java/lang/String", name := "<init>", desc := "([C)V" } : Jvm.MethodName) jdk_42_method_3_code (2 : Nat) (Option.none : Option Jvm.ClassFile.FieldType), Jvm.Cond.code ({ cls := "java/lang/String", name := "<init>", desc := "([CIILjava/lang/Void;)V" } : Jvm.MethodName) jdk_42_method_149_code (6 : Nat) (Option.none : Option Jvm.ClassFile.FieldType), Jvm.Cond.code ({ cls := "java/lang/Object", name := "<init>", desc := "()V" } : Jvm.MethodName) object_method_1_code (1 : Nat) (Option.none : Option Jvm.ClassFile.FieldType), Jvm.Cond.code ({ cls := "java/lang/StringUTF16", name := "compress", desc := "([CII)[B" } : Jvm.MethodName) jdk_52_method_16_code (6 : Nat) (Option.some (Jvm.ClassFile.FieldType.array Jvm.ClassFile.FieldType.byte)), Jvm.Cond.code ({ cls := "java/lang/StringUTF16", name := "compress", desc := "([CI[BII)I" } : Jvm.MethodName) jdk_52_method_21_code (7 : Nat) (Option.some Jvm.ClassFile.FieldType.int), Jvm.Cond.code ({ cls := "java/lang/StringUTF16", name := "coderFromArrayLen", desc := "([BI)B" } : Jvm.MethodName) jdk_52_method_15_code (2 : Nat) (Option.some Jvm.ClassFile.FieldType.byte), Jvm.Cond.code ({ cls := "com/example/ferryline/ferryline/server/ApiError", name := "<init>", desc := "(ILjava/lang/String;Ljava/lang/String;)V" } : Jvm.MethodName) prog_47_method_1_code (4 : Nat) (Option.none : Option Jvm.ClassFile.FieldType), Jvm.Cond.code ({ cls := "java/lang/RuntimeException", name := "<init>", desc := "(Ljava/lang/String;)V" } : Jvm.MethodName) jdk_58_method_2_code (2 : Nat) (Option.none : Option Jvm.ClassFile.FieldType), Jvm.Cond.code ({ cls := "java/lang/Exception", name := "<init>", desc := "(Ljava/lang/String;)V" } : Jvm.MethodName) jdk_59_method_2_code (2 : Nat) (Option.none : Option Jvm.ClassFile.FieldType), Jvm.Cond.code ({ cls := "java/lang/Throwable", name := "<init>", desc := "(Ljava/lang/String;)V" } : Jvm.MethodName) jdk_78_method_2_code (2 : Nat) (Option.none : Option Jvm.ClassFile.FieldType), Jvm.Cond.code ({ cls := "java/lang/Throwable", name := "<init>", desc := "()V" } : Jvm.MethodName) jdk_78_method_1_code (1 : Nat) (Option.none : Option Jvm.ClassFile.FieldType), Jvm.Cond.code ({ cls := "com/example/ferryline/ferryline/server/ApiError", name := "body", desc := "()Lcom/example/ferryline/ferryline/server/ApiError$Body;" } : Jvm.MethodName) prog_47_method_3_code (1 : Nat) (Option.some (Jvm.ClassFile.FieldType.object "com/example/ferryline/ferryline/server/ApiError$Body")), Jvm.Cond.code ({ cls := "java/lang/Throwable", name := "getMessage", desc := "()Ljava/lang/String;" } : Jvm.MethodName) jdk_78_method_6_code (1 : Nat) (Option.some (Jvm.ClassFile.FieldType.object "java/lang/String")), Jvm.Cond.code ({ cls := "com/example/ferryline/ferryline/server/ApiError$Body", name := "<init>", desc := "(Ljava/lang/String;Ljava/lang/String;)V" } : Jvm.MethodName) prog_48_method_1_code (3 : Nat) (Option.none : Option Jvm.ClassFile.FieldType), Jvm.Cond.code ({ cls := "java/lang/Record", name := "<init>", desc := "()V" } : Jvm.MethodName) jdk_30_method_1_code (1 : Nat) (Option.none : Option Jvm.ClassFile.FieldType), Jvm.Cond.code ({ cls := "com/example/ferryline/ferryline/server/ApiError$Body", name := "error", desc := "()Ljava/lang/String;" } : Jvm.MethodName) prog_48_method_5_code (1 : Nat) (Option.some (Jvm.ClassFile.FieldType.object "java/lang/String")), Jvm.Cond.code ({ cls := "com/example/ferryline/ferryline/server/ApiErrorBodyPinLaw", name := "same", desc := "(Ljava/lang/String;Ljava/lang/String;)Z" } : Jvm.MethodName) method_3_code (2 : Nat) (Option.some Jvm.ClassFile.FieldType.boolean), Jvm.Cond.code ({ cls := "java/lang/String", name := "equals", desc := "(Ljava/lang/Object;)Z" } : Jvm.MethodName) jdk_42_method_66_code (3 : Nat) (Option.some Jvm.ClassFile.FieldType.boolean), Jvm.Cond.code ({ cls := "com/example/ferryline/ferryline/server/ApiError$Body", name := "message", desc := "()Ljava/lang/String;" } : Jvm.MethodName) prog_48_method_6_code (1 : Nat) (Option.some (Jvm.ClassFile.FieldType.object "java/lang/String")), Jvm.Cond.code ({ cls := "com/example/ferryline/ferryline/server/ApiError", name := "status", desc := "()I" } : Jvm.MethodName) prog_47_method_2_code (1 : Nat) (Option.some Jvm.ClassFile.FieldType.int)]
set_option maxRecDepth 65536 in
theorem codes_eq : words1.filter isCode = codes1 := rfl
theorem w_codes : ∀ c ∈ words1.filter isCode, c.before args0 about1 = true := by
  rw [codes_eq]
  intro c hc
  simp only [codes1, List.mem_cons, List.not_mem_nil, or_false] at hc
  rcases hc with rfl | rfl | rfl | rfl | rfl | rfl | rfl | rfl | rfl | rfl | rfl | rfl | rfl | rfl | rfl | rfl | rfl | rfl | rfl | rfl | rfl | rfl
  · exact w_c0
  · exact w_c1
  · exact w_c2
  · exact w_c3
  · exact w_c4
  · exact w_c5
  · exact w_c6
  · exact w_c7
  · exact w_c8
  · exact w_c9
  · exact w_c10
  · exact w_c11
  · exact w_c12
  · exact w_c13
  · exact w_c14
  · exact w_c15
  · exact w_c16
  · exact w_c17
  · exact w_c18
  · exact w_c19
  · exact w_c20
  · exact w_c21
set_option maxRecDepth 65536 in
theorem w_t1 : (words1.take 24).all (fun c => isCode c || c.before args0 about1) = true := by decide +kernel
set_option maxRecDepth 65536 in
theorem w_t2 : ((words1.drop 24).take 24).all (fun c => isCode c || c.before args0 about1) = true := by decide +kernel
set_option maxRecDepth 65536 in
theorem w_t3 : (((words1.drop 24).drop 24).take 24).all (fun c => isCode c || c.before args0 about1) = true := by decide +kernel
set_option maxRecDepth 65536 in
theorem w_t4 : ((((words1.drop 24).drop 24).drop 24).take 24).all (fun c => isCode c || c.before args0 about1) = true := by decide +kernel
set_option maxRecDepth 65536 in
theorem w_t5 : (((((words1.drop 24).drop 24).drop 24).drop 24).take 24).all (fun c => isCode c || c.before args0 about1) = true := by decide +kernel
set_option maxRecDepth 65536 in
theorem w_t6 : ((((((words1.drop 24).drop 24).drop 24).drop 24).drop 24).take 24).all (fun c => isCode c || c.before args0 about1) = true := by decide +kernel
set_option maxRecDepth 65536 in
theorem w_t7 : ((((((words1.drop 24).drop 24).drop 24).drop 24).drop 24).drop 24).all (fun c => isCode c || c.before args0 about1) = true := by decide +kernel
theorem w_tables : (allAtoms (Jvm.Cond.code x code maxLocals ret :: tables_1)).before args0 about1 = true := by
  rw [allAtoms_all]
  show words1.all (fun c => c.before args0 about1) = true
  refine all_split ?_ w_codes
  rw [← List.take_append_drop 24 words1, List.all_append, w_t1, ← List.take_append_drop 24 (words1.drop 24), List.all_append, w_t2, ← List.take_append_drop 24 ((words1.drop 24).drop 24), List.all_append, w_t3, ← List.take_append_drop 24 (((words1.drop 24).drop 24).drop 24), List.all_append, w_t4, ← List.take_append_drop 24 ((((words1.drop 24).drop 24).drop 24).drop 24), List.all_append, w_t5, ← List.take_append_drop 24 (((((words1.drop 24).drop 24).drop 24).drop 24).drop 24), List.all_append, w_t6, w_t7]
  rfl
set_option maxRecDepth 65536 in
theorem w_rest : rest_1_c.before args0 about1 = true := by decide +kernel
set_option maxRecDepth 65536 in
theorem w_case : (Jvm.Cond.and given_1 narrow_1).before args0 about1 = true := by decide +kernel
set_option maxRecDepth 65536 in
theorem w_consts : constsHeld consts_1 about1 := Jvm.Lit.constsHeldB_iff.mp (by decide +kernel)
theorem w_applies : (headSpec (Jvm.Cond.code x code maxLocals ret :: tables_1) room_1).applies x e0.platform about1 = true :=
  (Spec.applies_iff w_frames).mpr ⟨w_running, w_runnable, w_alone, w_named, w_hears, w_ripe, w_room, w_tables⟩
theorem atStart : AtStart classFile x code maxLocals ret World_1 tables_1 room_1 Calls_1 rest_1 Pre_1 launch0 p0 e0 about1 theMethod args0 below0 :=
  ⟨lists_1, trivial, launch0.admits_env _ _ _, launch0.least_env, fairChoices_fair.cas, fairChoices_fair.clock, w_frames, w_args, w_heap, w_applies, ⟨(by decide +kernel : framesKnown about1 = true), ⟨(by decide +kernel : tablesKnown about1 = true), ⟨w_consts, trivial⟩⟩⟩, w_rest, w_case⟩
end start1
theorem witness_1 : WitnessClaimed_1 := ⟨start1.p0, start1.e0, start1.about1, start1.theMethod, start1.args0, start1.below0, start1.atStart⟩
end Jvm.Pilot.@@N@@
