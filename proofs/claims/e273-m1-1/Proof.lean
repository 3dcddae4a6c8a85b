import JvmDerived
import JvmDerived.Pilot.@@N@@Statement
import JvmDerived.Pilot.@@N@@Code
set_option linter.unusedVariables false
set_option linter.unusedSimpArgs false
@@BLOCK:TracedD.lean.txt@@
@@BLOCK:NumsL.lean.txt@@
namespace Jvm.RoadKit
open Sem ClassFile Op Lib Jvm.Stand Jvm.Free Jvm.LawKit
section New
variable {p : Program} {l : Launch} {e : Env} {R : Room} {s : State} {m : MethodId} {args : Array Value} {below : List Frame} {meth : Method} {c : Code} {T : State} {locs : List Loc} {cells slots : Nat}
theorem retI (X : Stand p l e R s m args below meth c T locs cells slots) (hx : p.tables.exec = Jvm.exec) {pc : Nat} {Ls : Array Slot} {z : Int32} {rest : List Value} (hret : meth.sig.returnType = some .int) (hd : decode c.code pc = .ok (.ireturn, 1)) {fs : List Frame}
    (hl : ∀ (f : JFrame) (acts : List Action), f.method = m → f.locked = none → f.entered = [] → (doReturn e (T.setTop f) acts (some (.int z))).1 = T.setFrames fs) : Steps p.tables e below (T.setTop (mkF m pc Ls (.int z :: rest))) (T.setFrames fs) := by
  have hm' : T.vm.method? m = some meth := X.method'
  have hn : narrow .int (.int z) = .int z := rfl
  show Steps p.tables e below (T.setTop { method := m, pc := pc, locals := Ls, stack := _ :: rest, locked := none }) _
  jvm_step X.here [X.here.top, hx, hd, hm', hret, hn]
  first | (intro acts; rw [hl _ acts rfl rfl rfl]) | rw [hl _ _ rfl rfl rfl]
  exact Steps.refl _
end New
end Jvm.RoadKit
namespace Jvm.Pilot.@@N@@
open Jvm Jvm.ClassFile Sem Op Lib Jvm.Free Jvm.Stand Jvm.LawKit Jvm.RoadKit Bundle Jvm.Pilot.@@N@@.Jvm.D
theorem wd {Z : State} {a0 : Array Value} (hw : ∀ d ∈ tables_1, d.before a0 Z = true) (i : Nat) {d : Jvm.Cond} (h : tables_1[i]? = some d) : d.before a0 Z = true := hw _ (List.mem_of_getElem? h)
abbrev jv (x : Int64) : Slot := .val (.long x)
/-- from A the run comes to an end that R speaks of -/
abbrev own_Go (tb : Tables) (e : Env) (below : List Frame) (A : State) (R : State → Outcome → Prop) : Prop := ∃ s₂ o, Steps tb e below A s₂ ∧ R s₂ o
theorem own_go {tb : Tables} {e : Env} {below : List Frame} {A : State} {R : State → Outcome → Prop} (h : own_Go tb e below A R) : ∃ s₂ o, Steps tb e below A s₂ ∧ R s₂ o := h
theorem own_lift {tb : Tables} {e : Env} {below : List Frame} {A B : State} {R : State → Outcome → Prop} (h : ∀ t, Steps tb e below A t → Steps tb e below B t) (k : own_Go tb e below A R) : own_Go tb e below B R := by
  obtain ⟨t, o, k1, k2⟩ := k
  exact ⟨t, o, h t k1, k2⟩
theorem own_plain {Z : State} {h : Heap} {a : Addr} {C : String} (F : Exa Z h a C) : ∃ c : Cell, h[a]? = some c ∧ c.vm.isStatics = false := by
  obtain ⟨c, _, h1, -, -, h4, -⟩ := F
  exact ⟨c, h1, h4⟩
theorem own_Arr_keep {Z : State} {h h' : Heap} {a : Addr} {c : Cell} {ty : FieldType} {ws : List Addr} (F : Arr Z h a c ty) (K : Keep h h' ws) (q : a ∉ ws) : Arr Z h' a c ty := ⟨K.2.1 a c F.1 q, F.2⟩
theorem own_asymm {a b : Int32} (h : a < b) : ¬ b < a := Int32.not_lt.mpr (Int32.le_of_lt h)
theorem own_Sta_keep {Z : State} {h h' : Heap} {C n d : String} {v : Value} {ws : List Addr} (F : Sta Z h C n d v) (K : Keep h h' ws) (q : ∀ x ∈ ws, ∃ c : Cell, h[x]? = some c ∧ c.vm.isStatics = false) : Sta Z h' C n d v := by
  obtain ⟨cf, i, k, f, st, cell, h1, h2, h3, h4, h5, h6, h7⟩ := F
  refine ⟨cf, i, k, f, st, cell, h1, h2, h3, h4, K.2.1 st cell h5 fun z => ?_, h6, h7⟩
  obtain ⟨c, g1, g2⟩ := q st z
  cases h5.symm.trans g1
  rw [h6] at g2
  cases g2
theorem own_monoW {s t : State} {o : Outcome} {L : List Loc} {k n k' n' : Nat} (h : ReturnedEndW s o t L k n) (hk : k ≤ k') (hn : n ≤ n') : ReturnedEndW s o t L k' n' := ⟨h.1, h.2.1, h.2.2.1, h.2.2.2.mono hk hn⟩
theorem own_nost {h : Heap} {ws : List Addr} (q : ∀ x ∈ ws, ∃ c : Cell, h[x]? = some c ∧ c.vm.isStatics = false) : ∀ x ∈ ws, ∀ cell : Cell, h[x]? = some cell → cell.vm.isStatics = false := fun x hx cell hc => by
  obtain ⟨c, h1, h2⟩ := q x hx
  cases h1.symm.trans hc
  exact h2
theorem own_strm : ∀ d ∈ Bundle.stringAtoms, d ∈ tables_1 := by decide +kernel
theorem own_strw {Z : State} {a0 : Array Value} (hw : ∀ d ∈ tables_1, d.before a0 Z = true) : ∀ d ∈ Bundle.stringAtoms, d.before a0 Z = true := fun d hd => hw d (own_strm d hd)
theorem own_fillB : jdk_78_method_18_code = LibCode.Throwable.Fill.code := by decide +kernel
/-- Throwable's tables, for the walk of fillInStackTrace -/
theorem own_thr {args : Array Value} {s : State} {pl : Platform} (p1 : pl.frameOwnsMonitors = true) (p2 : pl.finalization = false) (p3 : pl.magicAccessors = ({} : Platform).magicAccessors)
    (W : ∀ (i : Nat) {d : Jvm.Cond}, tables_1[i]? = some d → xOk d = true → d.before args s = true) :
    ∃ Q : ThrowableC, Q.Links pl s ∧ s.vm.findClass tN = some Q.cT ∧ s.methodNamed? tFill = some Q.fill ∧ s.methodNamed? tFill0 = some Q.fill0 ∧
      s.fieldFound? tN "stackTrace" steD = some (Q.cT, Q.kT, Q.i17, Q.fStack) ∧ Q.fStack.name = "stackTrace" ∧ Q.fStack.type = .array (.object "java/lang/StackTraceElement") ∧
      s.fieldFound? tN "UNASSIGNED_STACK" steD = some (Q.cT, Q.kT, Q.i13, Q.fUnassigned) := by
  obtain ⟨⟨cT, j0⟩, m0, n0, r0, nat0, code0, lock0, sig0⟩ := Cond.native_spec (x := tFill0) (W 46 rfl rfl)
  have fc : s.vm.findClass tN = some cT := findClass_of_methodNamed n0
  obtain ⟨kT, hk, knm⟩ := Vm.findClass_spec fc
  obtain ⟨_, kT', _, _, hk2, _, _, _, _, kface⟩ := Cond.superclass_spec fc (W 43 rfl rfl)
  cases hk.symm.trans hk2
  obtain ⟨j1, m1, n1, r1, at1, st1, ab1, -, -⟩ := Cond.ownMethod (x := tFill) fc hk (W 38 rfl rfl)
  obtain ⟨m1', c1, r1', cd1, by1, lo1, rt1, lk1, -, sg1⟩ := Cond.codeSync_spec n1 (W 44 rfl rfl)
  cases r1.symm.trans r1'
  obtain ⟨j0', m0', n0', r0', at0, st0, ab0, nm0, ds0⟩ := Cond.ownMethod (x := tFill0) fc hk (W 45 rfl rfl)
  cases n0.symm.trans n0'
  cases r0.symm.trans r0'
  obtain ⟨mo, m2, n2, r2, st2, ab2⟩ := Cond.instanceMethod_spec (x := oInit) (W 26 rfl rfl)
  obtain ⟨m2', c2, r2', cd2, by2, -, -, lk2, -, sg2⟩ := Cond.code_spec n2 (W 27 rfl rfl)
  cases r2.symm.trans r2'
  obtain ⟨k2, hk3, k2n⟩ := Vm.findClass_spec (findClass_of_methodNamed n2)
  obtain ⟨nm2, ds2⟩ := name_of_methodNamed n2 r2
  obtain ⟨a1, b1, cf, l1, g1, f1, q1⟩ := Cond.linkedMethod fc hk n2 (W 25 rfl rfl) pl p3
  obtain ⟨a2, b2, cf2, l2, g2, f2, q2⟩ := Cond.linkedMethod fc hk n1 (W 36 rfl rfl) pl p3
  cases f1.symm.trans f2
  obtain ⟨a3, b3, cf3, l3, g3, f3, q3⟩ := Cond.linkedMethod fc hk n0 (W 49 rfl rfl) pl p3
  cases f1.symm.trans f3
  obtain ⟨u7, i7, x7, v7, w7, y7, s7, z7, -, -, -⟩ := Cond.ownField (t := .object tN) fc hk (by decide +kernel) (W 28 rfl rfl) (W 50 rfl rfl) pl p3
  obtain ⟨u17, i17, x17, v17, w17, y17, s17, z17, nm17, ty17, ff17⟩ := Cond.ownField (t := .array (.object "java/lang/StackTraceElement")) fc hk (by decide +kernel) (W 31 rfl rfl) (W 51 rfl rfl) pl p3
  obtain ⟨u24, i24, x24, v24, w24, y24, s24, z24, nm24, -, ff24⟩ := Cond.ownField (t := .object "java/util/List") fc hk (by decide +kernel) (W 34 rfl rfl) (W 35 rfl rfl) pl p3
  obtain ⟨u13, i13, x13, aS, cS, v13, w13, y13, s13, -, -, sta, -, -, -, -, ff13⟩ := Cond.ownStatic (t := .array (.object "java/lang/StackTraceElement")) fc hk (by decide +kernel) (W 30 rfl rfl) (W 56 rfl rfl) pl p3
  obtain ⟨u20, i20, x20, _, _, v20, w20, y20, s20, -, -, -, -, -, -, -, -⟩ := Cond.ownStatic (t := .object "java/util/List") fc hk (by decide +kernel) (W 33 rfl rfl) (W 57 rfl rfl) pl p3
  obtain ⟨ci, ki, hci, hki, -⟩ := Cond.instantiable_spec (W 1 rfl rfl)
  obtain ⟨-, d17, hd17, hn17⟩ := Cond.laysAt hci hki ff17 (W 32 rfl rfl)
  obtain ⟨-, d24, hd24, hn24⟩ := Cond.laysAt hci hki ff24 (W 35 rfl rfl)
  have apart : x17.slot ≠ x24.slot := Cond.laysApart hd17 hd24 hn17 hn24 (by rw [nm17, nm24]; decide)
  have pF : m1.sig.parameters = [] := by
    have q : (parseMethodDescriptor tFill.desc).map (·.parameters) = some [] := by decide +kernel
    rw [sg1] at q; simpa using q
  have pN : m0.sig.parameters = [.int] := by
    have q : (parseMethodDescriptor tFill0.desc).map (·.parameters) = some [.int] := by decide +kernel
    rw [sig0] at q; simpa using q
  have pO : m2.sig.parameters.length = 0 := by
    have q : (parseMethodDescriptor oInit.desc).map (·.parameters.length) = some 0 := by decide +kernel
    rw [sg2] at q; simpa using q
  refine ⟨{ cT := cT, kT := kT, cO := cT, aS := aS, fillIdx := j1, fill0Idx := j0, initSIdx := j1, obj := mo, kObj := k2, methFill := m1, methFill0 := m0, methInitS := m1, methObj := m2, codeFill := c1, codeInitS := c1, codeObj := c2, fBack := x7, fDepth := x7, fStack := x17, fCause := x7, fSupp := x24, fMsg := x7, fUnassigned := x13, fSentinel := x20, cfT := cf, ci1 := a1, n1 := b1, ci27 := a2, n27 := b2, ci202 := a3, n202 := b3, ci7 := u7, i7 := i7, ci13 := u13, i13 := i13, ci17 := u17, i17 := i17, ci20 := u20, i20 := i20, ci24 := u24, i24 := i24 }, ?_, fc, n1, n0, ff17, nm17, ty17, ff13⟩
  constructor <;> first | assumption | rfl | exact Vm.findClass_boot fc hk | exact Cond.initialized_spec fc hk (W 23 rfl rfl) | exact by1.trans own_fillB | exact by2.trans (by decide +kernel) | (rw [ds2]; exact lookupSpecial_of_named n2 r2 st2)
/-- what is left as it was of a frame whose writes lie all in one object -/
theorem own_kept {p : Program} {l : Launch} {e : Env} {R : Room} {s : State} {m : MethodId} {args : Array Value} {below : List Frame} {meth : Method} {c : Code} {T : State} {locs : List Loc} {cells slots : Nat} (X : Stand p l e R s m args below meth c T locs cells slots) {a : Addr} (q : ∀ y ∈ locs, y.base = a) : Keep s.heap T.heap [a] := by
  obtain ⟨-, h1, -, -, -, h2⟩ := X.same
  refine ⟨h1, fun x cx hcx hne => ?_, fun x cx hcx => ?_⟩
  · obtain ⟨c', k1, k2, -, k4⟩ := h2 x cx hcx
    have e : c'.slots = cx.slots := Array.ext_getElem? fun i => k4 i fun hm => hne (by rw [List.mem_singleton]; exact q _ hm)
    rw [k2, e] at k1
    exact k1
  · obtain ⟨c', k1, k2, k3, -⟩ := h2 x cx hcx
    exact ⟨c', k1, by rw [k2], by rw [k2], k3⟩
theorem own_slot {Z : State} {C n d : String} {cf i : Nat} {k : Class} {f : Field} (h : Z.fieldFound? C n d = some (cf, k, i, f)) : Jvm.RoadKit.slotOf Z C n d = f.slot := by simp [Jvm.RoadKit.slotOf, h]
set_option maxHeartbeats 4000000 in
/-- fillInStackTrace() on an object of exactly this exception's class -/
theorem own_fill {p : Program} {l : Launch} {e : Env} {R : Room} {s : State} {m : MethodId} {args : Array Value} {below : List Frame} {meth : Method} {c : Code} {T : State} {locs : List Loc} {cells slots : Nat} {Z : State} {a0 : Array Value} {h : Heap}
    (X : Stand p l e R s m args below meth c T locs cells slots) (hx : p.tables.exec = Jvm.exec) (hl : l.stackTraces = true) (hZ : Z.Warmed39 s.vm) (hown : s.vm.findClass tN = some m.cls) (hw : ∀ d ∈ tables_1, d.before a0 Z = true) (hT0 : ThS Z s.heap)
    (hTK : s.vm.MethodsKnown) (hBelow : s.vm.FramesKnown below) (eT : T.heap = h) {a : Addr} (E : Exa Z h a "com/example/libprocgraph/libprocgraph/reader/InvalidModelException") (N : Unt h a) {u : Value} (hu : u.isRef = true) (S : Fld Z h a tN "stackTrace" steD u) (B : Fld Z h a tN "backtrace" Jvm.Free.Exc.obD .null) (U : Sta Z h tN "UNASSIGNED_STACK" steD u)
    (hloc : ∀ y ∈ locs, y.base = a) {g : JFrame} (hg : g.method = m) (hsize : g.locals.size = c.maxLocals) {rest : List Value} (hs : g.stack = .ref a :: rest) (hd : decode c.code g.pc = .ok (.invokevirtual 27, 3)) {w : Nat} (hwd : 2 * g.monitorRoom + (rest.map fun v => v.category).sum ≤ w)
    (hf : 2 < R.frames) (hlo : w + 42 ≤ R.locals) (hc : cells + 1 ≤ R.cells) (hsl : slots + 2752 ≤ R.slots) :
    ∃ (T' : State) (L : List Loc), Stand p l e R s m args below meth c T' (locs ++ L) (cells + 1) (slots + 2752) ∧ (∀ y ∈ L, y.base = a) ∧ Keep s.heap T'.heap [a] ∧ Exa Z T'.heap a "com/example/libprocgraph/libprocgraph/reader/InvalidModelException" ∧
      (∀ (O n d : String) (v : Value) (t : FieldType), Laid Z a0 "com/example/libprocgraph/libprocgraph/reader/InvalidModelException" O n d → parseFieldDescriptor d = some t → n ≠ "backtrace" → n ≠ "depth" → n ≠ "stackTrace" → Fld Z h a O n d v → Fld Z T'.heap a O n d v) ∧
      ∀ target, Steps p.tables e below (T'.setTop { g with pc := g.pc + 3, stack := .ref a :: rest }) target → Steps p.tables e below (T.setTop g) target := by
  have htr : e.platform.stackTraces = true := by rw [X.admits.platform]; exact hl
  have W : ∀ (i : Nat) {d : Jvm.Cond}, tables_1[i]? = some d → xOk d = true → d.before args s = true := fun i d h1 h2 => mvX hT0 hZ h2 (hw d (List.mem_of_getElem? h1))
  obtain ⟨Q, L, qf, qn, qn0, qs, qsn, qst, qu⟩ := own_thr (pl := e.platform) (by rw [X.admits.platform]) (by rw [X.admits.platform]) (by rw [X.admits.platform]) W
  obtain ⟨cell, kX, e1, e2, e3, e4, e5⟩ := id E
  obtain ⟨_, n1, n2, n3⟩ := N
  cases e1.symm.trans n1
  obtain ⟨ci, ki, hci, hki, hord, -, -, -⟩ := Cond.instantiable_spec (W 1 rfl rfl)
  have hfs : s.vm.findClass "com/example/libprocgraph/libprocgraph/reader/InvalidModelException" = some cell.cls := by rw [hZ.alike.findClass]; exact e2
  cases hci.symm.trans hfs
  obtain ⟨k', hk', hek⟩ := hZ.alike.2.2 _ _ e3
  cases hki.symm.trans hk'
  have hsz : cell.slots.size = ki.instanceTypes.size := by rw [hek]; exact e5 (by rw [hek] at hord; exact hord)
  -- the slots that are read
  obtain ⟨_, cfS, kS, iS, fS, s1, s2, s3, s4, s5, s6, s7⟩ := S
  cases e1.symm.trans s1
  obtain ⟨kS', s2', -⟩ := State.fieldFound?_setVm hZ.alike s2
  have sS : fS = Q.fStack := by have q := Option.some.inj (s2'.symm.trans qs); simp only [Prod.mk.injEq] at q; exact q.2.2.2
  subst sS
  obtain ⟨_, cfB, kB, iB, fB, b1, b2, b3, b4, b5, b6, b7⟩ := B
  cases e1.symm.trans b1
  obtain ⟨kB', b2', -⟩ := State.fieldFound?_setVm hZ.alike b2
  obtain ⟨ci198, i198, fB', k198, g198, a198, sB, -, nB, tB, ffB⟩ := Cond.ownField (t := .object "java/lang/Object") qf L.cls (by decide +kernel) (W 54 rfl rfl) (W 55 rfl rfl) e.platform (by rw [X.admits.platform])
  have sB' : fB = fB' := by have q := Option.some.inj (b2'.symm.trans ffB); simp only [Prod.mk.injEq] at q; exact q.2.2.2
  subst sB'
  obtain ⟨_, _, cD, kD, iD, fD, -, -, ffD, stD, -, -, -, -⟩ := Cond.lays_spec (W 61 rfl rfl)
  have eD := Cond.lays_declared (W 61 rfl rfl) ffD
  obtain ⟨hkD, atD⟩ := State.fieldFound?_spec ffD
  cases Option.some.inj (eD.symm.trans qf)
  cases Option.some.inj (hkD.symm.trans L.cls)
  obtain ⟨nD, tD⟩ := State.fieldFound?_type ffD (t := .int) (by decide +kernel)
  have hfb := Cond.soleField_find qf L.cls (W 41 rfl rfl) a198 nB sB
  have hfd := Cond.soleField_find qf L.cls (W 42 rfl rfl) atD nD stD
  obtain ⟨comp, cO, kO, -, -, hkO, hkindO, hO⟩ := Cond.arrayOver_spec (W 40 rfl rfl)
  obtain ⟨tyS, -⟩ := Cond.laysAt hfs hki qs (W 32 rfl rfl)
  obtain ⟨tyB, -⟩ := Cond.laysAt hfs hki ffB (W 60 rfl rfl)
  obtain ⟨tyD, -⟩ := Cond.laysAt hfs hki ffD (W 61 rfl rfl)
  have tk : ∀ {f : Field} {v : Value}, ki.instanceTypes[f.slot]? = some f.type → fits f.type v = true → Jvm.Takes s cell f v := fun {f v} h1 h2 => by
    obtain ⟨q1, q2⟩ := Takes.of_laid (v := v) hki hord h1 h2
    exact ⟨by rw [hsz]; simpa using q1, by rw [n2]; exact q2⟩
  -- the static
  obtain ⟨cfU, iU, kU, fU, stU, cellS, u1, u2, u3, u4, u5, u6, u7⟩ := U
  obtain ⟨kU', u1', hekU⟩ := State.fieldFound?_setVm hZ.alike u1
  have qU := Option.some.inj (u1'.symm.trans qu)
  simp only [Prod.mk.injEq] at qU
  obtain ⟨-, rfl, -, rfl⟩ := qU
  have eS : stU = Q.aS := by
    have q := L.statics
    rw [hekU] at q
    exact Option.some.inj (u4.symm.trans q)
  subst eS
  have hneS : Q.aS ≠ a := fun z => by
    rw [z] at u5
    cases u5.symm.trans e1
    rw [n2] at u6; cases u6
  have hknS : cellS.vm ≠ .unknown := fun z => by rw [z] at u6; cases u6
  have hsel0 : selectMethod e.platform s.vm cell.cls Q.fill0 = .method Q.fill0 := by
    obtain ⟨c2, r2, m2, q1, q2, q3, q4, -⟩ := Cond.selects_spec (W 58 rfl rfl)
    cases Option.some.inj (q1.symm.trans hfs)
    cases Option.some.inj (q2.symm.trans (State.methodFound?_of_named qn0 (by decide)))
    cases Option.some.inj (q3.symm.trans qn0)
    rw [Launch.admits_selectMethod X.admits]; exact q4
  have hSE := W 39 rfl rfl
  have hcell : T.heap[a]? = some cell := by rw [eT]; exact e1
  obtain ⟨v6, vm6, ⟨T6, L6, c6, k6⟩, hW6, X6, ⟨hv6, C6, n, hn, hD6, q1, q2, q3, q4, hL6, hc6, hn6⟩, come⟩ := X.virtualBack hx (own := tN) (C := "com/example/libprocgraph/libprocgraph/reader/InvalidModelException") (index := 27) (y := tFill) (z := tFill) hown (W 36 rfl rfl) (W 37 rfl rfl) (notFace_of_selects hSE) hSE (W 38 rfl rfl) (by decide)
    (Jvm.Free.Exc.fillPaysAny (l := l) (W := w) hx htr Q L qn (u0 := ⟨u, hu⟩) (self := a) (cell := cell) (cellS := cellS) (fun _ => by rw [n2]; simp) (by rw [n2]; simp) (by rw [n3]) (by rw [n3]) s7 hsel0 hneS hknS u7 (tk tyS (by rw [qst]; exact fits_refV_array _ ⟨u, hu⟩))
      ⟨{ ci198 := ci198, i198 := i198, fBack := fB }, ⟨k198, g198, a198, sB⟩, b7⟩ hTK hBelow qf hO hkO hkindO hfb hfd (fun x => tk tyB (by rw [tB]; rfl)) (fun x => tk tyD (by rw [tD]; rfl)) hf hlo)
    (b := a) (cB := cell.cls) hfs ⟨cell, hcell, rfl, by rw [n2]; rfl⟩ hg hsize (Steps.refl _) (argsL := []) (rest := rest)
    (fun sig z => by rw [show parseMethodDescriptor tFill.desc = some ⟨[], some (.object tN)⟩ from by decide +kernel] at z; rw [← Option.some.inj z]; rfl) hs hwd hd
    (fun vmx hWx => ⟨rfl, hc, hsl, hcell, by show T.heap[_]? = _; rw [eT]; exact u5⟩)
  dsimp only [Pt.U, Pt.locs, Pt.cells, Pt.slots] at X6 hD6 hL6 hc6 hn6 come
  subst hv6 hL6 hc6 hn6
  have hb : ∀ y ∈ [(⟨a, fB.slot⟩ : Loc), ⟨a, fD.slot⟩, ⟨a, Q.fStack.slot⟩], y.base = a := by simp
  refine ⟨T6, _, X6.more (Nat.le_refl _) (Nat.add_le_add_left hn _), hb, own_kept X6 fun y hy => ?_, ⟨C6, kX, hD6, by rw [q1]; exact e2, by rw [q1]; exact e3, by rw [q2]; exact e4, fun z => q3.trans (e5 z)⟩, fun O nm d v t Lf ht h1 h2 h3 F => ?_, fun target z => come.trans z⟩
  · rcases List.mem_append.mp hy with z | z
    · exact hloc y z
    · exact hb y z
  · obtain ⟨_, cf, k, i, f, f1, f2, f3, f4, f5, f6, f7⟩ := F
    cases e1.symm.trans f1
    obtain ⟨cD2, kD2, iD2, ffD2⟩ := Jvm.Free.BdW.found_ride (U := s) (U' := Z) hZ.alike.symm ⟨_, _, _, ffD⟩
    have w1 : f.slot ≠ fB.slot := by rw [← own_slot f2, ← own_slot b2]; exact slot_ne Lf (Or.inl (hw _ (List.mem_of_getElem? (i := 60) rfl))) h1 ht (t' := .object "java/lang/Object") (by decide +kernel)
    have w2 : f.slot ≠ fD.slot := by rw [← own_slot f2, ← own_slot ffD2]; exact slot_ne Lf (Or.inl (hw _ (List.mem_of_getElem? (i := 61) rfl))) h2 ht (t' := .int) (by decide +kernel)
    have w3 : f.slot ≠ Q.fStack.slot := by rw [← own_slot f2, ← own_slot s2]; exact slot_ne Lf (Or.inl (hw _ (List.mem_of_getElem? (i := 32) rfl))) h3 ht (t' := .array (.object "java/lang/StackTraceElement")) (by decide +kernel)
    exact ⟨C6, cf, k, i, f, hD6, f2, f3, by rw [q2]; exact f4, by rw [q2]; exact f5, by rw [q1]; exact f6, (q4 _ w1 w2 w3).trans f7⟩
def own_key (l c : Int32) : Int64 := ((l.toInt64) <<< ((32 : Int32) &&& 0x3f).toInt64) + ((c.toInt64) + (2147483648 : Int64))
theorem own_key_int (l c : Int32) : (own_key l c).toInt = l.toInt * 4294967296 + c.toInt + 2147483648 := by
  have i1 := Jvm.Kit.i64_of_i32 l
  have i2 := Jvm.Kit.i64_of_i32 c
  have r1 := rng32 l
  have r2 := rng32 c
  have e : (2147483648 : Int64).toInt = 2147483648 := rfl
  have s1 : ((l.toInt64) <<< ((32 : Int32) &&& 0x3f).toInt64).toInt = l.toInt64.toInt * 2 ^ 32 := Jvm.Kit.i64_shl _ _ (by decide) (by omega) (by omega)
  have s2 : ((c.toInt64) + (2147483648 : Int64)).toInt = c.toInt64.toInt + (2147483648 : Int64).toInt := Jvm.Kit.i64_add (by omega) (by omega)
  have s3 : (own_key l c).toInt = ((l.toInt64) <<< ((32 : Int32) &&& 0x3f).toInt64).toInt + ((c.toInt64) + (2147483648 : Int64)).toInt := Jvm.Kit.i64_add (by omega) (by omega)
  omega
theorem own_cases (p0 p1 y0 y1 : Int32) : (p0 < y0 ∧ ¬ (y0 < p0) ∧ ¬ (p0 = y0) ∧ (own_key p0 p1) < (own_key y0 y1) ∧ ¬ ((own_key y0 y1) < (own_key p0 p1))) ∨ (¬ (p0 < y0) ∧ ¬ (y0 < p0) ∧ p0 = y0 ∧ p1 < y1 ∧ ¬ (y1 < p1) ∧ (own_key p0 p1) < (own_key y0 y1) ∧ ¬ ((own_key y0 y1) < (own_key p0 p1))) ∨ (¬ (p0 < y0) ∧ ¬ (y0 < p0) ∧ p0 = y0 ∧ ¬ (p1 < y1) ∧ ¬ (y1 < p1) ∧ ¬ ((own_key p0 p1) < (own_key y0 y1)) ∧ ¬ ((own_key y0 y1) < (own_key p0 p1))) ∨ (¬ (p0 < y0) ∧ ¬ (y0 < p0) ∧ p0 = y0 ∧ ¬ (p1 < y1) ∧ y1 < p1 ∧ ¬ ((own_key p0 p1) < (own_key y0 y1)) ∧ (own_key y0 y1) < (own_key p0 p1)) ∨ (¬ (p0 < y0) ∧ y0 < p0 ∧ ¬ (p0 = y0) ∧ ¬ ((own_key p0 p1) < (own_key y0 y1)) ∧ (own_key y0 y1) < (own_key p0 p1)) := by
  have k1 := own_key_int p0 p1
  have k2 := own_key_int y0 y1
  have r1 := rng32 p0
  have r2 := rng32 p1
  have r3 := rng32 y0
  have r4 := rng32 y1
  simp only [Int32.lt_iff_toInt_lt, Int64.lt_iff_toInt_lt, ← Int32.toInt_inj, k1, k2]
  clear k1 k2
  omega
theorem pn_0 : plainName "java/lang/Throwable" = true := by first | (simp [plainName, overriddenIn]; done) | decide +kernel
theorem d1_0 : decode jdk_78_method_2_code 0 = .ok (.aload_n 0, 1) := by decide +kernel
theorem d1_1 : decode jdk_78_method_2_code 1 = .ok (.invokespecial 1, 3) := by decide +kernel
theorem d1_4 : decode jdk_78_method_2_code 4 = .ok (.aload_n 0, 1) := by decide +kernel
theorem d1_5 : decode jdk_78_method_2_code 5 = .ok (.aload_n 0, 1) := by decide +kernel
theorem d1_6 : decode jdk_78_method_2_code 6 = .ok (.putfield 7, 3) := by decide +kernel
theorem d1_9 : decode jdk_78_method_2_code 9 = .ok (.aload_n 0, 1) := by decide +kernel
theorem d1_10 : decode jdk_78_method_2_code 10 = .ok (.getstatic 13, 3) := by decide +kernel
theorem d1_13 : decode jdk_78_method_2_code 13 = .ok (.putfield 17, 3) := by decide +kernel
theorem d1_16 : decode jdk_78_method_2_code 16 = .ok (.aload_n 0, 1) := by decide +kernel
theorem d1_17 : decode jdk_78_method_2_code 17 = .ok (.getstatic 20, 3) := by decide +kernel
theorem d1_20 : decode jdk_78_method_2_code 20 = .ok (.putfield 24, 3) := by decide +kernel
theorem d1_23 : decode jdk_78_method_2_code 23 = .ok (.aload_n 0, 1) := by decide +kernel
theorem d1_24 : decode jdk_78_method_2_code 24 = .ok (.invokevirtual 27, 3) := by decide +kernel
theorem d1_27 : decode jdk_78_method_2_code 27 = .ok (.pop, 1) := by decide +kernel
theorem d1_28 : decode jdk_78_method_2_code 28 = .ok (.aload_n 0, 1) := by decide +kernel
theorem d1_29 : decode jdk_78_method_2_code 29 = .ok (.aload_n 1, 1) := by decide +kernel
theorem d1_30 : decode jdk_78_method_2_code 30 = .ok (.putfield 31, 3) := by decide +kernel
theorem d1_33 : decode jdk_78_method_2_code 33 = .ok (.return_, 1) := by decide +kernel
def Q_rmThr (Z : State) (a1 : Addr) (t3 : Addr) (u1 : Value) (u2 : Value) (h0 : Heap) (n0 : Nat) (v : Option Value) (h : Heap) (L : List Loc) : Prop := v = none ∧ Fr n0 L ∧ Keep h0 h [a1] ∧ Exa Z h a1 "com/example/libprocgraph/libprocgraph/reader/InvalidModelException" ∧ Fld Z h a1 "com/example/libprocgraph/libprocgraph/reader/InvalidModelException" "line" "I" (.int 0) ∧ Fld Z h a1 "com/example/libprocgraph/libprocgraph/reader/InvalidModelException" "column" "I" (.int 0)
theorem ef_rmThr (m : MethodId) (x0 : Addr) (x1 : Addr) : entryFrame m #[(.ref x0), (.ref x1)] 2 = mkF m 0 #[.val (.ref x0), .val (.ref x1)] [] := by first | (simp [entryFrame, mkF, argsToLocals, Value.category]; done) | rfl
set_option maxRecDepth 65536 in
set_option maxHeartbeats 40000000 in
theorem rmThr (l : Launch) (Z : State) (a0 : Array Value) (hw : ∀ d ∈ tables_1, d.before a0 Z = true) (ws : List Jvm.Cond) (a1 : Addr) (t3 : Addr) (u1 : Value) (u2 : Value) (h0 : Heap) (n0 : Nat) (Z0 : n0 ≤ h0.size) (E1 : Exa Z h0 a1 "com/example/libprocgraph/libprocgraph/reader/InvalidModelException") (U1 : Unt h0 a1) (TS : ThS Z h0) (Ft0 : Fld Z h0 a1 "java/lang/Throwable" "cause" "Ljava/lang/Throwable;" .null) (Ft1 : Fld Z h0 a1 "java/lang/Throwable" "stackTrace" "[Ljava/lang/StackTraceElement;" .null) (Ft2 : Fld Z h0 a1 "java/lang/Throwable" "suppressedExceptions" "Ljava/util/List;" .null) (Ft3 : Fld Z h0 a1 "java/lang/Throwable" "backtrace" "Ljava/lang/Object;" .null) (Ft4 : Fld Z h0 a1 "java/lang/Throwable" "detailMessage" "Ljava/lang/String;" .null) (F1 : Fld Z h0 a1 "com/example/libprocgraph/libprocgraph/reader/InvalidModelException" "line" "I" (.int 0)) (F2 : Fld Z h0 a1 "com/example/libprocgraph/libprocgraph/reader/InvalidModelException" "column" "I" (.int 0)) (G1 : n0 ≤ a1) (Su1 : Sta Z h0 "java/lang/Throwable" "UNASSIGNED_STACK" "[Ljava/lang/StackTraceElement;" u1) (Su2 : Sta Z h0 "java/lang/Throwable" "SUPPRESSED_SENTINEL" "Ljava/util/List;" u2) (hl : l.stackTraces = true) (P_u1 : u1.isRef = true) (P_u2 : u2.isRef = true) :
    MetFree l (⟨"java/lang/Throwable", "<init>", "(Ljava/lang/String;)V"⟩ : MethodName) (head1 (Jvm.Cond.code (⟨"java/lang/Throwable", "<init>", "(Ljava/lang/String;)V"⟩ : MethodName) jdk_78_method_2_code 2 none :: ws) ({ frames := 3, cells := 1, slots := 2752, locals := 42 } : Room)) (fun a U => a = #[(.ref a1), (.ref t3)] ∧ Z.Warmed39 U.vm ∧ U.heap = h0) (fun _ _ bl s _ => s.vm.MethodsKnown ∧ s.vm.FramesKnown bl) (fun _ U o U' => ∃ v L, o = .returned v ∧ Q_rmThr Z a1 t3 u1 u2 h0 n0 v U'.heap L ∧ FrameEnd U o U' L ({ frames := 3, cells := 1, slots := 2752, locals := 42 } : Room).cells ({ frames := 3, cells := 1, slots := 2752, locals := 42 } : Room).slots) := by
  refine MetFree.of_bodySF (plainFor_of_name pn_0) hisR ?_
  intro p e s m args below meth c s₁ Bd hml0 hP hK
  obtain ⟨rfl, hZ, hh⟩ := hP
  have hx := Bd.exec
  have hby := Bd.bytes
  have hml : c.maxLocals = 2 := hml0
  have hown : s.vm.findClass "java/lang/Throwable" = some m.cls := findClass_of_methodNamed Bd.named
  have hnm := (name_of_methodNamed Bd.named Bd.method).1
  have X0 : Stand p l e ({ frames := 3, cells := 1, slots := 2752, locals := 42 } : Room) s m #[(.ref a1), (.ref t3)] below meth c s₁ [] 0 0 := Stand.of_body Bd
  have e0 : s₁.heap = h0 := by rw [← hh, Bd.state]; rfl
  have N0 := Fr.nil n0
  have hTK := hK.1
  have hBelow := hK.2
  refine own_go (own_lift (fun t k => castTop (ef_rmThr m a1 t3) k) ?_)
  show own_Go p.tables e below (s₁.setTop (mkF m 0 #[rv a1, rv t3] [])) _
  have sg1 : ∀ t, Steps p.tables e below (s₁.setTop (mkF m 1 #[rv a1, rv t3] [(.ref a1)])) t → Steps p.tables e below (s₁.setTop (mkF m 0 #[rv a1, rv t3] [])) t := by
    intro t k
    refine XS.aloadN X0.here hx rfl (hb hby d1_0) rfl rfl ?_
    show Steps p.tables e below (s₁.setTop (mkF m 1 #[rv a1, rv t3] [(.ref a1)])) _
    exact k
  refine own_lift sg1 ?_
  show own_Go p.tables e below (s₁.setTop (mkF m 1 #[rv a1, rv t3] [(.ref a1)])) _
  obtain ⟨T2, X2, e2, st2⟩ := initO X0 hx hZ hown (wd hw 25 rfl) (wd hw 26 rfl) (wd hw 27 rfl) e0 (g := (mkF m 1 #[rv a1, rv t3] [(.ref a1)])) rfl (by rw [hml]; rfl) rfl (hb hby d1_1) (by decide) (W := 0) (by show 2 * 0 + _ ≤ _; exact Nat.le_of_eq rfl) (by decide)
  refine own_lift st2 ?_
  show own_Go p.tables e below (T2.setTop (mkF m 4 #[rv a1, rv t3] [])) _
  have sg3 : ∀ t, Steps p.tables e below (T2.setTop (mkF m 6 #[rv a1, rv t3] [(.ref a1), (.ref a1)])) t → Steps p.tables e below (T2.setTop (mkF m 4 #[rv a1, rv t3] [])) t := by
    intro t k
    refine XS.aloadN X2.here hx rfl (hb hby d1_4) rfl rfl ?_
    show Steps p.tables e below (T2.setTop (mkF m 5 #[rv a1, rv t3] [(.ref a1)])) _
    refine XS.aloadN X2.here hx rfl (hb hby d1_5) rfl rfl ?_
    show Steps p.tables e below (T2.setTop (mkF m 6 #[rv a1, rv t3] [(.ref a1), (.ref a1)])) _
    exact k
  refine own_lift sg3 ?_
  show own_Go p.tables e below (T2.setTop (mkF m 6 #[rv a1, rv t3] [(.ref a1), (.ref a1)])) _
  obtain ⟨T4, h4, X4, e4, W4, st4⟩ := putF X2 hx hZ hown (host := "") (Or.inl (wd hw 28 rfl)) Via.refl e2 Ft0 E1 (Or.inl (wd hw 29 rfl)) (wd hw 1 rfl) (ty := (.object "java/lang/Throwable")) (by decide) rfl rfl (g := (mkF m 6 #[rv a1, rv t3] [(.ref a1), (.ref a1)])) rfl rfl (hb hby d1_6)
  have N4 := Fr.snoc X4 N0 G1
  have Z4 : n0 ≤ h4.size := Nat.le_trans Z0 (Nat.le_of_eq W4.size.symm)
  have K4 : Keep h0 h4 [a1] := (Keep.refl h0 [a1]).wr W4 (Or.inl (List.mem_of_getElem? (i := 0) rfl))
  have Fw4 : Fld Z h4 a1 "java/lang/Throwable" "cause" "Ljava/lang/Throwable;" (.ref a1) := Ft0.same W4
  refine own_lift st4 ?_
  show own_Go p.tables e below (T4.setTop (mkF m 9 #[rv a1, rv t3] [])) _
  have sg5 : ∀ t, Steps p.tables e below (T4.setTop (mkF m 10 #[rv a1, rv t3] [(.ref a1)])) t → Steps p.tables e below (T4.setTop (mkF m 9 #[rv a1, rv t3] [])) t := by
    intro t k
    refine XS.aloadN X4.here hx rfl (hb hby d1_9) rfl rfl ?_
    show Steps p.tables e below (T4.setTop (mkF m 10 #[rv a1, rv t3] [(.ref a1)])) _
    exact k
  refine own_lift sg5 ?_
  show own_Go p.tables e below (T4.setTop (mkF m 10 #[rv a1, rv t3] [(.ref a1)])) _
  have Fc6 : Sta Z h4 "java/lang/Throwable" "UNASSIGNED_STACK" "[Ljava/lang/StackTraceElement;" u1 := (Su1.wr W4)
  obtain ⟨T7, X7, e7, st7⟩ := getS X4 hx hZ hown (host := "") (wd hw 30 rfl) Via.refl e4 Fc6 (g := (mkF m 10 #[rv a1, rv t3] [(.ref a1)])) rfl (hb hby d1_10)
  refine own_lift st7 ?_
  show own_Go p.tables e below (T7.setTop (mkF m 13 #[rv a1, rv t3] [u1, (.ref a1)])) _
  have Fc8 : Fld Z h4 a1 "java/lang/Throwable" "stackTrace" "[Ljava/lang/StackTraceElement;" .null := (Ft1.other W4 (Or.inr (slot_ne (Or.inl (wd hw 32 rfl)) (Or.inl (wd hw 29 rfl)) (by decide) (t := (.array (.object "java/lang/StackTraceElement"))) (t' := (.object "java/lang/Throwable")) (by decide) (by decide))))
  have Fc9 : Exa Z h4 a1 "com/example/libprocgraph/libprocgraph/reader/InvalidModelException" := (E1.wr W4)
  obtain ⟨T10, h10, X10, e10, W10, st10⟩ := putF X7 hx hZ hown (host := "") (Or.inl (wd hw 31 rfl)) Via.refl e7 Fc8 Fc9 (Or.inl (wd hw 32 rfl)) (wd hw 1 rfl) (ty := (.array (.object "java/lang/StackTraceElement"))) (by decide) (narrow_isRef _ P_u1) (fits_refV_array _ ⟨u1, P_u1⟩) (g := (mkF m 13 #[rv a1, rv t3] [u1, (.ref a1)])) rfl rfl (hb hby d1_13)
  have N10 := Fr.snoc X10 N4 G1
  have Z10 : n0 ≤ h10.size := Nat.le_trans Z4 (Nat.le_of_eq W10.size.symm)
  have K10 : Keep h0 h10 [a1] := K4.wr W10 (Or.inl (List.mem_of_getElem? (i := 0) rfl))
  have Fw10 : Fld Z h10 a1 "java/lang/Throwable" "stackTrace" "[Ljava/lang/StackTraceElement;" u1 := Fc8.same W10
  refine own_lift st10 ?_
  show own_Go p.tables e below (T10.setTop (mkF m 16 #[rv a1, rv t3] [])) _
  have sg11 : ∀ t, Steps p.tables e below (T10.setTop (mkF m 17 #[rv a1, rv t3] [(.ref a1)])) t → Steps p.tables e below (T10.setTop (mkF m 16 #[rv a1, rv t3] [])) t := by
    intro t k
    refine XS.aloadN X10.here hx rfl (hb hby d1_16) rfl rfl ?_
    show Steps p.tables e below (T10.setTop (mkF m 17 #[rv a1, rv t3] [(.ref a1)])) _
    exact k
  refine own_lift sg11 ?_
  show own_Go p.tables e below (T10.setTop (mkF m 17 #[rv a1, rv t3] [(.ref a1)])) _
  have Fc12 : Sta Z h10 "java/lang/Throwable" "SUPPRESSED_SENTINEL" "Ljava/util/List;" u2 := ((Su2.wr W4).wr W10)
  obtain ⟨T13, X13, e13, st13⟩ := getS X10 hx hZ hown (host := "") (wd hw 33 rfl) Via.refl e10 Fc12 (g := (mkF m 17 #[rv a1, rv t3] [(.ref a1)])) rfl (hb hby d1_17)
  refine own_lift st13 ?_
  show own_Go p.tables e below (T13.setTop (mkF m 20 #[rv a1, rv t3] [u2, (.ref a1)])) _
  have Fc14 : Fld Z h10 a1 "java/lang/Throwable" "suppressedExceptions" "Ljava/util/List;" .null := ((Ft2.other W4 (Or.inr (slot_ne (Or.inl (wd hw 35 rfl)) (Or.inl (wd hw 29 rfl)) (by decide) (t := (.object "java/util/List")) (t' := (.object "java/lang/Throwable")) (by decide) (by decide)))).other W10 (Or.inr (slot_ne (Or.inl (wd hw 35 rfl)) (Or.inl (wd hw 32 rfl)) (by decide) (t := (.object "java/util/List")) (t' := (.array (.object "java/lang/StackTraceElement"))) (by decide) (by decide))))
  have Fc15 : Exa Z h10 a1 "com/example/libprocgraph/libprocgraph/reader/InvalidModelException" := (Fc9.wr W10)
  obtain ⟨T16, h16, X16, e16, W16, st16⟩ := putF X13 hx hZ hown (host := "") (Or.inl (wd hw 34 rfl)) Via.refl e13 Fc14 Fc15 (Or.inl (wd hw 35 rfl)) (wd hw 1 rfl) (ty := (.object "java/util/List")) (by decide) (narrow_isRef _ P_u2) (fits_refV_object _ ⟨u2, P_u2⟩) (g := (mkF m 20 #[rv a1, rv t3] [u2, (.ref a1)])) rfl rfl (hb hby d1_20)
  have N16 := Fr.snoc X16 N10 G1
  have Z16 : n0 ≤ h16.size := Nat.le_trans Z10 (Nat.le_of_eq W16.size.symm)
  have K16 : Keep h0 h16 [a1] := K10.wr W16 (Or.inl (List.mem_of_getElem? (i := 0) rfl))
  have Fw16 : Fld Z h16 a1 "java/lang/Throwable" "suppressedExceptions" "Ljava/util/List;" u2 := Fc14.same W16
  refine own_lift st16 ?_
  show own_Go p.tables e below (T16.setTop (mkF m 23 #[rv a1, rv t3] [])) _
  have sg17 : ∀ t, Steps p.tables e below (T16.setTop (mkF m 24 #[rv a1, rv t3] [(.ref a1)])) t → Steps p.tables e below (T16.setTop (mkF m 23 #[rv a1, rv t3] [])) t := by
    intro t k
    refine XS.aloadN X16.here hx rfl (hb hby d1_23) rfl rfl ?_
    show Steps p.tables e below (T16.setTop (mkF m 24 #[rv a1, rv t3] [(.ref a1)])) _
    exact k
  refine own_lift sg17 ?_
  show own_Go p.tables e below (T16.setTop (mkF m 24 #[rv a1, rv t3] [(.ref a1)])) _
  have Fc18 : Exa Z h16 a1 "com/example/libprocgraph/libprocgraph/reader/InvalidModelException" := (Fc15.wr W16)
  have Fc19 : Unt h16 a1 := (((U1.wr W4).wr W10).wr W16)
  have Fc20 : Fld Z h16 a1 "java/lang/Throwable" "stackTrace" "[Ljava/lang/StackTraceElement;" u1 := (Fw10.other W16 (Or.inr (slot_ne (Or.inl (wd hw 32 rfl)) (Or.inl (wd hw 35 rfl)) (by decide) (t := (.array (.object "java/lang/StackTraceElement"))) (t' := (.object "java/util/List")) (by decide) (by decide))))
  have Fc21 : Fld Z h16 a1 "java/lang/Throwable" "backtrace" "Ljava/lang/Object;" .null := (((Ft3.other W4 (Or.inr (slot_ne (Or.inl (wd hw 60 rfl)) (Or.inl (wd hw 29 rfl)) (by decide) (t := (.object "java/lang/Object")) (t' := (.object "java/lang/Throwable")) (by decide) (by decide)))).other W10 (Or.inr (slot_ne (Or.inl (wd hw 60 rfl)) (Or.inl (wd hw 32 rfl)) (by decide) (t := (.object "java/lang/Object")) (t' := (.array (.object "java/lang/StackTraceElement"))) (by decide) (by decide)))).other W16 (Or.inr (slot_ne (Or.inl (wd hw 60 rfl)) (Or.inl (wd hw 35 rfl)) (by decide) (t := (.object "java/lang/Object")) (t' := (.object "java/util/List")) (by decide) (by decide))))
  have Fc22 : Sta Z h16 "java/lang/Throwable" "UNASSIGNED_STACK" "[Ljava/lang/StackTraceElement;" u1 := ((Fc6.wr W10).wr W16)
  have Fc23 : Fld Z h16 a1 "com/example/libprocgraph/libprocgraph/reader/InvalidModelException" "line" "I" (.int 0) := (((F1.other W4 (Or.inr (slot_ne (Or.inr (wd hw 65 rfl)) (Or.inl (wd hw 29 rfl)) (by decide) (t := .int) (t' := (.object "java/lang/Throwable")) (by decide) (by decide)))).other W10 (Or.inr (slot_ne (Or.inr (wd hw 65 rfl)) (Or.inl (wd hw 32 rfl)) (by decide) (t := .int) (t' := (.array (.object "java/lang/StackTraceElement"))) (by decide) (by decide)))).other W16 (Or.inr (slot_ne (Or.inr (wd hw 65 rfl)) (Or.inl (wd hw 35 rfl)) (by decide) (t := .int) (t' := (.object "java/util/List")) (by decide) (by decide))))
  have Fc24 : Fld Z h16 a1 "com/example/libprocgraph/libprocgraph/reader/InvalidModelException" "column" "I" (.int 0) := (((F2.other W4 (Or.inr (slot_ne (Or.inr (wd hw 67 rfl)) (Or.inl (wd hw 29 rfl)) (by decide) (t := .int) (t' := (.object "java/lang/Throwable")) (by decide) (by decide)))).other W10 (Or.inr (slot_ne (Or.inr (wd hw 67 rfl)) (Or.inl (wd hw 32 rfl)) (by decide) (t := .int) (t' := (.array (.object "java/lang/StackTraceElement"))) (by decide) (by decide)))).other W16 (Or.inr (slot_ne (Or.inr (wd hw 67 rfl)) (Or.inl (wd hw 35 rfl)) (by decide) (t := .int) (t' := (.object "java/util/List")) (by decide) (by decide))))
  have Fc25 : Fld Z h16 a1 "java/lang/Throwable" "detailMessage" "Ljava/lang/String;" .null := (((Ft4.other W4 (Or.inr (slot_ne (Or.inl (wd hw 59 rfl)) (Or.inl (wd hw 29 rfl)) (by decide) (t := (.object "java/lang/String")) (t' := (.object "java/lang/Throwable")) (by decide) (by decide)))).other W10 (Or.inr (slot_ne (Or.inl (wd hw 59 rfl)) (Or.inl (wd hw 32 rfl)) (by decide) (t := (.object "java/lang/String")) (t' := (.array (.object "java/lang/StackTraceElement"))) (by decide) (by decide)))).other W16 (Or.inr (slot_ne (Or.inl (wd hw 59 rfl)) (Or.inl (wd hw 35 rfl)) (by decide) (t := (.object "java/lang/String")) (t' := (.object "java/util/List")) (by decide) (by decide))))
  obtain ⟨T26, Lf26, X26, Lb26, Kq26, Eq26, Ff26, st26⟩ := own_fill X16 hx hl hZ hown hw (by rw [hh]; exact TS) hTK hBelow e16 Fc18 Fc19 P_u1 Fc20 Fc21 Fc22 (by simp) (g := (mkF m 24 #[rv a1, rv t3] [(.ref a1)])) rfl (by rw [hml]; rfl) (rest := []) rfl (hb hby d1_24) (w := 0) (by show 2 * 0 + _ ≤ _; exact Nat.le_of_eq rfl) (by decide) (by decide) (by decide) (by decide)
  have N26 := Fr.app N16 (fun y hy => by rw [Lb26 y hy]; exact G1 : Fr n0 Lf26)
  have Z26 : n0 ≤ T26.heap.size := Nat.le_trans (by rw [hh]; exact Z0) Kq26.1
  have K26 : Keep h0 T26.heap [a1] := by rw [← hh]; exact Kq26
  have Fq26_line : Fld Z T26.heap a1 "com/example/libprocgraph/libprocgraph/reader/InvalidModelException" "line" "I" (.int 0) := Ff26 "com/example/libprocgraph/libprocgraph/reader/InvalidModelException" "line" "I" (.int 0) .int (Or.inr (wd hw 65 rfl)) (by decide) (by decide) (by decide) (by decide) Fc23
  have Fq26_column : Fld Z T26.heap a1 "com/example/libprocgraph/libprocgraph/reader/InvalidModelException" "column" "I" (.int 0) := Ff26 "com/example/libprocgraph/libprocgraph/reader/InvalidModelException" "column" "I" (.int 0) .int (Or.inr (wd hw 67 rfl)) (by decide) (by decide) (by decide) (by decide) Fc24
  have Fq26_detailMessage : Fld Z T26.heap a1 "java/lang/Throwable" "detailMessage" "Ljava/lang/String;" .null := Ff26 "java/lang/Throwable" "detailMessage" "Ljava/lang/String;" .null (.object "java/lang/String") (Or.inl (wd hw 59 rfl)) (by decide) (by decide) (by decide) (by decide) Fc25
  refine own_lift st26 ?_
  show own_Go p.tables e below (T26.setTop (mkF m 27 #[rv a1, rv t3] [(.ref a1)])) _
  have sg27 : ∀ t, Steps p.tables e below (T26.setTop (mkF m 30 #[rv a1, rv t3] [(.ref t3), (.ref a1)])) t → Steps p.tables e below (T26.setTop (mkF m 27 #[rv a1, rv t3] [(.ref a1)])) t := by
    intro t k
    refine XS.pop X26.here hx rfl (hb hby d1_27) rfl rfl ?_
    show Steps p.tables e below (T26.setTop (mkF m 28 #[rv a1, rv t3] [])) _
    refine XS.aloadN X26.here hx rfl (hb hby d1_28) rfl rfl ?_
    refine XS.aloadN X26.here hx rfl (hb hby d1_29) rfl rfl ?_
    show Steps p.tables e below (T26.setTop (mkF m 30 #[rv a1, rv t3] [(.ref t3), (.ref a1)])) _
    exact k
  refine own_lift sg27 ?_
  show own_Go p.tables e below (T26.setTop (mkF m 30 #[rv a1, rv t3] [(.ref t3), (.ref a1)])) _
  obtain ⟨T28, h28, X28, e28, W28, st28⟩ := putF X26 hx hZ hown (host := "") (Or.inl (wd hw 63 rfl)) Via.refl rfl Fq26_detailMessage Eq26 (Or.inl (wd hw 59 rfl)) (wd hw 1 rfl) (ty := (.object "java/lang/String")) (by decide) rfl rfl (g := (mkF m 30 #[rv a1, rv t3] [(.ref t3), (.ref a1)])) rfl rfl (hb hby d1_30)
  have N28 := Fr.snoc X28 N26 G1
  have Z28 : n0 ≤ h28.size := Nat.le_trans Z26 (Nat.le_of_eq W28.size.symm)
  have K28 : Keep h0 h28 [a1] := K26.wr W28 (Or.inl (List.mem_of_getElem? (i := 0) rfl))
  have Fw28 : Fld Z h28 a1 "java/lang/Throwable" "detailMessage" "Ljava/lang/String;" (.ref t3) := Fq26_detailMessage.same W28
  refine own_lift st28 ?_
  show own_Go p.tables e below (T28.setTop (mkF m 33 #[rv a1, rv t3] [])) _
  obtain ⟨fs, hr, hrun, hended, hW, hsame⟩ := X28.leave (v := none) (fun _ => rfl)
  have Fc29 : Exa Z h28 a1 "com/example/libprocgraph/libprocgraph/reader/InvalidModelException" := (Eq26.wr W28)
  have Fc30 : Fld Z h28 a1 "com/example/libprocgraph/libprocgraph/reader/InvalidModelException" "line" "I" (.int 0) := (Fq26_line.other W28 (Or.inr (slot_ne (Or.inr (wd hw 65 rfl)) (Or.inl (wd hw 59 rfl)) (by decide) (t := .int) (t' := (.object "java/lang/String")) (by decide) (by decide))))
  have Fc31 : Fld Z h28 a1 "com/example/libprocgraph/libprocgraph/reader/InvalidModelException" "column" "I" (.int 0) := (Fq26_column.other W28 (Or.inr (slot_ne (Or.inr (wd hw 67 rfl)) (Or.inl (wd hw 59 rfl)) (by decide) (t := .int) (t' := (.object "java/lang/String")) (by decide) (by decide))))
  refine ⟨_, _, ?_, hrun, hended, _, _, rfl, ?_, ⟨_, rfl⟩, hW, hsame.mono (by decide) (by decide)⟩
  · exact X28.returnOut hx Bd.returns (hb hby d1_33) hr
  · show Q_rmThr Z a1 t3 u1 u2 h0 n0 _ T28.heap _
    rw [e28]
    exact ⟨rfl, N28, K28, Fc29, Fc30, Fc31⟩
theorem pn_1 : plainName "java/lang/Exception" = true := by first | (simp [plainName, overriddenIn]; done) | decide +kernel
theorem d2_0 : decode jdk_59_method_2_code 0 = .ok (.aload_n 0, 1) := by decide +kernel
theorem d2_1 : decode jdk_59_method_2_code 1 = .ok (.aload_n 1, 1) := by decide +kernel
theorem d2_2 : decode jdk_59_method_2_code 2 = .ok (.invokespecial 7, 3) := by decide +kernel
theorem pd_0 : parseMethodDescriptor "(Ljava/lang/String;)V" = some ⟨[(.object "java/lang/String")], none⟩ := by decide +kernel
theorem d2_5 : decode jdk_59_method_2_code 5 = .ok (.return_, 1) := by decide +kernel
def Q_rmExc (Z : State) (a1 : Addr) (t3 : Addr) (u1 : Value) (u2 : Value) (h0 : Heap) (n0 : Nat) (v : Option Value) (h : Heap) (L : List Loc) : Prop := v = none ∧ Fr n0 L ∧ Keep h0 h [a1] ∧ Exa Z h a1 "com/example/libprocgraph/libprocgraph/reader/InvalidModelException" ∧ Fld Z h a1 "com/example/libprocgraph/libprocgraph/reader/InvalidModelException" "line" "I" (.int 0) ∧ Fld Z h a1 "com/example/libprocgraph/libprocgraph/reader/InvalidModelException" "column" "I" (.int 0)
theorem ef_rmExc (m : MethodId) (x0 : Addr) (x1 : Addr) : entryFrame m #[(.ref x0), (.ref x1)] 2 = mkF m 0 #[.val (.ref x0), .val (.ref x1)] [] := by first | (simp [entryFrame, mkF, argsToLocals, Value.category]; done) | rfl
set_option maxRecDepth 65536 in
set_option maxHeartbeats 40000000 in
theorem rmExc (l : Launch) (Z : State) (a0 : Array Value) (hw : ∀ d ∈ tables_1, d.before a0 Z = true) (ws : List Jvm.Cond) (a1 : Addr) (t3 : Addr) (u1 : Value) (u2 : Value) (h0 : Heap) (n0 : Nat) (Z0 : n0 ≤ h0.size) (E1 : Exa Z h0 a1 "com/example/libprocgraph/libprocgraph/reader/InvalidModelException") (U1 : Unt h0 a1) (TS : ThS Z h0) (Ft0 : Fld Z h0 a1 "java/lang/Throwable" "cause" "Ljava/lang/Throwable;" .null) (Ft1 : Fld Z h0 a1 "java/lang/Throwable" "stackTrace" "[Ljava/lang/StackTraceElement;" .null) (Ft2 : Fld Z h0 a1 "java/lang/Throwable" "suppressedExceptions" "Ljava/util/List;" .null) (Ft3 : Fld Z h0 a1 "java/lang/Throwable" "backtrace" "Ljava/lang/Object;" .null) (Ft4 : Fld Z h0 a1 "java/lang/Throwable" "detailMessage" "Ljava/lang/String;" .null) (F1 : Fld Z h0 a1 "com/example/libprocgraph/libprocgraph/reader/InvalidModelException" "line" "I" (.int 0)) (F2 : Fld Z h0 a1 "com/example/libprocgraph/libprocgraph/reader/InvalidModelException" "column" "I" (.int 0)) (G1 : n0 ≤ a1) (Su1 : Sta Z h0 "java/lang/Throwable" "UNASSIGNED_STACK" "[Ljava/lang/StackTraceElement;" u1) (Su2 : Sta Z h0 "java/lang/Throwable" "SUPPRESSED_SENTINEL" "Ljava/util/List;" u2) (hl : l.stackTraces = true) (P_u1 : u1.isRef = true) (P_u2 : u2.isRef = true) :
    MetFree l (⟨"java/lang/Exception", "<init>", "(Ljava/lang/String;)V"⟩ : MethodName) (head1 (Jvm.Cond.code (⟨"java/lang/Exception", "<init>", "(Ljava/lang/String;)V"⟩ : MethodName) jdk_59_method_2_code 2 none :: ws) ({ frames := 4, cells := 1, slots := 2752, locals := 55 } : Room)) (fun a U => a = #[(.ref a1), (.ref t3)] ∧ Z.Warmed39 U.vm ∧ U.heap = h0) (fun _ _ bl s _ => s.vm.MethodsKnown ∧ s.vm.FramesKnown bl) (fun _ U o U' => ∃ v L, o = .returned v ∧ Q_rmExc Z a1 t3 u1 u2 h0 n0 v U'.heap L ∧ FrameEnd U o U' L ({ frames := 4, cells := 1, slots := 2752, locals := 55 } : Room).cells ({ frames := 4, cells := 1, slots := 2752, locals := 55 } : Room).slots) := by
  refine MetFree.of_bodySF (plainFor_of_name pn_1) hisR ?_
  intro p e s m args below meth c s₁ Bd hml0 hP hK
  obtain ⟨rfl, hZ, hh⟩ := hP
  have hx := Bd.exec
  have hby := Bd.bytes
  have hml : c.maxLocals = 2 := hml0
  have hown : s.vm.findClass "java/lang/Exception" = some m.cls := findClass_of_methodNamed Bd.named
  have hnm := (name_of_methodNamed Bd.named Bd.method).1
  have X0 : Stand p l e ({ frames := 4, cells := 1, slots := 2752, locals := 55 } : Room) s m #[(.ref a1), (.ref t3)] below meth c s₁ [] 0 0 := Stand.of_body Bd
  have e0 : s₁.heap = h0 := by rw [← hh, Bd.state]; rfl
  have N0 := Fr.nil n0
  have hTK := hK.1
  have hBelow := hK.2
  refine own_go (own_lift (fun t k => castTop (ef_rmExc m a1 t3) k) ?_)
  show own_Go p.tables e below (s₁.setTop (mkF m 0 #[rv a1, rv t3] [])) _
  have sg1 : ∀ t, Steps p.tables e below (s₁.setTop (mkF m 2 #[rv a1, rv t3] [(.ref t3), (.ref a1)])) t → Steps p.tables e below (s₁.setTop (mkF m 0 #[rv a1, rv t3] [])) t := by
    intro t k
    refine XS.aloadN X0.here hx rfl (hb hby d2_0) rfl rfl ?_
    show Steps p.tables e below (s₁.setTop (mkF m 1 #[rv a1, rv t3] [(.ref a1)])) _
    refine XS.aloadN X0.here hx rfl (hb hby d2_1) rfl rfl ?_
    show Steps p.tables e below (s₁.setTop (mkF m 2 #[rv a1, rv t3] [(.ref t3), (.ref a1)])) _
    exact k
  refine own_lift sg1 ?_
  show own_Go p.tables e below (s₁.setTop (mkF m 2 #[rv a1, rv t3] [(.ref t3), (.ref a1)])) _
  obtain ⟨_, _, ⟨T2, Lx2, kx2, nx2⟩, -, X2, ⟨Lc2, hQ2, lx2, yx2, zx2⟩, st2⟩ := X0.specialBack hx (y := (⟨"java/lang/Throwable", "<init>", "(Ljava/lang/String;)V"⟩ : MethodName)) rfl hown (mvT hZ (wd hw 19 rfl)) (mvT hZ (wd hw 20 rfl)) (mvT hZ (wd hw 24 rfl)) (by decide) (backOfKL (W := 0) (rmThr l Z a0 hw [] a1 t3 u1 u2 h0 n0 Z0 E1 U1 TS Ft0 Ft1 Ft2 Ft3 Ft4 F1 F2 G1 Su1 Su2 hl P_u1 P_u2) hZ (wd hw 24 rfl) (wd hw 23 rfl) (by decide) (by decide) hTK hBelow) (g := (mkF m 2 #[rv a1, rv t3] [(.ref t3), (.ref a1)])) rfl (by rw [hml]; rfl) (Steps.refl _) (a := a1) (argsL := [(.ref t3)]) (rest := []) (lenOf pd_0 rfl) rfl (by show 2 * 0 + _ ≤ _; exact Nat.le_of_eq rfl) (hb hby d2_2) (fun _ _ => ⟨rfl, e0, (by decide : 0 + 1 ≤ _), (by decide : 0 + 2752 ≤ _)⟩)
  dsimp only [Pt.U, Pt.locs, Pt.cells, Pt.slots] at X2 lx2 yx2 zx2 st2 hQ2
  subst lx2 yx2 zx2
  obtain ⟨rfl, N2q, p2_0, p2_1, p2_2, p2_3⟩ := hQ2
  have N2 := Fr.app N0 N2q
  have Z2 : n0 ≤ T2.heap.size := Nat.le_trans Z0 p2_0.1
  have K2 : Keep h0 T2.heap [a1] := (Keep.refl h0 [a1]).trans p2_0 (allS (Or.inl (List.mem_of_getElem? (i := 0) rfl)) all0)
  refine own_lift (fun t k => st2.trans k) ?_
  show own_Go p.tables e below (T2.setTop (mkF m 5 #[rv a1, rv t3] [])) _
  obtain ⟨fs, hr, hrun, hended, hW, hsame⟩ := X2.leave (v := none) (fun _ => rfl)
  refine ⟨_, _, ?_, hrun, hended, _, _, rfl, ?_, ⟨_, rfl⟩, hW, hsame.mono (by decide) (by decide)⟩
  · exact X2.returnOut hx Bd.returns (hb hby d2_5) hr
  · show Q_rmExc Z a1 t3 u1 u2 h0 n0 _ T2.heap _
    exact ⟨rfl, N2, K2, p2_1, p2_2, p2_3⟩
theorem pn_2 : plainName "com/example/libprocgraph/libprocgraph/reader/InvalidModelException" = true := by first | (simp [plainName, overriddenIn]; done) | decide +kernel
theorem d3_0 : decode prog_61_method_1_code 0 = .ok (.aload_n 0, 1) := by decide +kernel
theorem d3_1 : decode prog_61_method_1_code 1 = .ok (.aload_n 3, 1) := by decide +kernel
theorem d3_2 : decode prog_61_method_1_code 2 = .ok (.invokespecial 1, 3) := by decide +kernel
theorem d3_5 : decode prog_61_method_1_code 5 = .ok (.aload_n 0, 1) := by decide +kernel
theorem d3_6 : decode prog_61_method_1_code 6 = .ok (.iload_n 1, 1) := by decide +kernel
theorem d3_7 : decode prog_61_method_1_code 7 = .ok (.putfield 7, 3) := by decide +kernel
theorem d3_10 : decode prog_61_method_1_code 10 = .ok (.aload_n 0, 1) := by decide +kernel
theorem d3_11 : decode prog_61_method_1_code 11 = .ok (.iload_n 2, 1) := by decide +kernel
theorem d3_12 : decode prog_61_method_1_code 12 = .ok (.putfield 13, 3) := by decide +kernel
theorem d3_15 : decode prog_61_method_1_code 15 = .ok (.return_, 1) := by decide +kernel
def Q_rmInit (Z : State) (a1 : Addr) (p1 : Int32) (p2 : Int32) (t3 : Addr) (u1 : Value) (u2 : Value) (h0 : Heap) (n0 : Nat) (v : Option Value) (h : Heap) (L : List Loc) : Prop := v = none ∧ Fr n0 L ∧ Keep h0 h [a1] ∧ Exa Z h a1 "com/example/libprocgraph/libprocgraph/reader/InvalidModelException" ∧ Fld Z h a1 "com/example/libprocgraph/libprocgraph/reader/InvalidModelException" "line" "I" (.int p1) ∧ Fld Z h a1 "com/example/libprocgraph/libprocgraph/reader/InvalidModelException" "column" "I" (.int p2)
theorem ef_rmInit (m : MethodId) (x0 : Addr) (x1 : Int32) (x2 : Int32) (x3 : Addr) : entryFrame m #[(.ref x0), (.int x1), (.int x2), (.ref x3)] 4 = mkF m 0 #[.val (.ref x0), .val (.int x1), .val (.int x2), .val (.ref x3)] [] := by first | (simp [entryFrame, mkF, argsToLocals, Value.category]; done) | rfl
set_option maxRecDepth 65536 in
set_option maxHeartbeats 40000000 in
theorem rmInit (l : Launch) (Z : State) (a0 : Array Value) (hw : ∀ d ∈ tables_1, d.before a0 Z = true) (ws : List Jvm.Cond) (a1 : Addr) (p1 : Int32) (p2 : Int32) (t3 : Addr) (u1 : Value) (u2 : Value) (h0 : Heap) (n0 : Nat) (Z0 : n0 ≤ h0.size) (E1 : Exa Z h0 a1 "com/example/libprocgraph/libprocgraph/reader/InvalidModelException") (U1 : Unt h0 a1) (TS : ThS Z h0) (Ft0 : Fld Z h0 a1 "java/lang/Throwable" "cause" "Ljava/lang/Throwable;" .null) (Ft1 : Fld Z h0 a1 "java/lang/Throwable" "stackTrace" "[Ljava/lang/StackTraceElement;" .null) (Ft2 : Fld Z h0 a1 "java/lang/Throwable" "suppressedExceptions" "Ljava/util/List;" .null) (Ft3 : Fld Z h0 a1 "java/lang/Throwable" "backtrace" "Ljava/lang/Object;" .null) (Ft4 : Fld Z h0 a1 "java/lang/Throwable" "detailMessage" "Ljava/lang/String;" .null) (F1 : Fld Z h0 a1 "com/example/libprocgraph/libprocgraph/reader/InvalidModelException" "line" "I" (.int 0)) (F2 : Fld Z h0 a1 "com/example/libprocgraph/libprocgraph/reader/InvalidModelException" "column" "I" (.int 0)) (G1 : n0 ≤ a1) (Su1 : Sta Z h0 "java/lang/Throwable" "UNASSIGNED_STACK" "[Ljava/lang/StackTraceElement;" u1) (Su2 : Sta Z h0 "java/lang/Throwable" "SUPPRESSED_SENTINEL" "Ljava/util/List;" u2) (hl : l.stackTraces = true) (P_u1 : u1.isRef = true) (P_u2 : u2.isRef = true) :
    MetFree l (⟨"com/example/libprocgraph/libprocgraph/reader/InvalidModelException", "<init>", "(IILjava/lang/String;)V"⟩ : MethodName) (head1 (Jvm.Cond.code (⟨"com/example/libprocgraph/libprocgraph/reader/InvalidModelException", "<init>", "(IILjava/lang/String;)V"⟩ : MethodName) prog_61_method_1_code 4 none :: ws) ({ frames := 5, cells := 1, slots := 2752, locals := 68 } : Room)) (fun a U => a = #[(.ref a1), (.int p1), (.int p2), (.ref t3)] ∧ Z.Warmed39 U.vm ∧ U.heap = h0) (fun _ _ bl s _ => s.vm.MethodsKnown ∧ s.vm.FramesKnown bl) (fun _ U o U' => ∃ v L, o = .returned v ∧ Q_rmInit Z a1 p1 p2 t3 u1 u2 h0 n0 v U'.heap L ∧ FrameEnd U o U' L ({ frames := 5, cells := 1, slots := 2752, locals := 68 } : Room).cells ({ frames := 5, cells := 1, slots := 2752, locals := 68 } : Room).slots) := by
  refine MetFree.of_bodySF (plainFor_of_name pn_2) hisR ?_
  intro p e s m args below meth c s₁ Bd hml0 hP hK
  obtain ⟨rfl, hZ, hh⟩ := hP
  have hx := Bd.exec
  have hby := Bd.bytes
  have hml : c.maxLocals = 4 := hml0
  have hown : s.vm.findClass "com/example/libprocgraph/libprocgraph/reader/InvalidModelException" = some m.cls := findClass_of_methodNamed Bd.named
  have hnm := (name_of_methodNamed Bd.named Bd.method).1
  have X0 : Stand p l e ({ frames := 5, cells := 1, slots := 2752, locals := 68 } : Room) s m #[(.ref a1), (.int p1), (.int p2), (.ref t3)] below meth c s₁ [] 0 0 := Stand.of_body Bd
  have e0 : s₁.heap = h0 := by rw [← hh, Bd.state]; rfl
  have N0 := Fr.nil n0
  have hTK := hK.1
  have hBelow := hK.2
  refine own_go (own_lift (fun t k => castTop (ef_rmInit m a1 p1 p2 t3) k) ?_)
  show own_Go p.tables e below (s₁.setTop (mkF m 0 #[rv a1, iv p1, iv p2, rv t3] [])) _
  have sg1 : ∀ t, Steps p.tables e below (s₁.setTop (mkF m 2 #[rv a1, iv p1, iv p2, rv t3] [(.ref t3), (.ref a1)])) t → Steps p.tables e below (s₁.setTop (mkF m 0 #[rv a1, iv p1, iv p2, rv t3] [])) t := by
    intro t k
    refine XS.aloadN X0.here hx rfl (hb hby d3_0) rfl rfl ?_
    show Steps p.tables e below (s₁.setTop (mkF m 1 #[rv a1, iv p1, iv p2, rv t3] [(.ref a1)])) _
    refine XS.aloadN X0.here hx rfl (hb hby d3_1) rfl rfl ?_
    show Steps p.tables e below (s₁.setTop (mkF m 2 #[rv a1, iv p1, iv p2, rv t3] [(.ref t3), (.ref a1)])) _
    exact k
  refine own_lift sg1 ?_
  show own_Go p.tables e below (s₁.setTop (mkF m 2 #[rv a1, iv p1, iv p2, rv t3] [(.ref t3), (.ref a1)])) _
  obtain ⟨_, _, ⟨T2, Lx2, kx2, nx2⟩, -, X2, ⟨Lc2, hQ2, lx2, yx2, zx2⟩, st2⟩ := X0.specialBack hx (y := (⟨"java/lang/Exception", "<init>", "(Ljava/lang/String;)V"⟩ : MethodName)) rfl hown (mvT hZ (wd hw 14 rfl)) (mvT hZ (wd hw 15 rfl)) (mvT hZ (wd hw 18 rfl)) (by decide) (backOfKL (W := 0) (rmExc l Z a0 hw [] a1 t3 u1 u2 h0 n0 Z0 E1 U1 TS Ft0 Ft1 Ft2 Ft3 Ft4 F1 F2 G1 Su1 Su2 hl P_u1 P_u2) hZ (wd hw 18 rfl) (wd hw 17 rfl) (by decide) (by decide) hTK hBelow) (g := (mkF m 2 #[rv a1, iv p1, iv p2, rv t3] [(.ref t3), (.ref a1)])) rfl (by rw [hml]; rfl) (Steps.refl _) (a := a1) (argsL := [(.ref t3)]) (rest := []) (lenOf pd_0 rfl) rfl (by show 2 * 0 + _ ≤ _; exact Nat.le_of_eq rfl) (hb hby d3_2) (fun _ _ => ⟨rfl, e0, (by decide : 0 + 1 ≤ _), (by decide : 0 + 2752 ≤ _)⟩)
  dsimp only [Pt.U, Pt.locs, Pt.cells, Pt.slots] at X2 lx2 yx2 zx2 st2 hQ2
  subst lx2 yx2 zx2
  obtain ⟨rfl, N2q, p2_0, p2_1, p2_2, p2_3⟩ := hQ2
  have N2 := Fr.app N0 N2q
  have Z2 : n0 ≤ T2.heap.size := Nat.le_trans Z0 p2_0.1
  have K2 : Keep h0 T2.heap [a1] := (Keep.refl h0 [a1]).trans p2_0 (allS (Or.inl (List.mem_of_getElem? (i := 0) rfl)) all0)
  refine own_lift (fun t k => st2.trans k) ?_
  show own_Go p.tables e below (T2.setTop (mkF m 5 #[rv a1, iv p1, iv p2, rv t3] [])) _
  have sg3 : ∀ t, Steps p.tables e below (T2.setTop (mkF m 7 #[rv a1, iv p1, iv p2, rv t3] [(.int p1), (.ref a1)])) t → Steps p.tables e below (T2.setTop (mkF m 5 #[rv a1, iv p1, iv p2, rv t3] [])) t := by
    intro t k
    refine XS.aloadN X2.here hx rfl (hb hby d3_5) rfl rfl ?_
    show Steps p.tables e below (T2.setTop (mkF m 6 #[rv a1, iv p1, iv p2, rv t3] [(.ref a1)])) _
    refine XS.iloadN X2.here hx rfl (hb hby d3_6) rfl ?_
    show Steps p.tables e below (T2.setTop (mkF m 7 #[rv a1, iv p1, iv p2, rv t3] [(.int p1), (.ref a1)])) _
    exact k
  refine own_lift sg3 ?_
  show own_Go p.tables e below (T2.setTop (mkF m 7 #[rv a1, iv p1, iv p2, rv t3] [(.int p1), (.ref a1)])) _
  obtain ⟨T4, h4, X4, e4, W4, st4⟩ := putF X2 hx hZ hown (host := "") (Or.inl (wd hw 64 rfl)) Via.refl rfl p2_2 p2_1 (Or.inr ⟨(wd hw 65 rfl), rfl, hnm⟩) (wd hw 1 rfl) (ty := .int) (by decide) rfl rfl (g := (mkF m 7 #[rv a1, iv p1, iv p2, rv t3] [(.int p1), (.ref a1)])) rfl rfl (hb hby d3_7)
  have N4 := Fr.snoc X4 N2 G1
  have Z4 : n0 ≤ h4.size := Nat.le_trans Z2 (Nat.le_of_eq W4.size.symm)
  have K4 : Keep h0 h4 [a1] := K2.wr W4 (Or.inl (List.mem_of_getElem? (i := 0) rfl))
  have Fw4 : Fld Z h4 a1 "com/example/libprocgraph/libprocgraph/reader/InvalidModelException" "line" "I" (.int p1) := p2_2.same W4
  refine own_lift st4 ?_
  show own_Go p.tables e below (T4.setTop (mkF m 10 #[rv a1, iv p1, iv p2, rv t3] [])) _
  have sg5 : ∀ t, Steps p.tables e below (T4.setTop (mkF m 12 #[rv a1, iv p1, iv p2, rv t3] [(.int p2), (.ref a1)])) t → Steps p.tables e below (T4.setTop (mkF m 10 #[rv a1, iv p1, iv p2, rv t3] [])) t := by
    intro t k
    refine XS.aloadN X4.here hx rfl (hb hby d3_10) rfl rfl ?_
    show Steps p.tables e below (T4.setTop (mkF m 11 #[rv a1, iv p1, iv p2, rv t3] [(.ref a1)])) _
    refine XS.iloadN X4.here hx rfl (hb hby d3_11) rfl ?_
    show Steps p.tables e below (T4.setTop (mkF m 12 #[rv a1, iv p1, iv p2, rv t3] [(.int p2), (.ref a1)])) _
    exact k
  refine own_lift sg5 ?_
  show own_Go p.tables e below (T4.setTop (mkF m 12 #[rv a1, iv p1, iv p2, rv t3] [(.int p2), (.ref a1)])) _
  have Fc6 : Fld Z h4 a1 "com/example/libprocgraph/libprocgraph/reader/InvalidModelException" "column" "I" (.int 0) := (p2_3.other W4 (Or.inr (slot_ne (Or.inr (wd hw 67 rfl)) (Or.inr (wd hw 65 rfl)) (by decide) (t := .int) (t' := .int) (by decide) (by decide))))
  have Fc7 : Exa Z h4 a1 "com/example/libprocgraph/libprocgraph/reader/InvalidModelException" := (p2_1.wr W4)
  obtain ⟨T8, h8, X8, e8, W8, st8⟩ := putF X4 hx hZ hown (host := "") (Or.inl (wd hw 66 rfl)) Via.refl e4 Fc6 Fc7 (Or.inr ⟨(wd hw 67 rfl), rfl, hnm⟩) (wd hw 1 rfl) (ty := .int) (by decide) rfl rfl (g := (mkF m 12 #[rv a1, iv p1, iv p2, rv t3] [(.int p2), (.ref a1)])) rfl rfl (hb hby d3_12)
  have N8 := Fr.snoc X8 N4 G1
  have Z8 : n0 ≤ h8.size := Nat.le_trans Z4 (Nat.le_of_eq W8.size.symm)
  have K8 : Keep h0 h8 [a1] := K4.wr W8 (Or.inl (List.mem_of_getElem? (i := 0) rfl))
  have Fw8 : Fld Z h8 a1 "com/example/libprocgraph/libprocgraph/reader/InvalidModelException" "column" "I" (.int p2) := Fc6.same W8
  refine own_lift st8 ?_
  show own_Go p.tables e below (T8.setTop (mkF m 15 #[rv a1, iv p1, iv p2, rv t3] [])) _
  obtain ⟨fs, hr, hrun, hended, hW, hsame⟩ := X8.leave (v := none) (fun _ => rfl)
  have Fc9 : Exa Z h8 a1 "com/example/libprocgraph/libprocgraph/reader/InvalidModelException" := (Fc7.wr W8)
  have Fc10 : Fld Z h8 a1 "com/example/libprocgraph/libprocgraph/reader/InvalidModelException" "line" "I" (.int p1) := (Fw4.other W8 (Or.inr (slot_ne (Or.inr (wd hw 65 rfl)) (Or.inr (wd hw 67 rfl)) (by decide) (t := .int) (t' := .int) (by decide) (by decide))))
  refine ⟨_, _, ?_, hrun, hended, _, _, rfl, ?_, ⟨_, rfl⟩, hW, hsame.mono (by decide) (by decide)⟩
  · exact X8.returnOut hx Bd.returns (hb hby d3_15) hr
  · show Q_rmInit Z a1 p1 p2 t3 u1 u2 h0 n0 _ T8.heap _
    rw [e8]
    exact ⟨rfl, N8, K8, Fc9, Fc10, Fw8⟩
theorem pn_3 : plainName "com/example/libprocgraph/libprocgraph/reader/InvalidModelExceptionPrecedesPinLaw" = true := by first | (simp [plainName, overriddenIn]; done) | decide +kernel
theorem d4_0 : decode method_2_code 0 = .ok (.iload_n 0, 1) := by decide +kernel
theorem d4_1 : decode method_2_code 1 = .ok (.i2l, 1) := by decide +kernel
theorem d4_2 : decode method_2_code 2 = .ok (.bipush 32, 2) := by decide +kernel
theorem d4_4 : decode method_2_code 4 = .ok (.lshl, 1) := by decide +kernel
theorem d4_5 : decode method_2_code 5 = .ok (.iload_n 1, 1) := by decide +kernel
theorem d4_6 : decode method_2_code 6 = .ok (.i2l, 1) := by decide +kernel
theorem d4_7 : decode method_2_code 7 = .ok (.ldc2_w 7, 3) := by decide +kernel
theorem d4_10 : decode method_2_code 10 = .ok (.ladd, 1) := by decide +kernel
theorem d4_11 : decode method_2_code 11 = .ok (.ladd, 1) := by decide +kernel
theorem d4_12 : decode method_2_code 12 = .ok (.lreturn, 1) := by decide +kernel
def Q_rmKey (Z : State) (p1 : Int32) (p2 : Int32) (h0 : Heap) (n0 : Nat) (v : Option Value) (h : Heap) (L : List Loc) : Prop := v = some (.long (own_key p1 p2)) ∧ Fr n0 L ∧ h = h0
theorem ef_rmKey (m : MethodId) (x0 : Int32) (x1 : Int32) : entryFrame m #[(.int x0), (.int x1)] 2 = mkF m 0 #[.val (.int x0), .val (.int x1)] [] := by first | (simp [entryFrame, mkF, argsToLocals, Value.category]; done) | rfl
set_option maxRecDepth 65536 in
set_option maxHeartbeats 40000000 in
theorem rmKey (l : Launch) (Z : State) (a0 : Array Value) (hw : ∀ d ∈ tables_1, d.before a0 Z = true) (ws : List Jvm.Cond) (p1 : Int32) (p2 : Int32) (h0 : Heap) (n0 : Nat) (Z0 : n0 ≤ h0.size)   :
    MetFree l (⟨"com/example/libprocgraph/libprocgraph/reader/InvalidModelExceptionPrecedesPinLaw", "key", "(II)J"⟩ : MethodName) (head1 (Jvm.Cond.code (⟨"com/example/libprocgraph/libprocgraph/reader/InvalidModelExceptionPrecedesPinLaw", "key", "(II)J"⟩ : MethodName) method_2_code 2 (some .long) :: ws) ({ frames := 0, cells := 0, slots := 0, locals := 0 } : Room)) (fun a U => a = #[(.int p1), (.int p2)] ∧ Z.Warmed39 U.vm ∧ U.heap = h0) (fun _ _ _ _ _ => True) (fun _ U o U' => ∃ v L, o = .returned v ∧ Q_rmKey Z p1 p2 h0 n0 v U'.heap L ∧ FrameEnd U o U' L ({ frames := 0, cells := 0, slots := 0, locals := 0 } : Room).cells ({ frames := 0, cells := 0, slots := 0, locals := 0 } : Room).slots) := by
  refine MetFree.of_bodySF (plainFor_of_name pn_3) hisR ?_
  intro p e s m args below meth c s₁ Bd hml0 hP hK
  obtain ⟨rfl, hZ, hh⟩ := hP
  have hx := Bd.exec
  have hby := Bd.bytes
  have hml : c.maxLocals = 2 := hml0
  have hown : s.vm.findClass "com/example/libprocgraph/libprocgraph/reader/InvalidModelExceptionPrecedesPinLaw" = some m.cls := findClass_of_methodNamed Bd.named
  have hnm := (name_of_methodNamed Bd.named Bd.method).1
  have X0 : Stand p l e ({ frames := 0, cells := 0, slots := 0, locals := 0 } : Room) s m #[(.int p1), (.int p2)] below meth c s₁ [] 0 0 := Stand.of_body Bd
  have e0 : s₁.heap = h0 := by rw [← hh, Bd.state]; rfl
  have N0 := Fr.nil n0
  refine own_go (own_lift (fun t k => castTop (ef_rmKey m p1 p2) k) ?_)
  show own_Go p.tables e below (s₁.setTop (mkF m 0 #[iv p1, iv p2] [])) _
  have sg1 : ∀ t, Steps p.tables e below (s₁.setTop (mkF m 12 #[iv p1, iv p2] [(.long (((p1.toInt64) <<< ((32 : Int32) &&& 0x3f).toInt64) + ((p2.toInt64) + (2147483648 : Int64))))])) t → Steps p.tables e below (s₁.setTop (mkF m 0 #[iv p1, iv p2] [])) t := by
    intro t k
    refine XS.iloadN X0.here hx rfl (hb hby d4_0) rfl ?_
    show Steps p.tables e below (s₁.setTop (mkF m 1 #[iv p1, iv p2] [(.int p1)])) _
    refine XS.i2l X0.here hx rfl (hb hby d4_1) rfl ?_
    refine XS.bipush X0.here hx rfl (hb hby d4_2) ?_
    show Steps p.tables e below (s₁.setTop (mkF m 4 #[iv p1, iv p2] [(.int 32), (.long (p1.toInt64))])) _
    refine XS.lshl X0.here hx rfl (hb hby d4_4) rfl ?_
    refine XS.iloadN X0.here hx rfl (hb hby d4_5) rfl ?_
    show Steps p.tables e below (s₁.setTop (mkF m 6 #[iv p1, iv p2] [(.int p2), (.long ((p1.toInt64) <<< ((32 : Int32) &&& 0x3f).toInt64))])) _
    refine XS.i2l X0.here hx rfl (hb hby d4_6) rfl ?_
    refine X0.ldc2Long hx hown (mvT hZ (wd hw 73 rfl)) (g := (mkF m 7 #[iv p1, iv p2] [(.long (p2.toInt64)), (.long ((p1.toInt64) <<< ((32 : Int32) &&& 0x3f).toInt64))])) rfl (hb hby d4_7) _ ?_
    show Steps p.tables e below (s₁.setTop (mkF m 10 #[iv p1, iv p2] [(.long 2147483648), (.long (p2.toInt64)), (.long ((p1.toInt64) <<< ((32 : Int32) &&& 0x3f).toInt64))])) _
    refine XS.ladd X0.here hx rfl (hb hby d4_10) rfl ?_
    refine XS.ladd X0.here hx rfl (hb hby d4_11) rfl ?_
    show Steps p.tables e below (s₁.setTop (mkF m 12 #[iv p1, iv p2] [(.long (((p1.toInt64) <<< ((32 : Int32) &&& 0x3f).toInt64) + ((p2.toInt64) + (2147483648 : Int64))))])) _
    exact k
  refine own_lift sg1 ?_
  show own_Go p.tables e below (s₁.setTop (mkF m 12 #[iv p1, iv p2] [(.long (((p1.toInt64) <<< ((32 : Int32) &&& 0x3f).toInt64) + ((p2.toInt64) + (2147483648 : Int64))))])) _
  obtain ⟨fs, hr, hrun, hended, hW, hsame⟩ := X0.leave (v := some (.long (((p1.toInt64) <<< ((32 : Int32) &&& 0x3f).toInt64) + ((p2.toInt64) + (2147483648 : Int64))))) (fun h => by rw [Bd.returns] at h; cases h)
  refine ⟨_, _, ?_, hrun, hended, _, _, rfl, ?_, ⟨_, rfl⟩, hW, hsame.mono (by decide) (by decide)⟩
  · exact X0.lreturnOut hx Bd.returns (hb hby d4_12) hr
  · show Q_rmKey Z p1 p2 h0 n0 _ s₁.heap _
    rw [e0]
    exact ⟨rfl, N0, rfl⟩
theorem d5_0 : decode prog_61_method_4_code 0 = .ok (.aload_n 0, 1) := by decide +kernel
theorem d5_1 : decode prog_61_method_4_code 1 = .ok (.getfield 7, 3) := by decide +kernel
theorem d5_4 : decode prog_61_method_4_code 4 = .ok (.aload_n 1, 1) := by decide +kernel
theorem d5_5 : decode prog_61_method_4_code 5 = .ok (.getfield 7, 3) := by decide +kernel
theorem d5_8 : decode prog_61_method_4_code 8 = .ok (.if_icmp .lt 25, 3) := by decide +kernel
theorem d5_33 : decode prog_61_method_4_code 33 = .ok (.iconst 1, 1) := by decide +kernel
theorem d5_34 : decode prog_61_method_4_code 34 = .ok (.goto 4, 3) := by decide +kernel
theorem d5_38 : decode prog_61_method_4_code 38 = .ok (.ireturn, 1) := by decide +kernel
def Q_rmPr1 (Z : State) (a1 : Addr) (a2 : Addr) (w1 : Int32) (w2 : Int32) (w3 : Int32) (w4 : Int32) (h0 : Heap) (n0 : Nat) (v : Option Value) (h : Heap) (L : List Loc) : Prop := v = some (.int 1) ∧ Fr n0 L ∧ h = h0
theorem ef_rmPr1 (m : MethodId) (x0 : Addr) (x1 : Addr) : entryFrame m #[(.ref x0), (.ref x1)] 2 = mkF m 0 #[.val (.ref x0), .val (.ref x1)] [] := by first | (simp [entryFrame, mkF, argsToLocals, Value.category]; done) | rfl
set_option maxRecDepth 65536 in
set_option maxHeartbeats 40000000 in
theorem rmPr1 (l : Launch) (Z : State) (a0 : Array Value) (hw : ∀ d ∈ tables_1, d.before a0 Z = true) (ws : List Jvm.Cond) (a1 : Addr) (a2 : Addr) (w1 : Int32) (w2 : Int32) (w3 : Int32) (w4 : Int32) (h0 : Heap) (n0 : Nat) (Z0 : n0 ≤ h0.size) (F1 : Fld Z h0 a1 "com/example/libprocgraph/libprocgraph/reader/InvalidModelException" "line" "I" (.int w1)) (F2 : Fld Z h0 a1 "com/example/libprocgraph/libprocgraph/reader/InvalidModelException" "column" "I" (.int w2)) (F3 : Fld Z h0 a2 "com/example/libprocgraph/libprocgraph/reader/InvalidModelException" "line" "I" (.int w3)) (F4 : Fld Z h0 a2 "com/example/libprocgraph/libprocgraph/reader/InvalidModelException" "column" "I" (.int w4)) (c1 : w1 < w3) :
    MetFree l (⟨"com/example/libprocgraph/libprocgraph/reader/InvalidModelException", "precedes", "(Lcom/example/libprocgraph/libprocgraph/reader/InvalidModelException;)Z"⟩ : MethodName) (head1 (Jvm.Cond.code (⟨"com/example/libprocgraph/libprocgraph/reader/InvalidModelException", "precedes", "(Lcom/example/libprocgraph/libprocgraph/reader/InvalidModelException;)Z"⟩ : MethodName) prog_61_method_4_code 2 (some .boolean) :: ws) ({ frames := 0, cells := 0, slots := 0, locals := 0 } : Room)) (fun a U => a = #[(.ref a1), (.ref a2)] ∧ Z.Warmed39 U.vm ∧ U.heap = h0) (fun _ _ _ _ _ => True) (fun _ U o U' => ∃ v L, o = .returned v ∧ Q_rmPr1 Z a1 a2 w1 w2 w3 w4 h0 n0 v U'.heap L ∧ FrameEnd U o U' L ({ frames := 0, cells := 0, slots := 0, locals := 0 } : Room).cells ({ frames := 0, cells := 0, slots := 0, locals := 0 } : Room).slots) := by
  refine MetFree.of_bodySF (plainFor_of_name pn_2) hisR ?_
  intro p e s m args below meth c s₁ Bd hml0 hP hK
  obtain ⟨rfl, hZ, hh⟩ := hP
  have hx := Bd.exec
  have hby := Bd.bytes
  have hml : c.maxLocals = 2 := hml0
  have hown : s.vm.findClass "com/example/libprocgraph/libprocgraph/reader/InvalidModelException" = some m.cls := findClass_of_methodNamed Bd.named
  have hnm := (name_of_methodNamed Bd.named Bd.method).1
  have X0 : Stand p l e ({ frames := 0, cells := 0, slots := 0, locals := 0 } : Room) s m #[(.ref a1), (.ref a2)] below meth c s₁ [] 0 0 := Stand.of_body Bd
  have e0 : s₁.heap = h0 := by rw [← hh, Bd.state]; rfl
  have N0 := Fr.nil n0
  refine own_go (own_lift (fun t k => castTop (ef_rmPr1 m a1 a2) k) ?_)
  show own_Go p.tables e below (s₁.setTop (mkF m 0 #[rv a1, rv a2] [])) _
  have sg1 : ∀ t, Steps p.tables e below (s₁.setTop (mkF m 1 #[rv a1, rv a2] [(.ref a1)])) t → Steps p.tables e below (s₁.setTop (mkF m 0 #[rv a1, rv a2] [])) t := by
    intro t k
    refine XS.aloadN X0.here hx rfl (hb hby d5_0) rfl rfl ?_
    show Steps p.tables e below (s₁.setTop (mkF m 1 #[rv a1, rv a2] [(.ref a1)])) _
    exact k
  refine own_lift sg1 ?_
  show own_Go p.tables e below (s₁.setTop (mkF m 1 #[rv a1, rv a2] [(.ref a1)])) _
  obtain ⟨T2, X2, e2, st2⟩ := getF X0 hx hZ hown (host := "") (Or.inl (wd hw 64 rfl)) Via.refl e0 F1 (g := (mkF m 1 #[rv a1, rv a2] [(.ref a1)])) rfl rfl (hb hby d5_1)
  refine own_lift st2 ?_
  show own_Go p.tables e below (T2.setTop (mkF m 4 #[rv a1, rv a2] [(.int w1)])) _
  have sg3 : ∀ t, Steps p.tables e below (T2.setTop (mkF m 5 #[rv a1, rv a2] [(.ref a2), (.int w1)])) t → Steps p.tables e below (T2.setTop (mkF m 4 #[rv a1, rv a2] [(.int w1)])) t := by
    intro t k
    refine XS.aloadN X2.here hx rfl (hb hby d5_4) rfl rfl ?_
    show Steps p.tables e below (T2.setTop (mkF m 5 #[rv a1, rv a2] [(.ref a2), (.int w1)])) _
    exact k
  refine own_lift sg3 ?_
  show own_Go p.tables e below (T2.setTop (mkF m 5 #[rv a1, rv a2] [(.ref a2), (.int w1)])) _
  obtain ⟨T4, X4, e4, st4⟩ := getF X2 hx hZ hown (host := "") (Or.inl (wd hw 64 rfl)) Via.refl e2 F3 (g := (mkF m 5 #[rv a1, rv a2] [(.ref a2), (.int w1)])) rfl rfl (hb hby d5_5)
  refine own_lift st4 ?_
  show own_Go p.tables e below (T4.setTop (mkF m 8 #[rv a1, rv a2] [(.int w3), (.int w1)])) _
  have sg5 : ∀ t, Steps p.tables e below (T4.setTop (mkF m 38 #[rv a1, rv a2] [(.int 1)])) t → Steps p.tables e below (T4.setTop (mkF m 8 #[rv a1, rv a2] [(.int w3), (.int w1)])) t := by
    intro t k
    refine XS.icmpYes X4.here hx rfl (pc0 := 8) (pc' := 33) rfl (hb hby d5_8) rfl (tlt c1).1 (by decide) (by decide) ?_
    show Steps p.tables e below (T4.setTop (mkF m 33 #[rv a1, rv a2] [])) _
    refine XS.iconst X4.here hx rfl (hb hby d5_33) ?_
    refine XS.goto X4.here hx rfl (pc0 := 34) (pc' := 38) rfl (hb hby d5_34) (by decide) (by decide) ?_
    show Steps p.tables e below (T4.setTop (mkF m 38 #[rv a1, rv a2] [(.int 1)])) _
    exact k
  refine own_lift sg5 ?_
  show own_Go p.tables e below (T4.setTop (mkF m 38 #[rv a1, rv a2] [(.int 1)])) _
  obtain ⟨fs, hr, hrun, hended, hW, hsame⟩ := X4.leave (v := some (.int 1)) (fun h => by rw [Bd.returns] at h; cases h)
  refine ⟨_, _, ?_, hrun, hended, _, _, rfl, ?_, ⟨_, rfl⟩, hW, hsame.mono (by decide) (by decide)⟩
  · exact retN X4 hx (t := .boolean) Bd.returns (by simp) (hb hby d5_38) hr
  · show Q_rmPr1 Z a1 a2 w1 w2 w3 w4 h0 n0 _ T4.heap _
    rw [e4]
    exact ⟨rfl, N0, rfl⟩
theorem d5_11 : decode prog_61_method_4_code 11 = .ok (.aload_n 0, 1) := by decide +kernel
theorem d5_12 : decode prog_61_method_4_code 12 = .ok (.getfield 7, 3) := by decide +kernel
theorem d5_15 : decode prog_61_method_4_code 15 = .ok (.aload_n 1, 1) := by decide +kernel
theorem d5_16 : decode prog_61_method_4_code 16 = .ok (.getfield 7, 3) := by decide +kernel
theorem d5_19 : decode prog_61_method_4_code 19 = .ok (.if_icmp .ne 18, 3) := by decide +kernel
theorem d5_37 : decode prog_61_method_4_code 37 = .ok (.iconst 0, 1) := by decide +kernel
def Q_rmPr2 (Z : State) (a1 : Addr) (a2 : Addr) (w1 : Int32) (w2 : Int32) (w3 : Int32) (w4 : Int32) (h0 : Heap) (n0 : Nat) (v : Option Value) (h : Heap) (L : List Loc) : Prop := v = some (.int 0) ∧ Fr n0 L ∧ h = h0
theorem ef_rmPr2 (m : MethodId) (x0 : Addr) (x1 : Addr) : entryFrame m #[(.ref x0), (.ref x1)] 2 = mkF m 0 #[.val (.ref x0), .val (.ref x1)] [] := by first | (simp [entryFrame, mkF, argsToLocals, Value.category]; done) | rfl
set_option maxRecDepth 65536 in
set_option maxHeartbeats 40000000 in
theorem rmPr2 (l : Launch) (Z : State) (a0 : Array Value) (hw : ∀ d ∈ tables_1, d.before a0 Z = true) (ws : List Jvm.Cond) (a1 : Addr) (a2 : Addr) (w1 : Int32) (w2 : Int32) (w3 : Int32) (w4 : Int32) (h0 : Heap) (n0 : Nat) (Z0 : n0 ≤ h0.size) (F1 : Fld Z h0 a1 "com/example/libprocgraph/libprocgraph/reader/InvalidModelException" "line" "I" (.int w1)) (F2 : Fld Z h0 a1 "com/example/libprocgraph/libprocgraph/reader/InvalidModelException" "column" "I" (.int w2)) (F3 : Fld Z h0 a2 "com/example/libprocgraph/libprocgraph/reader/InvalidModelException" "line" "I" (.int w3)) (F4 : Fld Z h0 a2 "com/example/libprocgraph/libprocgraph/reader/InvalidModelException" "column" "I" (.int w4)) (c1 : ¬ (w1 < w3)) (c2 : ¬ (w1 = w3)) :
    MetFree l (⟨"com/example/libprocgraph/libprocgraph/reader/InvalidModelException", "precedes", "(Lcom/example/libprocgraph/libprocgraph/reader/InvalidModelException;)Z"⟩ : MethodName) (head1 (Jvm.Cond.code (⟨"com/example/libprocgraph/libprocgraph/reader/InvalidModelException", "precedes", "(Lcom/example/libprocgraph/libprocgraph/reader/InvalidModelException;)Z"⟩ : MethodName) prog_61_method_4_code 2 (some .boolean) :: ws) ({ frames := 0, cells := 0, slots := 0, locals := 0 } : Room)) (fun a U => a = #[(.ref a1), (.ref a2)] ∧ Z.Warmed39 U.vm ∧ U.heap = h0) (fun _ _ _ _ _ => True) (fun _ U o U' => ∃ v L, o = .returned v ∧ Q_rmPr2 Z a1 a2 w1 w2 w3 w4 h0 n0 v U'.heap L ∧ FrameEnd U o U' L ({ frames := 0, cells := 0, slots := 0, locals := 0 } : Room).cells ({ frames := 0, cells := 0, slots := 0, locals := 0 } : Room).slots) := by
  refine MetFree.of_bodySF (plainFor_of_name pn_2) hisR ?_
  intro p e s m args below meth c s₁ Bd hml0 hP hK
  obtain ⟨rfl, hZ, hh⟩ := hP
  have hx := Bd.exec
  have hby := Bd.bytes
  have hml : c.maxLocals = 2 := hml0
  have hown : s.vm.findClass "com/example/libprocgraph/libprocgraph/reader/InvalidModelException" = some m.cls := findClass_of_methodNamed Bd.named
  have hnm := (name_of_methodNamed Bd.named Bd.method).1
  have X0 : Stand p l e ({ frames := 0, cells := 0, slots := 0, locals := 0 } : Room) s m #[(.ref a1), (.ref a2)] below meth c s₁ [] 0 0 := Stand.of_body Bd
  have e0 : s₁.heap = h0 := by rw [← hh, Bd.state]; rfl
  have N0 := Fr.nil n0
  refine own_go (own_lift (fun t k => castTop (ef_rmPr2 m a1 a2) k) ?_)
  show own_Go p.tables e below (s₁.setTop (mkF m 0 #[rv a1, rv a2] [])) _
  have sg1 : ∀ t, Steps p.tables e below (s₁.setTop (mkF m 1 #[rv a1, rv a2] [(.ref a1)])) t → Steps p.tables e below (s₁.setTop (mkF m 0 #[rv a1, rv a2] [])) t := by
    intro t k
    refine XS.aloadN X0.here hx rfl (hb hby d5_0) rfl rfl ?_
    show Steps p.tables e below (s₁.setTop (mkF m 1 #[rv a1, rv a2] [(.ref a1)])) _
    exact k
  refine own_lift sg1 ?_
  show own_Go p.tables e below (s₁.setTop (mkF m 1 #[rv a1, rv a2] [(.ref a1)])) _
  obtain ⟨T2, X2, e2, st2⟩ := getF X0 hx hZ hown (host := "") (Or.inl (wd hw 64 rfl)) Via.refl e0 F1 (g := (mkF m 1 #[rv a1, rv a2] [(.ref a1)])) rfl rfl (hb hby d5_1)
  refine own_lift st2 ?_
  show own_Go p.tables e below (T2.setTop (mkF m 4 #[rv a1, rv a2] [(.int w1)])) _
  have sg3 : ∀ t, Steps p.tables e below (T2.setTop (mkF m 5 #[rv a1, rv a2] [(.ref a2), (.int w1)])) t → Steps p.tables e below (T2.setTop (mkF m 4 #[rv a1, rv a2] [(.int w1)])) t := by
    intro t k
    refine XS.aloadN X2.here hx rfl (hb hby d5_4) rfl rfl ?_
    show Steps p.tables e below (T2.setTop (mkF m 5 #[rv a1, rv a2] [(.ref a2), (.int w1)])) _
    exact k
  refine own_lift sg3 ?_
  show own_Go p.tables e below (T2.setTop (mkF m 5 #[rv a1, rv a2] [(.ref a2), (.int w1)])) _
  obtain ⟨T4, X4, e4, st4⟩ := getF X2 hx hZ hown (host := "") (Or.inl (wd hw 64 rfl)) Via.refl e2 F3 (g := (mkF m 5 #[rv a1, rv a2] [(.ref a2), (.int w1)])) rfl rfl (hb hby d5_5)
  refine own_lift st4 ?_
  show own_Go p.tables e below (T4.setTop (mkF m 8 #[rv a1, rv a2] [(.int w3), (.int w1)])) _
  have sg5 : ∀ t, Steps p.tables e below (T4.setTop (mkF m 12 #[rv a1, rv a2] [(.ref a1)])) t → Steps p.tables e below (T4.setTop (mkF m 8 #[rv a1, rv a2] [(.int w3), (.int w1)])) t := by
    intro t k
    refine XS.icmpNo X4.here hx rfl (hb hby d5_8) rfl (flt c1).1 ?_
    show Steps p.tables e below (T4.setTop (mkF m 11 #[rv a1, rv a2] [])) _
    refine XS.aloadN X4.here hx rfl (hb hby d5_11) rfl rfl ?_
    show Steps p.tables e below (T4.setTop (mkF m 12 #[rv a1, rv a2] [(.ref a1)])) _
    exact k
  refine own_lift sg5 ?_
  show own_Go p.tables e below (T4.setTop (mkF m 12 #[rv a1, rv a2] [(.ref a1)])) _
  obtain ⟨T6, X6, e6, st6⟩ := getF X4 hx hZ hown (host := "") (Or.inl (wd hw 64 rfl)) Via.refl e4 F1 (g := (mkF m 12 #[rv a1, rv a2] [(.ref a1)])) rfl rfl (hb hby d5_12)
  refine own_lift st6 ?_
  show own_Go p.tables e below (T6.setTop (mkF m 15 #[rv a1, rv a2] [(.int w1)])) _
  have sg7 : ∀ t, Steps p.tables e below (T6.setTop (mkF m 16 #[rv a1, rv a2] [(.ref a2), (.int w1)])) t → Steps p.tables e below (T6.setTop (mkF m 15 #[rv a1, rv a2] [(.int w1)])) t := by
    intro t k
    refine XS.aloadN X6.here hx rfl (hb hby d5_15) rfl rfl ?_
    show Steps p.tables e below (T6.setTop (mkF m 16 #[rv a1, rv a2] [(.ref a2), (.int w1)])) _
    exact k
  refine own_lift sg7 ?_
  show own_Go p.tables e below (T6.setTop (mkF m 16 #[rv a1, rv a2] [(.ref a2), (.int w1)])) _
  obtain ⟨T8, X8, e8, st8⟩ := getF X6 hx hZ hown (host := "") (Or.inl (wd hw 64 rfl)) Via.refl e6 F3 (g := (mkF m 16 #[rv a1, rv a2] [(.ref a2), (.int w1)])) rfl rfl (hb hby d5_16)
  refine own_lift st8 ?_
  show own_Go p.tables e below (T8.setTop (mkF m 19 #[rv a1, rv a2] [(.int w3), (.int w1)])) _
  have sg9 : ∀ t, Steps p.tables e below (T8.setTop (mkF m 38 #[rv a1, rv a2] [(.int 0)])) t → Steps p.tables e below (T8.setTop (mkF m 19 #[rv a1, rv a2] [(.int w3), (.int w1)])) t := by
    intro t k
    refine XS.icmpYes X8.here hx rfl (pc0 := 19) (pc' := 37) rfl (hb hby d5_19) rfl (feq c2).2 (by decide) (by decide) ?_
    show Steps p.tables e below (T8.setTop (mkF m 37 #[rv a1, rv a2] [])) _
    refine XS.iconst X8.here hx rfl (hb hby d5_37) ?_
    show Steps p.tables e below (T8.setTop (mkF m 38 #[rv a1, rv a2] [(.int 0)])) _
    exact k
  refine own_lift sg9 ?_
  show own_Go p.tables e below (T8.setTop (mkF m 38 #[rv a1, rv a2] [(.int 0)])) _
  obtain ⟨fs, hr, hrun, hended, hW, hsame⟩ := X8.leave (v := some (.int 0)) (fun h => by rw [Bd.returns] at h; cases h)
  refine ⟨_, _, ?_, hrun, hended, _, _, rfl, ?_, ⟨_, rfl⟩, hW, hsame.mono (by decide) (by decide)⟩
  · exact retN X8 hx (t := .boolean) Bd.returns (by simp) (hb hby d5_38) hr
  · show Q_rmPr2 Z a1 a2 w1 w2 w3 w4 h0 n0 _ T8.heap _
    rw [e8]
    exact ⟨rfl, N0, rfl⟩
theorem d5_22 : decode prog_61_method_4_code 22 = .ok (.aload_n 0, 1) := by decide +kernel
theorem d5_23 : decode prog_61_method_4_code 23 = .ok (.getfield 13, 3) := by decide +kernel
theorem d5_26 : decode prog_61_method_4_code 26 = .ok (.aload_n 1, 1) := by decide +kernel
theorem d5_27 : decode prog_61_method_4_code 27 = .ok (.getfield 13, 3) := by decide +kernel
theorem d5_30 : decode prog_61_method_4_code 30 = .ok (.if_icmp .ge 7, 3) := by decide +kernel
def Q_rmPr3 (Z : State) (a1 : Addr) (a2 : Addr) (w1 : Int32) (w2 : Int32) (w3 : Int32) (w4 : Int32) (h0 : Heap) (n0 : Nat) (v : Option Value) (h : Heap) (L : List Loc) : Prop := v = some (.int 1) ∧ Fr n0 L ∧ h = h0
theorem ef_rmPr3 (m : MethodId) (x0 : Addr) (x1 : Addr) : entryFrame m #[(.ref x0), (.ref x1)] 2 = mkF m 0 #[.val (.ref x0), .val (.ref x1)] [] := by first | (simp [entryFrame, mkF, argsToLocals, Value.category]; done) | rfl
set_option maxRecDepth 65536 in
set_option maxHeartbeats 40000000 in
theorem rmPr3 (l : Launch) (Z : State) (a0 : Array Value) (hw : ∀ d ∈ tables_1, d.before a0 Z = true) (ws : List Jvm.Cond) (a1 : Addr) (a2 : Addr) (w1 : Int32) (w2 : Int32) (w3 : Int32) (w4 : Int32) (h0 : Heap) (n0 : Nat) (Z0 : n0 ≤ h0.size) (F1 : Fld Z h0 a1 "com/example/libprocgraph/libprocgraph/reader/InvalidModelException" "line" "I" (.int w1)) (F2 : Fld Z h0 a1 "com/example/libprocgraph/libprocgraph/reader/InvalidModelException" "column" "I" (.int w2)) (F3 : Fld Z h0 a2 "com/example/libprocgraph/libprocgraph/reader/InvalidModelException" "line" "I" (.int w3)) (F4 : Fld Z h0 a2 "com/example/libprocgraph/libprocgraph/reader/InvalidModelException" "column" "I" (.int w4)) (c1 : ¬ (w1 < w3)) (c2 : w1 = w3) (c3 : w2 < w4) :
    MetFree l (⟨"com/example/libprocgraph/libprocgraph/reader/InvalidModelException", "precedes", "(Lcom/example/libprocgraph/libprocgraph/reader/InvalidModelException;)Z"⟩ : MethodName) (head1 (Jvm.Cond.code (⟨"com/example/libprocgraph/libprocgraph/reader/InvalidModelException", "precedes", "(Lcom/example/libprocgraph/libprocgraph/reader/InvalidModelException;)Z"⟩ : MethodName) prog_61_method_4_code 2 (some .boolean) :: ws) ({ frames := 0, cells := 0, slots := 0, locals := 0 } : Room)) (fun a U => a = #[(.ref a1), (.ref a2)] ∧ Z.Warmed39 U.vm ∧ U.heap = h0) (fun _ _ _ _ _ => True) (fun _ U o U' => ∃ v L, o = .returned v ∧ Q_rmPr3 Z a1 a2 w1 w2 w3 w4 h0 n0 v U'.heap L ∧ FrameEnd U o U' L ({ frames := 0, cells := 0, slots := 0, locals := 0 } : Room).cells ({ frames := 0, cells := 0, slots := 0, locals := 0 } : Room).slots) := by
  refine MetFree.of_bodySF (plainFor_of_name pn_2) hisR ?_
  intro p e s m args below meth c s₁ Bd hml0 hP hK
  obtain ⟨rfl, hZ, hh⟩ := hP
  have hx := Bd.exec
  have hby := Bd.bytes
  have hml : c.maxLocals = 2 := hml0
  have hown : s.vm.findClass "com/example/libprocgraph/libprocgraph/reader/InvalidModelException" = some m.cls := findClass_of_methodNamed Bd.named
  have hnm := (name_of_methodNamed Bd.named Bd.method).1
  have X0 : Stand p l e ({ frames := 0, cells := 0, slots := 0, locals := 0 } : Room) s m #[(.ref a1), (.ref a2)] below meth c s₁ [] 0 0 := Stand.of_body Bd
  have e0 : s₁.heap = h0 := by rw [← hh, Bd.state]; rfl
  have N0 := Fr.nil n0
  refine own_go (own_lift (fun t k => castTop (ef_rmPr3 m a1 a2) k) ?_)
  show own_Go p.tables e below (s₁.setTop (mkF m 0 #[rv a1, rv a2] [])) _
  have sg1 : ∀ t, Steps p.tables e below (s₁.setTop (mkF m 1 #[rv a1, rv a2] [(.ref a1)])) t → Steps p.tables e below (s₁.setTop (mkF m 0 #[rv a1, rv a2] [])) t := by
    intro t k
    refine XS.aloadN X0.here hx rfl (hb hby d5_0) rfl rfl ?_
    show Steps p.tables e below (s₁.setTop (mkF m 1 #[rv a1, rv a2] [(.ref a1)])) _
    exact k
  refine own_lift sg1 ?_
  show own_Go p.tables e below (s₁.setTop (mkF m 1 #[rv a1, rv a2] [(.ref a1)])) _
  obtain ⟨T2, X2, e2, st2⟩ := getF X0 hx hZ hown (host := "") (Or.inl (wd hw 64 rfl)) Via.refl e0 F1 (g := (mkF m 1 #[rv a1, rv a2] [(.ref a1)])) rfl rfl (hb hby d5_1)
  refine own_lift st2 ?_
  show own_Go p.tables e below (T2.setTop (mkF m 4 #[rv a1, rv a2] [(.int w1)])) _
  have sg3 : ∀ t, Steps p.tables e below (T2.setTop (mkF m 5 #[rv a1, rv a2] [(.ref a2), (.int w1)])) t → Steps p.tables e below (T2.setTop (mkF m 4 #[rv a1, rv a2] [(.int w1)])) t := by
    intro t k
    refine XS.aloadN X2.here hx rfl (hb hby d5_4) rfl rfl ?_
    show Steps p.tables e below (T2.setTop (mkF m 5 #[rv a1, rv a2] [(.ref a2), (.int w1)])) _
    exact k
  refine own_lift sg3 ?_
  show own_Go p.tables e below (T2.setTop (mkF m 5 #[rv a1, rv a2] [(.ref a2), (.int w1)])) _
  obtain ⟨T4, X4, e4, st4⟩ := getF X2 hx hZ hown (host := "") (Or.inl (wd hw 64 rfl)) Via.refl e2 F3 (g := (mkF m 5 #[rv a1, rv a2] [(.ref a2), (.int w1)])) rfl rfl (hb hby d5_5)
  refine own_lift st4 ?_
  show own_Go p.tables e below (T4.setTop (mkF m 8 #[rv a1, rv a2] [(.int w3), (.int w1)])) _
  have sg5 : ∀ t, Steps p.tables e below (T4.setTop (mkF m 12 #[rv a1, rv a2] [(.ref a1)])) t → Steps p.tables e below (T4.setTop (mkF m 8 #[rv a1, rv a2] [(.int w3), (.int w1)])) t := by
    intro t k
    refine XS.icmpNo X4.here hx rfl (hb hby d5_8) rfl (flt c1).1 ?_
    show Steps p.tables e below (T4.setTop (mkF m 11 #[rv a1, rv a2] [])) _
    refine XS.aloadN X4.here hx rfl (hb hby d5_11) rfl rfl ?_
    show Steps p.tables e below (T4.setTop (mkF m 12 #[rv a1, rv a2] [(.ref a1)])) _
    exact k
  refine own_lift sg5 ?_
  show own_Go p.tables e below (T4.setTop (mkF m 12 #[rv a1, rv a2] [(.ref a1)])) _
  obtain ⟨T6, X6, e6, st6⟩ := getF X4 hx hZ hown (host := "") (Or.inl (wd hw 64 rfl)) Via.refl e4 F1 (g := (mkF m 12 #[rv a1, rv a2] [(.ref a1)])) rfl rfl (hb hby d5_12)
  refine own_lift st6 ?_
  show own_Go p.tables e below (T6.setTop (mkF m 15 #[rv a1, rv a2] [(.int w1)])) _
  have sg7 : ∀ t, Steps p.tables e below (T6.setTop (mkF m 16 #[rv a1, rv a2] [(.ref a2), (.int w1)])) t → Steps p.tables e below (T6.setTop (mkF m 15 #[rv a1, rv a2] [(.int w1)])) t := by
    intro t k
    refine XS.aloadN X6.here hx rfl (hb hby d5_15) rfl rfl ?_
    show Steps p.tables e below (T6.setTop (mkF m 16 #[rv a1, rv a2] [(.ref a2), (.int w1)])) _
    exact k
  refine own_lift sg7 ?_
  show own_Go p.tables e below (T6.setTop (mkF m 16 #[rv a1, rv a2] [(.ref a2), (.int w1)])) _
  obtain ⟨T8, X8, e8, st8⟩ := getF X6 hx hZ hown (host := "") (Or.inl (wd hw 64 rfl)) Via.refl e6 F3 (g := (mkF m 16 #[rv a1, rv a2] [(.ref a2), (.int w1)])) rfl rfl (hb hby d5_16)
  refine own_lift st8 ?_
  show own_Go p.tables e below (T8.setTop (mkF m 19 #[rv a1, rv a2] [(.int w3), (.int w1)])) _
  have sg9 : ∀ t, Steps p.tables e below (T8.setTop (mkF m 23 #[rv a1, rv a2] [(.ref a1)])) t → Steps p.tables e below (T8.setTop (mkF m 19 #[rv a1, rv a2] [(.int w3), (.int w1)])) t := by
    intro t k
    refine XS.icmpNo X8.here hx rfl (hb hby d5_19) rfl (teq c2).2 ?_
    show Steps p.tables e below (T8.setTop (mkF m 22 #[rv a1, rv a2] [])) _
    refine XS.aloadN X8.here hx rfl (hb hby d5_22) rfl rfl ?_
    show Steps p.tables e below (T8.setTop (mkF m 23 #[rv a1, rv a2] [(.ref a1)])) _
    exact k
  refine own_lift sg9 ?_
  show own_Go p.tables e below (T8.setTop (mkF m 23 #[rv a1, rv a2] [(.ref a1)])) _
  obtain ⟨T10, X10, e10, st10⟩ := getF X8 hx hZ hown (host := "") (Or.inl (wd hw 66 rfl)) Via.refl e8 F2 (g := (mkF m 23 #[rv a1, rv a2] [(.ref a1)])) rfl rfl (hb hby d5_23)
  refine own_lift st10 ?_
  show own_Go p.tables e below (T10.setTop (mkF m 26 #[rv a1, rv a2] [(.int w2)])) _
  have sg11 : ∀ t, Steps p.tables e below (T10.setTop (mkF m 27 #[rv a1, rv a2] [(.ref a2), (.int w2)])) t → Steps p.tables e below (T10.setTop (mkF m 26 #[rv a1, rv a2] [(.int w2)])) t := by
    intro t k
    refine XS.aloadN X10.here hx rfl (hb hby d5_26) rfl rfl ?_
    show Steps p.tables e below (T10.setTop (mkF m 27 #[rv a1, rv a2] [(.ref a2), (.int w2)])) _
    exact k
  refine own_lift sg11 ?_
  show own_Go p.tables e below (T10.setTop (mkF m 27 #[rv a1, rv a2] [(.ref a2), (.int w2)])) _
  obtain ⟨T12, X12, e12, st12⟩ := getF X10 hx hZ hown (host := "") (Or.inl (wd hw 66 rfl)) Via.refl e10 F4 (g := (mkF m 27 #[rv a1, rv a2] [(.ref a2), (.int w2)])) rfl rfl (hb hby d5_27)
  refine own_lift st12 ?_
  show own_Go p.tables e below (T12.setTop (mkF m 30 #[rv a1, rv a2] [(.int w4), (.int w2)])) _
  have sg13 : ∀ t, Steps p.tables e below (T12.setTop (mkF m 38 #[rv a1, rv a2] [(.int 1)])) t → Steps p.tables e below (T12.setTop (mkF m 30 #[rv a1, rv a2] [(.int w4), (.int w2)])) t := by
    intro t k
    refine XS.icmpNo X12.here hx rfl (hb hby d5_30) rfl (tlt c3).2.1 ?_
    show Steps p.tables e below (T12.setTop (mkF m 33 #[rv a1, rv a2] [])) _
    refine XS.iconst X12.here hx rfl (hb hby d5_33) ?_
    refine XS.goto X12.here hx rfl (pc0 := 34) (pc' := 38) rfl (hb hby d5_34) (by decide) (by decide) ?_
    show Steps p.tables e below (T12.setTop (mkF m 38 #[rv a1, rv a2] [(.int 1)])) _
    exact k
  refine own_lift sg13 ?_
  show own_Go p.tables e below (T12.setTop (mkF m 38 #[rv a1, rv a2] [(.int 1)])) _
  obtain ⟨fs, hr, hrun, hended, hW, hsame⟩ := X12.leave (v := some (.int 1)) (fun h => by rw [Bd.returns] at h; cases h)
  refine ⟨_, _, ?_, hrun, hended, _, _, rfl, ?_, ⟨_, rfl⟩, hW, hsame.mono (by decide) (by decide)⟩
  · exact retN X12 hx (t := .boolean) Bd.returns (by simp) (hb hby d5_38) hr
  · show Q_rmPr3 Z a1 a2 w1 w2 w3 w4 h0 n0 _ T12.heap _
    rw [e12]
    exact ⟨rfl, N0, rfl⟩
def Q_rmPr4 (Z : State) (a1 : Addr) (a2 : Addr) (w1 : Int32) (w2 : Int32) (w3 : Int32) (w4 : Int32) (h0 : Heap) (n0 : Nat) (v : Option Value) (h : Heap) (L : List Loc) : Prop := v = some (.int 0) ∧ Fr n0 L ∧ h = h0
theorem ef_rmPr4 (m : MethodId) (x0 : Addr) (x1 : Addr) : entryFrame m #[(.ref x0), (.ref x1)] 2 = mkF m 0 #[.val (.ref x0), .val (.ref x1)] [] := by first | (simp [entryFrame, mkF, argsToLocals, Value.category]; done) | rfl
set_option maxRecDepth 65536 in
set_option maxHeartbeats 40000000 in
theorem rmPr4 (l : Launch) (Z : State) (a0 : Array Value) (hw : ∀ d ∈ tables_1, d.before a0 Z = true) (ws : List Jvm.Cond) (a1 : Addr) (a2 : Addr) (w1 : Int32) (w2 : Int32) (w3 : Int32) (w4 : Int32) (h0 : Heap) (n0 : Nat) (Z0 : n0 ≤ h0.size) (F1 : Fld Z h0 a1 "com/example/libprocgraph/libprocgraph/reader/InvalidModelException" "line" "I" (.int w1)) (F2 : Fld Z h0 a1 "com/example/libprocgraph/libprocgraph/reader/InvalidModelException" "column" "I" (.int w2)) (F3 : Fld Z h0 a2 "com/example/libprocgraph/libprocgraph/reader/InvalidModelException" "line" "I" (.int w3)) (F4 : Fld Z h0 a2 "com/example/libprocgraph/libprocgraph/reader/InvalidModelException" "column" "I" (.int w4)) (c1 : ¬ (w1 < w3)) (c2 : w1 = w3) (c3 : ¬ (w2 < w4)) :
    MetFree l (⟨"com/example/libprocgraph/libprocgraph/reader/InvalidModelException", "precedes", "(Lcom/example/libprocgraph/libprocgraph/reader/InvalidModelException;)Z"⟩ : MethodName) (head1 (Jvm.Cond.code (⟨"com/example/libprocgraph/libprocgraph/reader/InvalidModelException", "precedes", "(Lcom/example/libprocgraph/libprocgraph/reader/InvalidModelException;)Z"⟩ : MethodName) prog_61_method_4_code 2 (some .boolean) :: ws) ({ frames := 0, cells := 0, slots := 0, locals := 0 } : Room)) (fun a U => a = #[(.ref a1), (.ref a2)] ∧ Z.Warmed39 U.vm ∧ U.heap = h0) (fun _ _ _ _ _ => True) (fun _ U o U' => ∃ v L, o = .returned v ∧ Q_rmPr4 Z a1 a2 w1 w2 w3 w4 h0 n0 v U'.heap L ∧ FrameEnd U o U' L ({ frames := 0, cells := 0, slots := 0, locals := 0 } : Room).cells ({ frames := 0, cells := 0, slots := 0, locals := 0 } : Room).slots) := by
  refine MetFree.of_bodySF (plainFor_of_name pn_2) hisR ?_
  intro p e s m args below meth c s₁ Bd hml0 hP hK
  obtain ⟨rfl, hZ, hh⟩ := hP
  have hx := Bd.exec
  have hby := Bd.bytes
  have hml : c.maxLocals = 2 := hml0
  have hown : s.vm.findClass "com/example/libprocgraph/libprocgraph/reader/InvalidModelException" = some m.cls := findClass_of_methodNamed Bd.named
  have hnm := (name_of_methodNamed Bd.named Bd.method).1
  have X0 : Stand p l e ({ frames := 0, cells := 0, slots := 0, locals := 0 } : Room) s m #[(.ref a1), (.ref a2)] below meth c s₁ [] 0 0 := Stand.of_body Bd
  have e0 : s₁.heap = h0 := by rw [← hh, Bd.state]; rfl
  have N0 := Fr.nil n0
  refine own_go (own_lift (fun t k => castTop (ef_rmPr4 m a1 a2) k) ?_)
  show own_Go p.tables e below (s₁.setTop (mkF m 0 #[rv a1, rv a2] [])) _
  have sg1 : ∀ t, Steps p.tables e below (s₁.setTop (mkF m 1 #[rv a1, rv a2] [(.ref a1)])) t → Steps p.tables e below (s₁.setTop (mkF m 0 #[rv a1, rv a2] [])) t := by
    intro t k
    refine XS.aloadN X0.here hx rfl (hb hby d5_0) rfl rfl ?_
    show Steps p.tables e below (s₁.setTop (mkF m 1 #[rv a1, rv a2] [(.ref a1)])) _
    exact k
  refine own_lift sg1 ?_
  show own_Go p.tables e below (s₁.setTop (mkF m 1 #[rv a1, rv a2] [(.ref a1)])) _
  obtain ⟨T2, X2, e2, st2⟩ := getF X0 hx hZ hown (host := "") (Or.inl (wd hw 64 rfl)) Via.refl e0 F1 (g := (mkF m 1 #[rv a1, rv a2] [(.ref a1)])) rfl rfl (hb hby d5_1)
  refine own_lift st2 ?_
  show own_Go p.tables e below (T2.setTop (mkF m 4 #[rv a1, rv a2] [(.int w1)])) _
  have sg3 : ∀ t, Steps p.tables e below (T2.setTop (mkF m 5 #[rv a1, rv a2] [(.ref a2), (.int w1)])) t → Steps p.tables e below (T2.setTop (mkF m 4 #[rv a1, rv a2] [(.int w1)])) t := by
    intro t k
    refine XS.aloadN X2.here hx rfl (hb hby d5_4) rfl rfl ?_
    show Steps p.tables e below (T2.setTop (mkF m 5 #[rv a1, rv a2] [(.ref a2), (.int w1)])) _
    exact k
  refine own_lift sg3 ?_
  show own_Go p.tables e below (T2.setTop (mkF m 5 #[rv a1, rv a2] [(.ref a2), (.int w1)])) _
  obtain ⟨T4, X4, e4, st4⟩ := getF X2 hx hZ hown (host := "") (Or.inl (wd hw 64 rfl)) Via.refl e2 F3 (g := (mkF m 5 #[rv a1, rv a2] [(.ref a2), (.int w1)])) rfl rfl (hb hby d5_5)
  refine own_lift st4 ?_
  show own_Go p.tables e below (T4.setTop (mkF m 8 #[rv a1, rv a2] [(.int w3), (.int w1)])) _
  have sg5 : ∀ t, Steps p.tables e below (T4.setTop (mkF m 12 #[rv a1, rv a2] [(.ref a1)])) t → Steps p.tables e below (T4.setTop (mkF m 8 #[rv a1, rv a2] [(.int w3), (.int w1)])) t := by
    intro t k
    refine XS.icmpNo X4.here hx rfl (hb hby d5_8) rfl (flt c1).1 ?_
    show Steps p.tables e below (T4.setTop (mkF m 11 #[rv a1, rv a2] [])) _
    refine XS.aloadN X4.here hx rfl (hb hby d5_11) rfl rfl ?_
    show Steps p.tables e below (T4.setTop (mkF m 12 #[rv a1, rv a2] [(.ref a1)])) _
    exact k
  refine own_lift sg5 ?_
  show own_Go p.tables e below (T4.setTop (mkF m 12 #[rv a1, rv a2] [(.ref a1)])) _
  obtain ⟨T6, X6, e6, st6⟩ := getF X4 hx hZ hown (host := "") (Or.inl (wd hw 64 rfl)) Via.refl e4 F1 (g := (mkF m 12 #[rv a1, rv a2] [(.ref a1)])) rfl rfl (hb hby d5_12)
  refine own_lift st6 ?_
  show own_Go p.tables e below (T6.setTop (mkF m 15 #[rv a1, rv a2] [(.int w1)])) _
  have sg7 : ∀ t, Steps p.tables e below (T6.setTop (mkF m 16 #[rv a1, rv a2] [(.ref a2), (.int w1)])) t → Steps p.tables e below (T6.setTop (mkF m 15 #[rv a1, rv a2] [(.int w1)])) t := by
    intro t k
    refine XS.aloadN X6.here hx rfl (hb hby d5_15) rfl rfl ?_
    show Steps p.tables e below (T6.setTop (mkF m 16 #[rv a1, rv a2] [(.ref a2), (.int w1)])) _
    exact k
  refine own_lift sg7 ?_
  show own_Go p.tables e below (T6.setTop (mkF m 16 #[rv a1, rv a2] [(.ref a2), (.int w1)])) _
  obtain ⟨T8, X8, e8, st8⟩ := getF X6 hx hZ hown (host := "") (Or.inl (wd hw 64 rfl)) Via.refl e6 F3 (g := (mkF m 16 #[rv a1, rv a2] [(.ref a2), (.int w1)])) rfl rfl (hb hby d5_16)
  refine own_lift st8 ?_
  show own_Go p.tables e below (T8.setTop (mkF m 19 #[rv a1, rv a2] [(.int w3), (.int w1)])) _
  have sg9 : ∀ t, Steps p.tables e below (T8.setTop (mkF m 23 #[rv a1, rv a2] [(.ref a1)])) t → Steps p.tables e below (T8.setTop (mkF m 19 #[rv a1, rv a2] [(.int w3), (.int w1)])) t := by
    intro t k
    refine XS.icmpNo X8.here hx rfl (hb hby d5_19) rfl (teq c2).2 ?_
    show Steps p.tables e below (T8.setTop (mkF m 22 #[rv a1, rv a2] [])) _
    refine XS.aloadN X8.here hx rfl (hb hby d5_22) rfl rfl ?_
    show Steps p.tables e below (T8.setTop (mkF m 23 #[rv a1, rv a2] [(.ref a1)])) _
    exact k
  refine own_lift sg9 ?_
  show own_Go p.tables e below (T8.setTop (mkF m 23 #[rv a1, rv a2] [(.ref a1)])) _
  obtain ⟨T10, X10, e10, st10⟩ := getF X8 hx hZ hown (host := "") (Or.inl (wd hw 66 rfl)) Via.refl e8 F2 (g := (mkF m 23 #[rv a1, rv a2] [(.ref a1)])) rfl rfl (hb hby d5_23)
  refine own_lift st10 ?_
  show own_Go p.tables e below (T10.setTop (mkF m 26 #[rv a1, rv a2] [(.int w2)])) _
  have sg11 : ∀ t, Steps p.tables e below (T10.setTop (mkF m 27 #[rv a1, rv a2] [(.ref a2), (.int w2)])) t → Steps p.tables e below (T10.setTop (mkF m 26 #[rv a1, rv a2] [(.int w2)])) t := by
    intro t k
    refine XS.aloadN X10.here hx rfl (hb hby d5_26) rfl rfl ?_
    show Steps p.tables e below (T10.setTop (mkF m 27 #[rv a1, rv a2] [(.ref a2), (.int w2)])) _
    exact k
  refine own_lift sg11 ?_
  show own_Go p.tables e below (T10.setTop (mkF m 27 #[rv a1, rv a2] [(.ref a2), (.int w2)])) _
  obtain ⟨T12, X12, e12, st12⟩ := getF X10 hx hZ hown (host := "") (Or.inl (wd hw 66 rfl)) Via.refl e10 F4 (g := (mkF m 27 #[rv a1, rv a2] [(.ref a2), (.int w2)])) rfl rfl (hb hby d5_27)
  refine own_lift st12 ?_
  show own_Go p.tables e below (T12.setTop (mkF m 30 #[rv a1, rv a2] [(.int w4), (.int w2)])) _
  have sg13 : ∀ t, Steps p.tables e below (T12.setTop (mkF m 38 #[rv a1, rv a2] [(.int 0)])) t → Steps p.tables e below (T12.setTop (mkF m 30 #[rv a1, rv a2] [(.int w4), (.int w2)])) t := by
    intro t k
    refine XS.icmpYes X12.here hx rfl (pc0 := 30) (pc' := 37) rfl (hb hby d5_30) rfl (flt c3).2.1 (by decide) (by decide) ?_
    show Steps p.tables e below (T12.setTop (mkF m 37 #[rv a1, rv a2] [])) _
    refine XS.iconst X12.here hx rfl (hb hby d5_37) ?_
    show Steps p.tables e below (T12.setTop (mkF m 38 #[rv a1, rv a2] [(.int 0)])) _
    exact k
  refine own_lift sg13 ?_
  show own_Go p.tables e below (T12.setTop (mkF m 38 #[rv a1, rv a2] [(.int 0)])) _
  obtain ⟨fs, hr, hrun, hended, hW, hsame⟩ := X12.leave (v := some (.int 0)) (fun h => by rw [Bd.returns] at h; cases h)
  refine ⟨_, _, ?_, hrun, hended, _, _, rfl, ?_, ⟨_, rfl⟩, hW, hsame.mono (by decide) (by decide)⟩
  · exact retN X12 hx (t := .boolean) Bd.returns (by simp) (hb hby d5_38) hr
  · show Q_rmPr4 Z a1 a2 w1 w2 w3 w4 h0 n0 _ T12.heap _
    rw [e12]
    exact ⟨rfl, N0, rfl⟩
theorem pd_1 : parseMethodDescriptor "(IILjava/lang/String;)V" = some ⟨[.int, .int, (.object "java/lang/String")], none⟩ := by decide +kernel
theorem pd_2 : parseMethodDescriptor "(II)J" = some ⟨[.int, .int], some .long⟩ := by decide +kernel
theorem pd_3 : parseMethodDescriptor "(Lcom/example/libprocgraph/libprocgraph/reader/InvalidModelException;)Z" = some ⟨[(.object "com/example/libprocgraph/libprocgraph/reader/InvalidModelException")], some .boolean⟩ := by decide +kernel
def Q0 (Z : State)  (h0 : Heap) (n0 : Nat) (v : Option Value) (h : Heap) (L : List Loc) : Prop := v = some (.int 1) ∧ Fr n0 L
theorem ef_rm0_1 (m : MethodId) (x0 : Int32) (x1 : Int32) (x2 : Int32) (x3 : Int32) (x4 : Int32) : entryFrame m #[(.int x0), (.int x1), (.int x2), (.int x3), (.int x4)] maxLocals = mkF m 0 #[.val (.int x0), .val (.int x1), .val (.int x2), .val (.int x3), .val (.int x4), .unset, .unset, .unset, .unset, .unset, .unset, .unset, .unset, .unset, .unset] [] := by first | (simp [entryFrame, mkF, argsToLocals, Value.category, maxLocals]; done) | rfl
set_option maxRecDepth 65536 in
set_option maxHeartbeats 40000000 in
theorem rm0_1 (l : Launch) (Z : State) (a0 : Array Value) (hw : ∀ d ∈ tables_1, d.before a0 Z = true) (ws : List Jvm.Cond) (p0 : Int32) (p1 : Int32) (p2 : Int32) (p3 : Int32) (p4 : Int32) (u1 : Value) (u2 : Value) (y0 : Int32) (y1 : Int32) (h0 : Heap) (n0 : Nat) (Z0 : n0 ≤ h0.size) (TS : ThS Z h0) (Su1 : Sta Z h0 "java/lang/Throwable" "UNASSIGNED_STACK" "[Ljava/lang/StackTraceElement;" u1) (Su2 : Sta Z h0 "java/lang/Throwable" "SUPPRESSED_SENTINEL" "Ljava/util/List;" u2) (hl : l.stackTraces = true) (P_u1 : u1.isRef = true) (P_u2 : u2.isRef = true) (hy0 : y0 = if (p4 &&& (1 : Int32)) = (0 : Int32) then p2 else p0) (hy1 : y1 = if (p4 &&& (2 : Int32)) = (0 : Int32) then p3 else p1) (l1 : p0 < y0) (l2 : ¬ (y0 < p0)) (ee : ¬ (p0 = y0)) (ab : (own_key p0 p1) < (own_key y0 y1)) (ba : ¬ ((own_key y0 y1) < (own_key p0 p1))) :
    MetFree l x (head1 (Jvm.Cond.code x code maxLocals ret :: ws) room_1) (fun a U => a = #[(.int p0), (.int p1), (.int p2), (.int p3), (.int p4)] ∧ Z.Warmed39 U.vm ∧ U.heap = h0) (fun _ _ _ s _ => Jvm.Pilot.@@N@@.Jvm.D.framesKnown s = true ∧ Jvm.Pilot.@@N@@.Jvm.D.tablesKnown s = true) (fun _ U o U' => ∃ v L, o = .returned v ∧ Q0 Z  h0 n0 v U'.heap L ∧ ReturnedEndW U o U' L 24 13184) := by
  refine MetFree.of_bodySF (plainFor_of_name pn_3) hisR ?_
  intro p e s m args below meth c s₁ Bd hml0 hP hK
  obtain ⟨rfl, hZ, hh⟩ := hP
  have hx := Bd.exec
  have hby := Bd.bytes
  have hml : c.maxLocals = 15 := hml0
  have hown : s.vm.findClass "com/example/libprocgraph/libprocgraph/reader/InvalidModelExceptionPrecedesPinLaw" = some m.cls := findClass_of_methodNamed Bd.named
  have hnm := (name_of_methodNamed Bd.named Bd.method).1
  have X0 : Stand p l e room_1 s m #[(.int p0), (.int p1), (.int p2), (.int p3), (.int p4)] below meth c s₁ [] 0 0 := Stand.of_body Bd
  have e0 : s₁.heap = h0 := by rw [← hh, Bd.state]; rfl
  have N0 := Fr.nil n0
  obtain ⟨hTK0, hBelow0⟩ := X0.known hK.2 hK.1
  have hTK := hTK0
  have hBelow := hBelow0
  have X0 : Stand p l e room_1 (s.setVm s.vm) m #[(.int p0), (.int p1), (.int p2), (.int p3), (.int p4)] below meth c s₁ [] 0 0 := X0
  have own_sn : s.Since s.vm s.heap.size := (State.WarmedH.refl s).since _
  have own_ss : s.heap.size ≤ h0.size := by rw [hh]; exact Nat.le_refl _
  have own_strw' := own_strw hw
  refine own_go (own_lift (fun t k => castTop (ef_rm0_1 m p0 p1 p2 p3 p4) k) ?_)
  show own_Go p.tables e below (s₁.setTop (mkF m 0 #[iv p0, iv p1, iv p2, iv p3, iv p4, .unset, .unset, .unset, .unset, .unset, .unset, .unset, .unset, .unset, .unset] [])) _
  have join1 : ∀ (T1 : State) (locs1 : List Loc), Stand p l e room_1 s m #[(.int p0), (.int p1), (.int p2), (.int p3), (.int p4)] below meth c T1 locs1 0 0 → T1.heap = h0 → Fr n0 locs1 → own_Go p.tables e below (T1.setTop (mkF m 12 #[iv p0, iv p1, iv p2, iv p3, iv p4, .unset, .unset, .unset, .unset, .unset, .unset, .unset, .unset, .unset, .unset] [(.int y0)])) (fun s₂ o => s₂.status = .running ∧ Ended s₂ below o ∧ ∃ v L, o = .returned v ∧ Q0 Z  h0 n0 v s₂.heap L ∧ ReturnedEndW s o s₂ L 24 13184) := by
    intro T1 locs1 X1 e1 N1
    have sg2 : ∀ t, Steps p.tables e below (T1.setTop (mkF m 14 #[iv p0, iv p1, iv p2, iv p3, iv p4, iv y0, .unset, .unset, .unset, .unset, .unset, .unset, .unset, .unset, .unset] [])) t → Steps p.tables e below (T1.setTop (mkF m 12 #[iv p0, iv p1, iv p2, iv p3, iv p4, .unset, .unset, .unset, .unset, .unset, .unset, .unset, .unset, .unset, .unset] [(.int y0)])) t := by
      intro t k
      refine XS.istore X1.here hx rfl (hb hby at_12) rfl (l' := #[iv p0, iv p1, iv p2, iv p3, iv p4, iv y0, .unset, .unset, .unset, .unset, .unset, .unset, .unset, .unset, .unset]) rfl ?_
      show Steps p.tables e below (T1.setTop (mkF m 14 #[iv p0, iv p1, iv p2, iv p3, iv p4, iv y0, .unset, .unset, .unset, .unset, .unset, .unset, .unset, .unset, .unset] [])) _
      exact k
    refine own_lift sg2 ?_
    show own_Go p.tables e below (T1.setTop (mkF m 14 #[iv p0, iv p1, iv p2, iv p3, iv p4, iv y0, .unset, .unset, .unset, .unset, .unset, .unset, .unset, .unset, .unset] [])) _
    have join3 : ∀ (T3 : State) (locs3 : List Loc), Stand p l e room_1 s m #[(.int p0), (.int p1), (.int p2), (.int p3), (.int p4)] below meth c T3 locs3 0 0 → T3.heap = h0 → Fr n0 locs3 → own_Go p.tables e below (T3.setTop (mkF m 26 #[iv p0, iv p1, iv p2, iv p3, iv p4, iv y0, .unset, .unset, .unset, .unset, .unset, .unset, .unset, .unset, .unset] [(.int y1)])) (fun s₂ o => s₂.status = .running ∧ Ended s₂ below o ∧ ∃ v L, o = .returned v ∧ Q0 Z  h0 n0 v s₂.heap L ∧ ReturnedEndW s o s₂ L 24 13184) := by
      intro T3 locs3 X3 e3 N3
      have sg4 : ∀ t, Steps p.tables e below (T3.setTop (mkF m 28 #[iv p0, iv p1, iv p2, iv p3, iv p4, iv y0, iv y1, .unset, .unset, .unset, .unset, .unset, .unset, .unset, .unset] [])) t → Steps p.tables e below (T3.setTop (mkF m 26 #[iv p0, iv p1, iv p2, iv p3, iv p4, iv y0, .unset, .unset, .unset, .unset, .unset, .unset, .unset, .unset, .unset] [(.int y1)])) t := by
        intro t k
        refine XS.istore X3.here hx rfl (hb hby at_26) rfl (l' := #[iv p0, iv p1, iv p2, iv p3, iv p4, iv y0, iv y1, .unset, .unset, .unset, .unset, .unset, .unset, .unset, .unset]) rfl ?_
        show Steps p.tables e below (T3.setTop (mkF m 28 #[iv p0, iv p1, iv p2, iv p3, iv p4, iv y0, iv y1, .unset, .unset, .unset, .unset, .unset, .unset, .unset, .unset] [])) _
        exact k
      refine own_lift sg4 ?_
      show own_Go p.tables e below (T3.setTop (mkF m 28 #[iv p0, iv p1, iv p2, iv p3, iv p4, iv y0, iv y1, .unset, .unset, .unset, .unset, .unset, .unset, .unset, .unset] [])) _
      obtain ⟨T5, h5, X5, e5, Ex5, Ax5, Dx5, Ux5, st5⟩ := newO X3 hx hZ hown (wd hw 0 rfl) (wd hw 1 rfl) (wd hw 2 rfl) e3 (g := (mkF m 28 #[iv p0, iv p1, iv p2, iv p3, iv p4, iv y0, iv y1, .unset, .unset, .unset, .unset, .unset, .unset, .unset, .unset] [])) rfl (hb hby at_28) (by decide) (by decide)
      obtain ⟨ob5, g5⟩ : ∃ z, z = h0.size := ⟨_, rfl⟩
      rw [← g5] at Ax5 Dx5 Ux5 st5
      have Q5 : s.heap.size ≤ h5.size := Nat.le_trans own_ss Ex5.1
      have Z5 : n0 ≤ h5.size := Nat.le_trans Z0 Ex5.1
      have ge5 : n0 ≤ ob5 := Nat.le_trans Z0 (Nat.le_of_eq g5.symm)
      have Ux5 : Unt h5 ob5 := Ux5
      have Fn5_29 : Fld Z h5 ob5 "java/lang/Throwable" "cause" "Ljava/lang/Throwable;" .null := Dx5 (Or.inl (wd hw 29 rfl)) (ty := (.object "java/lang/Throwable")) (by decide)
      have Fn5_32 : Fld Z h5 ob5 "java/lang/Throwable" "stackTrace" "[Ljava/lang/StackTraceElement;" .null := Dx5 (Or.inl (wd hw 32 rfl)) (ty := (.array (.object "java/lang/StackTraceElement"))) (by decide)
      have Fn5_35 : Fld Z h5 ob5 "java/lang/Throwable" "suppressedExceptions" "Ljava/util/List;" .null := Dx5 (Or.inl (wd hw 35 rfl)) (ty := (.object "java/util/List")) (by decide)
      have Fn5_59 : Fld Z h5 ob5 "java/lang/Throwable" "detailMessage" "Ljava/lang/String;" .null := Dx5 (Or.inl (wd hw 59 rfl)) (ty := (.object "java/lang/String")) (by decide)
      have Fn5_60 : Fld Z h5 ob5 "java/lang/Throwable" "backtrace" "Ljava/lang/Object;" .null := Dx5 (Or.inl (wd hw 60 rfl)) (ty := (.object "java/lang/Object")) (by decide)
      have Fn5_61 : Fld Z h5 ob5 "java/lang/Throwable" "depth" "I" (.int 0) := Dx5 (Or.inl (wd hw 61 rfl)) (ty := .int) (by decide)
      have Fn5_65 : Fld Z h5 ob5 "com/example/libprocgraph/libprocgraph/reader/InvalidModelException" "line" "I" (.int 0) := Dx5 (Or.inr (wd hw 65 rfl)) (ty := .int) (by decide)
      have Fn5_67 : Fld Z h5 ob5 "com/example/libprocgraph/libprocgraph/reader/InvalidModelException" "column" "I" (.int 0) := Dx5 (Or.inr (wd hw 67 rfl)) (ty := .int) (by decide)
      refine own_lift st5 ?_
      show own_Go p.tables e below (T5.setTop (mkF m 31 #[iv p0, iv p1, iv p2, iv p3, iv p4, iv y0, iv y1, .unset, .unset, .unset, .unset, .unset, .unset, .unset, .unset] [(.ref ob5)])) _
      have sg6 : ∀ t, Steps p.tables e below (T5.setTop (mkF m 34 #[iv p0, iv p1, iv p2, iv p3, iv p4, iv y0, iv y1, .unset, .unset, .unset, .unset, .unset, .unset, .unset, .unset] [(.int p1), (.int p0), (.ref ob5), (.ref ob5)])) t → Steps p.tables e below (T5.setTop (mkF m 31 #[iv p0, iv p1, iv p2, iv p3, iv p4, iv y0, iv y1, .unset, .unset, .unset, .unset, .unset, .unset, .unset, .unset] [(.ref ob5)])) t := by
        intro t k
        refine XS.dup X5.here hx rfl (hb hby at_31) rfl rfl ?_
        show Steps p.tables e below (T5.setTop (mkF m 32 #[iv p0, iv p1, iv p2, iv p3, iv p4, iv y0, iv y1, .unset, .unset, .unset, .unset, .unset, .unset, .unset, .unset] [(.ref ob5), (.ref ob5)])) _
        refine XS.iloadN X5.here hx rfl (hb hby at_32) rfl ?_
        refine XS.iloadN X5.here hx rfl (hb hby at_33) rfl ?_
        show Steps p.tables e below (T5.setTop (mkF m 34 #[iv p0, iv p1, iv p2, iv p3, iv p4, iv y0, iv y1, .unset, .unset, .unset, .unset, .unset, .unset, .unset, .unset] [(.int p1), (.int p0), (.ref ob5), (.ref ob5)])) _
        exact k
      refine own_lift sg6 ?_
      show own_Go p.tables e below (T5.setTop (mkF m 34 #[iv p0, iv p1, iv p2, iv p3, iv p4, iv y0, iv y1, .unset, .unset, .unset, .unset, .unset, .unset, .unset, .unset] [(.int p1), (.int p0), (.ref ob5), (.ref ob5)])) _
      obtain ⟨sa7, T7, h7, kk7, X7, e7, Ex7, Sx7, Q7, hZ, hown, st7⟩ := ldcS (s := s) X5 hx hZ hown (wd hw 3 rfl) own_strw' e5 own_sn Q5 (g := (mkF m 34 #[iv p0, iv p1, iv p2, iv p3, iv p4, iv y0, iv y1, .unset, .unset, .unset, .unset, .unset, .unset, .unset, .unset] [(.int p1), (.int p0), (.ref ob5), (.ref ob5)])) rfl (hb hby at_34) (n := 4) (by decide) (by decide) (by decide) (by decide)
      have hTK := Vm.MethodsKnown.alikeC Sx7.1.alike hTK0
      have hBelow := Vm.FramesKnown.alikeC Sx7.1.alike hBelow0
      have Z7 : n0 ≤ h7.size := Nat.le_trans Z5 Ex7.1
      refine own_lift st7 ?_
      show own_Go p.tables e below (T7.setTop (mkF m 36 #[iv p0, iv p1, iv p2, iv p3, iv p4, iv y0, iv y1, .unset, .unset, .unset, .unset, .unset, .unset, .unset, .unset] [(.ref sa7), (.int p1), (.int p0), (.ref ob5), (.ref ob5)])) _
      have Fc8 : Exa Z h7 ob5 "com/example/libprocgraph/libprocgraph/reader/InvalidModelException" := (Ax5.ext Ex7)
      have Fc9 : Unt h7 ob5 := (Ux5.ext Ex7)
      have Fc10 : ThS Z h7 := ((TS.ext Ex5).ext Ex7)
      have Fc11 : Fld Z h7 ob5 "java/lang/Throwable" "cause" "Ljava/lang/Throwable;" .null := (Fn5_29.ext Ex7)
      have Fc12 : Fld Z h7 ob5 "java/lang/Throwable" "stackTrace" "[Ljava/lang/StackTraceElement;" .null := (Fn5_32.ext Ex7)
      have Fc13 : Fld Z h7 ob5 "java/lang/Throwable" "suppressedExceptions" "Ljava/util/List;" .null := (Fn5_35.ext Ex7)
      have Fc14 : Fld Z h7 ob5 "java/lang/Throwable" "backtrace" "Ljava/lang/Object;" .null := (Fn5_60.ext Ex7)
      have Fc15 : Fld Z h7 ob5 "java/lang/Throwable" "detailMessage" "Ljava/lang/String;" .null := (Fn5_59.ext Ex7)
      have Fc16 : Fld Z h7 ob5 "com/example/libprocgraph/libprocgraph/reader/InvalidModelException" "line" "I" (.int 0) := (Fn5_65.ext Ex7)
      have Fc17 : Fld Z h7 ob5 "com/example/libprocgraph/libprocgraph/reader/InvalidModelException" "column" "I" (.int 0) := (Fn5_67.ext Ex7)
      have Fc18 : Sta Z h7 "java/lang/Throwable" "UNASSIGNED_STACK" "[Ljava/lang/StackTraceElement;" u1 := ((Su1.ext Ex5).ext Ex7)
      have Fc19 : Sta Z h7 "java/lang/Throwable" "SUPPRESSED_SENTINEL" "Ljava/util/List;" u2 := ((Su2.ext Ex5).ext Ex7)
      obtain ⟨_, _, ⟨T20, Lx20, kx20, nx20⟩, -, X20, ⟨Lc20, hQ20, lx20, yx20, zx20⟩, st20⟩ := X7.specialBack hx (y := (⟨"com/example/libprocgraph/libprocgraph/reader/InvalidModelException", "<init>", "(IILjava/lang/String;)V"⟩ : MethodName)) rfl hown (mvT hZ (wd hw 11 rfl)) (mvT hZ (wd hw 12 rfl)) (mvT hZ (wd hw 13 rfl)) (by decide) (backOfKL (W := 1) (rmInit l Z a0 hw [] ob5 p0 p1 sa7 u1 u2 h7 n0 Z7 Fc8 Fc9 Fc10 Fc11 Fc12 Fc13 Fc14 Fc15 Fc16 Fc17 ge5 Fc18 Fc19 hl P_u1 P_u2) hZ (wd hw 13 rfl) (wd hw 2 rfl) (by decide) (by decide) hTK hBelow) (g := (mkF m 36 #[iv p0, iv p1, iv p2, iv p3, iv p4, iv y0, iv y1, .unset, .unset, .unset, .unset, .unset, .unset, .unset, .unset] [(.ref sa7), (.int p1), (.int p0), (.ref ob5), (.ref ob5)])) rfl (by rw [hml]; rfl) (Steps.refl _) (a := ob5) (argsL := [(.int p0), (.int p1), (.ref sa7)]) (rest := [(.ref ob5)]) (lenOf pd_1 rfl) rfl (by show 2 * 0 + _ ≤ _; exact Nat.le_of_eq rfl) (hb hby at_36) (fun _ _ => ⟨rfl, e7, (by decide : 3 + 1 ≤ _), (by decide : 16 + 2752 ≤ _)⟩)
      dsimp only [Pt.U, Pt.locs, Pt.cells, Pt.slots] at X20 lx20 yx20 zx20 st20 hQ20
      subst lx20 yx20 zx20
      obtain ⟨rfl, N20q, p20_0, p20_1, p20_2, p20_3⟩ := hQ20
      have N20 := Fr.app N3 N20q
      have Z20 : n0 ≤ T20.heap.size := Nat.le_trans Z7 p20_0.1
      have Q20 : kk7 ≤ T20.heap.size := Nat.le_trans Q7 p20_0.1
      refine own_lift (fun t k => st20.trans k) ?_
      show own_Go p.tables e below (T20.setTop (mkF m 39 #[iv p0, iv p1, iv p2, iv p3, iv p4, iv y0, iv y1, .unset, .unset, .unset, .unset, .unset, .unset, .unset, .unset] [(.ref ob5)])) _
      have sg21 : ∀ t, Steps p.tables e below (T20.setTop (mkF m 41 #[iv p0, iv p1, iv p2, iv p3, iv p4, iv y0, iv y1, rv ob5, .unset, .unset, .unset, .unset, .unset, .unset, .unset] [])) t → Steps p.tables e below (T20.setTop (mkF m 39 #[iv p0, iv p1, iv p2, iv p3, iv p4, iv y0, iv y1, .unset, .unset, .unset, .unset, .unset, .unset, .unset, .unset] [(.ref ob5)])) t := by
        intro t k
        refine XS.astore X20.here hx rfl (hb hby at_39) rfl rfl (l' := #[iv p0, iv p1, iv p2, iv p3, iv p4, iv y0, iv y1, rv ob5, .unset, .unset, .unset, .unset, .unset, .unset, .unset]) rfl ?_
        show Steps p.tables e below (T20.setTop (mkF m 41 #[iv p0, iv p1, iv p2, iv p3, iv p4, iv y0, iv y1, rv ob5, .unset, .unset, .unset, .unset, .unset, .unset, .unset] [])) _
        exact k
      refine own_lift sg21 ?_
      show own_Go p.tables e below (T20.setTop (mkF m 41 #[iv p0, iv p1, iv p2, iv p3, iv p4, iv y0, iv y1, rv ob5, .unset, .unset, .unset, .unset, .unset, .unset, .unset] [])) _
      obtain ⟨T22, h22, X22, e22, Ex22, Ax22, Dx22, Ux22, st22⟩ := newO X20 hx hZ hown (wd hw 0 rfl) (wd hw 1 rfl) (wd hw 2 rfl) rfl (g := (mkF m 41 #[iv p0, iv p1, iv p2, iv p3, iv p4, iv y0, iv y1, rv ob5, .unset, .unset, .unset, .unset, .unset, .unset, .unset] [])) rfl (hb hby at_41) (by decide) (by decide)
      obtain ⟨ob22, g22⟩ : ∃ z, z = T20.heap.size := ⟨_, rfl⟩
      rw [← g22] at Ax22 Dx22 Ux22 st22
      have ne23 : ob5 ≠ ob22 := Nat.ne_of_lt (Nat.lt_of_lt_of_le p20_1.lt (Nat.le_of_eq g22.symm))
      have Q22 : kk7 ≤ h22.size := Nat.le_trans Q20 Ex22.1
      have Z22 : n0 ≤ h22.size := Nat.le_trans Z20 Ex22.1
      have ge22 : n0 ≤ ob22 := Nat.le_trans Z20 (Nat.le_of_eq g22.symm)
      have Ux22 : Unt h22 ob22 := Ux22
      have Fn22_29 : Fld Z h22 ob22 "java/lang/Throwable" "cause" "Ljava/lang/Throwable;" .null := Dx22 (Or.inl (wd hw 29 rfl)) (ty := (.object "java/lang/Throwable")) (by decide)
      have Fn22_32 : Fld Z h22 ob22 "java/lang/Throwable" "stackTrace" "[Ljava/lang/StackTraceElement;" .null := Dx22 (Or.inl (wd hw 32 rfl)) (ty := (.array (.object "java/lang/StackTraceElement"))) (by decide)
      have Fn22_35 : Fld Z h22 ob22 "java/lang/Throwable" "suppressedExceptions" "Ljava/util/List;" .null := Dx22 (Or.inl (wd hw 35 rfl)) (ty := (.object "java/util/List")) (by decide)
      have Fn22_59 : Fld Z h22 ob22 "java/lang/Throwable" "detailMessage" "Ljava/lang/String;" .null := Dx22 (Or.inl (wd hw 59 rfl)) (ty := (.object "java/lang/String")) (by decide)
      have Fn22_60 : Fld Z h22 ob22 "java/lang/Throwable" "backtrace" "Ljava/lang/Object;" .null := Dx22 (Or.inl (wd hw 60 rfl)) (ty := (.object "java/lang/Object")) (by decide)
      have Fn22_61 : Fld Z h22 ob22 "java/lang/Throwable" "depth" "I" (.int 0) := Dx22 (Or.inl (wd hw 61 rfl)) (ty := .int) (by decide)
      have Fn22_65 : Fld Z h22 ob22 "com/example/libprocgraph/libprocgraph/reader/InvalidModelException" "line" "I" (.int 0) := Dx22 (Or.inr (wd hw 65 rfl)) (ty := .int) (by decide)
      have Fn22_67 : Fld Z h22 ob22 "com/example/libprocgraph/libprocgraph/reader/InvalidModelException" "column" "I" (.int 0) := Dx22 (Or.inr (wd hw 67 rfl)) (ty := .int) (by decide)
      refine own_lift st22 ?_
      show own_Go p.tables e below (T22.setTop (mkF m 44 #[iv p0, iv p1, iv p2, iv p3, iv p4, iv y0, iv y1, rv ob5, .unset, .unset, .unset, .unset, .unset, .unset, .unset] [(.ref ob22)])) _
      have sg24 : ∀ t, Steps p.tables e below (T22.setTop (mkF m 49 #[iv p0, iv p1, iv p2, iv p3, iv p4, iv y0, iv y1, rv ob5, .unset, .unset, .unset, .unset, .unset, .unset, .unset] [(.int y1), (.int y0), (.ref ob22), (.ref ob22)])) t → Steps p.tables e below (T22.setTop (mkF m 44 #[iv p0, iv p1, iv p2, iv p3, iv p4, iv y0, iv y1, rv ob5, .unset, .unset, .unset, .unset, .unset, .unset, .unset] [(.ref ob22)])) t := by
        intro t k
        refine XS.dup X22.here hx rfl (hb hby at_44) rfl rfl ?_
        show Steps p.tables e below (T22.setTop (mkF m 45 #[iv p0, iv p1, iv p2, iv p3, iv p4, iv y0, iv y1, rv ob5, .unset, .unset, .unset, .unset, .unset, .unset, .unset] [(.ref ob22), (.ref ob22)])) _
        refine XS.iload X22.here hx rfl (hb hby at_45) rfl ?_
        refine XS.iload X22.here hx rfl (hb hby at_47) rfl ?_
        show Steps p.tables e below (T22.setTop (mkF m 49 #[iv p0, iv p1, iv p2, iv p3, iv p4, iv y0, iv y1, rv ob5, .unset, .unset, .unset, .unset, .unset, .unset, .unset] [(.int y1), (.int y0), (.ref ob22), (.ref ob22)])) _
        exact k
      refine own_lift sg24 ?_
      show own_Go p.tables e below (T22.setTop (mkF m 49 #[iv p0, iv p1, iv p2, iv p3, iv p4, iv y0, iv y1, rv ob5, .unset, .unset, .unset, .unset, .unset, .unset, .unset] [(.int y1), (.int y0), (.ref ob22), (.ref ob22)])) _
      obtain ⟨sa25, T25, h25, kk25, X25, e25, Ex25, Sx25, Q25, hZ, hown, st25⟩ := ldcS (s := s) X22 hx hZ hown (wd hw 68 rfl) own_strw' e22 Sx7 Q22 (g := (mkF m 49 #[iv p0, iv p1, iv p2, iv p3, iv p4, iv y0, iv y1, rv ob5, .unset, .unset, .unset, .unset, .unset, .unset, .unset] [(.int y1), (.int y0), (.ref ob22), (.ref ob22)])) rfl (hb hby at_49) (n := 4) (by decide) (by decide) (by decide) (by decide)
      have hTK := Vm.MethodsKnown.alikeC Sx25.1.alike hTK0
      have hBelow := Vm.FramesKnown.alikeC Sx25.1.alike hBelow0
      have Z25 : n0 ≤ h25.size := Nat.le_trans Z22 Ex25.1
      refine own_lift st25 ?_
      show own_Go p.tables e below (T25.setTop (mkF m 51 #[iv p0, iv p1, iv p2, iv p3, iv p4, iv y0, iv y1, rv ob5, .unset, .unset, .unset, .unset, .unset, .unset, .unset] [(.ref sa25), (.int y1), (.int y0), (.ref ob22), (.ref ob22)])) _
      have Fc26 : Exa Z h25 ob22 "com/example/libprocgraph/libprocgraph/reader/InvalidModelException" := (Ax22.ext Ex25)
      have Fc27 : Unt h25 ob22 := (Ux22.ext Ex25)
      have Fc28 : ThS Z h25 := (((ThS.keep p20_0 (own_nost (allS (own_plain Fc8) all0)) Fc10).ext Ex22).ext Ex25)
      have Fc29 : Fld Z h25 ob22 "java/lang/Throwable" "cause" "Ljava/lang/Throwable;" .null := (Fn22_29.ext Ex25)
      have Fc30 : Fld Z h25 ob22 "java/lang/Throwable" "stackTrace" "[Ljava/lang/StackTraceElement;" .null := (Fn22_32.ext Ex25)
      have Fc31 : Fld Z h25 ob22 "java/lang/Throwable" "suppressedExceptions" "Ljava/util/List;" .null := (Fn22_35.ext Ex25)
      have Fc32 : Fld Z h25 ob22 "java/lang/Throwable" "backtrace" "Ljava/lang/Object;" .null := (Fn22_60.ext Ex25)
      have Fc33 : Fld Z h25 ob22 "java/lang/Throwable" "detailMessage" "Ljava/lang/String;" .null := (Fn22_59.ext Ex25)
      have Fc34 : Fld Z h25 ob22 "com/example/libprocgraph/libprocgraph/reader/InvalidModelException" "line" "I" (.int 0) := (Fn22_65.ext Ex25)
      have Fc35 : Fld Z h25 ob22 "com/example/libprocgraph/libprocgraph/reader/InvalidModelException" "column" "I" (.int 0) := (Fn22_67.ext Ex25)
      have Fc36 : Sta Z h25 "java/lang/Throwable" "UNASSIGNED_STACK" "[Ljava/lang/StackTraceElement;" u1 := (((own_Sta_keep Fc18 p20_0 (allS (own_plain Fc8) all0)).ext Ex22).ext Ex25)
      have Fc37 : Sta Z h25 "java/lang/Throwable" "SUPPRESSED_SENTINEL" "Ljava/util/List;" u2 := (((own_Sta_keep Fc19 p20_0 (allS (own_plain Fc8) all0)).ext Ex22).ext Ex25)
      obtain ⟨_, _, ⟨T38, Lx38, kx38, nx38⟩, -, X38, ⟨Lc38, hQ38, lx38, yx38, zx38⟩, st38⟩ := X25.specialBack hx (y := (⟨"com/example/libprocgraph/libprocgraph/reader/InvalidModelException", "<init>", "(IILjava/lang/String;)V"⟩ : MethodName)) rfl hown (mvT hZ (wd hw 11 rfl)) (mvT hZ (wd hw 12 rfl)) (mvT hZ (wd hw 13 rfl)) (by decide) (backOfKL (W := 1) (rmInit l Z a0 hw [] ob22 y0 y1 sa25 u1 u2 h25 n0 Z25 Fc26 Fc27 Fc28 Fc29 Fc30 Fc31 Fc32 Fc33 Fc34 Fc35 ge22 Fc36 Fc37 hl P_u1 P_u2) hZ (wd hw 13 rfl) (wd hw 2 rfl) (by decide) (by decide) hTK hBelow) (g := (mkF m 51 #[iv p0, iv p1, iv p2, iv p3, iv p4, iv y0, iv y1, rv ob5, .unset, .unset, .unset, .unset, .unset, .unset, .unset] [(.ref sa25), (.int y1), (.int y0), (.ref ob22), (.ref ob22)])) rfl (by rw [hml]; rfl) (Steps.refl _) (a := ob22) (argsL := [(.int y0), (.int y1), (.ref sa25)]) (rest := [(.ref ob22)]) (lenOf pd_1 rfl) rfl (by show 2 * 0 + _ ≤ _; exact Nat.le_of_eq rfl) (hb hby at_51) (fun _ _ => ⟨rfl, e25, (by decide : 7 + 1 ≤ _), (by decide : 2784 + 2752 ≤ _)⟩)
      dsimp only [Pt.U, Pt.locs, Pt.cells, Pt.slots] at X38 lx38 yx38 zx38 st38 hQ38
      subst lx38 yx38 zx38
      obtain ⟨rfl, N38q, p38_0, p38_1, p38_2, p38_3⟩ := hQ38
      have N38 := Fr.app N20 N38q
      have Z38 : n0 ≤ T38.heap.size := Nat.le_trans Z25 p38_0.1
      have Q38 : kk25 ≤ T38.heap.size := Nat.le_trans Q25 p38_0.1
      refine own_lift (fun t k => st38.trans k) ?_
      show own_Go p.tables e below (T38.setTop (mkF m 54 #[iv p0, iv p1, iv p2, iv p3, iv p4, iv y0, iv y1, rv ob5, .unset, .unset, .unset, .unset, .unset, .unset, .unset] [(.ref ob22)])) _
      have sg39 : ∀ t, Steps p.tables e below (T38.setTop (mkF m 58 #[iv p0, iv p1, iv p2, iv p3, iv p4, iv y0, iv y1, rv ob5, rv ob22, .unset, .unset, .unset, .unset, .unset, .unset] [(.int p1), (.int p0)])) t → Steps p.tables e below (T38.setTop (mkF m 54 #[iv p0, iv p1, iv p2, iv p3, iv p4, iv y0, iv y1, rv ob5, .unset, .unset, .unset, .unset, .unset, .unset, .unset] [(.ref ob22)])) t := by
        intro t k
        refine XS.astore X38.here hx rfl (hb hby at_54) rfl rfl (l' := #[iv p0, iv p1, iv p2, iv p3, iv p4, iv y0, iv y1, rv ob5, rv ob22, .unset, .unset, .unset, .unset, .unset, .unset]) rfl ?_
        show Steps p.tables e below (T38.setTop (mkF m 56 #[iv p0, iv p1, iv p2, iv p3, iv p4, iv y0, iv y1, rv ob5, rv ob22, .unset, .unset, .unset, .unset, .unset, .unset] [])) _
        refine XS.iloadN X38.here hx rfl (hb hby at_56) rfl ?_
        refine XS.iloadN X38.here hx rfl (hb hby at_57) rfl ?_
        show Steps p.tables e below (T38.setTop (mkF m 58 #[iv p0, iv p1, iv p2, iv p3, iv p4, iv y0, iv y1, rv ob5, rv ob22, .unset, .unset, .unset, .unset, .unset, .unset] [(.int p1), (.int p0)])) _
        exact k
      refine own_lift sg39 ?_
      show own_Go p.tables e below (T38.setTop (mkF m 58 #[iv p0, iv p1, iv p2, iv p3, iv p4, iv y0, iv y1, rv ob5, rv ob22, .unset, .unset, .unset, .unset, .unset, .unset] [(.int p1), (.int p0)])) _
      obtain ⟨_, _, ⟨T40, Lx40, kx40, nx40⟩, -, X40, ⟨Lc40, hQ40, lx40, yx40, zx40⟩, st40⟩ := Jvm.LawKit.callS X38 hx (y := (⟨"com/example/libprocgraph/libprocgraph/reader/InvalidModelExceptionPrecedesPinLaw", "key", "(II)J"⟩ : MethodName)) hown (mvT hZ (wd hw 69 rfl)) (mvT hZ (wd hw 70 rfl)) (mvT hZ (wd hw 71 rfl)) (mvT hZ (wd hw 72 rfl)) (by decide) (backOf (W := 0) (rmKey l Z a0 hw [] p0 p1 T38.heap n0 Z38 ) hZ (wd hw 72 rfl) (wd hw 71 rfl) (by decide) (by decide)) (g := (mkF m 58 #[iv p0, iv p1, iv p2, iv p3, iv p4, iv y0, iv y1, rv ob5, rv ob22, .unset, .unset, .unset, .unset, .unset, .unset] [(.int p1), (.int p0)])) rfl (by rw [hml]; rfl) (argsL := [(.int p0), (.int p1)]) (rest := []) (lenOf pd_2 rfl) rfl (by show 2 * 0 + _ ≤ _; exact Nat.le_of_eq rfl) (hb hby at_58) (fun _ _ => ⟨rfl, rfl, (by decide : 8 + 0 ≤ _), (by decide : 5536 + 0 ≤ _)⟩)
      dsimp only [Pt.U, Pt.locs, Pt.cells, Pt.slots] at X40 lx40 yx40 zx40 st40 hQ40
      subst lx40 yx40 zx40
      obtain ⟨rfl, N40q, e40⟩ := hQ40
      have N40 := Fr.app N38 N40q
      refine own_lift st40 ?_
      show own_Go p.tables e below (T40.setTop (mkF m 61 #[iv p0, iv p1, iv p2, iv p3, iv p4, iv y0, iv y1, rv ob5, rv ob22, .unset, .unset, .unset, .unset, .unset, .unset] [(.long (own_key p0 p1))])) _
      have sg41 : ∀ t, Steps p.tables e below (T40.setTop (mkF m 67 #[iv p0, iv p1, iv p2, iv p3, iv p4, iv y0, iv y1, rv ob5, rv ob22, jv (own_key p0 p1), .second, .unset, .unset, .unset, .unset] [(.int y1), (.int y0)])) t → Steps p.tables e below (T40.setTop (mkF m 61 #[iv p0, iv p1, iv p2, iv p3, iv p4, iv y0, iv y1, rv ob5, rv ob22, .unset, .unset, .unset, .unset, .unset, .unset] [(.long (own_key p0 p1))])) t := by
        intro t k
        refine XS.lstore X40.here hx rfl (hb hby at_61) rfl (l' := #[iv p0, iv p1, iv p2, iv p3, iv p4, iv y0, iv y1, rv ob5, rv ob22, jv (own_key p0 p1), .second, .unset, .unset, .unset, .unset]) rfl ?_
        show Steps p.tables e below (T40.setTop (mkF m 63 #[iv p0, iv p1, iv p2, iv p3, iv p4, iv y0, iv y1, rv ob5, rv ob22, jv (own_key p0 p1), .second, .unset, .unset, .unset, .unset] [])) _
        refine XS.iload X40.here hx rfl (hb hby at_63) rfl ?_
        refine XS.iload X40.here hx rfl (hb hby at_65) rfl ?_
        show Steps p.tables e below (T40.setTop (mkF m 67 #[iv p0, iv p1, iv p2, iv p3, iv p4, iv y0, iv y1, rv ob5, rv ob22, jv (own_key p0 p1), .second, .unset, .unset, .unset, .unset] [(.int y1), (.int y0)])) _
        exact k
      refine own_lift sg41 ?_
      show own_Go p.tables e below (T40.setTop (mkF m 67 #[iv p0, iv p1, iv p2, iv p3, iv p4, iv y0, iv y1, rv ob5, rv ob22, jv (own_key p0 p1), .second, .unset, .unset, .unset, .unset] [(.int y1), (.int y0)])) _
      obtain ⟨_, _, ⟨T42, Lx42, kx42, nx42⟩, -, X42, ⟨Lc42, hQ42, lx42, yx42, zx42⟩, st42⟩ := Jvm.LawKit.callS X40 hx (y := (⟨"com/example/libprocgraph/libprocgraph/reader/InvalidModelExceptionPrecedesPinLaw", "key", "(II)J"⟩ : MethodName)) hown (mvT hZ (wd hw 69 rfl)) (mvT hZ (wd hw 70 rfl)) (mvT hZ (wd hw 71 rfl)) (mvT hZ (wd hw 72 rfl)) (by decide) (backOf (W := 0) (rmKey l Z a0 hw [] y0 y1 T38.heap n0 Z38 ) hZ (wd hw 72 rfl) (wd hw 71 rfl) (by decide) (by decide)) (g := (mkF m 67 #[iv p0, iv p1, iv p2, iv p3, iv p4, iv y0, iv y1, rv ob5, rv ob22, jv (own_key p0 p1), .second, .unset, .unset, .unset, .unset] [(.int y1), (.int y0)])) rfl (by rw [hml]; rfl) (argsL := [(.int y0), (.int y1)]) (rest := []) (lenOf pd_2 rfl) rfl (by show 2 * 0 + _ ≤ _; exact Nat.le_of_eq rfl) (hb hby at_67) (fun _ _ => ⟨rfl, e40, (by decide : 8 + 0 ≤ _), (by decide : 5536 + 0 ≤ _)⟩)
      dsimp only [Pt.U, Pt.locs, Pt.cells, Pt.slots] at X42 lx42 yx42 zx42 st42 hQ42
      subst lx42 yx42 zx42
      obtain ⟨rfl, N42q, e42⟩ := hQ42
      have N42 := Fr.app N40 N42q
      refine own_lift st42 ?_
      show own_Go p.tables e below (T42.setTop (mkF m 70 #[iv p0, iv p1, iv p2, iv p3, iv p4, iv y0, iv y1, rv ob5, rv ob22, jv (own_key p0 p1), .second, .unset, .unset, .unset, .unset] [(.long (own_key y0 y1))])) _
      have sg43 : ∀ t, Steps p.tables e below (T42.setTop (mkF m 106 #[iv p0, iv p1, iv p2, iv p3, iv p4, iv y0, iv y1, rv ob5, rv ob22, jv (own_key p0 p1), .second, jv (own_key y0 y1), .second, iv 1, iv 0] [(.ref ob22), (.ref ob5)])) t → Steps p.tables e below (T42.setTop (mkF m 70 #[iv p0, iv p1, iv p2, iv p3, iv p4, iv y0, iv y1, rv ob5, rv ob22, jv (own_key p0 p1), .second, .unset, .unset, .unset, .unset] [(.long (own_key y0 y1))])) t := by
        intro t k
        refine XS.lstore X42.here hx rfl (hb hby at_70) rfl (l' := #[iv p0, iv p1, iv p2, iv p3, iv p4, iv y0, iv y1, rv ob5, rv ob22, jv (own_key p0 p1), .second, jv (own_key y0 y1), .second, .unset, .unset]) rfl ?_
        show Steps p.tables e below (T42.setTop (mkF m 72 #[iv p0, iv p1, iv p2, iv p3, iv p4, iv y0, iv y1, rv ob5, rv ob22, jv (own_key p0 p1), .second, jv (own_key y0 y1), .second, .unset, .unset] [])) _
        refine XS.lload X42.here hx rfl (hb hby at_72) rfl ?_
        refine XS.lload X42.here hx rfl (hb hby at_74) rfl ?_
        show Steps p.tables e below (T42.setTop (mkF m 76 #[iv p0, iv p1, iv p2, iv p3, iv p4, iv y0, iv y1, rv ob5, rv ob22, jv (own_key p0 p1), .second, jv (own_key y0 y1), .second, .unset, .unset] [(.long (own_key y0 y1)), (.long (own_key p0 p1))])) _
        refine XS.lcmp X42.here hx rfl (hb hby at_76) rfl ?_
        refine XS.ifNo X42.here hx rfl (hb hby at_77) rfl ((if0 _ _).trans (tlt ((lw_lt (own_key p0 p1) (own_key y0 y1)).2 ab)).2.1) ?_
        show Steps p.tables e below (T42.setTop (mkF m 80 #[iv p0, iv p1, iv p2, iv p3, iv p4, iv y0, iv y1, rv ob5, rv ob22, jv (own_key p0 p1), .second, jv (own_key y0 y1), .second, .unset, .unset] [])) _
        refine XS.iconst X42.here hx rfl (hb hby at_80) ?_
        refine XS.goto X42.here hx rfl (pc0 := 81) (pc' := 85) rfl (hb hby at_81) (by decide) (by decide) ?_
        show Steps p.tables e below (T42.setTop (mkF m 85 #[iv p0, iv p1, iv p2, iv p3, iv p4, iv y0, iv y1, rv ob5, rv ob22, jv (own_key p0 p1), .second, jv (own_key y0 y1), .second, .unset, .unset] [(.int 1)])) _
        refine XS.istore X42.here hx rfl (hb hby at_85) rfl (l' := #[iv p0, iv p1, iv p2, iv p3, iv p4, iv y0, iv y1, rv ob5, rv ob22, jv (own_key p0 p1), .second, jv (own_key y0 y1), .second, iv 1, .unset]) rfl ?_
        refine XS.lload X42.here hx rfl (hb hby at_87) rfl ?_
        show Steps p.tables e below (T42.setTop (mkF m 89 #[iv p0, iv p1, iv p2, iv p3, iv p4, iv y0, iv y1, rv ob5, rv ob22, jv (own_key p0 p1), .second, jv (own_key y0 y1), .second, iv 1, .unset] [(.long (own_key y0 y1))])) _
        refine XS.lload X42.here hx rfl (hb hby at_89) rfl ?_
        refine XS.lcmp X42.here hx rfl (hb hby at_91) rfl ?_
        show Steps p.tables e below (T42.setTop (mkF m 92 #[iv p0, iv p1, iv p2, iv p3, iv p4, iv y0, iv y1, rv ob5, rv ob22, jv (own_key p0 p1), .second, jv (own_key y0 y1), .second, iv 1, .unset] [(.int (lcmpW (own_key y0 y1) (own_key p0 p1)))])) _
        refine XS.ifYes X42.here hx rfl (pc0 := 92) (pc' := 99) rfl (hb hby at_92) rfl ((if0 _ _).trans (flt (fun q => ba ((lw_lt (own_key y0 y1) (own_key p0 p1)).1 q))).2.1) (by decide) (by decide) ?_
        refine XS.iconst X42.here hx rfl (hb hby at_99) ?_
        show Steps p.tables e below (T42.setTop (mkF m 100 #[iv p0, iv p1, iv p2, iv p3, iv p4, iv y0, iv y1, rv ob5, rv ob22, jv (own_key p0 p1), .second, jv (own_key y0 y1), .second, iv 1, .unset] [(.int 0)])) _
        refine XS.istore X42.here hx rfl (hb hby at_100) rfl (l' := #[iv p0, iv p1, iv p2, iv p3, iv p4, iv y0, iv y1, rv ob5, rv ob22, jv (own_key p0 p1), .second, jv (own_key y0 y1), .second, iv 1, iv 0]) rfl ?_
        refine XS.aload X42.here hx rfl (hb hby at_102) rfl rfl ?_
        show Steps p.tables e below (T42.setTop (mkF m 104 #[iv p0, iv p1, iv p2, iv p3, iv p4, iv y0, iv y1, rv ob5, rv ob22, jv (own_key p0 p1), .second, jv (own_key y0 y1), .second, iv 1, iv 0] [(.ref ob5)])) _
        refine XS.aload X42.here hx rfl (hb hby at_104) rfl rfl ?_
        show Steps p.tables e below (T42.setTop (mkF m 106 #[iv p0, iv p1, iv p2, iv p3, iv p4, iv y0, iv y1, rv ob5, rv ob22, jv (own_key p0 p1), .second, jv (own_key y0 y1), .second, iv 1, iv 0] [(.ref ob22), (.ref ob5)])) _
        exact k
      refine own_lift sg43 ?_
      show own_Go p.tables e below (T42.setTop (mkF m 106 #[iv p0, iv p1, iv p2, iv p3, iv p4, iv y0, iv y1, rv ob5, rv ob22, jv (own_key p0 p1), .second, jv (own_key y0 y1), .second, iv 1, iv 0] [(.ref ob22), (.ref ob5)])) _
      have Fc44 : Fld Z T38.heap ob5 "com/example/libprocgraph/libprocgraph/reader/InvalidModelException" "line" "I" (.int p0) := (((p20_2.ext Ex22).ext Ex25).keep p38_0 (ninS ne23 nin0))
      have Fc45 : Fld Z T38.heap ob5 "com/example/libprocgraph/libprocgraph/reader/InvalidModelException" "column" "I" (.int p1) := (((p20_3.ext Ex22).ext Ex25).keep p38_0 (ninS ne23 nin0))
      have Fc47 : Exa Z T38.heap ob5 "com/example/libprocgraph/libprocgraph/reader/InvalidModelException" := (((p20_1.ext Ex22).ext Ex25).keep p38_0)
      obtain ⟨cq46, kq46, q46a, q46b, q46c⟩ := isOf hZ e42 Fc47
      obtain ⟨_, _, ⟨T46, Lx46, kx46, nx46⟩, -, X46, ⟨Lc46, hQ46, lx46, yx46, zx46⟩, st46⟩ := X42.virtualBack hx (y := (⟨"com/example/libprocgraph/libprocgraph/reader/InvalidModelException", "precedes", "(Lcom/example/libprocgraph/libprocgraph/reader/InvalidModelException;)Z"⟩ : MethodName)) (z := (⟨"com/example/libprocgraph/libprocgraph/reader/InvalidModelException", "precedes", "(Lcom/example/libprocgraph/libprocgraph/reader/InvalidModelException;)Z"⟩ : MethodName)) hown (mvT hZ (wd hw 74 rfl)) (mvT hZ (wd hw 75 rfl)) (notFace_of_selects (args := #[]) (mvT hZ (wd hw 77 rfl))) (mvT hZ (wd hw 77 rfl)) (mvT hZ (wd hw 76 rfl)) (by decide) (backOf (W := 0) (rmPr1 l Z a0 hw [] ob5 ob22 p0 p1 y0 y1 T38.heap n0 Z38 Fc44 Fc45 p38_2 p38_3 l1) hZ (wd hw 78 rfl) (wd hw 2 rfl) (by decide) (by decide)) q46a q46c (g := (mkF m 106 #[iv p0, iv p1, iv p2, iv p3, iv p4, iv y0, iv y1, rv ob5, rv ob22, jv (own_key p0 p1), .second, jv (own_key y0 y1), .second, iv 1, iv 0] [(.ref ob22), (.ref ob5)])) rfl (by rw [hml]; rfl) (Steps.refl _) (argsL := [(.ref ob22)]) (rest := []) (lenOf pd_3 rfl) rfl (by show 2 * 0 + _ ≤ _; exact Nat.le_of_eq rfl) (hb hby at_106) (fun _ _ => ⟨rfl, e42, (by decide : 8 + 0 ≤ _), (by decide : 5536 + 0 ≤ _)⟩)
      dsimp only [Pt.U, Pt.locs, Pt.cells, Pt.slots] at X46 lx46 yx46 zx46 st46 hQ46
      subst lx46 yx46 zx46
      obtain ⟨rfl, N46q, e46⟩ := hQ46
      have N46 := Fr.app N42 N46q
      refine own_lift (fun t k => st46.trans k) ?_
      show own_Go p.tables e below (T46.setTop (mkF m 109 #[iv p0, iv p1, iv p2, iv p3, iv p4, iv y0, iv y1, rv ob5, rv ob22, jv (own_key p0 p1), .second, jv (own_key y0 y1), .second, iv 1, iv 0] [(.int 1)])) _
      have sg48 : ∀ t, Steps p.tables e below (T46.setTop (mkF m 118 #[iv p0, iv p1, iv p2, iv p3, iv p4, iv y0, iv y1, rv ob5, rv ob22, jv (own_key p0 p1), .second, jv (own_key y0 y1), .second, iv 1, iv 0] [(.ref ob5), (.ref ob22)])) t → Steps p.tables e below (T46.setTop (mkF m 109 #[iv p0, iv p1, iv p2, iv p3, iv p4, iv y0, iv y1, rv ob5, rv ob22, jv (own_key p0 p1), .second, jv (own_key y0 y1), .second, iv 1, iv 0] [(.int 1)])) t := by
        intro t k
        refine XS.iload X46.here hx rfl (hb hby at_109) rfl ?_
        show Steps p.tables e below (T46.setTop (mkF m 111 #[iv p0, iv p1, iv p2, iv p3, iv p4, iv y0, iv y1, rv ob5, rv ob22, jv (own_key p0 p1), .second, jv (own_key y0 y1), .second, iv 1, iv 0] [(.int 1), (.int 1)])) _
        refine XS.icmpNo X46.here hx rfl (hb hby at_111) rfl (teq (by decide : (1 : Int32) = (1 : Int32))).2 ?_
        refine XS.aload X46.here hx rfl (hb hby at_114) rfl rfl ?_
        show Steps p.tables e below (T46.setTop (mkF m 116 #[iv p0, iv p1, iv p2, iv p3, iv p4, iv y0, iv y1, rv ob5, rv ob22, jv (own_key p0 p1), .second, jv (own_key y0 y1), .second, iv 1, iv 0] [(.ref ob22)])) _
        refine XS.aload X46.here hx rfl (hb hby at_116) rfl rfl ?_
        show Steps p.tables e below (T46.setTop (mkF m 118 #[iv p0, iv p1, iv p2, iv p3, iv p4, iv y0, iv y1, rv ob5, rv ob22, jv (own_key p0 p1), .second, jv (own_key y0 y1), .second, iv 1, iv 0] [(.ref ob5), (.ref ob22)])) _
        exact k
      refine own_lift sg48 ?_
      show own_Go p.tables e below (T46.setTop (mkF m 118 #[iv p0, iv p1, iv p2, iv p3, iv p4, iv y0, iv y1, rv ob5, rv ob22, jv (own_key p0 p1), .second, jv (own_key y0 y1), .second, iv 1, iv 0] [(.ref ob5), (.ref ob22)])) _
      obtain ⟨cq49, kq49, q49a, q49b, q49c⟩ := isOf hZ e46 p38_1
      obtain ⟨_, _, ⟨T49, Lx49, kx49, nx49⟩, -, X49, ⟨Lc49, hQ49, lx49, yx49, zx49⟩, st49⟩ := X46.virtualBack hx (y := (⟨"com/example/libprocgraph/libprocgraph/reader/InvalidModelException", "precedes", "(Lcom/example/libprocgraph/libprocgraph/reader/InvalidModelException;)Z"⟩ : MethodName)) (z := (⟨"com/example/libprocgraph/libprocgraph/reader/InvalidModelException", "precedes", "(Lcom/example/libprocgraph/libprocgraph/reader/InvalidModelException;)Z"⟩ : MethodName)) hown (mvT hZ (wd hw 74 rfl)) (mvT hZ (wd hw 75 rfl)) (notFace_of_selects (args := #[]) (mvT hZ (wd hw 77 rfl))) (mvT hZ (wd hw 77 rfl)) (mvT hZ (wd hw 76 rfl)) (by decide) (backOf (W := 0) (rmPr2 l Z a0 hw [] ob22 ob5 y0 y1 p0 p1 T38.heap n0 Z38 p38_2 p38_3 Fc44 Fc45 l2 (fun q => ee (Eq.symm q))) hZ (wd hw 78 rfl) (wd hw 2 rfl) (by decide) (by decide)) q49a q49c (g := (mkF m 118 #[iv p0, iv p1, iv p2, iv p3, iv p4, iv y0, iv y1, rv ob5, rv ob22, jv (own_key p0 p1), .second, jv (own_key y0 y1), .second, iv 1, iv 0] [(.ref ob5), (.ref ob22)])) rfl (by rw [hml]; rfl) (Steps.refl _) (argsL := [(.ref ob5)]) (rest := []) (lenOf pd_3 rfl) rfl (by show 2 * 0 + _ ≤ _; exact Nat.le_of_eq rfl) (hb hby at_118) (fun _ _ => ⟨rfl, e46, (by decide : 8 + 0 ≤ _), (by decide : 5536 + 0 ≤ _)⟩)
      dsimp only [Pt.U, Pt.locs, Pt.cells, Pt.slots] at X49 lx49 yx49 zx49 st49 hQ49
      subst lx49 yx49 zx49
      obtain ⟨rfl, N49q, e49⟩ := hQ49
      have N49 := Fr.app N46 N49q
      refine own_lift (fun t k => st49.trans k) ?_
      show own_Go p.tables e below (T49.setTop (mkF m 121 #[iv p0, iv p1, iv p2, iv p3, iv p4, iv y0, iv y1, rv ob5, rv ob22, jv (own_key p0 p1), .second, jv (own_key y0 y1), .second, iv 1, iv 0] [(.int 0)])) _
      have sg50 : ∀ t, Steps p.tables e below (T49.setTop (mkF m 131 #[iv p0, iv p1, iv p2, iv p3, iv p4, iv y0, iv y1, rv ob5, rv ob22, jv (own_key p0 p1), .second, jv (own_key y0 y1), .second, iv 1, iv 0] [(.int 1)])) t → Steps p.tables e below (T49.setTop (mkF m 121 #[iv p0, iv p1, iv p2, iv p3, iv p4, iv y0, iv y1, rv ob5, rv ob22, jv (own_key p0 p1), .second, jv (own_key y0 y1), .second, iv 1, iv 0] [(.int 0)])) t := by
        intro t k
        refine XS.iload X49.here hx rfl (hb hby at_121) rfl ?_
        show Steps p.tables e below (T49.setTop (mkF m 123 #[iv p0, iv p1, iv p2, iv p3, iv p4, iv y0, iv y1, rv ob5, rv ob22, jv (own_key p0 p1), .second, jv (own_key y0 y1), .second, iv 1, iv 0] [(.int 0), (.int 0)])) _
        refine XS.icmpNo X49.here hx rfl (hb hby at_123) rfl (teq (by decide : (0 : Int32) = (0 : Int32))).2 ?_
        refine XS.iconst X49.here hx rfl (hb hby at_126) ?_
        show Steps p.tables e below (T49.setTop (mkF m 127 #[iv p0, iv p1, iv p2, iv p3, iv p4, iv y0, iv y1, rv ob5, rv ob22, jv (own_key p0 p1), .second, jv (own_key y0 y1), .second, iv 1, iv 0] [(.int 1)])) _
        refine XS.goto X49.here hx rfl (pc0 := 127) (pc' := 131) rfl (hb hby at_127) (by decide) (by decide) ?_
        show Steps p.tables e below (T49.setTop (mkF m 131 #[iv p0, iv p1, iv p2, iv p3, iv p4, iv y0, iv y1, rv ob5, rv ob22, jv (own_key p0 p1), .second, jv (own_key y0 y1), .second, iv 1, iv 0] [(.int 1)])) _
        exact k
      refine own_lift sg50 ?_
      show own_Go p.tables e below (T49.setTop (mkF m 131 #[iv p0, iv p1, iv p2, iv p3, iv p4, iv y0, iv y1, rv ob5, rv ob22, jv (own_key p0 p1), .second, jv (own_key y0 y1), .second, iv 1, iv 0] [(.int 1)])) _
      obtain ⟨fs, hr, hrun, hended, hRW⟩ := X49.leaveW (s := s) Sx25 (by rw [e49]; exact Q38) (v := some (.int 1)) (fun h => by rw [Bd.returns] at h; cases h) Bd.notSynchronized
      refine ⟨_, _, ?_, hrun, hended, _, _, rfl, ?_, own_monoW hRW (by decide) (by decide)⟩
      · exact retN X49 hx (t := .boolean) Bd.returns (by simp) (hb hby at_131) hr
      · show Q0 Z  h0 n0 _ T49.heap _
        rw [e49]
        exact ⟨rfl, N49⟩
    by_cases b2 : (p4 &&& (2 : Int32)) = (0 : Int32)
    · have sg51 : ∀ t, Steps p.tables e below (T1.setTop (mkF m 26 #[iv p0, iv p1, iv p2, iv p3, iv p4, iv y0, .unset, .unset, .unset, .unset, .unset, .unset, .unset, .unset, .unset] [(.int p3)])) t → Steps p.tables e below (T1.setTop (mkF m 14 #[iv p0, iv p1, iv p2, iv p3, iv p4, iv y0, .unset, .unset, .unset, .unset, .unset, .unset, .unset, .unset, .unset] [])) t := by
        intro t k
        refine XS.iload X1.here hx rfl (hb hby at_14) rfl ?_
        show Steps p.tables e below (T1.setTop (mkF m 16 #[iv p0, iv p1, iv p2, iv p3, iv p4, iv y0, .unset, .unset, .unset, .unset, .unset, .unset, .unset, .unset, .unset] [(.int p4)])) _
        refine XS.iconst X1.here hx rfl (hb hby at_16) ?_
        refine XS.iand X1.here hx rfl (hb hby at_17) rfl ?_
        show Steps p.tables e below (T1.setTop (mkF m 18 #[iv p0, iv p1, iv p2, iv p3, iv p4, iv y0, .unset, .unset, .unset, .unset, .unset, .unset, .unset, .unset, .unset] [(.int (p4 &&& (2 : Int32)))])) _
        refine XS.ifYes X1.here hx rfl (pc0 := 18) (pc' := 25) rfl (hb hby at_18) rfl ((if0 _ _).trans (teq b2).1) (by decide) (by decide) ?_
        refine XS.iloadN X1.here hx rfl (hb hby at_25) rfl ?_
        show Steps p.tables e below (T1.setTop (mkF m 26 #[iv p0, iv p1, iv p2, iv p3, iv p4, iv y0, .unset, .unset, .unset, .unset, .unset, .unset, .unset, .unset, .unset] [(.int p3)])) _
        exact k
      refine own_lift sg51 ?_
      show own_Go p.tables e below (T1.setTop (mkF m 26 #[iv p0, iv p1, iv p2, iv p3, iv p4, iv y0, .unset, .unset, .unset, .unset, .unset, .unset, .unset, .unset, .unset] [(.int p3)])) _
      rw [show y1 = p3 from (hy1.trans (if_pos b2))] at join3
      exact join3 _ _ X1 e1 N1
    · have sg52 : ∀ t, Steps p.tables e below (T1.setTop (mkF m 26 #[iv p0, iv p1, iv p2, iv p3, iv p4, iv y0, .unset, .unset, .unset, .unset, .unset, .unset, .unset, .unset, .unset] [(.int p1)])) t → Steps p.tables e below (T1.setTop (mkF m 14 #[iv p0, iv p1, iv p2, iv p3, iv p4, iv y0, .unset, .unset, .unset, .unset, .unset, .unset, .unset, .unset, .unset] [])) t := by
        intro t k
        refine XS.iload X1.here hx rfl (hb hby at_14) rfl ?_
        show Steps p.tables e below (T1.setTop (mkF m 16 #[iv p0, iv p1, iv p2, iv p3, iv p4, iv y0, .unset, .unset, .unset, .unset, .unset, .unset, .unset, .unset, .unset] [(.int p4)])) _
        refine XS.iconst X1.here hx rfl (hb hby at_16) ?_
        refine XS.iand X1.here hx rfl (hb hby at_17) rfl ?_
        show Steps p.tables e below (T1.setTop (mkF m 18 #[iv p0, iv p1, iv p2, iv p3, iv p4, iv y0, .unset, .unset, .unset, .unset, .unset, .unset, .unset, .unset, .unset] [(.int (p4 &&& (2 : Int32)))])) _
        refine XS.ifNo X1.here hx rfl (hb hby at_18) rfl ((if0 _ _).trans (feq b2).1) ?_
        refine XS.iloadN X1.here hx rfl (hb hby at_21) rfl ?_
        show Steps p.tables e below (T1.setTop (mkF m 22 #[iv p0, iv p1, iv p2, iv p3, iv p4, iv y0, .unset, .unset, .unset, .unset, .unset, .unset, .unset, .unset, .unset] [(.int p1)])) _
        refine XS.goto X1.here hx rfl (pc0 := 22) (pc' := 26) rfl (hb hby at_22) (by decide) (by decide) ?_
        show Steps p.tables e below (T1.setTop (mkF m 26 #[iv p0, iv p1, iv p2, iv p3, iv p4, iv y0, .unset, .unset, .unset, .unset, .unset, .unset, .unset, .unset, .unset] [(.int p1)])) _
        exact k
      refine own_lift sg52 ?_
      show own_Go p.tables e below (T1.setTop (mkF m 26 #[iv p0, iv p1, iv p2, iv p3, iv p4, iv y0, .unset, .unset, .unset, .unset, .unset, .unset, .unset, .unset, .unset] [(.int p1)])) _
      rw [show y1 = p1 from (hy1.trans (if_neg b2))] at join3
      exact join3 _ _ X1 e1 N1
  by_cases b1 : (p4 &&& (1 : Int32)) = (0 : Int32)
  · have sg53 : ∀ t, Steps p.tables e below (s₁.setTop (mkF m 12 #[iv p0, iv p1, iv p2, iv p3, iv p4, .unset, .unset, .unset, .unset, .unset, .unset, .unset, .unset, .unset, .unset] [(.int p2)])) t → Steps p.tables e below (s₁.setTop (mkF m 0 #[iv p0, iv p1, iv p2, iv p3, iv p4, .unset, .unset, .unset, .unset, .unset, .unset, .unset, .unset, .unset, .unset] [])) t := by
      intro t k
      refine XS.iload X0.here hx rfl (hb hby at_0) rfl ?_
      show Steps p.tables e below (s₁.setTop (mkF m 2 #[iv p0, iv p1, iv p2, iv p3, iv p4, .unset, .unset, .unset, .unset, .unset, .unset, .unset, .unset, .unset, .unset] [(.int p4)])) _
      refine XS.iconst X0.here hx rfl (hb hby at_2) ?_
      refine XS.iand X0.here hx rfl (hb hby at_3) rfl ?_
      show Steps p.tables e below (s₁.setTop (mkF m 4 #[iv p0, iv p1, iv p2, iv p3, iv p4, .unset, .unset, .unset, .unset, .unset, .unset, .unset, .unset, .unset, .unset] [(.int (p4 &&& (1 : Int32)))])) _
      refine XS.ifYes X0.here hx rfl (pc0 := 4) (pc' := 11) rfl (hb hby at_4) rfl ((if0 _ _).trans (teq b1).1) (by decide) (by decide) ?_
      refine XS.iloadN X0.here hx rfl (hb hby at_11) rfl ?_
      show Steps p.tables e below (s₁.setTop (mkF m 12 #[iv p0, iv p1, iv p2, iv p3, iv p4, .unset, .unset, .unset, .unset, .unset, .unset, .unset, .unset, .unset, .unset] [(.int p2)])) _
      exact k
    refine own_lift sg53 ?_
    show own_Go p.tables e below (s₁.setTop (mkF m 12 #[iv p0, iv p1, iv p2, iv p3, iv p4, .unset, .unset, .unset, .unset, .unset, .unset, .unset, .unset, .unset, .unset] [(.int p2)])) _
    rw [show y0 = p2 from (hy0.trans (if_pos b1))] at join1
    exact join1 _ _ X0 e0 N0
  · have sg54 : ∀ t, Steps p.tables e below (s₁.setTop (mkF m 12 #[iv p0, iv p1, iv p2, iv p3, iv p4, .unset, .unset, .unset, .unset, .unset, .unset, .unset, .unset, .unset, .unset] [(.int p0)])) t → Steps p.tables e below (s₁.setTop (mkF m 0 #[iv p0, iv p1, iv p2, iv p3, iv p4, .unset, .unset, .unset, .unset, .unset, .unset, .unset, .unset, .unset, .unset] [])) t := by
      intro t k
      refine XS.iload X0.here hx rfl (hb hby at_0) rfl ?_
      show Steps p.tables e below (s₁.setTop (mkF m 2 #[iv p0, iv p1, iv p2, iv p3, iv p4, .unset, .unset, .unset, .unset, .unset, .unset, .unset, .unset, .unset, .unset] [(.int p4)])) _
      refine XS.iconst X0.here hx rfl (hb hby at_2) ?_
      refine XS.iand X0.here hx rfl (hb hby at_3) rfl ?_
      show Steps p.tables e below (s₁.setTop (mkF m 4 #[iv p0, iv p1, iv p2, iv p3, iv p4, .unset, .unset, .unset, .unset, .unset, .unset, .unset, .unset, .unset, .unset] [(.int (p4 &&& (1 : Int32)))])) _
      refine XS.ifNo X0.here hx rfl (hb hby at_4) rfl ((if0 _ _).trans (feq b1).1) ?_
      refine XS.iloadN X0.here hx rfl (hb hby at_7) rfl ?_
      show Steps p.tables e below (s₁.setTop (mkF m 8 #[iv p0, iv p1, iv p2, iv p3, iv p4, .unset, .unset, .unset, .unset, .unset, .unset, .unset, .unset, .unset, .unset] [(.int p0)])) _
      refine XS.goto X0.here hx rfl (pc0 := 8) (pc' := 12) rfl (hb hby at_8) (by decide) (by decide) ?_
      show Steps p.tables e below (s₁.setTop (mkF m 12 #[iv p0, iv p1, iv p2, iv p3, iv p4, .unset, .unset, .unset, .unset, .unset, .unset, .unset, .unset, .unset, .unset] [(.int p0)])) _
      exact k
    refine own_lift sg54 ?_
    show own_Go p.tables e below (s₁.setTop (mkF m 12 #[iv p0, iv p1, iv p2, iv p3, iv p4, .unset, .unset, .unset, .unset, .unset, .unset, .unset, .unset, .unset, .unset] [(.int p0)])) _
    rw [show y0 = p0 from (hy0.trans (if_neg b1))] at join1
    exact join1 _ _ X0 e0 N0
theorem ef_rm0_2 (m : MethodId) (x0 : Int32) (x1 : Int32) (x2 : Int32) (x3 : Int32) (x4 : Int32) : entryFrame m #[(.int x0), (.int x1), (.int x2), (.int x3), (.int x4)] maxLocals = mkF m 0 #[.val (.int x0), .val (.int x1), .val (.int x2), .val (.int x3), .val (.int x4), .unset, .unset, .unset, .unset, .unset, .unset, .unset, .unset, .unset, .unset] [] := by first | (simp [entryFrame, mkF, argsToLocals, Value.category, maxLocals]; done) | rfl
set_option maxRecDepth 65536 in
set_option maxHeartbeats 40000000 in
theorem rm0_2 (l : Launch) (Z : State) (a0 : Array Value) (hw : ∀ d ∈ tables_1, d.before a0 Z = true) (ws : List Jvm.Cond) (p0 : Int32) (p1 : Int32) (p2 : Int32) (p3 : Int32) (p4 : Int32) (u1 : Value) (u2 : Value) (y0 : Int32) (y1 : Int32) (h0 : Heap) (n0 : Nat) (Z0 : n0 ≤ h0.size) (TS : ThS Z h0) (Su1 : Sta Z h0 "java/lang/Throwable" "UNASSIGNED_STACK" "[Ljava/lang/StackTraceElement;" u1) (Su2 : Sta Z h0 "java/lang/Throwable" "SUPPRESSED_SENTINEL" "Ljava/util/List;" u2) (hl : l.stackTraces = true) (P_u1 : u1.isRef = true) (P_u2 : u2.isRef = true) (hy0 : y0 = if (p4 &&& (1 : Int32)) = (0 : Int32) then p2 else p0) (hy1 : y1 = if (p4 &&& (2 : Int32)) = (0 : Int32) then p3 else p1) (l1 : ¬ (p0 < y0)) (l2 : ¬ (y0 < p0)) (ee : p0 = y0) (k1 : p1 < y1) (k2 : ¬ (y1 < p1)) (ab : (own_key p0 p1) < (own_key y0 y1)) (ba : ¬ ((own_key y0 y1) < (own_key p0 p1))) :
    MetFree l x (head1 (Jvm.Cond.code x code maxLocals ret :: ws) room_1) (fun a U => a = #[(.int p0), (.int p1), (.int p2), (.int p3), (.int p4)] ∧ Z.Warmed39 U.vm ∧ U.heap = h0) (fun _ _ _ s _ => Jvm.Pilot.@@N@@.Jvm.D.framesKnown s = true ∧ Jvm.Pilot.@@N@@.Jvm.D.tablesKnown s = true) (fun _ U o U' => ∃ v L, o = .returned v ∧ Q0 Z  h0 n0 v U'.heap L ∧ ReturnedEndW U o U' L 24 13184) := by
  refine MetFree.of_bodySF (plainFor_of_name pn_3) hisR ?_
  intro p e s m args below meth c s₁ Bd hml0 hP hK
  obtain ⟨rfl, hZ, hh⟩ := hP
  have hx := Bd.exec
  have hby := Bd.bytes
  have hml : c.maxLocals = 15 := hml0
  have hown : s.vm.findClass "com/example/libprocgraph/libprocgraph/reader/InvalidModelExceptionPrecedesPinLaw" = some m.cls := findClass_of_methodNamed Bd.named
  have hnm := (name_of_methodNamed Bd.named Bd.method).1
  have X0 : Stand p l e room_1 s m #[(.int p0), (.int p1), (.int p2), (.int p3), (.int p4)] below meth c s₁ [] 0 0 := Stand.of_body Bd
  have e0 : s₁.heap = h0 := by rw [← hh, Bd.state]; rfl
  have N0 := Fr.nil n0
  obtain ⟨hTK0, hBelow0⟩ := X0.known hK.2 hK.1
  have hTK := hTK0
  have hBelow := hBelow0
  have X0 : Stand p l e room_1 (s.setVm s.vm) m #[(.int p0), (.int p1), (.int p2), (.int p3), (.int p4)] below meth c s₁ [] 0 0 := X0
  have own_sn : s.Since s.vm s.heap.size := (State.WarmedH.refl s).since _
  have own_ss : s.heap.size ≤ h0.size := by rw [hh]; exact Nat.le_refl _
  have own_strw' := own_strw hw
  refine own_go (own_lift (fun t k => castTop (ef_rm0_2 m p0 p1 p2 p3 p4) k) ?_)
  show own_Go p.tables e below (s₁.setTop (mkF m 0 #[iv p0, iv p1, iv p2, iv p3, iv p4, .unset, .unset, .unset, .unset, .unset, .unset, .unset, .unset, .unset, .unset] [])) _
  have join1 : ∀ (T1 : State) (locs1 : List Loc), Stand p l e room_1 s m #[(.int p0), (.int p1), (.int p2), (.int p3), (.int p4)] below meth c T1 locs1 0 0 → T1.heap = h0 → Fr n0 locs1 → own_Go p.tables e below (T1.setTop (mkF m 12 #[iv p0, iv p1, iv p2, iv p3, iv p4, .unset, .unset, .unset, .unset, .unset, .unset, .unset, .unset, .unset, .unset] [(.int y0)])) (fun s₂ o => s₂.status = .running ∧ Ended s₂ below o ∧ ∃ v L, o = .returned v ∧ Q0 Z  h0 n0 v s₂.heap L ∧ ReturnedEndW s o s₂ L 24 13184) := by
    intro T1 locs1 X1 e1 N1
    have sg2 : ∀ t, Steps p.tables e below (T1.setTop (mkF m 14 #[iv p0, iv p1, iv p2, iv p3, iv p4, iv y0, .unset, .unset, .unset, .unset, .unset, .unset, .unset, .unset, .unset] [])) t → Steps p.tables e below (T1.setTop (mkF m 12 #[iv p0, iv p1, iv p2, iv p3, iv p4, .unset, .unset, .unset, .unset, .unset, .unset, .unset, .unset, .unset, .unset] [(.int y0)])) t := by
      intro t k
      refine XS.istore X1.here hx rfl (hb hby at_12) rfl (l' := #[iv p0, iv p1, iv p2, iv p3, iv p4, iv y0, .unset, .unset, .unset, .unset, .unset, .unset, .unset, .unset, .unset]) rfl ?_
      show Steps p.tables e below (T1.setTop (mkF m 14 #[iv p0, iv p1, iv p2, iv p3, iv p4, iv y0, .unset, .unset, .unset, .unset, .unset, .unset, .unset, .unset, .unset] [])) _
      exact k
    refine own_lift sg2 ?_
    show own_Go p.tables e below (T1.setTop (mkF m 14 #[iv p0, iv p1, iv p2, iv p3, iv p4, iv y0, .unset, .unset, .unset, .unset, .unset, .unset, .unset, .unset, .unset] [])) _
    have join3 : ∀ (T3 : State) (locs3 : List Loc), Stand p l e room_1 s m #[(.int p0), (.int p1), (.int p2), (.int p3), (.int p4)] below meth c T3 locs3 0 0 → T3.heap = h0 → Fr n0 locs3 → own_Go p.tables e below (T3.setTop (mkF m 26 #[iv p0, iv p1, iv p2, iv p3, iv p4, iv y0, .unset, .unset, .unset, .unset, .unset, .unset, .unset, .unset, .unset] [(.int y1)])) (fun s₂ o => s₂.status = .running ∧ Ended s₂ below o ∧ ∃ v L, o = .returned v ∧ Q0 Z  h0 n0 v s₂.heap L ∧ ReturnedEndW s o s₂ L 24 13184) := by
      intro T3 locs3 X3 e3 N3
      have sg4 : ∀ t, Steps p.tables e below (T3.setTop (mkF m 28 #[iv p0, iv p1, iv p2, iv p3, iv p4, iv y0, iv y1, .unset, .unset, .unset, .unset, .unset, .unset, .unset, .unset] [])) t → Steps p.tables e below (T3.setTop (mkF m 26 #[iv p0, iv p1, iv p2, iv p3, iv p4, iv y0, .unset, .unset, .unset, .unset, .unset, .unset, .unset, .unset, .unset] [(.int y1)])) t := by
        intro t k
        refine XS.istore X3.here hx rfl (hb hby at_26) rfl (l' := #[iv p0, iv p1, iv p2, iv p3, iv p4, iv y0, iv y1, .unset, .unset, .unset, .unset, .unset, .unset, .unset, .unset]) rfl ?_
        show Steps p.tables e below (T3.setTop (mkF m 28 #[iv p0, iv p1, iv p2, iv p3, iv p4, iv y0, iv y1, .unset, .unset, .unset, .unset, .unset, .unset, .unset, .unset] [])) _
        exact k
      refine own_lift sg4 ?_
      show own_Go p.tables e below (T3.setTop (mkF m 28 #[iv p0, iv p1, iv p2, iv p3, iv p4, iv y0, iv y1, .unset, .unset, .unset, .unset, .unset, .unset, .unset, .unset] [])) _
      obtain ⟨T5, h5, X5, e5, Ex5, Ax5, Dx5, Ux5, st5⟩ := newO X3 hx hZ hown (wd hw 0 rfl) (wd hw 1 rfl) (wd hw 2 rfl) e3 (g := (mkF m 28 #[iv p0, iv p1, iv p2, iv p3, iv p4, iv y0, iv y1, .unset, .unset, .unset, .unset, .unset, .unset, .unset, .unset] [])) rfl (hb hby at_28) (by decide) (by decide)
      obtain ⟨ob5, g5⟩ : ∃ z, z = h0.size := ⟨_, rfl⟩
      rw [← g5] at Ax5 Dx5 Ux5 st5
      have Q5 : s.heap.size ≤ h5.size := Nat.le_trans own_ss Ex5.1
      have Z5 : n0 ≤ h5.size := Nat.le_trans Z0 Ex5.1
      have ge5 : n0 ≤ ob5 := Nat.le_trans Z0 (Nat.le_of_eq g5.symm)
      have Ux5 : Unt h5 ob5 := Ux5
      have Fn5_29 : Fld Z h5 ob5 "java/lang/Throwable" "cause" "Ljava/lang/Throwable;" .null := Dx5 (Or.inl (wd hw 29 rfl)) (ty := (.object "java/lang/Throwable")) (by decide)
      have Fn5_32 : Fld Z h5 ob5 "java/lang/Throwable" "stackTrace" "[Ljava/lang/StackTraceElement;" .null := Dx5 (Or.inl (wd hw 32 rfl)) (ty := (.array (.object "java/lang/StackTraceElement"))) (by decide)
      have Fn5_35 : Fld Z h5 ob5 "java/lang/Throwable" "suppressedExceptions" "Ljava/util/List;" .null := Dx5 (Or.inl (wd hw 35 rfl)) (ty := (.object "java/util/List")) (by decide)
      have Fn5_59 : Fld Z h5 ob5 "java/lang/Throwable" "detailMessage" "Ljava/lang/String;" .null := Dx5 (Or.inl (wd hw 59 rfl)) (ty := (.object "java/lang/String")) (by decide)
      have Fn5_60 : Fld Z h5 ob5 "java/lang/Throwable" "backtrace" "Ljava/lang/Object;" .null := Dx5 (Or.inl (wd hw 60 rfl)) (ty := (.object "java/lang/Object")) (by decide)
      have Fn5_61 : Fld Z h5 ob5 "java/lang/Throwable" "depth" "I" (.int 0) := Dx5 (Or.inl (wd hw 61 rfl)) (ty := .int) (by decide)
      have Fn5_65 : Fld Z h5 ob5 "com/example/libprocgraph/libprocgraph/reader/InvalidModelException" "line" "I" (.int 0) := Dx5 (Or.inr (wd hw 65 rfl)) (ty := .int) (by decide)
      have Fn5_67 : Fld Z h5 ob5 "com/example/libprocgraph/libprocgraph/reader/InvalidModelException" "column" "I" (.int 0) := Dx5 (Or.inr (wd hw 67 rfl)) (ty := .int) (by decide)
      refine own_lift st5 ?_
      show own_Go p.tables e below (T5.setTop (mkF m 31 #[iv p0, iv p1, iv p2, iv p3, iv p4, iv y0, iv y1, .unset, .unset, .unset, .unset, .unset, .unset, .unset, .unset] [(.ref ob5)])) _
      have sg6 : ∀ t, Steps p.tables e below (T5.setTop (mkF m 34 #[iv p0, iv p1, iv p2, iv p3, iv p4, iv y0, iv y1, .unset, .unset, .unset, .unset, .unset, .unset, .unset, .unset] [(.int p1), (.int p0), (.ref ob5), (.ref ob5)])) t → Steps p.tables e below (T5.setTop (mkF m 31 #[iv p0, iv p1, iv p2, iv p3, iv p4, iv y0, iv y1, .unset, .unset, .unset, .unset, .unset, .unset, .unset, .unset] [(.ref ob5)])) t := by
        intro t k
        refine XS.dup X5.here hx rfl (hb hby at_31) rfl rfl ?_
        show Steps p.tables e below (T5.setTop (mkF m 32 #[iv p0, iv p1, iv p2, iv p3, iv p4, iv y0, iv y1, .unset, .unset, .unset, .unset, .unset, .unset, .unset, .unset] [(.ref ob5), (.ref ob5)])) _
        refine XS.iloadN X5.here hx rfl (hb hby at_32) rfl ?_
        refine XS.iloadN X5.here hx rfl (hb hby at_33) rfl ?_
        show Steps p.tables e below (T5.setTop (mkF m 34 #[iv p0, iv p1, iv p2, iv p3, iv p4, iv y0, iv y1, .unset, .unset, .unset, .unset, .unset, .unset, .unset, .unset] [(.int p1), (.int p0), (.ref ob5), (.ref ob5)])) _
        exact k
      refine own_lift sg6 ?_
      show own_Go p.tables e below (T5.setTop (mkF m 34 #[iv p0, iv p1, iv p2, iv p3, iv p4, iv y0, iv y1, .unset, .unset, .unset, .unset, .unset, .unset, .unset, .unset] [(.int p1), (.int p0), (.ref ob5), (.ref ob5)])) _
      obtain ⟨sa7, T7, h7, kk7, X7, e7, Ex7, Sx7, Q7, hZ, hown, st7⟩ := ldcS (s := s) X5 hx hZ hown (wd hw 3 rfl) own_strw' e5 own_sn Q5 (g := (mkF m 34 #[iv p0, iv p1, iv p2, iv p3, iv p4, iv y0, iv y1, .unset, .unset, .unset, .unset, .unset, .unset, .unset, .unset] [(.int p1), (.int p0), (.ref ob5), (.ref ob5)])) rfl (hb hby at_34) (n := 4) (by decide) (by decide) (by decide) (by decide)
      have hTK := Vm.MethodsKnown.alikeC Sx7.1.alike hTK0
      have hBelow := Vm.FramesKnown.alikeC Sx7.1.alike hBelow0
      have Z7 : n0 ≤ h7.size := Nat.le_trans Z5 Ex7.1
      refine own_lift st7 ?_
      show own_Go p.tables e below (T7.setTop (mkF m 36 #[iv p0, iv p1, iv p2, iv p3, iv p4, iv y0, iv y1, .unset, .unset, .unset, .unset, .unset, .unset, .unset, .unset] [(.ref sa7), (.int p1), (.int p0), (.ref ob5), (.ref ob5)])) _
      have Fc8 : Exa Z h7 ob5 "com/example/libprocgraph/libprocgraph/reader/InvalidModelException" := (Ax5.ext Ex7)
      have Fc9 : Unt h7 ob5 := (Ux5.ext Ex7)
      have Fc10 : ThS Z h7 := ((TS.ext Ex5).ext Ex7)
      have Fc11 : Fld Z h7 ob5 "java/lang/Throwable" "cause" "Ljava/lang/Throwable;" .null := (Fn5_29.ext Ex7)
      have Fc12 : Fld Z h7 ob5 "java/lang/Throwable" "stackTrace" "[Ljava/lang/StackTraceElement;" .null := (Fn5_32.ext Ex7)
      have Fc13 : Fld Z h7 ob5 "java/lang/Throwable" "suppressedExceptions" "Ljava/util/List;" .null := (Fn5_35.ext Ex7)
      have Fc14 : Fld Z h7 ob5 "java/lang/Throwable" "backtrace" "Ljava/lang/Object;" .null := (Fn5_60.ext Ex7)
      have Fc15 : Fld Z h7 ob5 "java/lang/Throwable" "detailMessage" "Ljava/lang/String;" .null := (Fn5_59.ext Ex7)
      have Fc16 : Fld Z h7 ob5 "com/example/libprocgraph/libprocgraph/reader/InvalidModelException" "line" "I" (.int 0) := (Fn5_65.ext Ex7)
      have Fc17 : Fld Z h7 ob5 "com/example/libprocgraph/libprocgraph/reader/InvalidModelException" "column" "I" (.int 0) := (Fn5_67.ext Ex7)
      have Fc18 : Sta Z h7 "java/lang/Throwable" "UNASSIGNED_STACK" "[Ljava/lang/StackTraceElement;" u1 := ((Su1.ext Ex5).ext Ex7)
      have Fc19 : Sta Z h7 "java/lang/Throwable" "SUPPRESSED_SENTINEL" "Ljava/util/List;" u2 := ((Su2.ext Ex5).ext Ex7)
      obtain ⟨_, _, ⟨T20, Lx20, kx20, nx20⟩, -, X20, ⟨Lc20, hQ20, lx20, yx20, zx20⟩, st20⟩ := X7.specialBack hx (y := (⟨"com/example/libprocgraph/libprocgraph/reader/InvalidModelException", "<init>", "(IILjava/lang/String;)V"⟩ : MethodName)) rfl hown (mvT hZ (wd hw 11 rfl)) (mvT hZ (wd hw 12 rfl)) (mvT hZ (wd hw 13 rfl)) (by decide) (backOfKL (W := 1) (rmInit l Z a0 hw [] ob5 p0 p1 sa7 u1 u2 h7 n0 Z7 Fc8 Fc9 Fc10 Fc11 Fc12 Fc13 Fc14 Fc15 Fc16 Fc17 ge5 Fc18 Fc19 hl P_u1 P_u2) hZ (wd hw 13 rfl) (wd hw 2 rfl) (by decide) (by decide) hTK hBelow) (g := (mkF m 36 #[iv p0, iv p1, iv p2, iv p3, iv p4, iv y0, iv y1, .unset, .unset, .unset, .unset, .unset, .unset, .unset, .unset] [(.ref sa7), (.int p1), (.int p0), (.ref ob5), (.ref ob5)])) rfl (by rw [hml]; rfl) (Steps.refl _) (a := ob5) (argsL := [(.int p0), (.int p1), (.ref sa7)]) (rest := [(.ref ob5)]) (lenOf pd_1 rfl) rfl (by show 2 * 0 + _ ≤ _; exact Nat.le_of_eq rfl) (hb hby at_36) (fun _ _ => ⟨rfl, e7, (by decide : 3 + 1 ≤ _), (by decide : 16 + 2752 ≤ _)⟩)
      dsimp only [Pt.U, Pt.locs, Pt.cells, Pt.slots] at X20 lx20 yx20 zx20 st20 hQ20
      subst lx20 yx20 zx20
      obtain ⟨rfl, N20q, p20_0, p20_1, p20_2, p20_3⟩ := hQ20
      have N20 := Fr.app N3 N20q
      have Z20 : n0 ≤ T20.heap.size := Nat.le_trans Z7 p20_0.1
      have Q20 : kk7 ≤ T20.heap.size := Nat.le_trans Q7 p20_0.1
      refine own_lift (fun t k => st20.trans k) ?_
      show own_Go p.tables e below (T20.setTop (mkF m 39 #[iv p0, iv p1, iv p2, iv p3, iv p4, iv y0, iv y1, .unset, .unset, .unset, .unset, .unset, .unset, .unset, .unset] [(.ref ob5)])) _
      have sg21 : ∀ t, Steps p.tables e below (T20.setTop (mkF m 41 #[iv p0, iv p1, iv p2, iv p3, iv p4, iv y0, iv y1, rv ob5, .unset, .unset, .unset, .unset, .unset, .unset, .unset] [])) t → Steps p.tables e below (T20.setTop (mkF m 39 #[iv p0, iv p1, iv p2, iv p3, iv p4, iv y0, iv y1, .unset, .unset, .unset, .unset, .unset, .unset, .unset, .unset] [(.ref ob5)])) t := by
        intro t k
        refine XS.astore X20.here hx rfl (hb hby at_39) rfl rfl (l' := #[iv p0, iv p1, iv p2, iv p3, iv p4, iv y0, iv y1, rv ob5, .unset, .unset, .unset, .unset, .unset, .unset, .unset]) rfl ?_
        show Steps p.tables e below (T20.setTop (mkF m 41 #[iv p0, iv p1, iv p2, iv p3, iv p4, iv y0, iv y1, rv ob5, .unset, .unset, .unset, .unset, .unset, .unset, .unset] [])) _
        exact k
      refine own_lift sg21 ?_
      show own_Go p.tables e below (T20.setTop (mkF m 41 #[iv p0, iv p1, iv p2, iv p3, iv p4, iv y0, iv y1, rv ob5, .unset, .unset, .unset, .unset, .unset, .unset, .unset] [])) _
      obtain ⟨T22, h22, X22, e22, Ex22, Ax22, Dx22, Ux22, st22⟩ := newO X20 hx hZ hown (wd hw 0 rfl) (wd hw 1 rfl) (wd hw 2 rfl) rfl (g := (mkF m 41 #[iv p0, iv p1, iv p2, iv p3, iv p4, iv y0, iv y1, rv ob5, .unset, .unset, .unset, .unset, .unset, .unset, .unset] [])) rfl (hb hby at_41) (by decide) (by decide)
      obtain ⟨ob22, g22⟩ : ∃ z, z = T20.heap.size := ⟨_, rfl⟩
      rw [← g22] at Ax22 Dx22 Ux22 st22
      have ne23 : ob5 ≠ ob22 := Nat.ne_of_lt (Nat.lt_of_lt_of_le p20_1.lt (Nat.le_of_eq g22.symm))
      have Q22 : kk7 ≤ h22.size := Nat.le_trans Q20 Ex22.1
      have Z22 : n0 ≤ h22.size := Nat.le_trans Z20 Ex22.1
      have ge22 : n0 ≤ ob22 := Nat.le_trans Z20 (Nat.le_of_eq g22.symm)
      have Ux22 : Unt h22 ob22 := Ux22
      have Fn22_29 : Fld Z h22 ob22 "java/lang/Throwable" "cause" "Ljava/lang/Throwable;" .null := Dx22 (Or.inl (wd hw 29 rfl)) (ty := (.object "java/lang/Throwable")) (by decide)
      have Fn22_32 : Fld Z h22 ob22 "java/lang/Throwable" "stackTrace" "[Ljava/lang/StackTraceElement;" .null := Dx22 (Or.inl (wd hw 32 rfl)) (ty := (.array (.object "java/lang/StackTraceElement"))) (by decide)
      have Fn22_35 : Fld Z h22 ob22 "java/lang/Throwable" "suppressedExceptions" "Ljava/util/List;" .null := Dx22 (Or.inl (wd hw 35 rfl)) (ty := (.object "java/util/List")) (by decide)
      have Fn22_59 : Fld Z h22 ob22 "java/lang/Throwable" "detailMessage" "Ljava/lang/String;" .null := Dx22 (Or.inl (wd hw 59 rfl)) (ty := (.object "java/lang/String")) (by decide)
      have Fn22_60 : Fld Z h22 ob22 "java/lang/Throwable" "backtrace" "Ljava/lang/Object;" .null := Dx22 (Or.inl (wd hw 60 rfl)) (ty := (.object "java/lang/Object")) (by decide)
      have Fn22_61 : Fld Z h22 ob22 "java/lang/Throwable" "depth" "I" (.int 0) := Dx22 (Or.inl (wd hw 61 rfl)) (ty := .int) (by decide)
      have Fn22_65 : Fld Z h22 ob22 "com/example/libprocgraph/libprocgraph/reader/InvalidModelException" "line" "I" (.int 0) := Dx22 (Or.inr (wd hw 65 rfl)) (ty := .int) (by decide)
      have Fn22_67 : Fld Z h22 ob22 "com/example/libprocgraph/libprocgraph/reader/InvalidModelException" "column" "I" (.int 0) := Dx22 (Or.inr (wd hw 67 rfl)) (ty := .int) (by decide)
      refine own_lift st22 ?_
      show own_Go p.tables e below (T22.setTop (mkF m 44 #[iv p0, iv p1, iv p2, iv p3, iv p4, iv y0, iv y1, rv ob5, .unset, .unset, .unset, .unset, .unset, .unset, .unset] [(.ref ob22)])) _
      have sg24 : ∀ t, Steps p.tables e below (T22.setTop (mkF m 49 #[iv p0, iv p1, iv p2, iv p3, iv p4, iv y0, iv y1, rv ob5, .unset, .unset, .unset, .unset, .unset, .unset, .unset] [(.int y1), (.int y0), (.ref ob22), (.ref ob22)])) t → Steps p.tables e below (T22.setTop (mkF m 44 #[iv p0, iv p1, iv p2, iv p3, iv p4, iv y0, iv y1, rv ob5, .unset, .unset, .unset, .unset, .unset, .unset, .unset] [(.ref ob22)])) t := by
        intro t k
        refine XS.dup X22.here hx rfl (hb hby at_44) rfl rfl ?_
        show Steps p.tables e below (T22.setTop (mkF m 45 #[iv p0, iv p1, iv p2, iv p3, iv p4, iv y0, iv y1, rv ob5, .unset, .unset, .unset, .unset, .unset, .unset, .unset] [(.ref ob22), (.ref ob22)])) _
        refine XS.iload X22.here hx rfl (hb hby at_45) rfl ?_
        refine XS.iload X22.here hx rfl (hb hby at_47) rfl ?_
        show Steps p.tables e below (T22.setTop (mkF m 49 #[iv p0, iv p1, iv p2, iv p3, iv p4, iv y0, iv y1, rv ob5, .unset, .unset, .unset, .unset, .unset, .unset, .unset] [(.int y1), (.int y0), (.ref ob22), (.ref ob22)])) _
        exact k
      refine own_lift sg24 ?_
      show own_Go p.tables e below (T22.setTop (mkF m 49 #[iv p0, iv p1, iv p2, iv p3, iv p4, iv y0, iv y1, rv ob5, .unset, .unset, .unset, .unset, .unset, .unset, .unset] [(.int y1), (.int y0), (.ref ob22), (.ref ob22)])) _
      obtain ⟨sa25, T25, h25, kk25, X25, e25, Ex25, Sx25, Q25, hZ, hown, st25⟩ := ldcS (s := s) X22 hx hZ hown (wd hw 68 rfl) own_strw' e22 Sx7 Q22 (g := (mkF m 49 #[iv p0, iv p1, iv p2, iv p3, iv p4, iv y0, iv y1, rv ob5, .unset, .unset, .unset, .unset, .unset, .unset, .unset] [(.int y1), (.int y0), (.ref ob22), (.ref ob22)])) rfl (hb hby at_49) (n := 4) (by decide) (by decide) (by decide) (by decide)
      have hTK := Vm.MethodsKnown.alikeC Sx25.1.alike hTK0
      have hBelow := Vm.FramesKnown.alikeC Sx25.1.alike hBelow0
      have Z25 : n0 ≤ h25.size := Nat.le_trans Z22 Ex25.1
      refine own_lift st25 ?_
      show own_Go p.tables e below (T25.setTop (mkF m 51 #[iv p0, iv p1, iv p2, iv p3, iv p4, iv y0, iv y1, rv ob5, .unset, .unset, .unset, .unset, .unset, .unset, .unset] [(.ref sa25), (.int y1), (.int y0), (.ref ob22), (.ref ob22)])) _
      have Fc26 : Exa Z h25 ob22 "com/example/libprocgraph/libprocgraph/reader/InvalidModelException" := (Ax22.ext Ex25)
      have Fc27 : Unt h25 ob22 := (Ux22.ext Ex25)
      have Fc28 : ThS Z h25 := (((ThS.keep p20_0 (own_nost (allS (own_plain Fc8) all0)) Fc10).ext Ex22).ext Ex25)
      have Fc29 : Fld Z h25 ob22 "java/lang/Throwable" "cause" "Ljava/lang/Throwable;" .null := (Fn22_29.ext Ex25)
      have Fc30 : Fld Z h25 ob22 "java/lang/Throwable" "stackTrace" "[Ljava/lang/StackTraceElement;" .null := (Fn22_32.ext Ex25)
      have Fc31 : Fld Z h25 ob22 "java/lang/Throwable" "suppressedExceptions" "Ljava/util/List;" .null := (Fn22_35.ext Ex25)
      have Fc32 : Fld Z h25 ob22 "java/lang/Throwable" "backtrace" "Ljava/lang/Object;" .null := (Fn22_60.ext Ex25)
      have Fc33 : Fld Z h25 ob22 "java/lang/Throwable" "detailMessage" "Ljava/lang/String;" .null := (Fn22_59.ext Ex25)
      have Fc34 : Fld Z h25 ob22 "com/example/libprocgraph/libprocgraph/reader/InvalidModelException" "line" "I" (.int 0) := (Fn22_65.ext Ex25)
      have Fc35 : Fld Z h25 ob22 "com/example/libprocgraph/libprocgraph/reader/InvalidModelException" "column" "I" (.int 0) := (Fn22_67.ext Ex25)
      have Fc36 : Sta Z h25 "java/lang/Throwable" "UNASSIGNED_STACK" "[Ljava/lang/StackTraceElement;" u1 := (((own_Sta_keep Fc18 p20_0 (allS (own_plain Fc8) all0)).ext Ex22).ext Ex25)
      have Fc37 : Sta Z h25 "java/lang/Throwable" "SUPPRESSED_SENTINEL" "Ljava/util/List;" u2 := (((own_Sta_keep Fc19 p20_0 (allS (own_plain Fc8) all0)).ext Ex22).ext Ex25)
      obtain ⟨_, _, ⟨T38, Lx38, kx38, nx38⟩, -, X38, ⟨Lc38, hQ38, lx38, yx38, zx38⟩, st38⟩ := X25.specialBack hx (y := (⟨"com/example/libprocgraph/libprocgraph/reader/InvalidModelException", "<init>", "(IILjava/lang/String;)V"⟩ : MethodName)) rfl hown (mvT hZ (wd hw 11 rfl)) (mvT hZ (wd hw 12 rfl)) (mvT hZ (wd hw 13 rfl)) (by decide) (backOfKL (W := 1) (rmInit l Z a0 hw [] ob22 y0 y1 sa25 u1 u2 h25 n0 Z25 Fc26 Fc27 Fc28 Fc29 Fc30 Fc31 Fc32 Fc33 Fc34 Fc35 ge22 Fc36 Fc37 hl P_u1 P_u2) hZ (wd hw 13 rfl) (wd hw 2 rfl) (by decide) (by decide) hTK hBelow) (g := (mkF m 51 #[iv p0, iv p1, iv p2, iv p3, iv p4, iv y0, iv y1, rv ob5, .unset, .unset, .unset, .unset, .unset, .unset, .unset] [(.ref sa25), (.int y1), (.int y0), (.ref ob22), (.ref ob22)])) rfl (by rw [hml]; rfl) (Steps.refl _) (a := ob22) (argsL := [(.int y0), (.int y1), (.ref sa25)]) (rest := [(.ref ob22)]) (lenOf pd_1 rfl) rfl (by show 2 * 0 + _ ≤ _; exact Nat.le_of_eq rfl) (hb hby at_51) (fun _ _ => ⟨rfl, e25, (by decide : 7 + 1 ≤ _), (by decide : 2784 + 2752 ≤ _)⟩)
      dsimp only [Pt.U, Pt.locs, Pt.cells, Pt.slots] at X38 lx38 yx38 zx38 st38 hQ38
      subst lx38 yx38 zx38
      obtain ⟨rfl, N38q, p38_0, p38_1, p38_2, p38_3⟩ := hQ38
      have N38 := Fr.app N20 N38q
      have Z38 : n0 ≤ T38.heap.size := Nat.le_trans Z25 p38_0.1
      have Q38 : kk25 ≤ T38.heap.size := Nat.le_trans Q25 p38_0.1
      refine own_lift (fun t k => st38.trans k) ?_
      show own_Go p.tables e below (T38.setTop (mkF m 54 #[iv p0, iv p1, iv p2, iv p3, iv p4, iv y0, iv y1, rv ob5, .unset, .unset, .unset, .unset, .unset, .unset, .unset] [(.ref ob22)])) _
      have sg39 : ∀ t, Steps p.tables e below (T38.setTop (mkF m 58 #[iv p0, iv p1, iv p2, iv p3, iv p4, iv y0, iv y1, rv ob5, rv ob22, .unset, .unset, .unset, .unset, .unset, .unset] [(.int p1), (.int p0)])) t → Steps p.tables e below (T38.setTop (mkF m 54 #[iv p0, iv p1, iv p2, iv p3, iv p4, iv y0, iv y1, rv ob5, .unset, .unset, .unset, .unset, .unset, .unset, .unset] [(.ref ob22)])) t := by
        intro t k
        refine XS.astore X38.here hx rfl (hb hby at_54) rfl rfl (l' := #[iv p0, iv p1, iv p2, iv p3, iv p4, iv y0, iv y1, rv ob5, rv ob22, .unset, .unset, .unset, .unset, .unset, .unset]) rfl ?_
        show Steps p.tables e below (T38.setTop (mkF m 56 #[iv p0, iv p1, iv p2, iv p3, iv p4, iv y0, iv y1, rv ob5, rv ob22, .unset, .unset, .unset, .unset, .unset, .unset] [])) _
        refine XS.iloadN X38.here hx rfl (hb hby at_56) rfl ?_
        refine XS.iloadN X38.here hx rfl (hb hby at_57) rfl ?_
        show Steps p.tables e below (T38.setTop (mkF m 58 #[iv p0, iv p1, iv p2, iv p3, iv p4, iv y0, iv y1, rv ob5, rv ob22, .unset, .unset, .unset, .unset, .unset, .unset] [(.int p1), (.int p0)])) _
        exact k
      refine own_lift sg39 ?_
      show own_Go p.tables e below (T38.setTop (mkF m 58 #[iv p0, iv p1, iv p2, iv p3, iv p4, iv y0, iv y1, rv ob5, rv ob22, .unset, .unset, .unset, .unset, .unset, .unset] [(.int p1), (.int p0)])) _
      obtain ⟨_, _, ⟨T40, Lx40, kx40, nx40⟩, -, X40, ⟨Lc40, hQ40, lx40, yx40, zx40⟩, st40⟩ := Jvm.LawKit.callS X38 hx (y := (⟨"com/example/libprocgraph/libprocgraph/reader/InvalidModelExceptionPrecedesPinLaw", "key", "(II)J"⟩ : MethodName)) hown (mvT hZ (wd hw 69 rfl)) (mvT hZ (wd hw 70 rfl)) (mvT hZ (wd hw 71 rfl)) (mvT hZ (wd hw 72 rfl)) (by decide) (backOf (W := 0) (rmKey l Z a0 hw [] p0 p1 T38.heap n0 Z38 ) hZ (wd hw 72 rfl) (wd hw 71 rfl) (by decide) (by decide)) (g := (mkF m 58 #[iv p0, iv p1, iv p2, iv p3, iv p4, iv y0, iv y1, rv ob5, rv ob22, .unset, .unset, .unset, .unset, .unset, .unset] [(.int p1), (.int p0)])) rfl (by rw [hml]; rfl) (argsL := [(.int p0), (.int p1)]) (rest := []) (lenOf pd_2 rfl) rfl (by show 2 * 0 + _ ≤ _; exact Nat.le_of_eq rfl) (hb hby at_58) (fun _ _ => ⟨rfl, rfl, (by decide : 8 + 0 ≤ _), (by decide : 5536 + 0 ≤ _)⟩)
      dsimp only [Pt.U, Pt.locs, Pt.cells, Pt.slots] at X40 lx40 yx40 zx40 st40 hQ40
      subst lx40 yx40 zx40
      obtain ⟨rfl, N40q, e40⟩ := hQ40
      have N40 := Fr.app N38 N40q
      refine own_lift st40 ?_
      show own_Go p.tables e below (T40.setTop (mkF m 61 #[iv p0, iv p1, iv p2, iv p3, iv p4, iv y0, iv y1, rv ob5, rv ob22, .unset, .unset, .unset, .unset, .unset, .unset] [(.long (own_key p0 p1))])) _
      have sg41 : ∀ t, Steps p.tables e below (T40.setTop (mkF m 67 #[iv p0, iv p1, iv p2, iv p3, iv p4, iv y0, iv y1, rv ob5, rv ob22, jv (own_key p0 p1), .second, .unset, .unset, .unset, .unset] [(.int y1), (.int y0)])) t → Steps p.tables e below (T40.setTop (mkF m 61 #[iv p0, iv p1, iv p2, iv p3, iv p4, iv y0, iv y1, rv ob5, rv ob22, .unset, .unset, .unset, .unset, .unset, .unset] [(.long (own_key p0 p1))])) t := by
        intro t k
        refine XS.lstore X40.here hx rfl (hb hby at_61) rfl (l' := #[iv p0, iv p1, iv p2, iv p3, iv p4, iv y0, iv y1, rv ob5, rv ob22, jv (own_key p0 p1), .second, .unset, .unset, .unset, .unset]) rfl ?_
        show Steps p.tables e below (T40.setTop (mkF m 63 #[iv p0, iv p1, iv p2, iv p3, iv p4, iv y0, iv y1, rv ob5, rv ob22, jv (own_key p0 p1), .second, .unset, .unset, .unset, .unset] [])) _
        refine XS.iload X40.here hx rfl (hb hby at_63) rfl ?_
        refine XS.iload X40.here hx rfl (hb hby at_65) rfl ?_
        show Steps p.tables e below (T40.setTop (mkF m 67 #[iv p0, iv p1, iv p2, iv p3, iv p4, iv y0, iv y1, rv ob5, rv ob22, jv (own_key p0 p1), .second, .unset, .unset, .unset, .unset] [(.int y1), (.int y0)])) _
        exact k
      refine own_lift sg41 ?_
      show own_Go p.tables e below (T40.setTop (mkF m 67 #[iv p0, iv p1, iv p2, iv p3, iv p4, iv y0, iv y1, rv ob5, rv ob22, jv (own_key p0 p1), .second, .unset, .unset, .unset, .unset] [(.int y1), (.int y0)])) _
      obtain ⟨_, _, ⟨T42, Lx42, kx42, nx42⟩, -, X42, ⟨Lc42, hQ42, lx42, yx42, zx42⟩, st42⟩ := Jvm.LawKit.callS X40 hx (y := (⟨"com/example/libprocgraph/libprocgraph/reader/InvalidModelExceptionPrecedesPinLaw", "key", "(II)J"⟩ : MethodName)) hown (mvT hZ (wd hw 69 rfl)) (mvT hZ (wd hw 70 rfl)) (mvT hZ (wd hw 71 rfl)) (mvT hZ (wd hw 72 rfl)) (by decide) (backOf (W := 0) (rmKey l Z a0 hw [] y0 y1 T38.heap n0 Z38 ) hZ (wd hw 72 rfl) (wd hw 71 rfl) (by decide) (by decide)) (g := (mkF m 67 #[iv p0, iv p1, iv p2, iv p3, iv p4, iv y0, iv y1, rv ob5, rv ob22, jv (own_key p0 p1), .second, .unset, .unset, .unset, .unset] [(.int y1), (.int y0)])) rfl (by rw [hml]; rfl) (argsL := [(.int y0), (.int y1)]) (rest := []) (lenOf pd_2 rfl) rfl (by show 2 * 0 + _ ≤ _; exact Nat.le_of_eq rfl) (hb hby at_67) (fun _ _ => ⟨rfl, e40, (by decide : 8 + 0 ≤ _), (by decide : 5536 + 0 ≤ _)⟩)
      dsimp only [Pt.U, Pt.locs, Pt.cells, Pt.slots] at X42 lx42 yx42 zx42 st42 hQ42
      subst lx42 yx42 zx42
      obtain ⟨rfl, N42q, e42⟩ := hQ42
      have N42 := Fr.app N40 N42q
      refine own_lift st42 ?_
      show own_Go p.tables e below (T42.setTop (mkF m 70 #[iv p0, iv p1, iv p2, iv p3, iv p4, iv y0, iv y1, rv ob5, rv ob22, jv (own_key p0 p1), .second, .unset, .unset, .unset, .unset] [(.long (own_key y0 y1))])) _
      have sg43 : ∀ t, Steps p.tables e below (T42.setTop (mkF m 106 #[iv p0, iv p1, iv p2, iv p3, iv p4, iv y0, iv y1, rv ob5, rv ob22, jv (own_key p0 p1), .second, jv (own_key y0 y1), .second, iv 1, iv 0] [(.ref ob22), (.ref ob5)])) t → Steps p.tables e below (T42.setTop (mkF m 70 #[iv p0, iv p1, iv p2, iv p3, iv p4, iv y0, iv y1, rv ob5, rv ob22, jv (own_key p0 p1), .second, .unset, .unset, .unset, .unset] [(.long (own_key y0 y1))])) t := by
        intro t k
        refine XS.lstore X42.here hx rfl (hb hby at_70) rfl (l' := #[iv p0, iv p1, iv p2, iv p3, iv p4, iv y0, iv y1, rv ob5, rv ob22, jv (own_key p0 p1), .second, jv (own_key y0 y1), .second, .unset, .unset]) rfl ?_
        show Steps p.tables e below (T42.setTop (mkF m 72 #[iv p0, iv p1, iv p2, iv p3, iv p4, iv y0, iv y1, rv ob5, rv ob22, jv (own_key p0 p1), .second, jv (own_key y0 y1), .second, .unset, .unset] [])) _
        refine XS.lload X42.here hx rfl (hb hby at_72) rfl ?_
        refine XS.lload X42.here hx rfl (hb hby at_74) rfl ?_
        show Steps p.tables e below (T42.setTop (mkF m 76 #[iv p0, iv p1, iv p2, iv p3, iv p4, iv y0, iv y1, rv ob5, rv ob22, jv (own_key p0 p1), .second, jv (own_key y0 y1), .second, .unset, .unset] [(.long (own_key y0 y1)), (.long (own_key p0 p1))])) _
        refine XS.lcmp X42.here hx rfl (hb hby at_76) rfl ?_
        refine XS.ifNo X42.here hx rfl (hb hby at_77) rfl ((if0 _ _).trans (tlt ((lw_lt (own_key p0 p1) (own_key y0 y1)).2 ab)).2.1) ?_
        show Steps p.tables e below (T42.setTop (mkF m 80 #[iv p0, iv p1, iv p2, iv p3, iv p4, iv y0, iv y1, rv ob5, rv ob22, jv (own_key p0 p1), .second, jv (own_key y0 y1), .second, .unset, .unset] [])) _
        refine XS.iconst X42.here hx rfl (hb hby at_80) ?_
        refine XS.goto X42.here hx rfl (pc0 := 81) (pc' := 85) rfl (hb hby at_81) (by decide) (by decide) ?_
        show Steps p.tables e below (T42.setTop (mkF m 85 #[iv p0, iv p1, iv p2, iv p3, iv p4, iv y0, iv y1, rv ob5, rv ob22, jv (own_key p0 p1), .second, jv (own_key y0 y1), .second, .unset, .unset] [(.int 1)])) _
        refine XS.istore X42.here hx rfl (hb hby at_85) rfl (l' := #[iv p0, iv p1, iv p2, iv p3, iv p4, iv y0, iv y1, rv ob5, rv ob22, jv (own_key p0 p1), .second, jv (own_key y0 y1), .second, iv 1, .unset]) rfl ?_
        refine XS.lload X42.here hx rfl (hb hby at_87) rfl ?_
        show Steps p.tables e below (T42.setTop (mkF m 89 #[iv p0, iv p1, iv p2, iv p3, iv p4, iv y0, iv y1, rv ob5, rv ob22, jv (own_key p0 p1), .second, jv (own_key y0 y1), .second, iv 1, .unset] [(.long (own_key y0 y1))])) _
        refine XS.lload X42.here hx rfl (hb hby at_89) rfl ?_
        refine XS.lcmp X42.here hx rfl (hb hby at_91) rfl ?_
        show Steps p.tables e below (T42.setTop (mkF m 92 #[iv p0, iv p1, iv p2, iv p3, iv p4, iv y0, iv y1, rv ob5, rv ob22, jv (own_key p0 p1), .second, jv (own_key y0 y1), .second, iv 1, .unset] [(.int (lcmpW (own_key y0 y1) (own_key p0 p1)))])) _
        refine XS.ifYes X42.here hx rfl (pc0 := 92) (pc' := 99) rfl (hb hby at_92) rfl ((if0 _ _).trans (flt (fun q => ba ((lw_lt (own_key y0 y1) (own_key p0 p1)).1 q))).2.1) (by decide) (by decide) ?_
        refine XS.iconst X42.here hx rfl (hb hby at_99) ?_
        show Steps p.tables e below (T42.setTop (mkF m 100 #[iv p0, iv p1, iv p2, iv p3, iv p4, iv y0, iv y1, rv ob5, rv ob22, jv (own_key p0 p1), .second, jv (own_key y0 y1), .second, iv 1, .unset] [(.int 0)])) _
        refine XS.istore X42.here hx rfl (hb hby at_100) rfl (l' := #[iv p0, iv p1, iv p2, iv p3, iv p4, iv y0, iv y1, rv ob5, rv ob22, jv (own_key p0 p1), .second, jv (own_key y0 y1), .second, iv 1, iv 0]) rfl ?_
        refine XS.aload X42.here hx rfl (hb hby at_102) rfl rfl ?_
        show Steps p.tables e below (T42.setTop (mkF m 104 #[iv p0, iv p1, iv p2, iv p3, iv p4, iv y0, iv y1, rv ob5, rv ob22, jv (own_key p0 p1), .second, jv (own_key y0 y1), .second, iv 1, iv 0] [(.ref ob5)])) _
        refine XS.aload X42.here hx rfl (hb hby at_104) rfl rfl ?_
        show Steps p.tables e below (T42.setTop (mkF m 106 #[iv p0, iv p1, iv p2, iv p3, iv p4, iv y0, iv y1, rv ob5, rv ob22, jv (own_key p0 p1), .second, jv (own_key y0 y1), .second, iv 1, iv 0] [(.ref ob22), (.ref ob5)])) _
        exact k
      refine own_lift sg43 ?_
      show own_Go p.tables e below (T42.setTop (mkF m 106 #[iv p0, iv p1, iv p2, iv p3, iv p4, iv y0, iv y1, rv ob5, rv ob22, jv (own_key p0 p1), .second, jv (own_key y0 y1), .second, iv 1, iv 0] [(.ref ob22), (.ref ob5)])) _
      have Fc44 : Fld Z T38.heap ob5 "com/example/libprocgraph/libprocgraph/reader/InvalidModelException" "line" "I" (.int p0) := (((p20_2.ext Ex22).ext Ex25).keep p38_0 (ninS ne23 nin0))
      have Fc45 : Fld Z T38.heap ob5 "com/example/libprocgraph/libprocgraph/reader/InvalidModelException" "column" "I" (.int p1) := (((p20_3.ext Ex22).ext Ex25).keep p38_0 (ninS ne23 nin0))
      have Fc47 : Exa Z T38.heap ob5 "com/example/libprocgraph/libprocgraph/reader/InvalidModelException" := (((p20_1.ext Ex22).ext Ex25).keep p38_0)
      obtain ⟨cq46, kq46, q46a, q46b, q46c⟩ := isOf hZ e42 Fc47
      obtain ⟨_, _, ⟨T46, Lx46, kx46, nx46⟩, -, X46, ⟨Lc46, hQ46, lx46, yx46, zx46⟩, st46⟩ := X42.virtualBack hx (y := (⟨"com/example/libprocgraph/libprocgraph/reader/InvalidModelException", "precedes", "(Lcom/example/libprocgraph/libprocgraph/reader/InvalidModelException;)Z"⟩ : MethodName)) (z := (⟨"com/example/libprocgraph/libprocgraph/reader/InvalidModelException", "precedes", "(Lcom/example/libprocgraph/libprocgraph/reader/InvalidModelException;)Z"⟩ : MethodName)) hown (mvT hZ (wd hw 74 rfl)) (mvT hZ (wd hw 75 rfl)) (notFace_of_selects (args := #[]) (mvT hZ (wd hw 77 rfl))) (mvT hZ (wd hw 77 rfl)) (mvT hZ (wd hw 76 rfl)) (by decide) (backOf (W := 0) (rmPr3 l Z a0 hw [] ob5 ob22 p0 p1 y0 y1 T38.heap n0 Z38 Fc44 Fc45 p38_2 p38_3 l1 ee k1) hZ (wd hw 78 rfl) (wd hw 2 rfl) (by decide) (by decide)) q46a q46c (g := (mkF m 106 #[iv p0, iv p1, iv p2, iv p3, iv p4, iv y0, iv y1, rv ob5, rv ob22, jv (own_key p0 p1), .second, jv (own_key y0 y1), .second, iv 1, iv 0] [(.ref ob22), (.ref ob5)])) rfl (by rw [hml]; rfl) (Steps.refl _) (argsL := [(.ref ob22)]) (rest := []) (lenOf pd_3 rfl) rfl (by show 2 * 0 + _ ≤ _; exact Nat.le_of_eq rfl) (hb hby at_106) (fun _ _ => ⟨rfl, e42, (by decide : 8 + 0 ≤ _), (by decide : 5536 + 0 ≤ _)⟩)
      dsimp only [Pt.U, Pt.locs, Pt.cells, Pt.slots] at X46 lx46 yx46 zx46 st46 hQ46
      subst lx46 yx46 zx46
      obtain ⟨rfl, N46q, e46⟩ := hQ46
      have N46 := Fr.app N42 N46q
      refine own_lift (fun t k => st46.trans k) ?_
      show own_Go p.tables e below (T46.setTop (mkF m 109 #[iv p0, iv p1, iv p2, iv p3, iv p4, iv y0, iv y1, rv ob5, rv ob22, jv (own_key p0 p1), .second, jv (own_key y0 y1), .second, iv 1, iv 0] [(.int 1)])) _
      have sg48 : ∀ t, Steps p.tables e below (T46.setTop (mkF m 118 #[iv p0, iv p1, iv p2, iv p3, iv p4, iv y0, iv y1, rv ob5, rv ob22, jv (own_key p0 p1), .second, jv (own_key y0 y1), .second, iv 1, iv 0] [(.ref ob5), (.ref ob22)])) t → Steps p.tables e below (T46.setTop (mkF m 109 #[iv p0, iv p1, iv p2, iv p3, iv p4, iv y0, iv y1, rv ob5, rv ob22, jv (own_key p0 p1), .second, jv (own_key y0 y1), .second, iv 1, iv 0] [(.int 1)])) t := by
        intro t k
        refine XS.iload X46.here hx rfl (hb hby at_109) rfl ?_
        show Steps p.tables e below (T46.setTop (mkF m 111 #[iv p0, iv p1, iv p2, iv p3, iv p4, iv y0, iv y1, rv ob5, rv ob22, jv (own_key p0 p1), .second, jv (own_key y0 y1), .second, iv 1, iv 0] [(.int 1), (.int 1)])) _
        refine XS.icmpNo X46.here hx rfl (hb hby at_111) rfl (teq (by decide : (1 : Int32) = (1 : Int32))).2 ?_
        refine XS.aload X46.here hx rfl (hb hby at_114) rfl rfl ?_
        show Steps p.tables e below (T46.setTop (mkF m 116 #[iv p0, iv p1, iv p2, iv p3, iv p4, iv y0, iv y1, rv ob5, rv ob22, jv (own_key p0 p1), .second, jv (own_key y0 y1), .second, iv 1, iv 0] [(.ref ob22)])) _
        refine XS.aload X46.here hx rfl (hb hby at_116) rfl rfl ?_
        show Steps p.tables e below (T46.setTop (mkF m 118 #[iv p0, iv p1, iv p2, iv p3, iv p4, iv y0, iv y1, rv ob5, rv ob22, jv (own_key p0 p1), .second, jv (own_key y0 y1), .second, iv 1, iv 0] [(.ref ob5), (.ref ob22)])) _
        exact k
      refine own_lift sg48 ?_
      show own_Go p.tables e below (T46.setTop (mkF m 118 #[iv p0, iv p1, iv p2, iv p3, iv p4, iv y0, iv y1, rv ob5, rv ob22, jv (own_key p0 p1), .second, jv (own_key y0 y1), .second, iv 1, iv 0] [(.ref ob5), (.ref ob22)])) _
      obtain ⟨cq49, kq49, q49a, q49b, q49c⟩ := isOf hZ e46 p38_1
      obtain ⟨_, _, ⟨T49, Lx49, kx49, nx49⟩, -, X49, ⟨Lc49, hQ49, lx49, yx49, zx49⟩, st49⟩ := X46.virtualBack hx (y := (⟨"com/example/libprocgraph/libprocgraph/reader/InvalidModelException", "precedes", "(Lcom/example/libprocgraph/libprocgraph/reader/InvalidModelException;)Z"⟩ : MethodName)) (z := (⟨"com/example/libprocgraph/libprocgraph/reader/InvalidModelException", "precedes", "(Lcom/example/libprocgraph/libprocgraph/reader/InvalidModelException;)Z"⟩ : MethodName)) hown (mvT hZ (wd hw 74 rfl)) (mvT hZ (wd hw 75 rfl)) (notFace_of_selects (args := #[]) (mvT hZ (wd hw 77 rfl))) (mvT hZ (wd hw 77 rfl)) (mvT hZ (wd hw 76 rfl)) (by decide) (backOf (W := 0) (rmPr4 l Z a0 hw [] ob22 ob5 y0 y1 p0 p1 T38.heap n0 Z38 p38_2 p38_3 Fc44 Fc45 l2 (Eq.symm ee) k2) hZ (wd hw 78 rfl) (wd hw 2 rfl) (by decide) (by decide)) q49a q49c (g := (mkF m 118 #[iv p0, iv p1, iv p2, iv p3, iv p4, iv y0, iv y1, rv ob5, rv ob22, jv (own_key p0 p1), .second, jv (own_key y0 y1), .second, iv 1, iv 0] [(.ref ob5), (.ref ob22)])) rfl (by rw [hml]; rfl) (Steps.refl _) (argsL := [(.ref ob5)]) (rest := []) (lenOf pd_3 rfl) rfl (by show 2 * 0 + _ ≤ _; exact Nat.le_of_eq rfl) (hb hby at_118) (fun _ _ => ⟨rfl, e46, (by decide : 8 + 0 ≤ _), (by decide : 5536 + 0 ≤ _)⟩)
      dsimp only [Pt.U, Pt.locs, Pt.cells, Pt.slots] at X49 lx49 yx49 zx49 st49 hQ49
      subst lx49 yx49 zx49
      obtain ⟨rfl, N49q, e49⟩ := hQ49
      have N49 := Fr.app N46 N49q
      refine own_lift (fun t k => st49.trans k) ?_
      show own_Go p.tables e below (T49.setTop (mkF m 121 #[iv p0, iv p1, iv p2, iv p3, iv p4, iv y0, iv y1, rv ob5, rv ob22, jv (own_key p0 p1), .second, jv (own_key y0 y1), .second, iv 1, iv 0] [(.int 0)])) _
      have sg50 : ∀ t, Steps p.tables e below (T49.setTop (mkF m 131 #[iv p0, iv p1, iv p2, iv p3, iv p4, iv y0, iv y1, rv ob5, rv ob22, jv (own_key p0 p1), .second, jv (own_key y0 y1), .second, iv 1, iv 0] [(.int 1)])) t → Steps p.tables e below (T49.setTop (mkF m 121 #[iv p0, iv p1, iv p2, iv p3, iv p4, iv y0, iv y1, rv ob5, rv ob22, jv (own_key p0 p1), .second, jv (own_key y0 y1), .second, iv 1, iv 0] [(.int 0)])) t := by
        intro t k
        refine XS.iload X49.here hx rfl (hb hby at_121) rfl ?_
        show Steps p.tables e below (T49.setTop (mkF m 123 #[iv p0, iv p1, iv p2, iv p3, iv p4, iv y0, iv y1, rv ob5, rv ob22, jv (own_key p0 p1), .second, jv (own_key y0 y1), .second, iv 1, iv 0] [(.int 0), (.int 0)])) _
        refine XS.icmpNo X49.here hx rfl (hb hby at_123) rfl (teq (by decide : (0 : Int32) = (0 : Int32))).2 ?_
        refine XS.iconst X49.here hx rfl (hb hby at_126) ?_
        show Steps p.tables e below (T49.setTop (mkF m 127 #[iv p0, iv p1, iv p2, iv p3, iv p4, iv y0, iv y1, rv ob5, rv ob22, jv (own_key p0 p1), .second, jv (own_key y0 y1), .second, iv 1, iv 0] [(.int 1)])) _
        refine XS.goto X49.here hx rfl (pc0 := 127) (pc' := 131) rfl (hb hby at_127) (by decide) (by decide) ?_
        show Steps p.tables e below (T49.setTop (mkF m 131 #[iv p0, iv p1, iv p2, iv p3, iv p4, iv y0, iv y1, rv ob5, rv ob22, jv (own_key p0 p1), .second, jv (own_key y0 y1), .second, iv 1, iv 0] [(.int 1)])) _
        exact k
      refine own_lift sg50 ?_
      show own_Go p.tables e below (T49.setTop (mkF m 131 #[iv p0, iv p1, iv p2, iv p3, iv p4, iv y0, iv y1, rv ob5, rv ob22, jv (own_key p0 p1), .second, jv (own_key y0 y1), .second, iv 1, iv 0] [(.int 1)])) _
      obtain ⟨fs, hr, hrun, hended, hRW⟩ := X49.leaveW (s := s) Sx25 (by rw [e49]; exact Q38) (v := some (.int 1)) (fun h => by rw [Bd.returns] at h; cases h) Bd.notSynchronized
      refine ⟨_, _, ?_, hrun, hended, _, _, rfl, ?_, own_monoW hRW (by decide) (by decide)⟩
      · exact retN X49 hx (t := .boolean) Bd.returns (by simp) (hb hby at_131) hr
      · show Q0 Z  h0 n0 _ T49.heap _
        rw [e49]
        exact ⟨rfl, N49⟩
    by_cases b2 : (p4 &&& (2 : Int32)) = (0 : Int32)
    · have sg51 : ∀ t, Steps p.tables e below (T1.setTop (mkF m 26 #[iv p0, iv p1, iv p2, iv p3, iv p4, iv y0, .unset, .unset, .unset, .unset, .unset, .unset, .unset, .unset, .unset] [(.int p3)])) t → Steps p.tables e below (T1.setTop (mkF m 14 #[iv p0, iv p1, iv p2, iv p3, iv p4, iv y0, .unset, .unset, .unset, .unset, .unset, .unset, .unset, .unset, .unset] [])) t := by
        intro t k
        refine XS.iload X1.here hx rfl (hb hby at_14) rfl ?_
        show Steps p.tables e below (T1.setTop (mkF m 16 #[iv p0, iv p1, iv p2, iv p3, iv p4, iv y0, .unset, .unset, .unset, .unset, .unset, .unset, .unset, .unset, .unset] [(.int p4)])) _
        refine XS.iconst X1.here hx rfl (hb hby at_16) ?_
        refine XS.iand X1.here hx rfl (hb hby at_17) rfl ?_
        show Steps p.tables e below (T1.setTop (mkF m 18 #[iv p0, iv p1, iv p2, iv p3, iv p4, iv y0, .unset, .unset, .unset, .unset, .unset, .unset, .unset, .unset, .unset] [(.int (p4 &&& (2 : Int32)))])) _
        refine XS.ifYes X1.here hx rfl (pc0 := 18) (pc' := 25) rfl (hb hby at_18) rfl ((if0 _ _).trans (teq b2).1) (by decide) (by decide) ?_
        refine XS.iloadN X1.here hx rfl (hb hby at_25) rfl ?_
        show Steps p.tables e below (T1.setTop (mkF m 26 #[iv p0, iv p1, iv p2, iv p3, iv p4, iv y0, .unset, .unset, .unset, .unset, .unset, .unset, .unset, .unset, .unset] [(.int p3)])) _
        exact k
      refine own_lift sg51 ?_
      show own_Go p.tables e below (T1.setTop (mkF m 26 #[iv p0, iv p1, iv p2, iv p3, iv p4, iv y0, .unset, .unset, .unset, .unset, .unset, .unset, .unset, .unset, .unset] [(.int p3)])) _
      rw [show y1 = p3 from (hy1.trans (if_pos b2))] at join3
      exact join3 _ _ X1 e1 N1
    · have sg52 : ∀ t, Steps p.tables e below (T1.setTop (mkF m 26 #[iv p0, iv p1, iv p2, iv p3, iv p4, iv y0, .unset, .unset, .unset, .unset, .unset, .unset, .unset, .unset, .unset] [(.int p1)])) t → Steps p.tables e below (T1.setTop (mkF m 14 #[iv p0, iv p1, iv p2, iv p3, iv p4, iv y0, .unset, .unset, .unset, .unset, .unset, .unset, .unset, .unset, .unset] [])) t := by
        intro t k
        refine XS.iload X1.here hx rfl (hb hby at_14) rfl ?_
        show Steps p.tables e below (T1.setTop (mkF m 16 #[iv p0, iv p1, iv p2, iv p3, iv p4, iv y0, .unset, .unset, .unset, .unset, .unset, .unset, .unset, .unset, .unset] [(.int p4)])) _
        refine XS.iconst X1.here hx rfl (hb hby at_16) ?_
        refine XS.iand X1.here hx rfl (hb hby at_17) rfl ?_
        show Steps p.tables e below (T1.setTop (mkF m 18 #[iv p0, iv p1, iv p2, iv p3, iv p4, iv y0, .unset, .unset, .unset, .unset, .unset, .unset, .unset, .unset, .unset] [(.int (p4 &&& (2 : Int32)))])) _
        refine XS.ifNo X1.here hx rfl (hb hby at_18) rfl ((if0 _ _).trans (feq b2).1) ?_
        refine XS.iloadN X1.here hx rfl (hb hby at_21) rfl ?_
        show Steps p.tables e below (T1.setTop (mkF m 22 #[iv p0, iv p1, iv p2, iv p3, iv p4, iv y0, .unset, .unset, .unset, .unset, .unset, .unset, .unset, .unset, .unset] [(.int p1)])) _
        refine XS.goto X1.here hx rfl (pc0 := 22) (pc' := 26) rfl (hb hby at_22) (by decide) (by decide) ?_
        show Steps p.tables e below (T1.setTop (mkF m 26 #[iv p0, iv p1, iv p2, iv p3, iv p4, iv y0, .unset, .unset, .unset, .unset, .unset, .unset, .unset, .unset, .unset] [(.int p1)])) _
        exact k
      refine own_lift sg52 ?_
      show own_Go p.tables e below (T1.setTop (mkF m 26 #[iv p0, iv p1, iv p2, iv p3, iv p4, iv y0, .unset, .unset, .unset, .unset, .unset, .unset, .unset, .unset, .unset] [(.int p1)])) _
      rw [show y1 = p1 from (hy1.trans (if_neg b2))] at join3
      exact join3 _ _ X1 e1 N1
  by_cases b1 : (p4 &&& (1 : Int32)) = (0 : Int32)
  · have sg53 : ∀ t, Steps p.tables e below (s₁.setTop (mkF m 12 #[iv p0, iv p1, iv p2, iv p3, iv p4, .unset, .unset, .unset, .unset, .unset, .unset, .unset, .unset, .unset, .unset] [(.int p2)])) t → Steps p.tables e below (s₁.setTop (mkF m 0 #[iv p0, iv p1, iv p2, iv p3, iv p4, .unset, .unset, .unset, .unset, .unset, .unset, .unset, .unset, .unset, .unset] [])) t := by
      intro t k
      refine XS.iload X0.here hx rfl (hb hby at_0) rfl ?_
      show Steps p.tables e below (s₁.setTop (mkF m 2 #[iv p0, iv p1, iv p2, iv p3, iv p4, .unset, .unset, .unset, .unset, .unset, .unset, .unset, .unset, .unset, .unset] [(.int p4)])) _
      refine XS.iconst X0.here hx rfl (hb hby at_2) ?_
      refine XS.iand X0.here hx rfl (hb hby at_3) rfl ?_
      show Steps p.tables e below (s₁.setTop (mkF m 4 #[iv p0, iv p1, iv p2, iv p3, iv p4, .unset, .unset, .unset, .unset, .unset, .unset, .unset, .unset, .unset, .unset] [(.int (p4 &&& (1 : Int32)))])) _
      refine XS.ifYes X0.here hx rfl (pc0 := 4) (pc' := 11) rfl (hb hby at_4) rfl ((if0 _ _).trans (teq b1).1) (by decide) (by decide) ?_
      refine XS.iloadN X0.here hx rfl (hb hby at_11) rfl ?_
      show Steps p.tables e below (s₁.setTop (mkF m 12 #[iv p0, iv p1, iv p2, iv p3, iv p4, .unset, .unset, .unset, .unset, .unset, .unset, .unset, .unset, .unset, .unset] [(.int p2)])) _
      exact k
    refine own_lift sg53 ?_
    show own_Go p.tables e below (s₁.setTop (mkF m 12 #[iv p0, iv p1, iv p2, iv p3, iv p4, .unset, .unset, .unset, .unset, .unset, .unset, .unset, .unset, .unset, .unset] [(.int p2)])) _
    rw [show y0 = p2 from (hy0.trans (if_pos b1))] at join1
    exact join1 _ _ X0 e0 N0
  · have sg54 : ∀ t, Steps p.tables e below (s₁.setTop (mkF m 12 #[iv p0, iv p1, iv p2, iv p3, iv p4, .unset, .unset, .unset, .unset, .unset, .unset, .unset, .unset, .unset, .unset] [(.int p0)])) t → Steps p.tables e below (s₁.setTop (mkF m 0 #[iv p0, iv p1, iv p2, iv p3, iv p4, .unset, .unset, .unset, .unset, .unset, .unset, .unset, .unset, .unset, .unset] [])) t := by
      intro t k
      refine XS.iload X0.here hx rfl (hb hby at_0) rfl ?_
      show Steps p.tables e below (s₁.setTop (mkF m 2 #[iv p0, iv p1, iv p2, iv p3, iv p4, .unset, .unset, .unset, .unset, .unset, .unset, .unset, .unset, .unset, .unset] [(.int p4)])) _
      refine XS.iconst X0.here hx rfl (hb hby at_2) ?_
      refine XS.iand X0.here hx rfl (hb hby at_3) rfl ?_
      show Steps p.tables e below (s₁.setTop (mkF m 4 #[iv p0, iv p1, iv p2, iv p3, iv p4, .unset, .unset, .unset, .unset, .unset, .unset, .unset, .unset, .unset, .unset] [(.int (p4 &&& (1 : Int32)))])) _
      refine XS.ifNo X0.here hx rfl (hb hby at_4) rfl ((if0 _ _).trans (feq b1).1) ?_
      refine XS.iloadN X0.here hx rfl (hb hby at_7) rfl ?_
      show Steps p.tables e below (s₁.setTop (mkF m 8 #[iv p0, iv p1, iv p2, iv p3, iv p4, .unset, .unset, .unset, .unset, .unset, .unset, .unset, .unset, .unset, .unset] [(.int p0)])) _
      refine XS.goto X0.here hx rfl (pc0 := 8) (pc' := 12) rfl (hb hby at_8) (by decide) (by decide) ?_
      show Steps p.tables e below (s₁.setTop (mkF m 12 #[iv p0, iv p1, iv p2, iv p3, iv p4, .unset, .unset, .unset, .unset, .unset, .unset, .unset, .unset, .unset, .unset] [(.int p0)])) _
      exact k
    refine own_lift sg54 ?_
    show own_Go p.tables e below (s₁.setTop (mkF m 12 #[iv p0, iv p1, iv p2, iv p3, iv p4, .unset, .unset, .unset, .unset, .unset, .unset, .unset, .unset, .unset, .unset] [(.int p0)])) _
    rw [show y0 = p0 from (hy0.trans (if_neg b1))] at join1
    exact join1 _ _ X0 e0 N0
theorem ef_rm0_3 (m : MethodId) (x0 : Int32) (x1 : Int32) (x2 : Int32) (x3 : Int32) (x4 : Int32) : entryFrame m #[(.int x0), (.int x1), (.int x2), (.int x3), (.int x4)] maxLocals = mkF m 0 #[.val (.int x0), .val (.int x1), .val (.int x2), .val (.int x3), .val (.int x4), .unset, .unset, .unset, .unset, .unset, .unset, .unset, .unset, .unset, .unset] [] := by first | (simp [entryFrame, mkF, argsToLocals, Value.category, maxLocals]; done) | rfl
set_option maxRecDepth 65536 in
set_option maxHeartbeats 40000000 in
theorem rm0_3 (l : Launch) (Z : State) (a0 : Array Value) (hw : ∀ d ∈ tables_1, d.before a0 Z = true) (ws : List Jvm.Cond) (p0 : Int32) (p1 : Int32) (p2 : Int32) (p3 : Int32) (p4 : Int32) (u1 : Value) (u2 : Value) (y0 : Int32) (y1 : Int32) (h0 : Heap) (n0 : Nat) (Z0 : n0 ≤ h0.size) (TS : ThS Z h0) (Su1 : Sta Z h0 "java/lang/Throwable" "UNASSIGNED_STACK" "[Ljava/lang/StackTraceElement;" u1) (Su2 : Sta Z h0 "java/lang/Throwable" "SUPPRESSED_SENTINEL" "Ljava/util/List;" u2) (hl : l.stackTraces = true) (P_u1 : u1.isRef = true) (P_u2 : u2.isRef = true) (hy0 : y0 = if (p4 &&& (1 : Int32)) = (0 : Int32) then p2 else p0) (hy1 : y1 = if (p4 &&& (2 : Int32)) = (0 : Int32) then p3 else p1) (l1 : ¬ (p0 < y0)) (l2 : ¬ (y0 < p0)) (ee : p0 = y0) (k1 : ¬ (p1 < y1)) (k2 : ¬ (y1 < p1)) (ab : ¬ ((own_key p0 p1) < (own_key y0 y1))) (ba : ¬ ((own_key y0 y1) < (own_key p0 p1))) :
    MetFree l x (head1 (Jvm.Cond.code x code maxLocals ret :: ws) room_1) (fun a U => a = #[(.int p0), (.int p1), (.int p2), (.int p3), (.int p4)] ∧ Z.Warmed39 U.vm ∧ U.heap = h0) (fun _ _ _ s _ => Jvm.Pilot.@@N@@.Jvm.D.framesKnown s = true ∧ Jvm.Pilot.@@N@@.Jvm.D.tablesKnown s = true) (fun _ U o U' => ∃ v L, o = .returned v ∧ Q0 Z  h0 n0 v U'.heap L ∧ ReturnedEndW U o U' L 24 13184) := by
  refine MetFree.of_bodySF (plainFor_of_name pn_3) hisR ?_
  intro p e s m args below meth c s₁ Bd hml0 hP hK
  obtain ⟨rfl, hZ, hh⟩ := hP
  have hx := Bd.exec
  have hby := Bd.bytes
  have hml : c.maxLocals = 15 := hml0
  have hown : s.vm.findClass "com/example/libprocgraph/libprocgraph/reader/InvalidModelExceptionPrecedesPinLaw" = some m.cls := findClass_of_methodNamed Bd.named
  have hnm := (name_of_methodNamed Bd.named Bd.method).1
  have X0 : Stand p l e room_1 s m #[(.int p0), (.int p1), (.int p2), (.int p3), (.int p4)] below meth c s₁ [] 0 0 := Stand.of_body Bd
  have e0 : s₁.heap = h0 := by rw [← hh, Bd.state]; rfl
  have N0 := Fr.nil n0
  obtain ⟨hTK0, hBelow0⟩ := X0.known hK.2 hK.1
  have hTK := hTK0
  have hBelow := hBelow0
  have X0 : Stand p l e room_1 (s.setVm s.vm) m #[(.int p0), (.int p1), (.int p2), (.int p3), (.int p4)] below meth c s₁ [] 0 0 := X0
  have own_sn : s.Since s.vm s.heap.size := (State.WarmedH.refl s).since _
  have own_ss : s.heap.size ≤ h0.size := by rw [hh]; exact Nat.le_refl _
  have own_strw' := own_strw hw
  refine own_go (own_lift (fun t k => castTop (ef_rm0_3 m p0 p1 p2 p3 p4) k) ?_)
  show own_Go p.tables e below (s₁.setTop (mkF m 0 #[iv p0, iv p1, iv p2, iv p3, iv p4, .unset, .unset, .unset, .unset, .unset, .unset, .unset, .unset, .unset, .unset] [])) _
  have join1 : ∀ (T1 : State) (locs1 : List Loc), Stand p l e room_1 s m #[(.int p0), (.int p1), (.int p2), (.int p3), (.int p4)] below meth c T1 locs1 0 0 → T1.heap = h0 → Fr n0 locs1 → own_Go p.tables e below (T1.setTop (mkF m 12 #[iv p0, iv p1, iv p2, iv p3, iv p4, .unset, .unset, .unset, .unset, .unset, .unset, .unset, .unset, .unset, .unset] [(.int y0)])) (fun s₂ o => s₂.status = .running ∧ Ended s₂ below o ∧ ∃ v L, o = .returned v ∧ Q0 Z  h0 n0 v s₂.heap L ∧ ReturnedEndW s o s₂ L 24 13184) := by
    intro T1 locs1 X1 e1 N1
    have sg2 : ∀ t, Steps p.tables e below (T1.setTop (mkF m 14 #[iv p0, iv p1, iv p2, iv p3, iv p4, iv y0, .unset, .unset, .unset, .unset, .unset, .unset, .unset, .unset, .unset] [])) t → Steps p.tables e below (T1.setTop (mkF m 12 #[iv p0, iv p1, iv p2, iv p3, iv p4, .unset, .unset, .unset, .unset, .unset, .unset, .unset, .unset, .unset, .unset] [(.int y0)])) t := by
      intro t k
      refine XS.istore X1.here hx rfl (hb hby at_12) rfl (l' := #[iv p0, iv p1, iv p2, iv p3, iv p4, iv y0, .unset, .unset, .unset, .unset, .unset, .unset, .unset, .unset, .unset]) rfl ?_
      show Steps p.tables e below (T1.setTop (mkF m 14 #[iv p0, iv p1, iv p2, iv p3, iv p4, iv y0, .unset, .unset, .unset, .unset, .unset, .unset, .unset, .unset, .unset] [])) _
      exact k
    refine own_lift sg2 ?_
    show own_Go p.tables e below (T1.setTop (mkF m 14 #[iv p0, iv p1, iv p2, iv p3, iv p4, iv y0, .unset, .unset, .unset, .unset, .unset, .unset, .unset, .unset, .unset] [])) _
    have join3 : ∀ (T3 : State) (locs3 : List Loc), Stand p l e room_1 s m #[(.int p0), (.int p1), (.int p2), (.int p3), (.int p4)] below meth c T3 locs3 0 0 → T3.heap = h0 → Fr n0 locs3 → own_Go p.tables e below (T3.setTop (mkF m 26 #[iv p0, iv p1, iv p2, iv p3, iv p4, iv y0, .unset, .unset, .unset, .unset, .unset, .unset, .unset, .unset, .unset] [(.int y1)])) (fun s₂ o => s₂.status = .running ∧ Ended s₂ below o ∧ ∃ v L, o = .returned v ∧ Q0 Z  h0 n0 v s₂.heap L ∧ ReturnedEndW s o s₂ L 24 13184) := by
      intro T3 locs3 X3 e3 N3
      have sg4 : ∀ t, Steps p.tables e below (T3.setTop (mkF m 28 #[iv p0, iv p1, iv p2, iv p3, iv p4, iv y0, iv y1, .unset, .unset, .unset, .unset, .unset, .unset, .unset, .unset] [])) t → Steps p.tables e below (T3.setTop (mkF m 26 #[iv p0, iv p1, iv p2, iv p3, iv p4, iv y0, .unset, .unset, .unset, .unset, .unset, .unset, .unset, .unset, .unset] [(.int y1)])) t := by
        intro t k
        refine XS.istore X3.here hx rfl (hb hby at_26) rfl (l' := #[iv p0, iv p1, iv p2, iv p3, iv p4, iv y0, iv y1, .unset, .unset, .unset, .unset, .unset, .unset, .unset, .unset]) rfl ?_
        show Steps p.tables e below (T3.setTop (mkF m 28 #[iv p0, iv p1, iv p2, iv p3, iv p4, iv y0, iv y1, .unset, .unset, .unset, .unset, .unset, .unset, .unset, .unset] [])) _
        exact k
      refine own_lift sg4 ?_
      show own_Go p.tables e below (T3.setTop (mkF m 28 #[iv p0, iv p1, iv p2, iv p3, iv p4, iv y0, iv y1, .unset, .unset, .unset, .unset, .unset, .unset, .unset, .unset] [])) _
      obtain ⟨T5, h5, X5, e5, Ex5, Ax5, Dx5, Ux5, st5⟩ := newO X3 hx hZ hown (wd hw 0 rfl) (wd hw 1 rfl) (wd hw 2 rfl) e3 (g := (mkF m 28 #[iv p0, iv p1, iv p2, iv p3, iv p4, iv y0, iv y1, .unset, .unset, .unset, .unset, .unset, .unset, .unset, .unset] [])) rfl (hb hby at_28) (by decide) (by decide)
      obtain ⟨ob5, g5⟩ : ∃ z, z = h0.size := ⟨_, rfl⟩
      rw [← g5] at Ax5 Dx5 Ux5 st5
      have Q5 : s.heap.size ≤ h5.size := Nat.le_trans own_ss Ex5.1
      have Z5 : n0 ≤ h5.size := Nat.le_trans Z0 Ex5.1
      have ge5 : n0 ≤ ob5 := Nat.le_trans Z0 (Nat.le_of_eq g5.symm)
      have Ux5 : Unt h5 ob5 := Ux5
      have Fn5_29 : Fld Z h5 ob5 "java/lang/Throwable" "cause" "Ljava/lang/Throwable;" .null := Dx5 (Or.inl (wd hw 29 rfl)) (ty := (.object "java/lang/Throwable")) (by decide)
      have Fn5_32 : Fld Z h5 ob5 "java/lang/Throwable" "stackTrace" "[Ljava/lang/StackTraceElement;" .null := Dx5 (Or.inl (wd hw 32 rfl)) (ty := (.array (.object "java/lang/StackTraceElement"))) (by decide)
      have Fn5_35 : Fld Z h5 ob5 "java/lang/Throwable" "suppressedExceptions" "Ljava/util/List;" .null := Dx5 (Or.inl (wd hw 35 rfl)) (ty := (.object "java/util/List")) (by decide)
      have Fn5_59 : Fld Z h5 ob5 "java/lang/Throwable" "detailMessage" "Ljava/lang/String;" .null := Dx5 (Or.inl (wd hw 59 rfl)) (ty := (.object "java/lang/String")) (by decide)
      have Fn5_60 : Fld Z h5 ob5 "java/lang/Throwable" "backtrace" "Ljava/lang/Object;" .null := Dx5 (Or.inl (wd hw 60 rfl)) (ty := (.object "java/lang/Object")) (by decide)
      have Fn5_61 : Fld Z h5 ob5 "java/lang/Throwable" "depth" "I" (.int 0) := Dx5 (Or.inl (wd hw 61 rfl)) (ty := .int) (by decide)
      have Fn5_65 : Fld Z h5 ob5 "com/example/libprocgraph/libprocgraph/reader/InvalidModelException" "line" "I" (.int 0) := Dx5 (Or.inr (wd hw 65 rfl)) (ty := .int) (by decide)
      have Fn5_67 : Fld Z h5 ob5 "com/example/libprocgraph/libprocgraph/reader/InvalidModelException" "column" "I" (.int 0) := Dx5 (Or.inr (wd hw 67 rfl)) (ty := .int) (by decide)
      refine own_lift st5 ?_
      show own_Go p.tables e below (T5.setTop (mkF m 31 #[iv p0, iv p1, iv p2, iv p3, iv p4, iv y0, iv y1, .unset, .unset, .unset, .unset, .unset, .unset, .unset, .unset] [(.ref ob5)])) _
      have sg6 : ∀ t, Steps p.tables e below (T5.setTop (mkF m 34 #[iv p0, iv p1, iv p2, iv p3, iv p4, iv y0, iv y1, .unset, .unset, .unset, .unset, .unset, .unset, .unset, .unset] [(.int p1), (.int p0), (.ref ob5), (.ref ob5)])) t → Steps p.tables e below (T5.setTop (mkF m 31 #[iv p0, iv p1, iv p2, iv p3, iv p4, iv y0, iv y1, .unset, .unset, .unset, .unset, .unset, .unset, .unset, .unset] [(.ref ob5)])) t := by
        intro t k
        refine XS.dup X5.here hx rfl (hb hby at_31) rfl rfl ?_
        show Steps p.tables e below (T5.setTop (mkF m 32 #[iv p0, iv p1, iv p2, iv p3, iv p4, iv y0, iv y1, .unset, .unset, .unset, .unset, .unset, .unset, .unset, .unset] [(.ref ob5), (.ref ob5)])) _
        refine XS.iloadN X5.here hx rfl (hb hby at_32) rfl ?_
        refine XS.iloadN X5.here hx rfl (hb hby at_33) rfl ?_
        show Steps p.tables e below (T5.setTop (mkF m 34 #[iv p0, iv p1, iv p2, iv p3, iv p4, iv y0, iv y1, .unset, .unset, .unset, .unset, .unset, .unset, .unset, .unset] [(.int p1), (.int p0), (.ref ob5), (.ref ob5)])) _
        exact k
      refine own_lift sg6 ?_
      show own_Go p.tables e below (T5.setTop (mkF m 34 #[iv p0, iv p1, iv p2, iv p3, iv p4, iv y0, iv y1, .unset, .unset, .unset, .unset, .unset, .unset, .unset, .unset] [(.int p1), (.int p0), (.ref ob5), (.ref ob5)])) _
      obtain ⟨sa7, T7, h7, kk7, X7, e7, Ex7, Sx7, Q7, hZ, hown, st7⟩ := ldcS (s := s) X5 hx hZ hown (wd hw 3 rfl) own_strw' e5 own_sn Q5 (g := (mkF m 34 #[iv p0, iv p1, iv p2, iv p3, iv p4, iv y0, iv y1, .unset, .unset, .unset, .unset, .unset, .unset, .unset, .unset] [(.int p1), (.int p0), (.ref ob5), (.ref ob5)])) rfl (hb hby at_34) (n := 4) (by decide) (by decide) (by decide) (by decide)
      have hTK := Vm.MethodsKnown.alikeC Sx7.1.alike hTK0
      have hBelow := Vm.FramesKnown.alikeC Sx7.1.alike hBelow0
      have Z7 : n0 ≤ h7.size := Nat.le_trans Z5 Ex7.1
      refine own_lift st7 ?_
      show own_Go p.tables e below (T7.setTop (mkF m 36 #[iv p0, iv p1, iv p2, iv p3, iv p4, iv y0, iv y1, .unset, .unset, .unset, .unset, .unset, .unset, .unset, .unset] [(.ref sa7), (.int p1), (.int p0), (.ref ob5), (.ref ob5)])) _
      have Fc8 : Exa Z h7 ob5 "com/example/libprocgraph/libprocgraph/reader/InvalidModelException" := (Ax5.ext Ex7)
      have Fc9 : Unt h7 ob5 := (Ux5.ext Ex7)
      have Fc10 : ThS Z h7 := ((TS.ext Ex5).ext Ex7)
      have Fc11 : Fld Z h7 ob5 "java/lang/Throwable" "cause" "Ljava/lang/Throwable;" .null := (Fn5_29.ext Ex7)
      have Fc12 : Fld Z h7 ob5 "java/lang/Throwable" "stackTrace" "[Ljava/lang/StackTraceElement;" .null := (Fn5_32.ext Ex7)
      have Fc13 : Fld Z h7 ob5 "java/lang/Throwable" "suppressedExceptions" "Ljava/util/List;" .null := (Fn5_35.ext Ex7)
      have Fc14 : Fld Z h7 ob5 "java/lang/Throwable" "backtrace" "Ljava/lang/Object;" .null := (Fn5_60.ext Ex7)
      have Fc15 : Fld Z h7 ob5 "java/lang/Throwable" "detailMessage" "Ljava/lang/String;" .null := (Fn5_59.ext Ex7)
      have Fc16 : Fld Z h7 ob5 "com/example/libprocgraph/libprocgraph/reader/InvalidModelException" "line" "I" (.int 0) := (Fn5_65.ext Ex7)
      have Fc17 : Fld Z h7 ob5 "com/example/libprocgraph/libprocgraph/reader/InvalidModelException" "column" "I" (.int 0) := (Fn5_67.ext Ex7)
      have Fc18 : Sta Z h7 "java/lang/Throwable" "UNASSIGNED_STACK" "[Ljava/lang/StackTraceElement;" u1 := ((Su1.ext Ex5).ext Ex7)
      have Fc19 : Sta Z h7 "java/lang/Throwable" "SUPPRESSED_SENTINEL" "Ljava/util/List;" u2 := ((Su2.ext Ex5).ext Ex7)
      obtain ⟨_, _, ⟨T20, Lx20, kx20, nx20⟩, -, X20, ⟨Lc20, hQ20, lx20, yx20, zx20⟩, st20⟩ := X7.specialBack hx (y := (⟨"com/example/libprocgraph/libprocgraph/reader/InvalidModelException", "<init>", "(IILjava/lang/String;)V"⟩ : MethodName)) rfl hown (mvT hZ (wd hw 11 rfl)) (mvT hZ (wd hw 12 rfl)) (mvT hZ (wd hw 13 rfl)) (by decide) (backOfKL (W := 1) (rmInit l Z a0 hw [] ob5 p0 p1 sa7 u1 u2 h7 n0 Z7 Fc8 Fc9 Fc10 Fc11 Fc12 Fc13 Fc14 Fc15 Fc16 Fc17 ge5 Fc18 Fc19 hl P_u1 P_u2) hZ (wd hw 13 rfl) (wd hw 2 rfl) (by decide) (by decide) hTK hBelow) (g := (mkF m 36 #[iv p0, iv p1, iv p2, iv p3, iv p4, iv y0, iv y1, .unset, .unset, .unset, .unset, .unset, .unset, .unset, .unset] [(.ref sa7), (.int p1), (.int p0), (.ref ob5), (.ref ob5)])) rfl (by rw [hml]; rfl) (Steps.refl _) (a := ob5) (argsL := [(.int p0), (.int p1), (.ref sa7)]) (rest := [(.ref ob5)]) (lenOf pd_1 rfl) rfl (by show 2 * 0 + _ ≤ _; exact Nat.le_of_eq rfl) (hb hby at_36) (fun _ _ => ⟨rfl, e7, (by decide : 3 + 1 ≤ _), (by decide : 16 + 2752 ≤ _)⟩)
      dsimp only [Pt.U, Pt.locs, Pt.cells, Pt.slots] at X20 lx20 yx20 zx20 st20 hQ20
      subst lx20 yx20 zx20
      obtain ⟨rfl, N20q, p20_0, p20_1, p20_2, p20_3⟩ := hQ20
      have N20 := Fr.app N3 N20q
      have Z20 : n0 ≤ T20.heap.size := Nat.le_trans Z7 p20_0.1
      have Q20 : kk7 ≤ T20.heap.size := Nat.le_trans Q7 p20_0.1
      refine own_lift (fun t k => st20.trans k) ?_
      show own_Go p.tables e below (T20.setTop (mkF m 39 #[iv p0, iv p1, iv p2, iv p3, iv p4, iv y0, iv y1, .unset, .unset, .unset, .unset, .unset, .unset, .unset, .unset] [(.ref ob5)])) _
      have sg21 : ∀ t, Steps p.tables e below (T20.setTop (mkF m 41 #[iv p0, iv p1, iv p2, iv p3, iv p4, iv y0, iv y1, rv ob5, .unset, .unset, .unset, .unset, .unset, .unset, .unset] [])) t → Steps p.tables e below (T20.setTop (mkF m 39 #[iv p0, iv p1, iv p2, iv p3, iv p4, iv y0, iv y1, .unset, .unset, .unset, .unset, .unset, .unset, .unset, .unset] [(.ref ob5)])) t := by
        intro t k
        refine XS.astore X20.here hx rfl (hb hby at_39) rfl rfl (l' := #[iv p0, iv p1, iv p2, iv p3, iv p4, iv y0, iv y1, rv ob5, .unset, .unset, .unset, .unset, .unset, .unset, .unset]) rfl ?_
        show Steps p.tables e below (T20.setTop (mkF m 41 #[iv p0, iv p1, iv p2, iv p3, iv p4, iv y0, iv y1, rv ob5, .unset, .unset, .unset, .unset, .unset, .unset, .unset] [])) _
        exact k
      refine own_lift sg21 ?_
      show own_Go p.tables e below (T20.setTop (mkF m 41 #[iv p0, iv p1, iv p2, iv p3, iv p4, iv y0, iv y1, rv ob5, .unset, .unset, .unset, .unset, .unset, .unset, .unset] [])) _
      obtain ⟨T22, h22, X22, e22, Ex22, Ax22, Dx22, Ux22, st22⟩ := newO X20 hx hZ hown (wd hw 0 rfl) (wd hw 1 rfl) (wd hw 2 rfl) rfl (g := (mkF m 41 #[iv p0, iv p1, iv p2, iv p3, iv p4, iv y0, iv y1, rv ob5, .unset, .unset, .unset, .unset, .unset, .unset, .unset] [])) rfl (hb hby at_41) (by decide) (by decide)
      obtain ⟨ob22, g22⟩ : ∃ z, z = T20.heap.size := ⟨_, rfl⟩
      rw [← g22] at Ax22 Dx22 Ux22 st22
      have ne23 : ob5 ≠ ob22 := Nat.ne_of_lt (Nat.lt_of_lt_of_le p20_1.lt (Nat.le_of_eq g22.symm))
      have Q22 : kk7 ≤ h22.size := Nat.le_trans Q20 Ex22.1
      have Z22 : n0 ≤ h22.size := Nat.le_trans Z20 Ex22.1
      have ge22 : n0 ≤ ob22 := Nat.le_trans Z20 (Nat.le_of_eq g22.symm)
      have Ux22 : Unt h22 ob22 := Ux22
      have Fn22_29 : Fld Z h22 ob22 "java/lang/Throwable" "cause" "Ljava/lang/Throwable;" .null := Dx22 (Or.inl (wd hw 29 rfl)) (ty := (.object "java/lang/Throwable")) (by decide)
      have Fn22_32 : Fld Z h22 ob22 "java/lang/Throwable" "stackTrace" "[Ljava/lang/StackTraceElement;" .null := Dx22 (Or.inl (wd hw 32 rfl)) (ty := (.array (.object "java/lang/StackTraceElement"))) (by decide)
      have Fn22_35 : Fld Z h22 ob22 "java/lang/Throwable" "suppressedExceptions" "Ljava/util/List;" .null := Dx22 (Or.inl (wd hw 35 rfl)) (ty := (.object "java/util/List")) (by decide)
      have Fn22_59 : Fld Z h22 ob22 "java/lang/Throwable" "detailMessage" "Ljava/lang/String;" .null := Dx22 (Or.inl (wd hw 59 rfl)) (ty := (.object "java/lang/String")) (by decide)
      have Fn22_60 : Fld Z h22 ob22 "java/lang/Throwable" "backtrace" "Ljava/lang/Object;" .null := Dx22 (Or.inl (wd hw 60 rfl)) (ty := (.object "java/lang/Object")) (by decide)
      have Fn22_61 : Fld Z h22 ob22 "java/lang/Throwable" "depth" "I" (.int 0) := Dx22 (Or.inl (wd hw 61 rfl)) (ty := .int) (by decide)
      have Fn22_65 : Fld Z h22 ob22 "com/example/libprocgraph/libprocgraph/reader/InvalidModelException" "line" "I" (.int 0) := Dx22 (Or.inr (wd hw 65 rfl)) (ty := .int) (by decide)
      have Fn22_67 : Fld Z h22 ob22 "com/example/libprocgraph/libprocgraph/reader/InvalidModelException" "column" "I" (.int 0) := Dx22 (Or.inr (wd hw 67 rfl)) (ty := .int) (by decide)
      refine own_lift st22 ?_
      show own_Go p.tables e below (T22.setTop (mkF m 44 #[iv p0, iv p1, iv p2, iv p3, iv p4, iv y0, iv y1, rv ob5, .unset, .unset, .unset, .unset, .unset, .unset, .unset] [(.ref ob22)])) _
      have sg24 : ∀ t, Steps p.tables e below (T22.setTop (mkF m 49 #[iv p0, iv p1, iv p2, iv p3, iv p4, iv y0, iv y1, rv ob5, .unset, .unset, .unset, .unset, .unset, .unset, .unset] [(.int y1), (.int y0), (.ref ob22), (.ref ob22)])) t → Steps p.tables e below (T22.setTop (mkF m 44 #[iv p0, iv p1, iv p2, iv p3, iv p4, iv y0, iv y1, rv ob5, .unset, .unset, .unset, .unset, .unset, .unset, .unset] [(.ref ob22)])) t := by
        intro t k
        refine XS.dup X22.here hx rfl (hb hby at_44) rfl rfl ?_
        show Steps p.tables e below (T22.setTop (mkF m 45 #[iv p0, iv p1, iv p2, iv p3, iv p4, iv y0, iv y1, rv ob5, .unset, .unset, .unset, .unset, .unset, .unset, .unset] [(.ref ob22), (.ref ob22)])) _
        refine XS.iload X22.here hx rfl (hb hby at_45) rfl ?_
        refine XS.iload X22.here hx rfl (hb hby at_47) rfl ?_
        show Steps p.tables e below (T22.setTop (mkF m 49 #[iv p0, iv p1, iv p2, iv p3, iv p4, iv y0, iv y1, rv ob5, .unset, .unset, .unset, .unset, .unset, .unset, .unset] [(.int y1), (.int y0), (.ref ob22), (.ref ob22)])) _
        exact k
      refine own_lift sg24 ?_
      show own_Go p.tables e below (T22.setTop (mkF m 49 #[iv p0, iv p1, iv p2, iv p3, iv p4, iv y0, iv y1, rv ob5, .unset, .unset, .unset, .unset, .unset, .unset, .unset] [(.int y1), (.int y0), (.ref ob22), (.ref ob22)])) _
      obtain ⟨sa25, T25, h25, kk25, X25, e25, Ex25, Sx25, Q25, hZ, hown, st25⟩ := ldcS (s := s) X22 hx hZ hown (wd hw 68 rfl) own_strw' e22 Sx7 Q22 (g := (mkF m 49 #[iv p0, iv p1, iv p2, iv p3, iv p4, iv y0, iv y1, rv ob5, .unset, .unset, .unset, .unset, .unset, .unset, .unset] [(.int y1), (.int y0), (.ref ob22), (.ref ob22)])) rfl (hb hby at_49) (n := 4) (by decide) (by decide) (by decide) (by decide)
      have hTK := Vm.MethodsKnown.alikeC Sx25.1.alike hTK0
      have hBelow := Vm.FramesKnown.alikeC Sx25.1.alike hBelow0
      have Z25 : n0 ≤ h25.size := Nat.le_trans Z22 Ex25.1
      refine own_lift st25 ?_
      show own_Go p.tables e below (T25.setTop (mkF m 51 #[iv p0, iv p1, iv p2, iv p3, iv p4, iv y0, iv y1, rv ob5, .unset, .unset, .unset, .unset, .unset, .unset, .unset] [(.ref sa25), (.int y1), (.int y0), (.ref ob22), (.ref ob22)])) _
      have Fc26 : Exa Z h25 ob22 "com/example/libprocgraph/libprocgraph/reader/InvalidModelException" := (Ax22.ext Ex25)
      have Fc27 : Unt h25 ob22 := (Ux22.ext Ex25)
      have Fc28 : ThS Z h25 := (((ThS.keep p20_0 (own_nost (allS (own_plain Fc8) all0)) Fc10).ext Ex22).ext Ex25)
      have Fc29 : Fld Z h25 ob22 "java/lang/Throwable" "cause" "Ljava/lang/Throwable;" .null := (Fn22_29.ext Ex25)
      have Fc30 : Fld Z h25 ob22 "java/lang/Throwable" "stackTrace" "[Ljava/lang/StackTraceElement;" .null := (Fn22_32.ext Ex25)
      have Fc31 : Fld Z h25 ob22 "java/lang/Throwable" "suppressedExceptions" "Ljava/util/List;" .null := (Fn22_35.ext Ex25)
      have Fc32 : Fld Z h25 ob22 "java/lang/Throwable" "backtrace" "Ljava/lang/Object;" .null := (Fn22_60.ext Ex25)
      have Fc33 : Fld Z h25 ob22 "java/lang/Throwable" "detailMessage" "Ljava/lang/String;" .null := (Fn22_59.ext Ex25)
      have Fc34 : Fld Z h25 ob22 "com/example/libprocgraph/libprocgraph/reader/InvalidModelException" "line" "I" (.int 0) := (Fn22_65.ext Ex25)
      have Fc35 : Fld Z h25 ob22 "com/example/libprocgraph/libprocgraph/reader/InvalidModelException" "column" "I" (.int 0) := (Fn22_67.ext Ex25)
      have Fc36 : Sta Z h25 "java/lang/Throwable" "UNASSIGNED_STACK" "[Ljava/lang/StackTraceElement;" u1 := (((own_Sta_keep Fc18 p20_0 (allS (own_plain Fc8) all0)).ext Ex22).ext Ex25)
      have Fc37 : Sta Z h25 "java/lang/Throwable" "SUPPRESSED_SENTINEL" "Ljava/util/List;" u2 := (((own_Sta_keep Fc19 p20_0 (allS (own_plain Fc8) all0)).ext Ex22).ext Ex25)
      obtain ⟨_, _, ⟨T38, Lx38, kx38, nx38⟩, -, X38, ⟨Lc38, hQ38, lx38, yx38, zx38⟩, st38⟩ := X25.specialBack hx (y := (⟨"com/example/libprocgraph/libprocgraph/reader/InvalidModelException", "<init>", "(IILjava/lang/String;)V"⟩ : MethodName)) rfl hown (mvT hZ (wd hw 11 rfl)) (mvT hZ (wd hw 12 rfl)) (mvT hZ (wd hw 13 rfl)) (by decide) (backOfKL (W := 1) (rmInit l Z a0 hw [] ob22 y0 y1 sa25 u1 u2 h25 n0 Z25 Fc26 Fc27 Fc28 Fc29 Fc30 Fc31 Fc32 Fc33 Fc34 Fc35 ge22 Fc36 Fc37 hl P_u1 P_u2) hZ (wd hw 13 rfl) (wd hw 2 rfl) (by decide) (by decide) hTK hBelow) (g := (mkF m 51 #[iv p0, iv p1, iv p2, iv p3, iv p4, iv y0, iv y1, rv ob5, .unset, .unset, .unset, .unset, .unset, .unset, .unset] [(.ref sa25), (.int y1), (.int y0), (.ref ob22), (.ref ob22)])) rfl (by rw [hml]; rfl) (Steps.refl _) (a := ob22) (argsL := [(.int y0), (.int y1), (.ref sa25)]) (rest := [(.ref ob22)]) (lenOf pd_1 rfl) rfl (by show 2 * 0 + _ ≤ _; exact Nat.le_of_eq rfl) (hb hby at_51) (fun _ _ => ⟨rfl, e25, (by decide : 7 + 1 ≤ _), (by decide : 2784 + 2752 ≤ _)⟩)
      dsimp only [Pt.U, Pt.locs, Pt.cells, Pt.slots] at X38 lx38 yx38 zx38 st38 hQ38
      subst lx38 yx38 zx38
      obtain ⟨rfl, N38q, p38_0, p38_1, p38_2, p38_3⟩ := hQ38
      have N38 := Fr.app N20 N38q
      have Z38 : n0 ≤ T38.heap.size := Nat.le_trans Z25 p38_0.1
      have Q38 : kk25 ≤ T38.heap.size := Nat.le_trans Q25 p38_0.1
      refine own_lift (fun t k => st38.trans k) ?_
      show own_Go p.tables e below (T38.setTop (mkF m 54 #[iv p0, iv p1, iv p2, iv p3, iv p4, iv y0, iv y1, rv ob5, .unset, .unset, .unset, .unset, .unset, .unset, .unset] [(.ref ob22)])) _
      have sg39 : ∀ t, Steps p.tables e below (T38.setTop (mkF m 58 #[iv p0, iv p1, iv p2, iv p3, iv p4, iv y0, iv y1, rv ob5, rv ob22, .unset, .unset, .unset, .unset, .unset, .unset] [(.int p1), (.int p0)])) t → Steps p.tables e below (T38.setTop (mkF m 54 #[iv p0, iv p1, iv p2, iv p3, iv p4, iv y0, iv y1, rv ob5, .unset, .unset, .unset, .unset, .unset, .unset, .unset] [(.ref ob22)])) t := by
        intro t k
        refine XS.astore X38.here hx rfl (hb hby at_54) rfl rfl (l' := #[iv p0, iv p1, iv p2, iv p3, iv p4, iv y0, iv y1, rv ob5, rv ob22, .unset, .unset, .unset, .unset, .unset, .unset]) rfl ?_
        show Steps p.tables e below (T38.setTop (mkF m 56 #[iv p0, iv p1, iv p2, iv p3, iv p4, iv y0, iv y1, rv ob5, rv ob22, .unset, .unset, .unset, .unset, .unset, .unset] [])) _
        refine XS.iloadN X38.here hx rfl (hb hby at_56) rfl ?_
        refine XS.iloadN X38.here hx rfl (hb hby at_57) rfl ?_
        show Steps p.tables e below (T38.setTop (mkF m 58 #[iv p0, iv p1, iv p2, iv p3, iv p4, iv y0, iv y1, rv ob5, rv ob22, .unset, .unset, .unset, .unset, .unset, .unset] [(.int p1), (.int p0)])) _
        exact k
      refine own_lift sg39 ?_
      show own_Go p.tables e below (T38.setTop (mkF m 58 #[iv p0, iv p1, iv p2, iv p3, iv p4, iv y0, iv y1, rv ob5, rv ob22, .unset, .unset, .unset, .unset, .unset, .unset] [(.int p1), (.int p0)])) _
      obtain ⟨_, _, ⟨T40, Lx40, kx40, nx40⟩, -, X40, ⟨Lc40, hQ40, lx40, yx40, zx40⟩, st40⟩ := Jvm.LawKit.callS X38 hx (y := (⟨"com/example/libprocgraph/libprocgraph/reader/InvalidModelExceptionPrecedesPinLaw", "key", "(II)J"⟩ : MethodName)) hown (mvT hZ (wd hw 69 rfl)) (mvT hZ (wd hw 70 rfl)) (mvT hZ (wd hw 71 rfl)) (mvT hZ (wd hw 72 rfl)) (by decide) (backOf (W := 0) (rmKey l Z a0 hw [] p0 p1 T38.heap n0 Z38 ) hZ (wd hw 72 rfl) (wd hw 71 rfl) (by decide) (by decide)) (g := (mkF m 58 #[iv p0, iv p1, iv p2, iv p3, iv p4, iv y0, iv y1, rv ob5, rv ob22, .unset, .unset, .unset, .unset, .unset, .unset] [(.int p1), (.int p0)])) rfl (by rw [hml]; rfl) (argsL := [(.int p0), (.int p1)]) (rest := []) (lenOf pd_2 rfl) rfl (by show 2 * 0 + _ ≤ _; exact Nat.le_of_eq rfl) (hb hby at_58) (fun _ _ => ⟨rfl, rfl, (by decide : 8 + 0 ≤ _), (by decide : 5536 + 0 ≤ _)⟩)
      dsimp only [Pt.U, Pt.locs, Pt.cells, Pt.slots] at X40 lx40 yx40 zx40 st40 hQ40
      subst lx40 yx40 zx40
      obtain ⟨rfl, N40q, e40⟩ := hQ40
      have N40 := Fr.app N38 N40q
      refine own_lift st40 ?_
      show own_Go p.tables e below (T40.setTop (mkF m 61 #[iv p0, iv p1, iv p2, iv p3, iv p4, iv y0, iv y1, rv ob5, rv ob22, .unset, .unset, .unset, .unset, .unset, .unset] [(.long (own_key p0 p1))])) _
      have sg41 : ∀ t, Steps p.tables e below (T40.setTop (mkF m 67 #[iv p0, iv p1, iv p2, iv p3, iv p4, iv y0, iv y1, rv ob5, rv ob22, jv (own_key p0 p1), .second, .unset, .unset, .unset, .unset] [(.int y1), (.int y0)])) t → Steps p.tables e below (T40.setTop (mkF m 61 #[iv p0, iv p1, iv p2, iv p3, iv p4, iv y0, iv y1, rv ob5, rv ob22, .unset, .unset, .unset, .unset, .unset, .unset] [(.long (own_key p0 p1))])) t := by
        intro t k
        refine XS.lstore X40.here hx rfl (hb hby at_61) rfl (l' := #[iv p0, iv p1, iv p2, iv p3, iv p4, iv y0, iv y1, rv ob5, rv ob22, jv (own_key p0 p1), .second, .unset, .unset, .unset, .unset]) rfl ?_
        show Steps p.tables e below (T40.setTop (mkF m 63 #[iv p0, iv p1, iv p2, iv p3, iv p4, iv y0, iv y1, rv ob5, rv ob22, jv (own_key p0 p1), .second, .unset, .unset, .unset, .unset] [])) _
        refine XS.iload X40.here hx rfl (hb hby at_63) rfl ?_
        refine XS.iload X40.here hx rfl (hb hby at_65) rfl ?_
        show Steps p.tables e below (T40.setTop (mkF m 67 #[iv p0, iv p1, iv p2, iv p3, iv p4, iv y0, iv y1, rv ob5, rv ob22, jv (own_key p0 p1), .second, .unset, .unset, .unset, .unset] [(.int y1), (.int y0)])) _
        exact k
      refine own_lift sg41 ?_
      show own_Go p.tables e below (T40.setTop (mkF m 67 #[iv p0, iv p1, iv p2, iv p3, iv p4, iv y0, iv y1, rv ob5, rv ob22, jv (own_key p0 p1), .second, .unset, .unset, .unset, .unset] [(.int y1), (.int y0)])) _
      obtain ⟨_, _, ⟨T42, Lx42, kx42, nx42⟩, -, X42, ⟨Lc42, hQ42, lx42, yx42, zx42⟩, st42⟩ := Jvm.LawKit.callS X40 hx (y := (⟨"com/example/libprocgraph/libprocgraph/reader/InvalidModelExceptionPrecedesPinLaw", "key", "(II)J"⟩ : MethodName)) hown (mvT hZ (wd hw 69 rfl)) (mvT hZ (wd hw 70 rfl)) (mvT hZ (wd hw 71 rfl)) (mvT hZ (wd hw 72 rfl)) (by decide) (backOf (W := 0) (rmKey l Z a0 hw [] y0 y1 T38.heap n0 Z38 ) hZ (wd hw 72 rfl) (wd hw 71 rfl) (by decide) (by decide)) (g := (mkF m 67 #[iv p0, iv p1, iv p2, iv p3, iv p4, iv y0, iv y1, rv ob5, rv ob22, jv (own_key p0 p1), .second, .unset, .unset, .unset, .unset] [(.int y1), (.int y0)])) rfl (by rw [hml]; rfl) (argsL := [(.int y0), (.int y1)]) (rest := []) (lenOf pd_2 rfl) rfl (by show 2 * 0 + _ ≤ _; exact Nat.le_of_eq rfl) (hb hby at_67) (fun _ _ => ⟨rfl, e40, (by decide : 8 + 0 ≤ _), (by decide : 5536 + 0 ≤ _)⟩)
      dsimp only [Pt.U, Pt.locs, Pt.cells, Pt.slots] at X42 lx42 yx42 zx42 st42 hQ42
      subst lx42 yx42 zx42
      obtain ⟨rfl, N42q, e42⟩ := hQ42
      have N42 := Fr.app N40 N42q
      refine own_lift st42 ?_
      show own_Go p.tables e below (T42.setTop (mkF m 70 #[iv p0, iv p1, iv p2, iv p3, iv p4, iv y0, iv y1, rv ob5, rv ob22, jv (own_key p0 p1), .second, .unset, .unset, .unset, .unset] [(.long (own_key y0 y1))])) _
      have sg43 : ∀ t, Steps p.tables e below (T42.setTop (mkF m 106 #[iv p0, iv p1, iv p2, iv p3, iv p4, iv y0, iv y1, rv ob5, rv ob22, jv (own_key p0 p1), .second, jv (own_key y0 y1), .second, iv 0, iv 0] [(.ref ob22), (.ref ob5)])) t → Steps p.tables e below (T42.setTop (mkF m 70 #[iv p0, iv p1, iv p2, iv p3, iv p4, iv y0, iv y1, rv ob5, rv ob22, jv (own_key p0 p1), .second, .unset, .unset, .unset, .unset] [(.long (own_key y0 y1))])) t := by
        intro t k
        refine XS.lstore X42.here hx rfl (hb hby at_70) rfl (l' := #[iv p0, iv p1, iv p2, iv p3, iv p4, iv y0, iv y1, rv ob5, rv ob22, jv (own_key p0 p1), .second, jv (own_key y0 y1), .second, .unset, .unset]) rfl ?_
        show Steps p.tables e below (T42.setTop (mkF m 72 #[iv p0, iv p1, iv p2, iv p3, iv p4, iv y0, iv y1, rv ob5, rv ob22, jv (own_key p0 p1), .second, jv (own_key y0 y1), .second, .unset, .unset] [])) _
        refine XS.lload X42.here hx rfl (hb hby at_72) rfl ?_
        refine XS.lload X42.here hx rfl (hb hby at_74) rfl ?_
        show Steps p.tables e below (T42.setTop (mkF m 76 #[iv p0, iv p1, iv p2, iv p3, iv p4, iv y0, iv y1, rv ob5, rv ob22, jv (own_key p0 p1), .second, jv (own_key y0 y1), .second, .unset, .unset] [(.long (own_key y0 y1)), (.long (own_key p0 p1))])) _
        refine XS.lcmp X42.here hx rfl (hb hby at_76) rfl ?_
        refine XS.ifYes X42.here hx rfl (pc0 := 77) (pc' := 84) rfl (hb hby at_77) rfl ((if0 _ _).trans (flt (fun q => ab ((lw_lt (own_key p0 p1) (own_key y0 y1)).1 q))).2.1) (by decide) (by decide) ?_
        show Steps p.tables e below (T42.setTop (mkF m 84 #[iv p0, iv p1, iv p2, iv p3, iv p4, iv y0, iv y1, rv ob5, rv ob22, jv (own_key p0 p1), .second, jv (own_key y0 y1), .second, .unset, .unset] [])) _
        refine XS.iconst X42.here hx rfl (hb hby at_84) ?_
        refine XS.istore X42.here hx rfl (hb hby at_85) rfl (l' := #[iv p0, iv p1, iv p2, iv p3, iv p4, iv y0, iv y1, rv ob5, rv ob22, jv (own_key p0 p1), .second, jv (own_key y0 y1), .second, iv 0, .unset]) rfl ?_
        show Steps p.tables e below (T42.setTop (mkF m 87 #[iv p0, iv p1, iv p2, iv p3, iv p4, iv y0, iv y1, rv ob5, rv ob22, jv (own_key p0 p1), .second, jv (own_key y0 y1), .second, iv 0, .unset] [])) _
        refine XS.lload X42.here hx rfl (hb hby at_87) rfl ?_
        refine XS.lload X42.here hx rfl (hb hby at_89) rfl ?_
        show Steps p.tables e below (T42.setTop (mkF m 91 #[iv p0, iv p1, iv p2, iv p3, iv p4, iv y0, iv y1, rv ob5, rv ob22, jv (own_key p0 p1), .second, jv (own_key y0 y1), .second, iv 0, .unset] [(.long (own_key p0 p1)), (.long (own_key y0 y1))])) _
        refine XS.lcmp X42.here hx rfl (hb hby at_91) rfl ?_
        refine XS.ifYes X42.here hx rfl (pc0 := 92) (pc' := 99) rfl (hb hby at_92) rfl ((if0 _ _).trans (flt (fun q => ba ((lw_lt (own_key y0 y1) (own_key p0 p1)).1 q))).2.1) (by decide) (by decide) ?_
        show Steps p.tables e below (T42.setTop (mkF m 99 #[iv p0, iv p1, iv p2, iv p3, iv p4, iv y0, iv y1, rv ob5, rv ob22, jv (own_key p0 p1), .second, jv (own_key y0 y1), .second, iv 0, .unset] [])) _
        refine XS.iconst X42.here hx rfl (hb hby at_99) ?_
        refine XS.istore X42.here hx rfl (hb hby at_100) rfl (l' := #[iv p0, iv p1, iv p2, iv p3, iv p4, iv y0, iv y1, rv ob5, rv ob22, jv (own_key p0 p1), .second, jv (own_key y0 y1), .second, iv 0, iv 0]) rfl ?_
        show Steps p.tables e below (T42.setTop (mkF m 102 #[iv p0, iv p1, iv p2, iv p3, iv p4, iv y0, iv y1, rv ob5, rv ob22, jv (own_key p0 p1), .second, jv (own_key y0 y1), .second, iv 0, iv 0] [])) _
        refine XS.aload X42.here hx rfl (hb hby at_102) rfl rfl ?_
        refine XS.aload X42.here hx rfl (hb hby at_104) rfl rfl ?_
        show Steps p.tables e below (T42.setTop (mkF m 106 #[iv p0, iv p1, iv p2, iv p3, iv p4, iv y0, iv y1, rv ob5, rv ob22, jv (own_key p0 p1), .second, jv (own_key y0 y1), .second, iv 0, iv 0] [(.ref ob22), (.ref ob5)])) _
        exact k
      refine own_lift sg43 ?_
      show own_Go p.tables e below (T42.setTop (mkF m 106 #[iv p0, iv p1, iv p2, iv p3, iv p4, iv y0, iv y1, rv ob5, rv ob22, jv (own_key p0 p1), .second, jv (own_key y0 y1), .second, iv 0, iv 0] [(.ref ob22), (.ref ob5)])) _
      have Fc44 : Fld Z T38.heap ob5 "com/example/libprocgraph/libprocgraph/reader/InvalidModelException" "line" "I" (.int p0) := (((p20_2.ext Ex22).ext Ex25).keep p38_0 (ninS ne23 nin0))
      have Fc45 : Fld Z T38.heap ob5 "com/example/libprocgraph/libprocgraph/reader/InvalidModelException" "column" "I" (.int p1) := (((p20_3.ext Ex22).ext Ex25).keep p38_0 (ninS ne23 nin0))
      have Fc47 : Exa Z T38.heap ob5 "com/example/libprocgraph/libprocgraph/reader/InvalidModelException" := (((p20_1.ext Ex22).ext Ex25).keep p38_0)
      obtain ⟨cq46, kq46, q46a, q46b, q46c⟩ := isOf hZ e42 Fc47
      obtain ⟨_, _, ⟨T46, Lx46, kx46, nx46⟩, -, X46, ⟨Lc46, hQ46, lx46, yx46, zx46⟩, st46⟩ := X42.virtualBack hx (y := (⟨"com/example/libprocgraph/libprocgraph/reader/InvalidModelException", "precedes", "(Lcom/example/libprocgraph/libprocgraph/reader/InvalidModelException;)Z"⟩ : MethodName)) (z := (⟨"com/example/libprocgraph/libprocgraph/reader/InvalidModelException", "precedes", "(Lcom/example/libprocgraph/libprocgraph/reader/InvalidModelException;)Z"⟩ : MethodName)) hown (mvT hZ (wd hw 74 rfl)) (mvT hZ (wd hw 75 rfl)) (notFace_of_selects (args := #[]) (mvT hZ (wd hw 77 rfl))) (mvT hZ (wd hw 77 rfl)) (mvT hZ (wd hw 76 rfl)) (by decide) (backOf (W := 0) (rmPr4 l Z a0 hw [] ob5 ob22 p0 p1 y0 y1 T38.heap n0 Z38 Fc44 Fc45 p38_2 p38_3 l1 ee k1) hZ (wd hw 78 rfl) (wd hw 2 rfl) (by decide) (by decide)) q46a q46c (g := (mkF m 106 #[iv p0, iv p1, iv p2, iv p3, iv p4, iv y0, iv y1, rv ob5, rv ob22, jv (own_key p0 p1), .second, jv (own_key y0 y1), .second, iv 0, iv 0] [(.ref ob22), (.ref ob5)])) rfl (by rw [hml]; rfl) (Steps.refl _) (argsL := [(.ref ob22)]) (rest := []) (lenOf pd_3 rfl) rfl (by show 2 * 0 + _ ≤ _; exact Nat.le_of_eq rfl) (hb hby at_106) (fun _ _ => ⟨rfl, e42, (by decide : 8 + 0 ≤ _), (by decide : 5536 + 0 ≤ _)⟩)
      dsimp only [Pt.U, Pt.locs, Pt.cells, Pt.slots] at X46 lx46 yx46 zx46 st46 hQ46
      subst lx46 yx46 zx46
      obtain ⟨rfl, N46q, e46⟩ := hQ46
      have N46 := Fr.app N42 N46q
      refine own_lift (fun t k => st46.trans k) ?_
      show own_Go p.tables e below (T46.setTop (mkF m 109 #[iv p0, iv p1, iv p2, iv p3, iv p4, iv y0, iv y1, rv ob5, rv ob22, jv (own_key p0 p1), .second, jv (own_key y0 y1), .second, iv 0, iv 0] [(.int 0)])) _
      have sg48 : ∀ t, Steps p.tables e below (T46.setTop (mkF m 118 #[iv p0, iv p1, iv p2, iv p3, iv p4, iv y0, iv y1, rv ob5, rv ob22, jv (own_key p0 p1), .second, jv (own_key y0 y1), .second, iv 0, iv 0] [(.ref ob5), (.ref ob22)])) t → Steps p.tables e below (T46.setTop (mkF m 109 #[iv p0, iv p1, iv p2, iv p3, iv p4, iv y0, iv y1, rv ob5, rv ob22, jv (own_key p0 p1), .second, jv (own_key y0 y1), .second, iv 0, iv 0] [(.int 0)])) t := by
        intro t k
        refine XS.iload X46.here hx rfl (hb hby at_109) rfl ?_
        show Steps p.tables e below (T46.setTop (mkF m 111 #[iv p0, iv p1, iv p2, iv p3, iv p4, iv y0, iv y1, rv ob5, rv ob22, jv (own_key p0 p1), .second, jv (own_key y0 y1), .second, iv 0, iv 0] [(.int 0), (.int 0)])) _
        refine XS.icmpNo X46.here hx rfl (hb hby at_111) rfl (teq (by decide : (0 : Int32) = (0 : Int32))).2 ?_
        refine XS.aload X46.here hx rfl (hb hby at_114) rfl rfl ?_
        show Steps p.tables e below (T46.setTop (mkF m 116 #[iv p0, iv p1, iv p2, iv p3, iv p4, iv y0, iv y1, rv ob5, rv ob22, jv (own_key p0 p1), .second, jv (own_key y0 y1), .second, iv 0, iv 0] [(.ref ob22)])) _
        refine XS.aload X46.here hx rfl (hb hby at_116) rfl rfl ?_
        show Steps p.tables e below (T46.setTop (mkF m 118 #[iv p0, iv p1, iv p2, iv p3, iv p4, iv y0, iv y1, rv ob5, rv ob22, jv (own_key p0 p1), .second, jv (own_key y0 y1), .second, iv 0, iv 0] [(.ref ob5), (.ref ob22)])) _
        exact k
      refine own_lift sg48 ?_
      show own_Go p.tables e below (T46.setTop (mkF m 118 #[iv p0, iv p1, iv p2, iv p3, iv p4, iv y0, iv y1, rv ob5, rv ob22, jv (own_key p0 p1), .second, jv (own_key y0 y1), .second, iv 0, iv 0] [(.ref ob5), (.ref ob22)])) _
      obtain ⟨cq49, kq49, q49a, q49b, q49c⟩ := isOf hZ e46 p38_1
      obtain ⟨_, _, ⟨T49, Lx49, kx49, nx49⟩, -, X49, ⟨Lc49, hQ49, lx49, yx49, zx49⟩, st49⟩ := X46.virtualBack hx (y := (⟨"com/example/libprocgraph/libprocgraph/reader/InvalidModelException", "precedes", "(Lcom/example/libprocgraph/libprocgraph/reader/InvalidModelException;)Z"⟩ : MethodName)) (z := (⟨"com/example/libprocgraph/libprocgraph/reader/InvalidModelException", "precedes", "(Lcom/example/libprocgraph/libprocgraph/reader/InvalidModelException;)Z"⟩ : MethodName)) hown (mvT hZ (wd hw 74 rfl)) (mvT hZ (wd hw 75 rfl)) (notFace_of_selects (args := #[]) (mvT hZ (wd hw 77 rfl))) (mvT hZ (wd hw 77 rfl)) (mvT hZ (wd hw 76 rfl)) (by decide) (backOf (W := 0) (rmPr4 l Z a0 hw [] ob22 ob5 y0 y1 p0 p1 T38.heap n0 Z38 p38_2 p38_3 Fc44 Fc45 l2 (Eq.symm ee) k2) hZ (wd hw 78 rfl) (wd hw 2 rfl) (by decide) (by decide)) q49a q49c (g := (mkF m 118 #[iv p0, iv p1, iv p2, iv p3, iv p4, iv y0, iv y1, rv ob5, rv ob22, jv (own_key p0 p1), .second, jv (own_key y0 y1), .second, iv 0, iv 0] [(.ref ob5), (.ref ob22)])) rfl (by rw [hml]; rfl) (Steps.refl _) (argsL := [(.ref ob5)]) (rest := []) (lenOf pd_3 rfl) rfl (by show 2 * 0 + _ ≤ _; exact Nat.le_of_eq rfl) (hb hby at_118) (fun _ _ => ⟨rfl, e46, (by decide : 8 + 0 ≤ _), (by decide : 5536 + 0 ≤ _)⟩)
      dsimp only [Pt.U, Pt.locs, Pt.cells, Pt.slots] at X49 lx49 yx49 zx49 st49 hQ49
      subst lx49 yx49 zx49
      obtain ⟨rfl, N49q, e49⟩ := hQ49
      have N49 := Fr.app N46 N49q
      refine own_lift (fun t k => st49.trans k) ?_
      show own_Go p.tables e below (T49.setTop (mkF m 121 #[iv p0, iv p1, iv p2, iv p3, iv p4, iv y0, iv y1, rv ob5, rv ob22, jv (own_key p0 p1), .second, jv (own_key y0 y1), .second, iv 0, iv 0] [(.int 0)])) _
      have sg50 : ∀ t, Steps p.tables e below (T49.setTop (mkF m 131 #[iv p0, iv p1, iv p2, iv p3, iv p4, iv y0, iv y1, rv ob5, rv ob22, jv (own_key p0 p1), .second, jv (own_key y0 y1), .second, iv 0, iv 0] [(.int 1)])) t → Steps p.tables e below (T49.setTop (mkF m 121 #[iv p0, iv p1, iv p2, iv p3, iv p4, iv y0, iv y1, rv ob5, rv ob22, jv (own_key p0 p1), .second, jv (own_key y0 y1), .second, iv 0, iv 0] [(.int 0)])) t := by
        intro t k
        refine XS.iload X49.here hx rfl (hb hby at_121) rfl ?_
        show Steps p.tables e below (T49.setTop (mkF m 123 #[iv p0, iv p1, iv p2, iv p3, iv p4, iv y0, iv y1, rv ob5, rv ob22, jv (own_key p0 p1), .second, jv (own_key y0 y1), .second, iv 0, iv 0] [(.int 0), (.int 0)])) _
        refine XS.icmpNo X49.here hx rfl (hb hby at_123) rfl (teq (by decide : (0 : Int32) = (0 : Int32))).2 ?_
        refine XS.iconst X49.here hx rfl (hb hby at_126) ?_
        show Steps p.tables e below (T49.setTop (mkF m 127 #[iv p0, iv p1, iv p2, iv p3, iv p4, iv y0, iv y1, rv ob5, rv ob22, jv (own_key p0 p1), .second, jv (own_key y0 y1), .second, iv 0, iv 0] [(.int 1)])) _
        refine XS.goto X49.here hx rfl (pc0 := 127) (pc' := 131) rfl (hb hby at_127) (by decide) (by decide) ?_
        show Steps p.tables e below (T49.setTop (mkF m 131 #[iv p0, iv p1, iv p2, iv p3, iv p4, iv y0, iv y1, rv ob5, rv ob22, jv (own_key p0 p1), .second, jv (own_key y0 y1), .second, iv 0, iv 0] [(.int 1)])) _
        exact k
      refine own_lift sg50 ?_
      show own_Go p.tables e below (T49.setTop (mkF m 131 #[iv p0, iv p1, iv p2, iv p3, iv p4, iv y0, iv y1, rv ob5, rv ob22, jv (own_key p0 p1), .second, jv (own_key y0 y1), .second, iv 0, iv 0] [(.int 1)])) _
      obtain ⟨fs, hr, hrun, hended, hRW⟩ := X49.leaveW (s := s) Sx25 (by rw [e49]; exact Q38) (v := some (.int 1)) (fun h => by rw [Bd.returns] at h; cases h) Bd.notSynchronized
      refine ⟨_, _, ?_, hrun, hended, _, _, rfl, ?_, own_monoW hRW (by decide) (by decide)⟩
      · exact retN X49 hx (t := .boolean) Bd.returns (by simp) (hb hby at_131) hr
      · show Q0 Z  h0 n0 _ T49.heap _
        rw [e49]
        exact ⟨rfl, N49⟩
    by_cases b2 : (p4 &&& (2 : Int32)) = (0 : Int32)
    · have sg51 : ∀ t, Steps p.tables e below (T1.setTop (mkF m 26 #[iv p0, iv p1, iv p2, iv p3, iv p4, iv y0, .unset, .unset, .unset, .unset, .unset, .unset, .unset, .unset, .unset] [(.int p3)])) t → Steps p.tables e below (T1.setTop (mkF m 14 #[iv p0, iv p1, iv p2, iv p3, iv p4, iv y0, .unset, .unset, .unset, .unset, .unset, .unset, .unset, .unset, .unset] [])) t := by
        intro t k
        refine XS.iload X1.here hx rfl (hb hby at_14) rfl ?_
        show Steps p.tables e below (T1.setTop (mkF m 16 #[iv p0, iv p1, iv p2, iv p3, iv p4, iv y0, .unset, .unset, .unset, .unset, .unset, .unset, .unset, .unset, .unset] [(.int p4)])) _
        refine XS.iconst X1.here hx rfl (hb hby at_16) ?_
        refine XS.iand X1.here hx rfl (hb hby at_17) rfl ?_
        show Steps p.tables e below (T1.setTop (mkF m 18 #[iv p0, iv p1, iv p2, iv p3, iv p4, iv y0, .unset, .unset, .unset, .unset, .unset, .unset, .unset, .unset, .unset] [(.int (p4 &&& (2 : Int32)))])) _
        refine XS.ifYes X1.here hx rfl (pc0 := 18) (pc' := 25) rfl (hb hby at_18) rfl ((if0 _ _).trans (teq b2).1) (by decide) (by decide) ?_
        refine XS.iloadN X1.here hx rfl (hb hby at_25) rfl ?_
        show Steps p.tables e below (T1.setTop (mkF m 26 #[iv p0, iv p1, iv p2, iv p3, iv p4, iv y0, .unset, .unset, .unset, .unset, .unset, .unset, .unset, .unset, .unset] [(.int p3)])) _
        exact k
      refine own_lift sg51 ?_
      show own_Go p.tables e below (T1.setTop (mkF m 26 #[iv p0, iv p1, iv p2, iv p3, iv p4, iv y0, .unset, .unset, .unset, .unset, .unset, .unset, .unset, .unset, .unset] [(.int p3)])) _
      rw [show y1 = p3 from (hy1.trans (if_pos b2))] at join3
      exact join3 _ _ X1 e1 N1
    · have sg52 : ∀ t, Steps p.tables e below (T1.setTop (mkF m 26 #[iv p0, iv p1, iv p2, iv p3, iv p4, iv y0, .unset, .unset, .unset, .unset, .unset, .unset, .unset, .unset, .unset] [(.int p1)])) t → Steps p.tables e below (T1.setTop (mkF m 14 #[iv p0, iv p1, iv p2, iv p3, iv p4, iv y0, .unset, .unset, .unset, .unset, .unset, .unset, .unset, .unset, .unset] [])) t := by
        intro t k
        refine XS.iload X1.here hx rfl (hb hby at_14) rfl ?_
        show Steps p.tables e below (T1.setTop (mkF m 16 #[iv p0, iv p1, iv p2, iv p3, iv p4, iv y0, .unset, .unset, .unset, .unset, .unset, .unset, .unset, .unset, .unset] [(.int p4)])) _
        refine XS.iconst X1.here hx rfl (hb hby at_16) ?_
        refine XS.iand X1.here hx rfl (hb hby at_17) rfl ?_
        show Steps p.tables e below (T1.setTop (mkF m 18 #[iv p0, iv p1, iv p2, iv p3, iv p4, iv y0, .unset, .unset, .unset, .unset, .unset, .unset, .unset, .unset, .unset] [(.int (p4 &&& (2 : Int32)))])) _
        refine XS.ifNo X1.here hx rfl (hb hby at_18) rfl ((if0 _ _).trans (feq b2).1) ?_
        refine XS.iloadN X1.here hx rfl (hb hby at_21) rfl ?_
        show Steps p.tables e below (T1.setTop (mkF m 22 #[iv p0, iv p1, iv p2, iv p3, iv p4, iv y0, .unset, .unset, .unset, .unset, .unset, .unset, .unset, .unset, .unset] [(.int p1)])) _
        refine XS.goto X1.here hx rfl (pc0 := 22) (pc' := 26) rfl (hb hby at_22) (by decide) (by decide) ?_
        show Steps p.tables e below (T1.setTop (mkF m 26 #[iv p0, iv p1, iv p2, iv p3, iv p4, iv y0, .unset, .unset, .unset, .unset, .unset, .unset, .unset, .unset, .unset] [(.int p1)])) _
        exact k
      refine own_lift sg52 ?_
      show own_Go p.tables e below (T1.setTop (mkF m 26 #[iv p0, iv p1, iv p2, iv p3, iv p4, iv y0, .unset, .unset, .unset, .unset, .unset, .unset, .unset, .unset, .unset] [(.int p1)])) _
      rw [show y1 = p1 from (hy1.trans (if_neg b2))] at join3
      exact join3 _ _ X1 e1 N1
  by_cases b1 : (p4 &&& (1 : Int32)) = (0 : Int32)
  · have sg53 : ∀ t, Steps p.tables e below (s₁.setTop (mkF m 12 #[iv p0, iv p1, iv p2, iv p3, iv p4, .unset, .unset, .unset, .unset, .unset, .unset, .unset, .unset, .unset, .unset] [(.int p2)])) t → Steps p.tables e below (s₁.setTop (mkF m 0 #[iv p0, iv p1, iv p2, iv p3, iv p4, .unset, .unset, .unset, .unset, .unset, .unset, .unset, .unset, .unset, .unset] [])) t := by
      intro t k
      refine XS.iload X0.here hx rfl (hb hby at_0) rfl ?_
      show Steps p.tables e below (s₁.setTop (mkF m 2 #[iv p0, iv p1, iv p2, iv p3, iv p4, .unset, .unset, .unset, .unset, .unset, .unset, .unset, .unset, .unset, .unset] [(.int p4)])) _
      refine XS.iconst X0.here hx rfl (hb hby at_2) ?_
      refine XS.iand X0.here hx rfl (hb hby at_3) rfl ?_
      show Steps p.tables e below (s₁.setTop (mkF m 4 #[iv p0, iv p1, iv p2, iv p3, iv p4, .unset, .unset, .unset, .unset, .unset, .unset, .unset, .unset, .unset, .unset] [(.int (p4 &&& (1 : Int32)))])) _
      refine XS.ifYes X0.here hx rfl (pc0 := 4) (pc' := 11) rfl (hb hby at_4) rfl ((if0 _ _).trans (teq b1).1) (by decide) (by decide) ?_
      refine XS.iloadN X0.here hx rfl (hb hby at_11) rfl ?_
      show Steps p.tables e below (s₁.setTop (mkF m 12 #[iv p0, iv p1, iv p2, iv p3, iv p4, .unset, .unset, .unset, .unset, .unset, .unset, .unset, .unset, .unset, .unset] [(.int p2)])) _
      exact k
    refine own_lift sg53 ?_
    show own_Go p.tables e below (s₁.setTop (mkF m 12 #[iv p0, iv p1, iv p2, iv p3, iv p4, .unset, .unset, .unset, .unset, .unset, .unset, .unset, .unset, .unset, .unset] [(.int p2)])) _
    rw [show y0 = p2 from (hy0.trans (if_pos b1))] at join1
    exact join1 _ _ X0 e0 N0
  · have sg54 : ∀ t, Steps p.tables e below (s₁.setTop (mkF m 12 #[iv p0, iv p1, iv p2, iv p3, iv p4, .unset, .unset, .unset, .unset, .unset, .unset, .unset, .unset, .unset, .unset] [(.int p0)])) t → Steps p.tables e below (s₁.setTop (mkF m 0 #[iv p0, iv p1, iv p2, iv p3, iv p4, .unset, .unset, .unset, .unset, .unset, .unset, .unset, .unset, .unset, .unset] [])) t := by
      intro t k
      refine XS.iload X0.here hx rfl (hb hby at_0) rfl ?_
      show Steps p.tables e below (s₁.setTop (mkF m 2 #[iv p0, iv p1, iv p2, iv p3, iv p4, .unset, .unset, .unset, .unset, .unset, .unset, .unset, .unset, .unset, .unset] [(.int p4)])) _
      refine XS.iconst X0.here hx rfl (hb hby at_2) ?_
      refine XS.iand X0.here hx rfl (hb hby at_3) rfl ?_
      show Steps p.tables e below (s₁.setTop (mkF m 4 #[iv p0, iv p1, iv p2, iv p3, iv p4, .unset, .unset, .unset, .unset, .unset, .unset, .unset, .unset, .unset, .unset] [(.int (p4 &&& (1 : Int32)))])) _
      refine XS.ifNo X0.here hx rfl (hb hby at_4) rfl ((if0 _ _).trans (feq b1).1) ?_
      refine XS.iloadN X0.here hx rfl (hb hby at_7) rfl ?_
      show Steps p.tables e below (s₁.setTop (mkF m 8 #[iv p0, iv p1, iv p2, iv p3, iv p4, .unset, .unset, .unset, .unset, .unset, .unset, .unset, .unset, .unset, .unset] [(.int p0)])) _
      refine XS.goto X0.here hx rfl (pc0 := 8) (pc' := 12) rfl (hb hby at_8) (by decide) (by decide) ?_
      show Steps p.tables e below (s₁.setTop (mkF m 12 #[iv p0, iv p1, iv p2, iv p3, iv p4, .unset, .unset, .unset, .unset, .unset, .unset, .unset, .unset, .unset, .unset] [(.int p0)])) _
      exact k
    refine own_lift sg54 ?_
    show own_Go p.tables e below (s₁.setTop (mkF m 12 #[iv p0, iv p1, iv p2, iv p3, iv p4, .unset, .unset, .unset, .unset, .unset, .unset, .unset, .unset, .unset, .unset] [(.int p0)])) _
    rw [show y0 = p0 from (hy0.trans (if_neg b1))] at join1
    exact join1 _ _ X0 e0 N0
theorem ef_rm0_4 (m : MethodId) (x0 : Int32) (x1 : Int32) (x2 : Int32) (x3 : Int32) (x4 : Int32) : entryFrame m #[(.int x0), (.int x1), (.int x2), (.int x3), (.int x4)] maxLocals = mkF m 0 #[.val (.int x0), .val (.int x1), .val (.int x2), .val (.int x3), .val (.int x4), .unset, .unset, .unset, .unset, .unset, .unset, .unset, .unset, .unset, .unset] [] := by first | (simp [entryFrame, mkF, argsToLocals, Value.category, maxLocals]; done) | rfl
set_option maxRecDepth 65536 in
set_option maxHeartbeats 40000000 in
theorem rm0_4 (l : Launch) (Z : State) (a0 : Array Value) (hw : ∀ d ∈ tables_1, d.before a0 Z = true) (ws : List Jvm.Cond) (p0 : Int32) (p1 : Int32) (p2 : Int32) (p3 : Int32) (p4 : Int32) (u1 : Value) (u2 : Value) (y0 : Int32) (y1 : Int32) (h0 : Heap) (n0 : Nat) (Z0 : n0 ≤ h0.size) (TS : ThS Z h0) (Su1 : Sta Z h0 "java/lang/Throwable" "UNASSIGNED_STACK" "[Ljava/lang/StackTraceElement;" u1) (Su2 : Sta Z h0 "java/lang/Throwable" "SUPPRESSED_SENTINEL" "Ljava/util/List;" u2) (hl : l.stackTraces = true) (P_u1 : u1.isRef = true) (P_u2 : u2.isRef = true) (hy0 : y0 = if (p4 &&& (1 : Int32)) = (0 : Int32) then p2 else p0) (hy1 : y1 = if (p4 &&& (2 : Int32)) = (0 : Int32) then p3 else p1) (l1 : ¬ (p0 < y0)) (l2 : ¬ (y0 < p0)) (ee : p0 = y0) (k1 : ¬ (p1 < y1)) (k2 : y1 < p1) (ab : ¬ ((own_key p0 p1) < (own_key y0 y1))) (ba : (own_key y0 y1) < (own_key p0 p1)) :
    MetFree l x (head1 (Jvm.Cond.code x code maxLocals ret :: ws) room_1) (fun a U => a = #[(.int p0), (.int p1), (.int p2), (.int p3), (.int p4)] ∧ Z.Warmed39 U.vm ∧ U.heap = h0) (fun _ _ _ s _ => Jvm.Pilot.@@N@@.Jvm.D.framesKnown s = true ∧ Jvm.Pilot.@@N@@.Jvm.D.tablesKnown s = true) (fun _ U o U' => ∃ v L, o = .returned v ∧ Q0 Z  h0 n0 v U'.heap L ∧ ReturnedEndW U o U' L 24 13184) := by
  refine MetFree.of_bodySF (plainFor_of_name pn_3) hisR ?_
  intro p e s m args below meth c s₁ Bd hml0 hP hK
  obtain ⟨rfl, hZ, hh⟩ := hP
  have hx := Bd.exec
  have hby := Bd.bytes
  have hml : c.maxLocals = 15 := hml0
  have hown : s.vm.findClass "com/example/libprocgraph/libprocgraph/reader/InvalidModelExceptionPrecedesPinLaw" = some m.cls := findClass_of_methodNamed Bd.named
  have hnm := (name_of_methodNamed Bd.named Bd.method).1
  have X0 : Stand p l e room_1 s m #[(.int p0), (.int p1), (.int p2), (.int p3), (.int p4)] below meth c s₁ [] 0 0 := Stand.of_body Bd
  have e0 : s₁.heap = h0 := by rw [← hh, Bd.state]; rfl
  have N0 := Fr.nil n0
  obtain ⟨hTK0, hBelow0⟩ := X0.known hK.2 hK.1
  have hTK := hTK0
  have hBelow := hBelow0
  have X0 : Stand p l e room_1 (s.setVm s.vm) m #[(.int p0), (.int p1), (.int p2), (.int p3), (.int p4)] below meth c s₁ [] 0 0 := X0
  have own_sn : s.Since s.vm s.heap.size := (State.WarmedH.refl s).since _
  have own_ss : s.heap.size ≤ h0.size := by rw [hh]; exact Nat.le_refl _
  have own_strw' := own_strw hw
  refine own_go (own_lift (fun t k => castTop (ef_rm0_4 m p0 p1 p2 p3 p4) k) ?_)
  show own_Go p.tables e below (s₁.setTop (mkF m 0 #[iv p0, iv p1, iv p2, iv p3, iv p4, .unset, .unset, .unset, .unset, .unset, .unset, .unset, .unset, .unset, .unset] [])) _
  have join1 : ∀ (T1 : State) (locs1 : List Loc), Stand p l e room_1 s m #[(.int p0), (.int p1), (.int p2), (.int p3), (.int p4)] below meth c T1 locs1 0 0 → T1.heap = h0 → Fr n0 locs1 → own_Go p.tables e below (T1.setTop (mkF m 12 #[iv p0, iv p1, iv p2, iv p3, iv p4, .unset, .unset, .unset, .unset, .unset, .unset, .unset, .unset, .unset, .unset] [(.int y0)])) (fun s₂ o => s₂.status = .running ∧ Ended s₂ below o ∧ ∃ v L, o = .returned v ∧ Q0 Z  h0 n0 v s₂.heap L ∧ ReturnedEndW s o s₂ L 24 13184) := by
    intro T1 locs1 X1 e1 N1
    have sg2 : ∀ t, Steps p.tables e below (T1.setTop (mkF m 14 #[iv p0, iv p1, iv p2, iv p3, iv p4, iv y0, .unset, .unset, .unset, .unset, .unset, .unset, .unset, .unset, .unset] [])) t → Steps p.tables e below (T1.setTop (mkF m 12 #[iv p0, iv p1, iv p2, iv p3, iv p4, .unset, .unset, .unset, .unset, .unset, .unset, .unset, .unset, .unset, .unset] [(.int y0)])) t := by
      intro t k
      refine XS.istore X1.here hx rfl (hb hby at_12) rfl (l' := #[iv p0, iv p1, iv p2, iv p3, iv p4, iv y0, .unset, .unset, .unset, .unset, .unset, .unset, .unset, .unset, .unset]) rfl ?_
      show Steps p.tables e below (T1.setTop (mkF m 14 #[iv p0, iv p1, iv p2, iv p3, iv p4, iv y0, .unset, .unset, .unset, .unset, .unset, .unset, .unset, .unset, .unset] [])) _
      exact k
    refine own_lift sg2 ?_
    show own_Go p.tables e below (T1.setTop (mkF m 14 #[iv p0, iv p1, iv p2, iv p3, iv p4, iv y0, .unset, .unset, .unset, .unset, .unset, .unset, .unset, .unset, .unset] [])) _
    have join3 : ∀ (T3 : State) (locs3 : List Loc), Stand p l e room_1 s m #[(.int p0), (.int p1), (.int p2), (.int p3), (.int p4)] below meth c T3 locs3 0 0 → T3.heap = h0 → Fr n0 locs3 → own_Go p.tables e below (T3.setTop (mkF m 26 #[iv p0, iv p1, iv p2, iv p3, iv p4, iv y0, .unset, .unset, .unset, .unset, .unset, .unset, .unset, .unset, .unset] [(.int y1)])) (fun s₂ o => s₂.status = .running ∧ Ended s₂ below o ∧ ∃ v L, o = .returned v ∧ Q0 Z  h0 n0 v s₂.heap L ∧ ReturnedEndW s o s₂ L 24 13184) := by
      intro T3 locs3 X3 e3 N3
      have sg4 : ∀ t, Steps p.tables e below (T3.setTop (mkF m 28 #[iv p0, iv p1, iv p2, iv p3, iv p4, iv y0, iv y1, .unset, .unset, .unset, .unset, .unset, .unset, .unset, .unset] [])) t → Steps p.tables e below (T3.setTop (mkF m 26 #[iv p0, iv p1, iv p2, iv p3, iv p4, iv y0, .unset, .unset, .unset, .unset, .unset, .unset, .unset, .unset, .unset] [(.int y1)])) t := by
        intro t k
        refine XS.istore X3.here hx rfl (hb hby at_26) rfl (l' := #[iv p0, iv p1, iv p2, iv p3, iv p4, iv y0, iv y1, .unset, .unset, .unset, .unset, .unset, .unset, .unset, .unset]) rfl ?_
        show Steps p.tables e below (T3.setTop (mkF m 28 #[iv p0, iv p1, iv p2, iv p3, iv p4, iv y0, iv y1, .unset, .unset, .unset, .unset, .unset, .unset, .unset, .unset] [])) _
        exact k
      refine own_lift sg4 ?_
      show own_Go p.tables e below (T3.setTop (mkF m 28 #[iv p0, iv p1, iv p2, iv p3, iv p4, iv y0, iv y1, .unset, .unset, .unset, .unset, .unset, .unset, .unset, .unset] [])) _
      obtain ⟨T5, h5, X5, e5, Ex5, Ax5, Dx5, Ux5, st5⟩ := newO X3 hx hZ hown (wd hw 0 rfl) (wd hw 1 rfl) (wd hw 2 rfl) e3 (g := (mkF m 28 #[iv p0, iv p1, iv p2, iv p3, iv p4, iv y0, iv y1, .unset, .unset, .unset, .unset, .unset, .unset, .unset, .unset] [])) rfl (hb hby at_28) (by decide) (by decide)
      obtain ⟨ob5, g5⟩ : ∃ z, z = h0.size := ⟨_, rfl⟩
      rw [← g5] at Ax5 Dx5 Ux5 st5
      have Q5 : s.heap.size ≤ h5.size := Nat.le_trans own_ss Ex5.1
      have Z5 : n0 ≤ h5.size := Nat.le_trans Z0 Ex5.1
      have ge5 : n0 ≤ ob5 := Nat.le_trans Z0 (Nat.le_of_eq g5.symm)
      have Ux5 : Unt h5 ob5 := Ux5
      have Fn5_29 : Fld Z h5 ob5 "java/lang/Throwable" "cause" "Ljava/lang/Throwable;" .null := Dx5 (Or.inl (wd hw 29 rfl)) (ty := (.object "java/lang/Throwable")) (by decide)
      have Fn5_32 : Fld Z h5 ob5 "java/lang/Throwable" "stackTrace" "[Ljava/lang/StackTraceElement;" .null := Dx5 (Or.inl (wd hw 32 rfl)) (ty := (.array (.object "java/lang/StackTraceElement"))) (by decide)
      have Fn5_35 : Fld Z h5 ob5 "java/lang/Throwable" "suppressedExceptions" "Ljava/util/List;" .null := Dx5 (Or.inl (wd hw 35 rfl)) (ty := (.object "java/util/List")) (by decide)
      have Fn5_59 : Fld Z h5 ob5 "java/lang/Throwable" "detailMessage" "Ljava/lang/String;" .null := Dx5 (Or.inl (wd hw 59 rfl)) (ty := (.object "java/lang/String")) (by decide)
      have Fn5_60 : Fld Z h5 ob5 "java/lang/Throwable" "backtrace" "Ljava/lang/Object;" .null := Dx5 (Or.inl (wd hw 60 rfl)) (ty := (.object "java/lang/Object")) (by decide)
      have Fn5_61 : Fld Z h5 ob5 "java/lang/Throwable" "depth" "I" (.int 0) := Dx5 (Or.inl (wd hw 61 rfl)) (ty := .int) (by decide)
      have Fn5_65 : Fld Z h5 ob5 "com/example/libprocgraph/libprocgraph/reader/InvalidModelException" "line" "I" (.int 0) := Dx5 (Or.inr (wd hw 65 rfl)) (ty := .int) (by decide)
      have Fn5_67 : Fld Z h5 ob5 "com/example/libprocgraph/libprocgraph/reader/InvalidModelException" "column" "I" (.int 0) := Dx5 (Or.inr (wd hw 67 rfl)) (ty := .int) (by decide)
      refine own_lift st5 ?_
      show own_Go p.tables e below (T5.setTop (mkF m 31 #[iv p0, iv p1, iv p2, iv p3, iv p4, iv y0, iv y1, .unset, .unset, .unset, .unset, .unset, .unset, .unset, .unset] [(.ref ob5)])) _
      have sg6 : ∀ t, Steps p.tables e below (T5.setTop (mkF m 34 #[iv p0, iv p1, iv p2, iv p3, iv p4, iv y0, iv y1, .unset, .unset, .unset, .unset, .unset, .unset, .unset, .unset] [(.int p1), (.int p0), (.ref ob5), (.ref ob5)])) t → Steps p.tables e below (T5.setTop (mkF m 31 #[iv p0, iv p1, iv p2, iv p3, iv p4, iv y0, iv y1, .unset, .unset, .unset, .unset, .unset, .unset, .unset, .unset] [(.ref ob5)])) t := by
        intro t k
        refine XS.dup X5.here hx rfl (hb hby at_31) rfl rfl ?_
        show Steps p.tables e below (T5.setTop (mkF m 32 #[iv p0, iv p1, iv p2, iv p3, iv p4, iv y0, iv y1, .unset, .unset, .unset, .unset, .unset, .unset, .unset, .unset] [(.ref ob5), (.ref ob5)])) _
        refine XS.iloadN X5.here hx rfl (hb hby at_32) rfl ?_
        refine XS.iloadN X5.here hx rfl (hb hby at_33) rfl ?_
        show Steps p.tables e below (T5.setTop (mkF m 34 #[iv p0, iv p1, iv p2, iv p3, iv p4, iv y0, iv y1, .unset, .unset, .unset, .unset, .unset, .unset, .unset, .unset] [(.int p1), (.int p0), (.ref ob5), (.ref ob5)])) _
        exact k
      refine own_lift sg6 ?_
      show own_Go p.tables e below (T5.setTop (mkF m 34 #[iv p0, iv p1, iv p2, iv p3, iv p4, iv y0, iv y1, .unset, .unset, .unset, .unset, .unset, .unset, .unset, .unset] [(.int p1), (.int p0), (.ref ob5), (.ref ob5)])) _
      obtain ⟨sa7, T7, h7, kk7, X7, e7, Ex7, Sx7, Q7, hZ, hown, st7⟩ := ldcS (s := s) X5 hx hZ hown (wd hw 3 rfl) own_strw' e5 own_sn Q5 (g := (mkF m 34 #[iv p0, iv p1, iv p2, iv p3, iv p4, iv y0, iv y1, .unset, .unset, .unset, .unset, .unset, .unset, .unset, .unset] [(.int p1), (.int p0), (.ref ob5), (.ref ob5)])) rfl (hb hby at_34) (n := 4) (by decide) (by decide) (by decide) (by decide)
      have hTK := Vm.MethodsKnown.alikeC Sx7.1.alike hTK0
      have hBelow := Vm.FramesKnown.alikeC Sx7.1.alike hBelow0
      have Z7 : n0 ≤ h7.size := Nat.le_trans Z5 Ex7.1
      refine own_lift st7 ?_
      show own_Go p.tables e below (T7.setTop (mkF m 36 #[iv p0, iv p1, iv p2, iv p3, iv p4, iv y0, iv y1, .unset, .unset, .unset, .unset, .unset, .unset, .unset, .unset] [(.ref sa7), (.int p1), (.int p0), (.ref ob5), (.ref ob5)])) _
      have Fc8 : Exa Z h7 ob5 "com/example/libprocgraph/libprocgraph/reader/InvalidModelException" := (Ax5.ext Ex7)
      have Fc9 : Unt h7 ob5 := (Ux5.ext Ex7)
      have Fc10 : ThS Z h7 := ((TS.ext Ex5).ext Ex7)
      have Fc11 : Fld Z h7 ob5 "java/lang/Throwable" "cause" "Ljava/lang/Throwable;" .null := (Fn5_29.ext Ex7)
      have Fc12 : Fld Z h7 ob5 "java/lang/Throwable" "stackTrace" "[Ljava/lang/StackTraceElement;" .null := (Fn5_32.ext Ex7)
      have Fc13 : Fld Z h7 ob5 "java/lang/Throwable" "suppressedExceptions" "Ljava/util/List;" .null := (Fn5_35.ext Ex7)
      have Fc14 : Fld Z h7 ob5 "java/lang/Throwable" "backtrace" "Ljava/lang/Object;" .null := (Fn5_60.ext Ex7)
      have Fc15 : Fld Z h7 ob5 "java/lang/Throwable" "detailMessage" "Ljava/lang/String;" .null := (Fn5_59.ext Ex7)
      have Fc16 : Fld Z h7 ob5 "com/example/libprocgraph/libprocgraph/reader/InvalidModelException" "line" "I" (.int 0) := (Fn5_65.ext Ex7)
      have Fc17 : Fld Z h7 ob5 "com/example/libprocgraph/libprocgraph/reader/InvalidModelException" "column" "I" (.int 0) := (Fn5_67.ext Ex7)
      have Fc18 : Sta Z h7 "java/lang/Throwable" "UNASSIGNED_STACK" "[Ljava/lang/StackTraceElement;" u1 := ((Su1.ext Ex5).ext Ex7)
      have Fc19 : Sta Z h7 "java/lang/Throwable" "SUPPRESSED_SENTINEL" "Ljava/util/List;" u2 := ((Su2.ext Ex5).ext Ex7)
      obtain ⟨_, _, ⟨T20, Lx20, kx20, nx20⟩, -, X20, ⟨Lc20, hQ20, lx20, yx20, zx20⟩, st20⟩ := X7.specialBack hx (y := (⟨"com/example/libprocgraph/libprocgraph/reader/InvalidModelException", "<init>", "(IILjava/lang/String;)V"⟩ : MethodName)) rfl hown (mvT hZ (wd hw 11 rfl)) (mvT hZ (wd hw 12 rfl)) (mvT hZ (wd hw 13 rfl)) (by decide) (backOfKL (W := 1) (rmInit l Z a0 hw [] ob5 p0 p1 sa7 u1 u2 h7 n0 Z7 Fc8 Fc9 Fc10 Fc11 Fc12 Fc13 Fc14 Fc15 Fc16 Fc17 ge5 Fc18 Fc19 hl P_u1 P_u2) hZ (wd hw 13 rfl) (wd hw 2 rfl) (by decide) (by decide) hTK hBelow) (g := (mkF m 36 #[iv p0, iv p1, iv p2, iv p3, iv p4, iv y0, iv y1, .unset, .unset, .unset, .unset, .unset, .unset, .unset, .unset] [(.ref sa7), (.int p1), (.int p0), (.ref ob5), (.ref ob5)])) rfl (by rw [hml]; rfl) (Steps.refl _) (a := ob5) (argsL := [(.int p0), (.int p1), (.ref sa7)]) (rest := [(.ref ob5)]) (lenOf pd_1 rfl) rfl (by show 2 * 0 + _ ≤ _; exact Nat.le_of_eq rfl) (hb hby at_36) (fun _ _ => ⟨rfl, e7, (by decide : 3 + 1 ≤ _), (by decide : 16 + 2752 ≤ _)⟩)
      dsimp only [Pt.U, Pt.locs, Pt.cells, Pt.slots] at X20 lx20 yx20 zx20 st20 hQ20
      subst lx20 yx20 zx20
      obtain ⟨rfl, N20q, p20_0, p20_1, p20_2, p20_3⟩ := hQ20
      have N20 := Fr.app N3 N20q
      have Z20 : n0 ≤ T20.heap.size := Nat.le_trans Z7 p20_0.1
      have Q20 : kk7 ≤ T20.heap.size := Nat.le_trans Q7 p20_0.1
      refine own_lift (fun t k => st20.trans k) ?_
      show own_Go p.tables e below (T20.setTop (mkF m 39 #[iv p0, iv p1, iv p2, iv p3, iv p4, iv y0, iv y1, .unset, .unset, .unset, .unset, .unset, .unset, .unset, .unset] [(.ref ob5)])) _
      have sg21 : ∀ t, Steps p.tables e below (T20.setTop (mkF m 41 #[iv p0, iv p1, iv p2, iv p3, iv p4, iv y0, iv y1, rv ob5, .unset, .unset, .unset, .unset, .unset, .unset, .unset] [])) t → Steps p.tables e below (T20.setTop (mkF m 39 #[iv p0, iv p1, iv p2, iv p3, iv p4, iv y0, iv y1, .unset, .unset, .unset, .unset, .unset, .unset, .unset, .unset] [(.ref ob5)])) t := by
        intro t k
        refine XS.astore X20.here hx rfl (hb hby at_39) rfl rfl (l' := #[iv p0, iv p1, iv p2, iv p3, iv p4, iv y0, iv y1, rv ob5, .unset, .unset, .unset, .unset, .unset, .unset, .unset]) rfl ?_
        show Steps p.tables e below (T20.setTop (mkF m 41 #[iv p0, iv p1, iv p2, iv p3, iv p4, iv y0, iv y1, rv ob5, .unset, .unset, .unset, .unset, .unset, .unset, .unset] [])) _
        exact k
      refine own_lift sg21 ?_
      show own_Go p.tables e below (T20.setTop (mkF m 41 #[iv p0, iv p1, iv p2, iv p3, iv p4, iv y0, iv y1, rv ob5, .unset, .unset, .unset, .unset, .unset, .unset, .unset] [])) _
      obtain ⟨T22, h22, X22, e22, Ex22, Ax22, Dx22, Ux22, st22⟩ := newO X20 hx hZ hown (wd hw 0 rfl) (wd hw 1 rfl) (wd hw 2 rfl) rfl (g := (mkF m 41 #[iv p0, iv p1, iv p2, iv p3, iv p4, iv y0, iv y1, rv ob5, .unset, .unset, .unset, .unset, .unset, .unset, .unset] [])) rfl (hb hby at_41) (by decide) (by decide)
      obtain ⟨ob22, g22⟩ : ∃ z, z = T20.heap.size := ⟨_, rfl⟩
      rw [← g22] at Ax22 Dx22 Ux22 st22
      have ne23 : ob5 ≠ ob22 := Nat.ne_of_lt (Nat.lt_of_lt_of_le p20_1.lt (Nat.le_of_eq g22.symm))
      have Q22 : kk7 ≤ h22.size := Nat.le_trans Q20 Ex22.1
      have Z22 : n0 ≤ h22.size := Nat.le_trans Z20 Ex22.1
      have ge22 : n0 ≤ ob22 := Nat.le_trans Z20 (Nat.le_of_eq g22.symm)
      have Ux22 : Unt h22 ob22 := Ux22
      have Fn22_29 : Fld Z h22 ob22 "java/lang/Throwable" "cause" "Ljava/lang/Throwable;" .null := Dx22 (Or.inl (wd hw 29 rfl)) (ty := (.object "java/lang/Throwable")) (by decide)
      have Fn22_32 : Fld Z h22 ob22 "java/lang/Throwable" "stackTrace" "[Ljava/lang/StackTraceElement;" .null := Dx22 (Or.inl (wd hw 32 rfl)) (ty := (.array (.object "java/lang/StackTraceElement"))) (by decide)
      have Fn22_35 : Fld Z h22 ob22 "java/lang/Throwable" "suppressedExceptions" "Ljava/util/List;" .null := Dx22 (Or.inl (wd hw 35 rfl)) (ty := (.object "java/util/List")) (by decide)
      have Fn22_59 : Fld Z h22 ob22 "java/lang/Throwable" "detailMessage" "Ljava/lang/String;" .null := Dx22 (Or.inl (wd hw 59 rfl)) (ty := (.object "java/lang/String")) (by decide)
      have Fn22_60 : Fld Z h22 ob22 "java/lang/Throwable" "backtrace" "Ljava/lang/Object;" .null := Dx22 (Or.inl (wd hw 60 rfl)) (ty := (.object "java/lang/Object")) (by decide)
      have Fn22_61 : Fld Z h22 ob22 "java/lang/Throwable" "depth" "I" (.int 0) := Dx22 (Or.inl (wd hw 61 rfl)) (ty := .int) (by decide)
      have Fn22_65 : Fld Z h22 ob22 "com/example/libprocgraph/libprocgraph/reader/InvalidModelException" "line" "I" (.int 0) := Dx22 (Or.inr (wd hw 65 rfl)) (ty := .int) (by decide)
      have Fn22_67 : Fld Z h22 ob22 "com/example/libprocgraph/libprocgraph/reader/InvalidModelException" "column" "I" (.int 0) := Dx22 (Or.inr (wd hw 67 rfl)) (ty := .int) (by decide)
      refine own_lift st22 ?_
      show own_Go p.tables e below (T22.setTop (mkF m 44 #[iv p0, iv p1, iv p2, iv p3, iv p4, iv y0, iv y1, rv ob5, .unset, .unset, .unset, .unset, .unset, .unset, .unset] [(.ref ob22)])) _
      have sg24 : ∀ t, Steps p.tables e below (T22.setTop (mkF m 49 #[iv p0, iv p1, iv p2, iv p3, iv p4, iv y0, iv y1, rv ob5, .unset, .unset, .unset, .unset, .unset, .unset, .unset] [(.int y1), (.int y0), (.ref ob22), (.ref ob22)])) t → Steps p.tables e below (T22.setTop (mkF m 44 #[iv p0, iv p1, iv p2, iv p3, iv p4, iv y0, iv y1, rv ob5, .unset, .unset, .unset, .unset, .unset, .unset, .unset] [(.ref ob22)])) t := by
        intro t k
        refine XS.dup X22.here hx rfl (hb hby at_44) rfl rfl ?_
        show Steps p.tables e below (T22.setTop (mkF m 45 #[iv p0, iv p1, iv p2, iv p3, iv p4, iv y0, iv y1, rv ob5, .unset, .unset, .unset, .unset, .unset, .unset, .unset] [(.ref ob22), (.ref ob22)])) _
        refine XS.iload X22.here hx rfl (hb hby at_45) rfl ?_
        refine XS.iload X22.here hx rfl (hb hby at_47) rfl ?_
        show Steps p.tables e below (T22.setTop (mkF m 49 #[iv p0, iv p1, iv p2, iv p3, iv p4, iv y0, iv y1, rv ob5, .unset, .unset, .unset, .unset, .unset, .unset, .unset] [(.int y1), (.int y0), (.ref ob22), (.ref ob22)])) _
        exact k
      refine own_lift sg24 ?_
      show own_Go p.tables e below (T22.setTop (mkF m 49 #[iv p0, iv p1, iv p2, iv p3, iv p4, iv y0, iv y1, rv ob5, .unset, .unset, .unset, .unset, .unset, .unset, .unset] [(.int y1), (.int y0), (.ref ob22), (.ref ob22)])) _
      obtain ⟨sa25, T25, h25, kk25, X25, e25, Ex25, Sx25, Q25, hZ, hown, st25⟩ := ldcS (s := s) X22 hx hZ hown (wd hw 68 rfl) own_strw' e22 Sx7 Q22 (g := (mkF m 49 #[iv p0, iv p1, iv p2, iv p3, iv p4, iv y0, iv y1, rv ob5, .unset, .unset, .unset, .unset, .unset, .unset, .unset] [(.int y1), (.int y0), (.ref ob22), (.ref ob22)])) rfl (hb hby at_49) (n := 4) (by decide) (by decide) (by decide) (by decide)
      have hTK := Vm.MethodsKnown.alikeC Sx25.1.alike hTK0
      have hBelow := Vm.FramesKnown.alikeC Sx25.1.alike hBelow0
      have Z25 : n0 ≤ h25.size := Nat.le_trans Z22 Ex25.1
      refine own_lift st25 ?_
      show own_Go p.tables e below (T25.setTop (mkF m 51 #[iv p0, iv p1, iv p2, iv p3, iv p4, iv y0, iv y1, rv ob5, .unset, .unset, .unset, .unset, .unset, .unset, .unset] [(.ref sa25), (.int y1), (.int y0), (.ref ob22), (.ref ob22)])) _
      have Fc26 : Exa Z h25 ob22 "com/example/libprocgraph/libprocgraph/reader/InvalidModelException" := (Ax22.ext Ex25)
      have Fc27 : Unt h25 ob22 := (Ux22.ext Ex25)
      have Fc28 : ThS Z h25 := (((ThS.keep p20_0 (own_nost (allS (own_plain Fc8) all0)) Fc10).ext Ex22).ext Ex25)
      have Fc29 : Fld Z h25 ob22 "java/lang/Throwable" "cause" "Ljava/lang/Throwable;" .null := (Fn22_29.ext Ex25)
      have Fc30 : Fld Z h25 ob22 "java/lang/Throwable" "stackTrace" "[Ljava/lang/StackTraceElement;" .null := (Fn22_32.ext Ex25)
      have Fc31 : Fld Z h25 ob22 "java/lang/Throwable" "suppressedExceptions" "Ljava/util/List;" .null := (Fn22_35.ext Ex25)
      have Fc32 : Fld Z h25 ob22 "java/lang/Throwable" "backtrace" "Ljava/lang/Object;" .null := (Fn22_60.ext Ex25)
      have Fc33 : Fld Z h25 ob22 "java/lang/Throwable" "detailMessage" "Ljava/lang/String;" .null := (Fn22_59.ext Ex25)
      have Fc34 : Fld Z h25 ob22 "com/example/libprocgraph/libprocgraph/reader/InvalidModelException" "line" "I" (.int 0) := (Fn22_65.ext Ex25)
      have Fc35 : Fld Z h25 ob22 "com/example/libprocgraph/libprocgraph/reader/InvalidModelException" "column" "I" (.int 0) := (Fn22_67.ext Ex25)
      have Fc36 : Sta Z h25 "java/lang/Throwable" "UNASSIGNED_STACK" "[Ljava/lang/StackTraceElement;" u1 := (((own_Sta_keep Fc18 p20_0 (allS (own_plain Fc8) all0)).ext Ex22).ext Ex25)
      have Fc37 : Sta Z h25 "java/lang/Throwable" "SUPPRESSED_SENTINEL" "Ljava/util/List;" u2 := (((own_Sta_keep Fc19 p20_0 (allS (own_plain Fc8) all0)).ext Ex22).ext Ex25)
      obtain ⟨_, _, ⟨T38, Lx38, kx38, nx38⟩, -, X38, ⟨Lc38, hQ38, lx38, yx38, zx38⟩, st38⟩ := X25.specialBack hx (y := (⟨"com/example/libprocgraph/libprocgraph/reader/InvalidModelException", "<init>", "(IILjava/lang/String;)V"⟩ : MethodName)) rfl hown (mvT hZ (wd hw 11 rfl)) (mvT hZ (wd hw 12 rfl)) (mvT hZ (wd hw 13 rfl)) (by decide) (backOfKL (W := 1) (rmInit l Z a0 hw [] ob22 y0 y1 sa25 u1 u2 h25 n0 Z25 Fc26 Fc27 Fc28 Fc29 Fc30 Fc31 Fc32 Fc33 Fc34 Fc35 ge22 Fc36 Fc37 hl P_u1 P_u2) hZ (wd hw 13 rfl) (wd hw 2 rfl) (by decide) (by decide) hTK hBelow) (g := (mkF m 51 #[iv p0, iv p1, iv p2, iv p3, iv p4, iv y0, iv y1, rv ob5, .unset, .unset, .unset, .unset, .unset, .unset, .unset] [(.ref sa25), (.int y1), (.int y0), (.ref ob22), (.ref ob22)])) rfl (by rw [hml]; rfl) (Steps.refl _) (a := ob22) (argsL := [(.int y0), (.int y1), (.ref sa25)]) (rest := [(.ref ob22)]) (lenOf pd_1 rfl) rfl (by show 2 * 0 + _ ≤ _; exact Nat.le_of_eq rfl) (hb hby at_51) (fun _ _ => ⟨rfl, e25, (by decide : 7 + 1 ≤ _), (by decide : 2784 + 2752 ≤ _)⟩)
      dsimp only [Pt.U, Pt.locs, Pt.cells, Pt.slots] at X38 lx38 yx38 zx38 st38 hQ38
      subst lx38 yx38 zx38
      obtain ⟨rfl, N38q, p38_0, p38_1, p38_2, p38_3⟩ := hQ38
      have N38 := Fr.app N20 N38q
      have Z38 : n0 ≤ T38.heap.size := Nat.le_trans Z25 p38_0.1
      have Q38 : kk25 ≤ T38.heap.size := Nat.le_trans Q25 p38_0.1
      refine own_lift (fun t k => st38.trans k) ?_
      show own_Go p.tables e below (T38.setTop (mkF m 54 #[iv p0, iv p1, iv p2, iv p3, iv p4, iv y0, iv y1, rv ob5, .unset, .unset, .unset, .unset, .unset, .unset, .unset] [(.ref ob22)])) _
      have sg39 : ∀ t, Steps p.tables e below (T38.setTop (mkF m 58 #[iv p0, iv p1, iv p2, iv p3, iv p4, iv y0, iv y1, rv ob5, rv ob22, .unset, .unset, .unset, .unset, .unset, .unset] [(.int p1), (.int p0)])) t → Steps p.tables e below (T38.setTop (mkF m 54 #[iv p0, iv p1, iv p2, iv p3, iv p4, iv y0, iv y1, rv ob5, .unset, .unset, .unset, .unset, .unset, .unset, .unset] [(.ref ob22)])) t := by
        intro t k
        refine XS.astore X38.here hx rfl (hb hby at_54) rfl rfl (l' := #[iv p0, iv p1, iv p2, iv p3, iv p4, iv y0, iv y1, rv ob5, rv ob22, .unset, .unset, .unset, .unset, .unset, .unset]) rfl ?_
        show Steps p.tables e below (T38.setTop (mkF m 56 #[iv p0, iv p1, iv p2, iv p3, iv p4, iv y0, iv y1, rv ob5, rv ob22, .unset, .unset, .unset, .unset, .unset, .unset] [])) _
        refine XS.iloadN X38.here hx rfl (hb hby at_56) rfl ?_
        refine XS.iloadN X38.here hx rfl (hb hby at_57) rfl ?_
        show Steps p.tables e below (T38.setTop (mkF m 58 #[iv p0, iv p1, iv p2, iv p3, iv p4, iv y0, iv y1, rv ob5, rv ob22, .unset, .unset, .unset, .unset, .unset, .unset] [(.int p1), (.int p0)])) _
        exact k
      refine own_lift sg39 ?_
      show own_Go p.tables e below (T38.setTop (mkF m 58 #[iv p0, iv p1, iv p2, iv p3, iv p4, iv y0, iv y1, rv ob5, rv ob22, .unset, .unset, .unset, .unset, .unset, .unset] [(.int p1), (.int p0)])) _
      obtain ⟨_, _, ⟨T40, Lx40, kx40, nx40⟩, -, X40, ⟨Lc40, hQ40, lx40, yx40, zx40⟩, st40⟩ := Jvm.LawKit.callS X38 hx (y := (⟨"com/example/libprocgraph/libprocgraph/reader/InvalidModelExceptionPrecedesPinLaw", "key", "(II)J"⟩ : MethodName)) hown (mvT hZ (wd hw 69 rfl)) (mvT hZ (wd hw 70 rfl)) (mvT hZ (wd hw 71 rfl)) (mvT hZ (wd hw 72 rfl)) (by decide) (backOf (W := 0) (rmKey l Z a0 hw [] p0 p1 T38.heap n0 Z38 ) hZ (wd hw 72 rfl) (wd hw 71 rfl) (by decide) (by decide)) (g := (mkF m 58 #[iv p0, iv p1, iv p2, iv p3, iv p4, iv y0, iv y1, rv ob5, rv ob22, .unset, .unset, .unset, .unset, .unset, .unset] [(.int p1), (.int p0)])) rfl (by rw [hml]; rfl) (argsL := [(.int p0), (.int p1)]) (rest := []) (lenOf pd_2 rfl) rfl (by show 2 * 0 + _ ≤ _; exact Nat.le_of_eq rfl) (hb hby at_58) (fun _ _ => ⟨rfl, rfl, (by decide : 8 + 0 ≤ _), (by decide : 5536 + 0 ≤ _)⟩)
      dsimp only [Pt.U, Pt.locs, Pt.cells, Pt.slots] at X40 lx40 yx40 zx40 st40 hQ40
      subst lx40 yx40 zx40
      obtain ⟨rfl, N40q, e40⟩ := hQ40
      have N40 := Fr.app N38 N40q
      refine own_lift st40 ?_
      show own_Go p.tables e below (T40.setTop (mkF m 61 #[iv p0, iv p1, iv p2, iv p3, iv p4, iv y0, iv y1, rv ob5, rv ob22, .unset, .unset, .unset, .unset, .unset, .unset] [(.long (own_key p0 p1))])) _
      have sg41 : ∀ t, Steps p.tables e below (T40.setTop (mkF m 67 #[iv p0, iv p1, iv p2, iv p3, iv p4, iv y0, iv y1, rv ob5, rv ob22, jv (own_key p0 p1), .second, .unset, .unset, .unset, .unset] [(.int y1), (.int y0)])) t → Steps p.tables e below (T40.setTop (mkF m 61 #[iv p0, iv p1, iv p2, iv p3, iv p4, iv y0, iv y1, rv ob5, rv ob22, .unset, .unset, .unset, .unset, .unset, .unset] [(.long (own_key p0 p1))])) t := by
        intro t k
        refine XS.lstore X40.here hx rfl (hb hby at_61) rfl (l' := #[iv p0, iv p1, iv p2, iv p3, iv p4, iv y0, iv y1, rv ob5, rv ob22, jv (own_key p0 p1), .second, .unset, .unset, .unset, .unset]) rfl ?_
        show Steps p.tables e below (T40.setTop (mkF m 63 #[iv p0, iv p1, iv p2, iv p3, iv p4, iv y0, iv y1, rv ob5, rv ob22, jv (own_key p0 p1), .second, .unset, .unset, .unset, .unset] [])) _
        refine XS.iload X40.here hx rfl (hb hby at_63) rfl ?_
        refine XS.iload X40.here hx rfl (hb hby at_65) rfl ?_
        show Steps p.tables e below (T40.setTop (mkF m 67 #[iv p0, iv p1, iv p2, iv p3, iv p4, iv y0, iv y1, rv ob5, rv ob22, jv (own_key p0 p1), .second, .unset, .unset, .unset, .unset] [(.int y1), (.int y0)])) _
        exact k
      refine own_lift sg41 ?_
      show own_Go p.tables e below (T40.setTop (mkF m 67 #[iv p0, iv p1, iv p2, iv p3, iv p4, iv y0, iv y1, rv ob5, rv ob22, jv (own_key p0 p1), .second, .unset, .unset, .unset, .unset] [(.int y1), (.int y0)])) _
      obtain ⟨_, _, ⟨T42, Lx42, kx42, nx42⟩, -, X42, ⟨Lc42, hQ42, lx42, yx42, zx42⟩, st42⟩ := Jvm.LawKit.callS X40 hx (y := (⟨"com/example/libprocgraph/libprocgraph/reader/InvalidModelExceptionPrecedesPinLaw", "key", "(II)J"⟩ : MethodName)) hown (mvT hZ (wd hw 69 rfl)) (mvT hZ (wd hw 70 rfl)) (mvT hZ (wd hw 71 rfl)) (mvT hZ (wd hw 72 rfl)) (by decide) (backOf (W := 0) (rmKey l Z a0 hw [] y0 y1 T38.heap n0 Z38 ) hZ (wd hw 72 rfl) (wd hw 71 rfl) (by decide) (by decide)) (g := (mkF m 67 #[iv p0, iv p1, iv p2, iv p3, iv p4, iv y0, iv y1, rv ob5, rv ob22, jv (own_key p0 p1), .second, .unset, .unset, .unset, .unset] [(.int y1), (.int y0)])) rfl (by rw [hml]; rfl) (argsL := [(.int y0), (.int y1)]) (rest := []) (lenOf pd_2 rfl) rfl (by show 2 * 0 + _ ≤ _; exact Nat.le_of_eq rfl) (hb hby at_67) (fun _ _ => ⟨rfl, e40, (by decide : 8 + 0 ≤ _), (by decide : 5536 + 0 ≤ _)⟩)
      dsimp only [Pt.U, Pt.locs, Pt.cells, Pt.slots] at X42 lx42 yx42 zx42 st42 hQ42
      subst lx42 yx42 zx42
      obtain ⟨rfl, N42q, e42⟩ := hQ42
      have N42 := Fr.app N40 N42q
      refine own_lift st42 ?_
      show own_Go p.tables e below (T42.setTop (mkF m 70 #[iv p0, iv p1, iv p2, iv p3, iv p4, iv y0, iv y1, rv ob5, rv ob22, jv (own_key p0 p1), .second, .unset, .unset, .unset, .unset] [(.long (own_key y0 y1))])) _
      have sg43 : ∀ t, Steps p.tables e below (T42.setTop (mkF m 106 #[iv p0, iv p1, iv p2, iv p3, iv p4, iv y0, iv y1, rv ob5, rv ob22, jv (own_key p0 p1), .second, jv (own_key y0 y1), .second, iv 0, iv 1] [(.ref ob22), (.ref ob5)])) t → Steps p.tables e below (T42.setTop (mkF m 70 #[iv p0, iv p1, iv p2, iv p3, iv p4, iv y0, iv y1, rv ob5, rv ob22, jv (own_key p0 p1), .second, .unset, .unset, .unset, .unset] [(.long (own_key y0 y1))])) t := by
        intro t k
        refine XS.lstore X42.here hx rfl (hb hby at_70) rfl (l' := #[iv p0, iv p1, iv p2, iv p3, iv p4, iv y0, iv y1, rv ob5, rv ob22, jv (own_key p0 p1), .second, jv (own_key y0 y1), .second, .unset, .unset]) rfl ?_
        show Steps p.tables e below (T42.setTop (mkF m 72 #[iv p0, iv p1, iv p2, iv p3, iv p4, iv y0, iv y1, rv ob5, rv ob22, jv (own_key p0 p1), .second, jv (own_key y0 y1), .second, .unset, .unset] [])) _
        refine XS.lload X42.here hx rfl (hb hby at_72) rfl ?_
        refine XS.lload X42.here hx rfl (hb hby at_74) rfl ?_
        show Steps p.tables e below (T42.setTop (mkF m 76 #[iv p0, iv p1, iv p2, iv p3, iv p4, iv y0, iv y1, rv ob5, rv ob22, jv (own_key p0 p1), .second, jv (own_key y0 y1), .second, .unset, .unset] [(.long (own_key y0 y1)), (.long (own_key p0 p1))])) _
        refine XS.lcmp X42.here hx rfl (hb hby at_76) rfl ?_
        refine XS.ifYes X42.here hx rfl (pc0 := 77) (pc' := 84) rfl (hb hby at_77) rfl ((if0 _ _).trans (flt (fun q => ab ((lw_lt (own_key p0 p1) (own_key y0 y1)).1 q))).2.1) (by decide) (by decide) ?_
        show Steps p.tables e below (T42.setTop (mkF m 84 #[iv p0, iv p1, iv p2, iv p3, iv p4, iv y0, iv y1, rv ob5, rv ob22, jv (own_key p0 p1), .second, jv (own_key y0 y1), .second, .unset, .unset] [])) _
        refine XS.iconst X42.here hx rfl (hb hby at_84) ?_
        refine XS.istore X42.here hx rfl (hb hby at_85) rfl (l' := #[iv p0, iv p1, iv p2, iv p3, iv p4, iv y0, iv y1, rv ob5, rv ob22, jv (own_key p0 p1), .second, jv (own_key y0 y1), .second, iv 0, .unset]) rfl ?_
        show Steps p.tables e below (T42.setTop (mkF m 87 #[iv p0, iv p1, iv p2, iv p3, iv p4, iv y0, iv y1, rv ob5, rv ob22, jv (own_key p0 p1), .second, jv (own_key y0 y1), .second, iv 0, .unset] [])) _
        refine XS.lload X42.here hx rfl (hb hby at_87) rfl ?_
        refine XS.lload X42.here hx rfl (hb hby at_89) rfl ?_
        show Steps p.tables e below (T42.setTop (mkF m 91 #[iv p0, iv p1, iv p2, iv p3, iv p4, iv y0, iv y1, rv ob5, rv ob22, jv (own_key p0 p1), .second, jv (own_key y0 y1), .second, iv 0, .unset] [(.long (own_key p0 p1)), (.long (own_key y0 y1))])) _
        refine XS.lcmp X42.here hx rfl (hb hby at_91) rfl ?_
        refine XS.ifNo X42.here hx rfl (hb hby at_92) rfl ((if0 _ _).trans (tlt ((lw_lt (own_key y0 y1) (own_key p0 p1)).2 ba)).2.1) ?_
        show Steps p.tables e below (T42.setTop (mkF m 95 #[iv p0, iv p1, iv p2, iv p3, iv p4, iv y0, iv y1, rv ob5, rv ob22, jv (own_key p0 p1), .second, jv (own_key y0 y1), .second, iv 0, .unset] [])) _
        refine XS.iconst X42.here hx rfl (hb hby at_95) ?_
        refine XS.goto X42.here hx rfl (pc0 := 96) (pc' := 100) rfl (hb hby at_96) (by decide) (by decide) ?_
        show Steps p.tables e below (T42.setTop (mkF m 100 #[iv p0, iv p1, iv p2, iv p3, iv p4, iv y0, iv y1, rv ob5, rv ob22, jv (own_key p0 p1), .second, jv (own_key y0 y1), .second, iv 0, .unset] [(.int 1)])) _
        refine XS.istore X42.here hx rfl (hb hby at_100) rfl (l' := #[iv p0, iv p1, iv p2, iv p3, iv p4, iv y0, iv y1, rv ob5, rv ob22, jv (own_key p0 p1), .second, jv (own_key y0 y1), .second, iv 0, iv 1]) rfl ?_
        refine XS.aload X42.here hx rfl (hb hby at_102) rfl rfl ?_
        show Steps p.tables e below (T42.setTop (mkF m 104 #[iv p0, iv p1, iv p2, iv p3, iv p4, iv y0, iv y1, rv ob5, rv ob22, jv (own_key p0 p1), .second, jv (own_key y0 y1), .second, iv 0, iv 1] [(.ref ob5)])) _
        refine XS.aload X42.here hx rfl (hb hby at_104) rfl rfl ?_
        show Steps p.tables e below (T42.setTop (mkF m 106 #[iv p0, iv p1, iv p2, iv p3, iv p4, iv y0, iv y1, rv ob5, rv ob22, jv (own_key p0 p1), .second, jv (own_key y0 y1), .second, iv 0, iv 1] [(.ref ob22), (.ref ob5)])) _
        exact k
      refine own_lift sg43 ?_
      show own_Go p.tables e below (T42.setTop (mkF m 106 #[iv p0, iv p1, iv p2, iv p3, iv p4, iv y0, iv y1, rv ob5, rv ob22, jv (own_key p0 p1), .second, jv (own_key y0 y1), .second, iv 0, iv 1] [(.ref ob22), (.ref ob5)])) _
      have Fc44 : Fld Z T38.heap ob5 "com/example/libprocgraph/libprocgraph/reader/InvalidModelException" "line" "I" (.int p0) := (((p20_2.ext Ex22).ext Ex25).keep p38_0 (ninS ne23 nin0))
      have Fc45 : Fld Z T38.heap ob5 "com/example/libprocgraph/libprocgraph/reader/InvalidModelException" "column" "I" (.int p1) := (((p20_3.ext Ex22).ext Ex25).keep p38_0 (ninS ne23 nin0))
      have Fc47 : Exa Z T38.heap ob5 "com/example/libprocgraph/libprocgraph/reader/InvalidModelException" := (((p20_1.ext Ex22).ext Ex25).keep p38_0)
      obtain ⟨cq46, kq46, q46a, q46b, q46c⟩ := isOf hZ e42 Fc47
      obtain ⟨_, _, ⟨T46, Lx46, kx46, nx46⟩, -, X46, ⟨Lc46, hQ46, lx46, yx46, zx46⟩, st46⟩ := X42.virtualBack hx (y := (⟨"com/example/libprocgraph/libprocgraph/reader/InvalidModelException", "precedes", "(Lcom/example/libprocgraph/libprocgraph/reader/InvalidModelException;)Z"⟩ : MethodName)) (z := (⟨"com/example/libprocgraph/libprocgraph/reader/InvalidModelException", "precedes", "(Lcom/example/libprocgraph/libprocgraph/reader/InvalidModelException;)Z"⟩ : MethodName)) hown (mvT hZ (wd hw 74 rfl)) (mvT hZ (wd hw 75 rfl)) (notFace_of_selects (args := #[]) (mvT hZ (wd hw 77 rfl))) (mvT hZ (wd hw 77 rfl)) (mvT hZ (wd hw 76 rfl)) (by decide) (backOf (W := 0) (rmPr4 l Z a0 hw [] ob5 ob22 p0 p1 y0 y1 T38.heap n0 Z38 Fc44 Fc45 p38_2 p38_3 l1 ee k1) hZ (wd hw 78 rfl) (wd hw 2 rfl) (by decide) (by decide)) q46a q46c (g := (mkF m 106 #[iv p0, iv p1, iv p2, iv p3, iv p4, iv y0, iv y1, rv ob5, rv ob22, jv (own_key p0 p1), .second, jv (own_key y0 y1), .second, iv 0, iv 1] [(.ref ob22), (.ref ob5)])) rfl (by rw [hml]; rfl) (Steps.refl _) (argsL := [(.ref ob22)]) (rest := []) (lenOf pd_3 rfl) rfl (by show 2 * 0 + _ ≤ _; exact Nat.le_of_eq rfl) (hb hby at_106) (fun _ _ => ⟨rfl, e42, (by decide : 8 + 0 ≤ _), (by decide : 5536 + 0 ≤ _)⟩)
      dsimp only [Pt.U, Pt.locs, Pt.cells, Pt.slots] at X46 lx46 yx46 zx46 st46 hQ46
      subst lx46 yx46 zx46
      obtain ⟨rfl, N46q, e46⟩ := hQ46
      have N46 := Fr.app N42 N46q
      refine own_lift (fun t k => st46.trans k) ?_
      show own_Go p.tables e below (T46.setTop (mkF m 109 #[iv p0, iv p1, iv p2, iv p3, iv p4, iv y0, iv y1, rv ob5, rv ob22, jv (own_key p0 p1), .second, jv (own_key y0 y1), .second, iv 0, iv 1] [(.int 0)])) _
      have sg48 : ∀ t, Steps p.tables e below (T46.setTop (mkF m 118 #[iv p0, iv p1, iv p2, iv p3, iv p4, iv y0, iv y1, rv ob5, rv ob22, jv (own_key p0 p1), .second, jv (own_key y0 y1), .second, iv 0, iv 1] [(.ref ob5), (.ref ob22)])) t → Steps p.tables e below (T46.setTop (mkF m 109 #[iv p0, iv p1, iv p2, iv p3, iv p4, iv y0, iv y1, rv ob5, rv ob22, jv (own_key p0 p1), .second, jv (own_key y0 y1), .second, iv 0, iv 1] [(.int 0)])) t := by
        intro t k
        refine XS.iload X46.here hx rfl (hb hby at_109) rfl ?_
        show Steps p.tables e below (T46.setTop (mkF m 111 #[iv p0, iv p1, iv p2, iv p3, iv p4, iv y0, iv y1, rv ob5, rv ob22, jv (own_key p0 p1), .second, jv (own_key y0 y1), .second, iv 0, iv 1] [(.int 0), (.int 0)])) _
        refine XS.icmpNo X46.here hx rfl (hb hby at_111) rfl (teq (by decide : (0 : Int32) = (0 : Int32))).2 ?_
        refine XS.aload X46.here hx rfl (hb hby at_114) rfl rfl ?_
        show Steps p.tables e below (T46.setTop (mkF m 116 #[iv p0, iv p1, iv p2, iv p3, iv p4, iv y0, iv y1, rv ob5, rv ob22, jv (own_key p0 p1), .second, jv (own_key y0 y1), .second, iv 0, iv 1] [(.ref ob22)])) _
        refine XS.aload X46.here hx rfl (hb hby at_116) rfl rfl ?_
        show Steps p.tables e below (T46.setTop (mkF m 118 #[iv p0, iv p1, iv p2, iv p3, iv p4, iv y0, iv y1, rv ob5, rv ob22, jv (own_key p0 p1), .second, jv (own_key y0 y1), .second, iv 0, iv 1] [(.ref ob5), (.ref ob22)])) _
        exact k
      refine own_lift sg48 ?_
      show own_Go p.tables e below (T46.setTop (mkF m 118 #[iv p0, iv p1, iv p2, iv p3, iv p4, iv y0, iv y1, rv ob5, rv ob22, jv (own_key p0 p1), .second, jv (own_key y0 y1), .second, iv 0, iv 1] [(.ref ob5), (.ref ob22)])) _
      obtain ⟨cq49, kq49, q49a, q49b, q49c⟩ := isOf hZ e46 p38_1
      obtain ⟨_, _, ⟨T49, Lx49, kx49, nx49⟩, -, X49, ⟨Lc49, hQ49, lx49, yx49, zx49⟩, st49⟩ := X46.virtualBack hx (y := (⟨"com/example/libprocgraph/libprocgraph/reader/InvalidModelException", "precedes", "(Lcom/example/libprocgraph/libprocgraph/reader/InvalidModelException;)Z"⟩ : MethodName)) (z := (⟨"com/example/libprocgraph/libprocgraph/reader/InvalidModelException", "precedes", "(Lcom/example/libprocgraph/libprocgraph/reader/InvalidModelException;)Z"⟩ : MethodName)) hown (mvT hZ (wd hw 74 rfl)) (mvT hZ (wd hw 75 rfl)) (notFace_of_selects (args := #[]) (mvT hZ (wd hw 77 rfl))) (mvT hZ (wd hw 77 rfl)) (mvT hZ (wd hw 76 rfl)) (by decide) (backOf (W := 0) (rmPr3 l Z a0 hw [] ob22 ob5 y0 y1 p0 p1 T38.heap n0 Z38 p38_2 p38_3 Fc44 Fc45 l2 (Eq.symm ee) k2) hZ (wd hw 78 rfl) (wd hw 2 rfl) (by decide) (by decide)) q49a q49c (g := (mkF m 118 #[iv p0, iv p1, iv p2, iv p3, iv p4, iv y0, iv y1, rv ob5, rv ob22, jv (own_key p0 p1), .second, jv (own_key y0 y1), .second, iv 0, iv 1] [(.ref ob5), (.ref ob22)])) rfl (by rw [hml]; rfl) (Steps.refl _) (argsL := [(.ref ob5)]) (rest := []) (lenOf pd_3 rfl) rfl (by show 2 * 0 + _ ≤ _; exact Nat.le_of_eq rfl) (hb hby at_118) (fun _ _ => ⟨rfl, e46, (by decide : 8 + 0 ≤ _), (by decide : 5536 + 0 ≤ _)⟩)
      dsimp only [Pt.U, Pt.locs, Pt.cells, Pt.slots] at X49 lx49 yx49 zx49 st49 hQ49
      subst lx49 yx49 zx49
      obtain ⟨rfl, N49q, e49⟩ := hQ49
      have N49 := Fr.app N46 N49q
      refine own_lift (fun t k => st49.trans k) ?_
      show own_Go p.tables e below (T49.setTop (mkF m 121 #[iv p0, iv p1, iv p2, iv p3, iv p4, iv y0, iv y1, rv ob5, rv ob22, jv (own_key p0 p1), .second, jv (own_key y0 y1), .second, iv 0, iv 1] [(.int 1)])) _
      have sg50 : ∀ t, Steps p.tables e below (T49.setTop (mkF m 131 #[iv p0, iv p1, iv p2, iv p3, iv p4, iv y0, iv y1, rv ob5, rv ob22, jv (own_key p0 p1), .second, jv (own_key y0 y1), .second, iv 0, iv 1] [(.int 1)])) t → Steps p.tables e below (T49.setTop (mkF m 121 #[iv p0, iv p1, iv p2, iv p3, iv p4, iv y0, iv y1, rv ob5, rv ob22, jv (own_key p0 p1), .second, jv (own_key y0 y1), .second, iv 0, iv 1] [(.int 1)])) t := by
        intro t k
        refine XS.iload X49.here hx rfl (hb hby at_121) rfl ?_
        show Steps p.tables e below (T49.setTop (mkF m 123 #[iv p0, iv p1, iv p2, iv p3, iv p4, iv y0, iv y1, rv ob5, rv ob22, jv (own_key p0 p1), .second, jv (own_key y0 y1), .second, iv 0, iv 1] [(.int 1), (.int 1)])) _
        refine XS.icmpNo X49.here hx rfl (hb hby at_123) rfl (teq (by decide : (1 : Int32) = (1 : Int32))).2 ?_
        refine XS.iconst X49.here hx rfl (hb hby at_126) ?_
        show Steps p.tables e below (T49.setTop (mkF m 127 #[iv p0, iv p1, iv p2, iv p3, iv p4, iv y0, iv y1, rv ob5, rv ob22, jv (own_key p0 p1), .second, jv (own_key y0 y1), .second, iv 0, iv 1] [(.int 1)])) _
        refine XS.goto X49.here hx rfl (pc0 := 127) (pc' := 131) rfl (hb hby at_127) (by decide) (by decide) ?_
        show Steps p.tables e below (T49.setTop (mkF m 131 #[iv p0, iv p1, iv p2, iv p3, iv p4, iv y0, iv y1, rv ob5, rv ob22, jv (own_key p0 p1), .second, jv (own_key y0 y1), .second, iv 0, iv 1] [(.int 1)])) _
        exact k
      refine own_lift sg50 ?_
      show own_Go p.tables e below (T49.setTop (mkF m 131 #[iv p0, iv p1, iv p2, iv p3, iv p4, iv y0, iv y1, rv ob5, rv ob22, jv (own_key p0 p1), .second, jv (own_key y0 y1), .second, iv 0, iv 1] [(.int 1)])) _
      obtain ⟨fs, hr, hrun, hended, hRW⟩ := X49.leaveW (s := s) Sx25 (by rw [e49]; exact Q38) (v := some (.int 1)) (fun h => by rw [Bd.returns] at h; cases h) Bd.notSynchronized
      refine ⟨_, _, ?_, hrun, hended, _, _, rfl, ?_, own_monoW hRW (by decide) (by decide)⟩
      · exact retN X49 hx (t := .boolean) Bd.returns (by simp) (hb hby at_131) hr
      · show Q0 Z  h0 n0 _ T49.heap _
        rw [e49]
        exact ⟨rfl, N49⟩
    by_cases b2 : (p4 &&& (2 : Int32)) = (0 : Int32)
    · have sg51 : ∀ t, Steps p.tables e below (T1.setTop (mkF m 26 #[iv p0, iv p1, iv p2, iv p3, iv p4, iv y0, .unset, .unset, .unset, .unset, .unset, .unset, .unset, .unset, .unset] [(.int p3)])) t → Steps p.tables e below (T1.setTop (mkF m 14 #[iv p0, iv p1, iv p2, iv p3, iv p4, iv y0, .unset, .unset, .unset, .unset, .unset, .unset, .unset, .unset, .unset] [])) t := by
        intro t k
        refine XS.iload X1.here hx rfl (hb hby at_14) rfl ?_
        show Steps p.tables e below (T1.setTop (mkF m 16 #[iv p0, iv p1, iv p2, iv p3, iv p4, iv y0, .unset, .unset, .unset, .unset, .unset, .unset, .unset, .unset, .unset] [(.int p4)])) _
        refine XS.iconst X1.here hx rfl (hb hby at_16) ?_
        refine XS.iand X1.here hx rfl (hb hby at_17) rfl ?_
        show Steps p.tables e below (T1.setTop (mkF m 18 #[iv p0, iv p1, iv p2, iv p3, iv p4, iv y0, .unset, .unset, .unset, .unset, .unset, .unset, .unset, .unset, .unset] [(.int (p4 &&& (2 : Int32)))])) _
        refine XS.ifYes X1.here hx rfl (pc0 := 18) (pc' := 25) rfl (hb hby at_18) rfl ((if0 _ _).trans (teq b2).1) (by decide) (by decide) ?_
        refine XS.iloadN X1.here hx rfl (hb hby at_25) rfl ?_
        show Steps p.tables e below (T1.setTop (mkF m 26 #[iv p0, iv p1, iv p2, iv p3, iv p4, iv y0, .unset, .unset, .unset, .unset, .unset, .unset, .unset, .unset, .unset] [(.int p3)])) _
        exact k
      refine own_lift sg51 ?_
      show own_Go p.tables e below (T1.setTop (mkF m 26 #[iv p0, iv p1, iv p2, iv p3, iv p4, iv y0, .unset, .unset, .unset, .unset, .unset, .unset, .unset, .unset, .unset] [(.int p3)])) _
      rw [show y1 = p3 from (hy1.trans (if_pos b2))] at join3
      exact join3 _ _ X1 e1 N1
    · have sg52 : ∀ t, Steps p.tables e below (T1.setTop (mkF m 26 #[iv p0, iv p1, iv p2, iv p3, iv p4, iv y0, .unset, .unset, .unset, .unset, .unset, .unset, .unset, .unset, .unset] [(.int p1)])) t → Steps p.tables e below (T1.setTop (mkF m 14 #[iv p0, iv p1, iv p2, iv p3, iv p4, iv y0, .unset, .unset, .unset, .unset, .unset, .unset, .unset, .unset, .unset] [])) t := by
        intro t k
        refine XS.iload X1.here hx rfl (hb hby at_14) rfl ?_
        show Steps p.tables e below (T1.setTop (mkF m 16 #[iv p0, iv p1, iv p2, iv p3, iv p4, iv y0, .unset, .unset, .unset, .unset, .unset, .unset, .unset, .unset, .unset] [(.int p4)])) _
        refine XS.iconst X1.here hx rfl (hb hby at_16) ?_
        refine XS.iand X1.here hx rfl (hb hby at_17) rfl ?_
        show Steps p.tables e below (T1.setTop (mkF m 18 #[iv p0, iv p1, iv p2, iv p3, iv p4, iv y0, .unset, .unset, .unset, .unset, .unset, .unset, .unset, .unset, .unset] [(.int (p4 &&& (2 : Int32)))])) _
        refine XS.ifNo X1.here hx rfl (hb hby at_18) rfl ((if0 _ _).trans (feq b2).1) ?_
        refine XS.iloadN X1.here hx rfl (hb hby at_21) rfl ?_
        show Steps p.tables e below (T1.setTop (mkF m 22 #[iv p0, iv p1, iv p2, iv p3, iv p4, iv y0, .unset, .unset, .unset, .unset, .unset, .unset, .unset, .unset, .unset] [(.int p1)])) _
        refine XS.goto X1.here hx rfl (pc0 := 22) (pc' := 26) rfl (hb hby at_22) (by decide) (by decide) ?_
        show Steps p.tables e below (T1.setTop (mkF m 26 #[iv p0, iv p1, iv p2, iv p3, iv p4, iv y0, .unset, .unset, .unset, .unset, .unset, .unset, .unset, .unset, .unset] [(.int p1)])) _
        exact k
      refine own_lift sg52 ?_
      show own_Go p.tables e below (T1.setTop (mkF m 26 #[iv p0, iv p1, iv p2, iv p3, iv p4, iv y0, .unset, .unset, .unset, .unset, .unset, .unset, .unset, .unset, .unset] [(.int p1)])) _
      rw [show y1 = p1 from (hy1.trans (if_neg b2))] at join3
      exact join3 _ _ X1 e1 N1
  by_cases b1 : (p4 &&& (1 : Int32)) = (0 : Int32)
  · have sg53 : ∀ t, Steps p.tables e below (s₁.setTop (mkF m 12 #[iv p0, iv p1, iv p2, iv p3, iv p4, .unset, .unset, .unset, .unset, .unset, .unset, .unset, .unset, .unset, .unset] [(.int p2)])) t → Steps p.tables e below (s₁.setTop (mkF m 0 #[iv p0, iv p1, iv p2, iv p3, iv p4, .unset, .unset, .unset, .unset, .unset, .unset, .unset, .unset, .unset, .unset] [])) t := by
      intro t k
      refine XS.iload X0.here hx rfl (hb hby at_0) rfl ?_
      show Steps p.tables e below (s₁.setTop (mkF m 2 #[iv p0, iv p1, iv p2, iv p3, iv p4, .unset, .unset, .unset, .unset, .unset, .unset, .unset, .unset, .unset, .unset] [(.int p4)])) _
      refine XS.iconst X0.here hx rfl (hb hby at_2) ?_
      refine XS.iand X0.here hx rfl (hb hby at_3) rfl ?_
      show Steps p.tables e below (s₁.setTop (mkF m 4 #[iv p0, iv p1, iv p2, iv p3, iv p4, .unset, .unset, .unset, .unset, .unset, .unset, .unset, .unset, .unset, .unset] [(.int (p4 &&& (1 : Int32)))])) _
      refine XS.ifYes X0.here hx rfl (pc0 := 4) (pc' := 11) rfl (hb hby at_4) rfl ((if0 _ _).trans (teq b1).1) (by decide) (by decide) ?_
      refine XS.iloadN X0.here hx rfl (hb hby at_11) rfl ?_
      show Steps p.tables e below (s₁.setTop (mkF m 12 #[iv p0, iv p1, iv p2, iv p3, iv p4, .unset, .unset, .unset, .unset, .unset, .unset, .unset, .unset, .unset, .unset] [(.int p2)])) _
      exact k
    refine own_lift sg53 ?_
    show own_Go p.tables e below (s₁.setTop (mkF m 12 #[iv p0, iv p1, iv p2, iv p3, iv p4, .unset, .unset, .unset, .unset, .unset, .unset, .unset, .unset, .unset, .unset] [(.int p2)])) _
    rw [show y0 = p2 from (hy0.trans (if_pos b1))] at join1
    exact join1 _ _ X0 e0 N0
  · have sg54 : ∀ t, Steps p.tables e below (s₁.setTop (mkF m 12 #[iv p0, iv p1, iv p2, iv p3, iv p4, .unset, .unset, .unset, .unset, .unset, .unset, .unset, .unset, .unset, .unset] [(.int p0)])) t → Steps p.tables e below (s₁.setTop (mkF m 0 #[iv p0, iv p1, iv p2, iv p3, iv p4, .unset, .unset, .unset, .unset, .unset, .unset, .unset, .unset, .unset, .unset] [])) t := by
      intro t k
      refine XS.iload X0.here hx rfl (hb hby at_0) rfl ?_
      show Steps p.tables e below (s₁.setTop (mkF m 2 #[iv p0, iv p1, iv p2, iv p3, iv p4, .unset, .unset, .unset, .unset, .unset, .unset, .unset, .unset, .unset, .unset] [(.int p4)])) _
      refine XS.iconst X0.here hx rfl (hb hby at_2) ?_
      refine XS.iand X0.here hx rfl (hb hby at_3) rfl ?_
      show Steps p.tables e below (s₁.setTop (mkF m 4 #[iv p0, iv p1, iv p2, iv p3, iv p4, .unset, .unset, .unset, .unset, .unset, .unset, .unset, .unset, .unset, .unset] [(.int (p4 &&& (1 : Int32)))])) _
      refine XS.ifNo X0.here hx rfl (hb hby at_4) rfl ((if0 _ _).trans (feq b1).1) ?_
      refine XS.iloadN X0.here hx rfl (hb hby at_7) rfl ?_
      show Steps p.tables e below (s₁.setTop (mkF m 8 #[iv p0, iv p1, iv p2, iv p3, iv p4, .unset, .unset, .unset, .unset, .unset, .unset, .unset, .unset, .unset, .unset] [(.int p0)])) _
      refine XS.goto X0.here hx rfl (pc0 := 8) (pc' := 12) rfl (hb hby at_8) (by decide) (by decide) ?_
      show Steps p.tables e below (s₁.setTop (mkF m 12 #[iv p0, iv p1, iv p2, iv p3, iv p4, .unset, .unset, .unset, .unset, .unset, .unset, .unset, .unset, .unset, .unset] [(.int p0)])) _
      exact k
    refine own_lift sg54 ?_
    show own_Go p.tables e below (s₁.setTop (mkF m 12 #[iv p0, iv p1, iv p2, iv p3, iv p4, .unset, .unset, .unset, .unset, .unset, .unset, .unset, .unset, .unset, .unset] [(.int p0)])) _
    rw [show y0 = p0 from (hy0.trans (if_neg b1))] at join1
    exact join1 _ _ X0 e0 N0
theorem ef_rm0_5 (m : MethodId) (x0 : Int32) (x1 : Int32) (x2 : Int32) (x3 : Int32) (x4 : Int32) : entryFrame m #[(.int x0), (.int x1), (.int x2), (.int x3), (.int x4)] maxLocals = mkF m 0 #[.val (.int x0), .val (.int x1), .val (.int x2), .val (.int x3), .val (.int x4), .unset, .unset, .unset, .unset, .unset, .unset, .unset, .unset, .unset, .unset] [] := by first | (simp [entryFrame, mkF, argsToLocals, Value.category, maxLocals]; done) | rfl
set_option maxRecDepth 65536 in
set_option maxHeartbeats 40000000 in
theorem rm0_5 (l : Launch) (Z : State) (a0 : Array Value) (hw : ∀ d ∈ tables_1, d.before a0 Z = true) (ws : List Jvm.Cond) (p0 : Int32) (p1 : Int32) (p2 : Int32) (p3 : Int32) (p4 : Int32) (u1 : Value) (u2 : Value) (y0 : Int32) (y1 : Int32) (h0 : Heap) (n0 : Nat) (Z0 : n0 ≤ h0.size) (TS : ThS Z h0) (Su1 : Sta Z h0 "java/lang/Throwable" "UNASSIGNED_STACK" "[Ljava/lang/StackTraceElement;" u1) (Su2 : Sta Z h0 "java/lang/Throwable" "SUPPRESSED_SENTINEL" "Ljava/util/List;" u2) (hl : l.stackTraces = true) (P_u1 : u1.isRef = true) (P_u2 : u2.isRef = true) (hy0 : y0 = if (p4 &&& (1 : Int32)) = (0 : Int32) then p2 else p0) (hy1 : y1 = if (p4 &&& (2 : Int32)) = (0 : Int32) then p3 else p1) (l1 : ¬ (p0 < y0)) (l2 : y0 < p0) (ee : ¬ (p0 = y0)) (ab : ¬ ((own_key p0 p1) < (own_key y0 y1))) (ba : (own_key y0 y1) < (own_key p0 p1)) :
    MetFree l x (head1 (Jvm.Cond.code x code maxLocals ret :: ws) room_1) (fun a U => a = #[(.int p0), (.int p1), (.int p2), (.int p3), (.int p4)] ∧ Z.Warmed39 U.vm ∧ U.heap = h0) (fun _ _ _ s _ => Jvm.Pilot.@@N@@.Jvm.D.framesKnown s = true ∧ Jvm.Pilot.@@N@@.Jvm.D.tablesKnown s = true) (fun _ U o U' => ∃ v L, o = .returned v ∧ Q0 Z  h0 n0 v U'.heap L ∧ ReturnedEndW U o U' L 24 13184) := by
  refine MetFree.of_bodySF (plainFor_of_name pn_3) hisR ?_
  intro p e s m args below meth c s₁ Bd hml0 hP hK
  obtain ⟨rfl, hZ, hh⟩ := hP
  have hx := Bd.exec
  have hby := Bd.bytes
  have hml : c.maxLocals = 15 := hml0
  have hown : s.vm.findClass "com/example/libprocgraph/libprocgraph/reader/InvalidModelExceptionPrecedesPinLaw" = some m.cls := findClass_of_methodNamed Bd.named
  have hnm := (name_of_methodNamed Bd.named Bd.method).1
  have X0 : Stand p l e room_1 s m #[(.int p0), (.int p1), (.int p2), (.int p3), (.int p4)] below meth c s₁ [] 0 0 := Stand.of_body Bd
  have e0 : s₁.heap = h0 := by rw [← hh, Bd.state]; rfl
  have N0 := Fr.nil n0
  obtain ⟨hTK0, hBelow0⟩ := X0.known hK.2 hK.1
  have hTK := hTK0
  have hBelow := hBelow0
  have X0 : Stand p l e room_1 (s.setVm s.vm) m #[(.int p0), (.int p1), (.int p2), (.int p3), (.int p4)] below meth c s₁ [] 0 0 := X0
  have own_sn : s.Since s.vm s.heap.size := (State.WarmedH.refl s).since _
  have own_ss : s.heap.size ≤ h0.size := by rw [hh]; exact Nat.le_refl _
  have own_strw' := own_strw hw
  refine own_go (own_lift (fun t k => castTop (ef_rm0_5 m p0 p1 p2 p3 p4) k) ?_)
  show own_Go p.tables e below (s₁.setTop (mkF m 0 #[iv p0, iv p1, iv p2, iv p3, iv p4, .unset, .unset, .unset, .unset, .unset, .unset, .unset, .unset, .unset, .unset] [])) _
  have join1 : ∀ (T1 : State) (locs1 : List Loc), Stand p l e room_1 s m #[(.int p0), (.int p1), (.int p2), (.int p3), (.int p4)] below meth c T1 locs1 0 0 → T1.heap = h0 → Fr n0 locs1 → own_Go p.tables e below (T1.setTop (mkF m 12 #[iv p0, iv p1, iv p2, iv p3, iv p4, .unset, .unset, .unset, .unset, .unset, .unset, .unset, .unset, .unset, .unset] [(.int y0)])) (fun s₂ o => s₂.status = .running ∧ Ended s₂ below o ∧ ∃ v L, o = .returned v ∧ Q0 Z  h0 n0 v s₂.heap L ∧ ReturnedEndW s o s₂ L 24 13184) := by
    intro T1 locs1 X1 e1 N1
    have sg2 : ∀ t, Steps p.tables e below (T1.setTop (mkF m 14 #[iv p0, iv p1, iv p2, iv p3, iv p4, iv y0, .unset, .unset, .unset, .unset, .unset, .unset, .unset, .unset, .unset] [])) t → Steps p.tables e below (T1.setTop (mkF m 12 #[iv p0, iv p1, iv p2, iv p3, iv p4, .unset, .unset, .unset, .unset, .unset, .unset, .unset, .unset, .unset, .unset] [(.int y0)])) t := by
      intro t k
      refine XS.istore X1.here hx rfl (hb hby at_12) rfl (l' := #[iv p0, iv p1, iv p2, iv p3, iv p4, iv y0, .unset, .unset, .unset, .unset, .unset, .unset, .unset, .unset, .unset]) rfl ?_
      show Steps p.tables e below (T1.setTop (mkF m 14 #[iv p0, iv p1, iv p2, iv p3, iv p4, iv y0, .unset, .unset, .unset, .unset, .unset, .unset, .unset, .unset, .unset] [])) _
      exact k
    refine own_lift sg2 ?_
    show own_Go p.tables e below (T1.setTop (mkF m 14 #[iv p0, iv p1, iv p2, iv p3, iv p4, iv y0, .unset, .unset, .unset, .unset, .unset, .unset, .unset, .unset, .unset] [])) _
    have join3 : ∀ (T3 : State) (locs3 : List Loc), Stand p l e room_1 s m #[(.int p0), (.int p1), (.int p2), (.int p3), (.int p4)] below meth c T3 locs3 0 0 → T3.heap = h0 → Fr n0 locs3 → own_Go p.tables e below (T3.setTop (mkF m 26 #[iv p0, iv p1, iv p2, iv p3, iv p4, iv y0, .unset, .unset, .unset, .unset, .unset, .unset, .unset, .unset, .unset] [(.int y1)])) (fun s₂ o => s₂.status = .running ∧ Ended s₂ below o ∧ ∃ v L, o = .returned v ∧ Q0 Z  h0 n0 v s₂.heap L ∧ ReturnedEndW s o s₂ L 24 13184) := by
      intro T3 locs3 X3 e3 N3
      have sg4 : ∀ t, Steps p.tables e below (T3.setTop (mkF m 28 #[iv p0, iv p1, iv p2, iv p3, iv p4, iv y0, iv y1, .unset, .unset, .unset, .unset, .unset, .unset, .unset, .unset] [])) t → Steps p.tables e below (T3.setTop (mkF m 26 #[iv p0, iv p1, iv p2, iv p3, iv p4, iv y0, .unset, .unset, .unset, .unset, .unset, .unset, .unset, .unset, .unset] [(.int y1)])) t := by
        intro t k
        refine XS.istore X3.here hx rfl (hb hby at_26) rfl (l' := #[iv p0, iv p1, iv p2, iv p3, iv p4, iv y0, iv y1, .unset, .unset, .unset, .unset, .unset, .unset, .unset, .unset]) rfl ?_
        show Steps p.tables e below (T3.setTop (mkF m 28 #[iv p0, iv p1, iv p2, iv p3, iv p4, iv y0, iv y1, .unset, .unset, .unset, .unset, .unset, .unset, .unset, .unset] [])) _
        exact k
      refine own_lift sg4 ?_
      show own_Go p.tables e below (T3.setTop (mkF m 28 #[iv p0, iv p1, iv p2, iv p3, iv p4, iv y0, iv y1, .unset, .unset, .unset, .unset, .unset, .unset, .unset, .unset] [])) _
      obtain ⟨T5, h5, X5, e5, Ex5, Ax5, Dx5, Ux5, st5⟩ := newO X3 hx hZ hown (wd hw 0 rfl) (wd hw 1 rfl) (wd hw 2 rfl) e3 (g := (mkF m 28 #[iv p0, iv p1, iv p2, iv p3, iv p4, iv y0, iv y1, .unset, .unset, .unset, .unset, .unset, .unset, .unset, .unset] [])) rfl (hb hby at_28) (by decide) (by decide)
      obtain ⟨ob5, g5⟩ : ∃ z, z = h0.size := ⟨_, rfl⟩
      rw [← g5] at Ax5 Dx5 Ux5 st5
      have Q5 : s.heap.size ≤ h5.size := Nat.le_trans own_ss Ex5.1
      have Z5 : n0 ≤ h5.size := Nat.le_trans Z0 Ex5.1
      have ge5 : n0 ≤ ob5 := Nat.le_trans Z0 (Nat.le_of_eq g5.symm)
      have Ux5 : Unt h5 ob5 := Ux5
      have Fn5_29 : Fld Z h5 ob5 "java/lang/Throwable" "cause" "Ljava/lang/Throwable;" .null := Dx5 (Or.inl (wd hw 29 rfl)) (ty := (.object "java/lang/Throwable")) (by decide)
      have Fn5_32 : Fld Z h5 ob5 "java/lang/Throwable" "stackTrace" "[Ljava/lang/StackTraceElement;" .null := Dx5 (Or.inl (wd hw 32 rfl)) (ty := (.array (.object "java/lang/StackTraceElement"))) (by decide)
      have Fn5_35 : Fld Z h5 ob5 "java/lang/Throwable" "suppressedExceptions" "Ljava/util/List;" .null := Dx5 (Or.inl (wd hw 35 rfl)) (ty := (.object "java/util/List")) (by decide)
      have Fn5_59 : Fld Z h5 ob5 "java/lang/Throwable" "detailMessage" "Ljava/lang/String;" .null := Dx5 (Or.inl (wd hw 59 rfl)) (ty := (.object "java/lang/String")) (by decide)
      have Fn5_60 : Fld Z h5 ob5 "java/lang/Throwable" "backtrace" "Ljava/lang/Object;" .null := Dx5 (Or.inl (wd hw 60 rfl)) (ty := (.object "java/lang/Object")) (by decide)
      have Fn5_61 : Fld Z h5 ob5 "java/lang/Throwable" "depth" "I" (.int 0) := Dx5 (Or.inl (wd hw 61 rfl)) (ty := .int) (by decide)
      have Fn5_65 : Fld Z h5 ob5 "com/example/libprocgraph/libprocgraph/reader/InvalidModelException" "line" "I" (.int 0) := Dx5 (Or.inr (wd hw 65 rfl)) (ty := .int) (by decide)
      have Fn5_67 : Fld Z h5 ob5 "com/example/libprocgraph/libprocgraph/reader/InvalidModelException" "column" "I" (.int 0) := Dx5 (Or.inr (wd hw 67 rfl)) (ty := .int) (by decide)
      refine own_lift st5 ?_
      show own_Go p.tables e below (T5.setTop (mkF m 31 #[iv p0, iv p1, iv p2, iv p3, iv p4, iv y0, iv y1, .unset, .unset, .unset, .unset, .unset, .unset, .unset, .unset] [(.ref ob5)])) _
      have sg6 : ∀ t, Steps p.tables e below (T5.setTop (mkF m 34 #[iv p0, iv p1, iv p2, iv p3, iv p4, iv y0, iv y1, .unset, .unset, .unset, .unset, .unset, .unset, .unset, .unset] [(.int p1), (.int p0), (.ref ob5), (.ref ob5)])) t → Steps p.tables e below (T5.setTop (mkF m 31 #[iv p0, iv p1, iv p2, iv p3, iv p4, iv y0, iv y1, .unset, .unset, .unset, .unset, .unset, .unset, .unset, .unset] [(.ref ob5)])) t := by
        intro t k
        refine XS.dup X5.here hx rfl (hb hby at_31) rfl rfl ?_
        show Steps p.tables e below (T5.setTop (mkF m 32 #[iv p0, iv p1, iv p2, iv p3, iv p4, iv y0, iv y1, .unset, .unset, .unset, .unset, .unset, .unset, .unset, .unset] [(.ref ob5), (.ref ob5)])) _
        refine XS.iloadN X5.here hx rfl (hb hby at_32) rfl ?_
        refine XS.iloadN X5.here hx rfl (hb hby at_33) rfl ?_
        show Steps p.tables e below (T5.setTop (mkF m 34 #[iv p0, iv p1, iv p2, iv p3, iv p4, iv y0, iv y1, .unset, .unset, .unset, .unset, .unset, .unset, .unset, .unset] [(.int p1), (.int p0), (.ref ob5), (.ref ob5)])) _
        exact k
      refine own_lift sg6 ?_
      show own_Go p.tables e below (T5.setTop (mkF m 34 #[iv p0, iv p1, iv p2, iv p3, iv p4, iv y0, iv y1, .unset, .unset, .unset, .unset, .unset, .unset, .unset, .unset] [(.int p1), (.int p0), (.ref ob5), (.ref ob5)])) _
      obtain ⟨sa7, T7, h7, kk7, X7, e7, Ex7, Sx7, Q7, hZ, hown, st7⟩ := ldcS (s := s) X5 hx hZ hown (wd hw 3 rfl) own_strw' e5 own_sn Q5 (g := (mkF m 34 #[iv p0, iv p1, iv p2, iv p3, iv p4, iv y0, iv y1, .unset, .unset, .unset, .unset, .unset, .unset, .unset, .unset] [(.int p1), (.int p0), (.ref ob5), (.ref ob5)])) rfl (hb hby at_34) (n := 4) (by decide) (by decide) (by decide) (by decide)
      have hTK := Vm.MethodsKnown.alikeC Sx7.1.alike hTK0
      have hBelow := Vm.FramesKnown.alikeC Sx7.1.alike hBelow0
      have Z7 : n0 ≤ h7.size := Nat.le_trans Z5 Ex7.1
      refine own_lift st7 ?_
      show own_Go p.tables e below (T7.setTop (mkF m 36 #[iv p0, iv p1, iv p2, iv p3, iv p4, iv y0, iv y1, .unset, .unset, .unset, .unset, .unset, .unset, .unset, .unset] [(.ref sa7), (.int p1), (.int p0), (.ref ob5), (.ref ob5)])) _
      have Fc8 : Exa Z h7 ob5 "com/example/libprocgraph/libprocgraph/reader/InvalidModelException" := (Ax5.ext Ex7)
      have Fc9 : Unt h7 ob5 := (Ux5.ext Ex7)
      have Fc10 : ThS Z h7 := ((TS.ext Ex5).ext Ex7)
      have Fc11 : Fld Z h7 ob5 "java/lang/Throwable" "cause" "Ljava/lang/Throwable;" .null := (Fn5_29.ext Ex7)
      have Fc12 : Fld Z h7 ob5 "java/lang/Throwable" "stackTrace" "[Ljava/lang/StackTraceElement;" .null := (Fn5_32.ext Ex7)
      have Fc13 : Fld Z h7 ob5 "java/lang/Throwable" "suppressedExceptions" "Ljava/util/List;" .null := (Fn5_35.ext Ex7)
      have Fc14 : Fld Z h7 ob5 "java/lang/Throwable" "backtrace" "Ljava/lang/Object;" .null := (Fn5_60.ext Ex7)
      have Fc15 : Fld Z h7 ob5 "java/lang/Throwable" "detailMessage" "Ljava/lang/String;" .null := (Fn5_59.ext Ex7)
      have Fc16 : Fld Z h7 ob5 "com/example/libprocgraph/libprocgraph/reader/InvalidModelException" "line" "I" (.int 0) := (Fn5_65.ext Ex7)
      have Fc17 : Fld Z h7 ob5 "com/example/libprocgraph/libprocgraph/reader/InvalidModelException" "column" "I" (.int 0) := (Fn5_67.ext Ex7)
      have Fc18 : Sta Z h7 "java/lang/Throwable" "UNASSIGNED_STACK" "[Ljava/lang/StackTraceElement;" u1 := ((Su1.ext Ex5).ext Ex7)
      have Fc19 : Sta Z h7 "java/lang/Throwable" "SUPPRESSED_SENTINEL" "Ljava/util/List;" u2 := ((Su2.ext Ex5).ext Ex7)
      obtain ⟨_, _, ⟨T20, Lx20, kx20, nx20⟩, -, X20, ⟨Lc20, hQ20, lx20, yx20, zx20⟩, st20⟩ := X7.specialBack hx (y := (⟨"com/example/libprocgraph/libprocgraph/reader/InvalidModelException", "<init>", "(IILjava/lang/String;)V"⟩ : MethodName)) rfl hown (mvT hZ (wd hw 11 rfl)) (mvT hZ (wd hw 12 rfl)) (mvT hZ (wd hw 13 rfl)) (by decide) (backOfKL (W := 1) (rmInit l Z a0 hw [] ob5 p0 p1 sa7 u1 u2 h7 n0 Z7 Fc8 Fc9 Fc10 Fc11 Fc12 Fc13 Fc14 Fc15 Fc16 Fc17 ge5 Fc18 Fc19 hl P_u1 P_u2) hZ (wd hw 13 rfl) (wd hw 2 rfl) (by decide) (by decide) hTK hBelow) (g := (mkF m 36 #[iv p0, iv p1, iv p2, iv p3, iv p4, iv y0, iv y1, .unset, .unset, .unset, .unset, .unset, .unset, .unset, .unset] [(.ref sa7), (.int p1), (.int p0), (.ref ob5), (.ref ob5)])) rfl (by rw [hml]; rfl) (Steps.refl _) (a := ob5) (argsL := [(.int p0), (.int p1), (.ref sa7)]) (rest := [(.ref ob5)]) (lenOf pd_1 rfl) rfl (by show 2 * 0 + _ ≤ _; exact Nat.le_of_eq rfl) (hb hby at_36) (fun _ _ => ⟨rfl, e7, (by decide : 3 + 1 ≤ _), (by decide : 16 + 2752 ≤ _)⟩)
      dsimp only [Pt.U, Pt.locs, Pt.cells, Pt.slots] at X20 lx20 yx20 zx20 st20 hQ20
      subst lx20 yx20 zx20
      obtain ⟨rfl, N20q, p20_0, p20_1, p20_2, p20_3⟩ := hQ20
      have N20 := Fr.app N3 N20q
      have Z20 : n0 ≤ T20.heap.size := Nat.le_trans Z7 p20_0.1
      have Q20 : kk7 ≤ T20.heap.size := Nat.le_trans Q7 p20_0.1
      refine own_lift (fun t k => st20.trans k) ?_
      show own_Go p.tables e below (T20.setTop (mkF m 39 #[iv p0, iv p1, iv p2, iv p3, iv p4, iv y0, iv y1, .unset, .unset, .unset, .unset, .unset, .unset, .unset, .unset] [(.ref ob5)])) _
      have sg21 : ∀ t, Steps p.tables e below (T20.setTop (mkF m 41 #[iv p0, iv p1, iv p2, iv p3, iv p4, iv y0, iv y1, rv ob5, .unset, .unset, .unset, .unset, .unset, .unset, .unset] [])) t → Steps p.tables e below (T20.setTop (mkF m 39 #[iv p0, iv p1, iv p2, iv p3, iv p4, iv y0, iv y1, .unset, .unset, .unset, .unset, .unset, .unset, .unset, .unset] [(.ref ob5)])) t := by
        intro t k
        refine XS.astore X20.here hx rfl (hb hby at_39) rfl rfl (l' := #[iv p0, iv p1, iv p2, iv p3, iv p4, iv y0, iv y1, rv ob5, .unset, .unset, .unset, .unset, .unset, .unset, .unset]) rfl ?_
        show Steps p.tables e below (T20.setTop (mkF m 41 #[iv p0, iv p1, iv p2, iv p3, iv p4, iv y0, iv y1, rv ob5, .unset, .unset, .unset, .unset, .unset, .unset, .unset] [])) _
        exact k
      refine own_lift sg21 ?_
      show own_Go p.tables e below (T20.setTop (mkF m 41 #[iv p0, iv p1, iv p2, iv p3, iv p4, iv y0, iv y1, rv ob5, .unset, .unset, .unset, .unset, .unset, .unset, .unset] [])) _
      obtain ⟨T22, h22, X22, e22, Ex22, Ax22, Dx22, Ux22, st22⟩ := newO X20 hx hZ hown (wd hw 0 rfl) (wd hw 1 rfl) (wd hw 2 rfl) rfl (g := (mkF m 41 #[iv p0, iv p1, iv p2, iv p3, iv p4, iv y0, iv y1, rv ob5, .unset, .unset, .unset, .unset, .unset, .unset, .unset] [])) rfl (hb hby at_41) (by decide) (by decide)
      obtain ⟨ob22, g22⟩ : ∃ z, z = T20.heap.size := ⟨_, rfl⟩
      rw [← g22] at Ax22 Dx22 Ux22 st22
      have ne23 : ob5 ≠ ob22 := Nat.ne_of_lt (Nat.lt_of_lt_of_le p20_1.lt (Nat.le_of_eq g22.symm))
      have Q22 : kk7 ≤ h22.size := Nat.le_trans Q20 Ex22.1
      have Z22 : n0 ≤ h22.size := Nat.le_trans Z20 Ex22.1
      have ge22 : n0 ≤ ob22 := Nat.le_trans Z20 (Nat.le_of_eq g22.symm)
      have Ux22 : Unt h22 ob22 := Ux22
      have Fn22_29 : Fld Z h22 ob22 "java/lang/Throwable" "cause" "Ljava/lang/Throwable;" .null := Dx22 (Or.inl (wd hw 29 rfl)) (ty := (.object "java/lang/Throwable")) (by decide)
      have Fn22_32 : Fld Z h22 ob22 "java/lang/Throwable" "stackTrace" "[Ljava/lang/StackTraceElement;" .null := Dx22 (Or.inl (wd hw 32 rfl)) (ty := (.array (.object "java/lang/StackTraceElement"))) (by decide)
      have Fn22_35 : Fld Z h22 ob22 "java/lang/Throwable" "suppressedExceptions" "Ljava/util/List;" .null := Dx22 (Or.inl (wd hw 35 rfl)) (ty := (.object "java/util/List")) (by decide)
      have Fn22_59 : Fld Z h22 ob22 "java/lang/Throwable" "detailMessage" "Ljava/lang/String;" .null := Dx22 (Or.inl (wd hw 59 rfl)) (ty := (.object "java/lang/String")) (by decide)
      have Fn22_60 : Fld Z h22 ob22 "java/lang/Throwable" "backtrace" "Ljava/lang/Object;" .null := Dx22 (Or.inl (wd hw 60 rfl)) (ty := (.object "java/lang/Object")) (by decide)
      have Fn22_61 : Fld Z h22 ob22 "java/lang/Throwable" "depth" "I" (.int 0) := Dx22 (Or.inl (wd hw 61 rfl)) (ty := .int) (by decide)
      have Fn22_65 : Fld Z h22 ob22 "com/example/libprocgraph/libprocgraph/reader/InvalidModelException" "line" "I" (.int 0) := Dx22 (Or.inr (wd hw 65 rfl)) (ty := .int) (by decide)
      have Fn22_67 : Fld Z h22 ob22 "com/example/libprocgraph/libprocgraph/reader/InvalidModelException" "column" "I" (.int 0) := Dx22 (Or.inr (wd hw 67 rfl)) (ty := .int) (by decide)
      refine own_lift st22 ?_
      show own_Go p.tables e below (T22.setTop (mkF m 44 #[iv p0, iv p1, iv p2, iv p3, iv p4, iv y0, iv y1, rv ob5, .unset, .unset, .unset, .unset, .unset, .unset, .unset] [(.ref ob22)])) _
      have sg24 : ∀ t, Steps p.tables e below (T22.setTop (mkF m 49 #[iv p0, iv p1, iv p2, iv p3, iv p4, iv y0, iv y1, rv ob5, .unset, .unset, .unset, .unset, .unset, .unset, .unset] [(.int y1), (.int y0), (.ref ob22), (.ref ob22)])) t → Steps p.tables e below (T22.setTop (mkF m 44 #[iv p0, iv p1, iv p2, iv p3, iv p4, iv y0, iv y1, rv ob5, .unset, .unset, .unset, .unset, .unset, .unset, .unset] [(.ref ob22)])) t := by
        intro t k
        refine XS.dup X22.here hx rfl (hb hby at_44) rfl rfl ?_
        show Steps p.tables e below (T22.setTop (mkF m 45 #[iv p0, iv p1, iv p2, iv p3, iv p4, iv y0, iv y1, rv ob5, .unset, .unset, .unset, .unset, .unset, .unset, .unset] [(.ref ob22), (.ref ob22)])) _
        refine XS.iload X22.here hx rfl (hb hby at_45) rfl ?_
        refine XS.iload X22.here hx rfl (hb hby at_47) rfl ?_
        show Steps p.tables e below (T22.setTop (mkF m 49 #[iv p0, iv p1, iv p2, iv p3, iv p4, iv y0, iv y1, rv ob5, .unset, .unset, .unset, .unset, .unset, .unset, .unset] [(.int y1), (.int y0), (.ref ob22), (.ref ob22)])) _
        exact k
      refine own_lift sg24 ?_
      show own_Go p.tables e below (T22.setTop (mkF m 49 #[iv p0, iv p1, iv p2, iv p3, iv p4, iv y0, iv y1, rv ob5, .unset, .unset, .unset, .unset, .unset, .unset, .unset] [(.int y1), (.int y0), (.ref ob22), (.ref ob22)])) _
      obtain ⟨sa25, T25, h25, kk25, X25, e25, Ex25, Sx25, Q25, hZ, hown, st25⟩ := ldcS (s := s) X22 hx hZ hown (wd hw 68 rfl) own_strw' e22 Sx7 Q22 (g := (mkF m 49 #[iv p0, iv p1, iv p2, iv p3, iv p4, iv y0, iv y1, rv ob5, .unset, .unset, .unset, .unset, .unset, .unset, .unset] [(.int y1), (.int y0), (.ref ob22), (.ref ob22)])) rfl (hb hby at_49) (n := 4) (by decide) (by decide) (by decide) (by decide)
      have hTK := Vm.MethodsKnown.alikeC Sx25.1.alike hTK0
      have hBelow := Vm.FramesKnown.alikeC Sx25.1.alike hBelow0
      have Z25 : n0 ≤ h25.size := Nat.le_trans Z22 Ex25.1
      refine own_lift st25 ?_
      show own_Go p.tables e below (T25.setTop (mkF m 51 #[iv p0, iv p1, iv p2, iv p3, iv p4, iv y0, iv y1, rv ob5, .unset, .unset, .unset, .unset, .unset, .unset, .unset] [(.ref sa25), (.int y1), (.int y0), (.ref ob22), (.ref ob22)])) _
      have Fc26 : Exa Z h25 ob22 "com/example/libprocgraph/libprocgraph/reader/InvalidModelException" := (Ax22.ext Ex25)
      have Fc27 : Unt h25 ob22 := (Ux22.ext Ex25)
      have Fc28 : ThS Z h25 := (((ThS.keep p20_0 (own_nost (allS (own_plain Fc8) all0)) Fc10).ext Ex22).ext Ex25)
      have Fc29 : Fld Z h25 ob22 "java/lang/Throwable" "cause" "Ljava/lang/Throwable;" .null := (Fn22_29.ext Ex25)
      have Fc30 : Fld Z h25 ob22 "java/lang/Throwable" "stackTrace" "[Ljava/lang/StackTraceElement;" .null := (Fn22_32.ext Ex25)
      have Fc31 : Fld Z h25 ob22 "java/lang/Throwable" "suppressedExceptions" "Ljava/util/List;" .null := (Fn22_35.ext Ex25)
      have Fc32 : Fld Z h25 ob22 "java/lang/Throwable" "backtrace" "Ljava/lang/Object;" .null := (Fn22_60.ext Ex25)
      have Fc33 : Fld Z h25 ob22 "java/lang/Throwable" "detailMessage" "Ljava/lang/String;" .null := (Fn22_59.ext Ex25)
      have Fc34 : Fld Z h25 ob22 "com/example/libprocgraph/libprocgraph/reader/InvalidModelException" "line" "I" (.int 0) := (Fn22_65.ext Ex25)
      have Fc35 : Fld Z h25 ob22 "com/example/libprocgraph/libprocgraph/reader/InvalidModelException" "column" "I" (.int 0) := (Fn22_67.ext Ex25)
      have Fc36 : Sta Z h25 "java/lang/Throwable" "UNASSIGNED_STACK" "[Ljava/lang/StackTraceElement;" u1 := (((own_Sta_keep Fc18 p20_0 (allS (own_plain Fc8) all0)).ext Ex22).ext Ex25)
      have Fc37 : Sta Z h25 "java/lang/Throwable" "SUPPRESSED_SENTINEL" "Ljava/util/List;" u2 := (((own_Sta_keep Fc19 p20_0 (allS (own_plain Fc8) all0)).ext Ex22).ext Ex25)
      obtain ⟨_, _, ⟨T38, Lx38, kx38, nx38⟩, -, X38, ⟨Lc38, hQ38, lx38, yx38, zx38⟩, st38⟩ := X25.specialBack hx (y := (⟨"com/example/libprocgraph/libprocgraph/reader/InvalidModelException", "<init>", "(IILjava/lang/String;)V"⟩ : MethodName)) rfl hown (mvT hZ (wd hw 11 rfl)) (mvT hZ (wd hw 12 rfl)) (mvT hZ (wd hw 13 rfl)) (by decide) (backOfKL (W := 1) (rmInit l Z a0 hw [] ob22 y0 y1 sa25 u1 u2 h25 n0 Z25 Fc26 Fc27 Fc28 Fc29 Fc30 Fc31 Fc32 Fc33 Fc34 Fc35 ge22 Fc36 Fc37 hl P_u1 P_u2) hZ (wd hw 13 rfl) (wd hw 2 rfl) (by decide) (by decide) hTK hBelow) (g := (mkF m 51 #[iv p0, iv p1, iv p2, iv p3, iv p4, iv y0, iv y1, rv ob5, .unset, .unset, .unset, .unset, .unset, .unset, .unset] [(.ref sa25), (.int y1), (.int y0), (.ref ob22), (.ref ob22)])) rfl (by rw [hml]; rfl) (Steps.refl _) (a := ob22) (argsL := [(.int y0), (.int y1), (.ref sa25)]) (rest := [(.ref ob22)]) (lenOf pd_1 rfl) rfl (by show 2 * 0 + _ ≤ _; exact Nat.le_of_eq rfl) (hb hby at_51) (fun _ _ => ⟨rfl, e25, (by decide : 7 + 1 ≤ _), (by decide : 2784 + 2752 ≤ _)⟩)
      dsimp only [Pt.U, Pt.locs, Pt.cells, Pt.slots] at X38 lx38 yx38 zx38 st38 hQ38
      subst lx38 yx38 zx38
      obtain ⟨rfl, N38q, p38_0, p38_1, p38_2, p38_3⟩ := hQ38
      have N38 := Fr.app N20 N38q
      have Z38 : n0 ≤ T38.heap.size := Nat.le_trans Z25 p38_0.1
      have Q38 : kk25 ≤ T38.heap.size := Nat.le_trans Q25 p38_0.1
      refine own_lift (fun t k => st38.trans k) ?_
      show own_Go p.tables e below (T38.setTop (mkF m 54 #[iv p0, iv p1, iv p2, iv p3, iv p4, iv y0, iv y1, rv ob5, .unset, .unset, .unset, .unset, .unset, .unset, .unset] [(.ref ob22)])) _
      have sg39 : ∀ t, Steps p.tables e below (T38.setTop (mkF m 58 #[iv p0, iv p1, iv p2, iv p3, iv p4, iv y0, iv y1, rv ob5, rv ob22, .unset, .unset, .unset, .unset, .unset, .unset] [(.int p1), (.int p0)])) t → Steps p.tables e below (T38.setTop (mkF m 54 #[iv p0, iv p1, iv p2, iv p3, iv p4, iv y0, iv y1, rv ob5, .unset, .unset, .unset, .unset, .unset, .unset, .unset] [(.ref ob22)])) t := by
        intro t k
        refine XS.astore X38.here hx rfl (hb hby at_54) rfl rfl (l' := #[iv p0, iv p1, iv p2, iv p3, iv p4, iv y0, iv y1, rv ob5, rv ob22, .unset, .unset, .unset, .unset, .unset, .unset]) rfl ?_
        show Steps p.tables e below (T38.setTop (mkF m 56 #[iv p0, iv p1, iv p2, iv p3, iv p4, iv y0, iv y1, rv ob5, rv ob22, .unset, .unset, .unset, .unset, .unset, .unset] [])) _
        refine XS.iloadN X38.here hx rfl (hb hby at_56) rfl ?_
        refine XS.iloadN X38.here hx rfl (hb hby at_57) rfl ?_
        show Steps p.tables e below (T38.setTop (mkF m 58 #[iv p0, iv p1, iv p2, iv p3, iv p4, iv y0, iv y1, rv ob5, rv ob22, .unset, .unset, .unset, .unset, .unset, .unset] [(.int p1), (.int p0)])) _
        exact k
      refine own_lift sg39 ?_
      show own_Go p.tables e below (T38.setTop (mkF m 58 #[iv p0, iv p1, iv p2, iv p3, iv p4, iv y0, iv y1, rv ob5, rv ob22, .unset, .unset, .unset, .unset, .unset, .unset] [(.int p1), (.int p0)])) _
      obtain ⟨_, _, ⟨T40, Lx40, kx40, nx40⟩, -, X40, ⟨Lc40, hQ40, lx40, yx40, zx40⟩, st40⟩ := Jvm.LawKit.callS X38 hx (y := (⟨"com/example/libprocgraph/libprocgraph/reader/InvalidModelExceptionPrecedesPinLaw", "key", "(II)J"⟩ : MethodName)) hown (mvT hZ (wd hw 69 rfl)) (mvT hZ (wd hw 70 rfl)) (mvT hZ (wd hw 71 rfl)) (mvT hZ (wd hw 72 rfl)) (by decide) (backOf (W := 0) (rmKey l Z a0 hw [] p0 p1 T38.heap n0 Z38 ) hZ (wd hw 72 rfl) (wd hw 71 rfl) (by decide) (by decide)) (g := (mkF m 58 #[iv p0, iv p1, iv p2, iv p3, iv p4, iv y0, iv y1, rv ob5, rv ob22, .unset, .unset, .unset, .unset, .unset, .unset] [(.int p1), (.int p0)])) rfl (by rw [hml]; rfl) (argsL := [(.int p0), (.int p1)]) (rest := []) (lenOf pd_2 rfl) rfl (by show 2 * 0 + _ ≤ _; exact Nat.le_of_eq rfl) (hb hby at_58) (fun _ _ => ⟨rfl, rfl, (by decide : 8 + 0 ≤ _), (by decide : 5536 + 0 ≤ _)⟩)
      dsimp only [Pt.U, Pt.locs, Pt.cells, Pt.slots] at X40 lx40 yx40 zx40 st40 hQ40
      subst lx40 yx40 zx40
      obtain ⟨rfl, N40q, e40⟩ := hQ40
      have N40 := Fr.app N38 N40q
      refine own_lift st40 ?_
      show own_Go p.tables e below (T40.setTop (mkF m 61 #[iv p0, iv p1, iv p2, iv p3, iv p4, iv y0, iv y1, rv ob5, rv ob22, .unset, .unset, .unset, .unset, .unset, .unset] [(.long (own_key p0 p1))])) _
      have sg41 : ∀ t, Steps p.tables e below (T40.setTop (mkF m 67 #[iv p0, iv p1, iv p2, iv p3, iv p4, iv y0, iv y1, rv ob5, rv ob22, jv (own_key p0 p1), .second, .unset, .unset, .unset, .unset] [(.int y1), (.int y0)])) t → Steps p.tables e below (T40.setTop (mkF m 61 #[iv p0, iv p1, iv p2, iv p3, iv p4, iv y0, iv y1, rv ob5, rv ob22, .unset, .unset, .unset, .unset, .unset, .unset] [(.long (own_key p0 p1))])) t := by
        intro t k
        refine XS.lstore X40.here hx rfl (hb hby at_61) rfl (l' := #[iv p0, iv p1, iv p2, iv p3, iv p4, iv y0, iv y1, rv ob5, rv ob22, jv (own_key p0 p1), .second, .unset, .unset, .unset, .unset]) rfl ?_
        show Steps p.tables e below (T40.setTop (mkF m 63 #[iv p0, iv p1, iv p2, iv p3, iv p4, iv y0, iv y1, rv ob5, rv ob22, jv (own_key p0 p1), .second, .unset, .unset, .unset, .unset] [])) _
        refine XS.iload X40.here hx rfl (hb hby at_63) rfl ?_
        refine XS.iload X40.here hx rfl (hb hby at_65) rfl ?_
        show Steps p.tables e below (T40.setTop (mkF m 67 #[iv p0, iv p1, iv p2, iv p3, iv p4, iv y0, iv y1, rv ob5, rv ob22, jv (own_key p0 p1), .second, .unset, .unset, .unset, .unset] [(.int y1), (.int y0)])) _
        exact k
      refine own_lift sg41 ?_
      show own_Go p.tables e below (T40.setTop (mkF m 67 #[iv p0, iv p1, iv p2, iv p3, iv p4, iv y0, iv y1, rv ob5, rv ob22, jv (own_key p0 p1), .second, .unset, .unset, .unset, .unset] [(.int y1), (.int y0)])) _
      obtain ⟨_, _, ⟨T42, Lx42, kx42, nx42⟩, -, X42, ⟨Lc42, hQ42, lx42, yx42, zx42⟩, st42⟩ := Jvm.LawKit.callS X40 hx (y := (⟨"com/example/libprocgraph/libprocgraph/reader/InvalidModelExceptionPrecedesPinLaw", "key", "(II)J"⟩ : MethodName)) hown (mvT hZ (wd hw 69 rfl)) (mvT hZ (wd hw 70 rfl)) (mvT hZ (wd hw 71 rfl)) (mvT hZ (wd hw 72 rfl)) (by decide) (backOf (W := 0) (rmKey l Z a0 hw [] y0 y1 T38.heap n0 Z38 ) hZ (wd hw 72 rfl) (wd hw 71 rfl) (by decide) (by decide)) (g := (mkF m 67 #[iv p0, iv p1, iv p2, iv p3, iv p4, iv y0, iv y1, rv ob5, rv ob22, jv (own_key p0 p1), .second, .unset, .unset, .unset, .unset] [(.int y1), (.int y0)])) rfl (by rw [hml]; rfl) (argsL := [(.int y0), (.int y1)]) (rest := []) (lenOf pd_2 rfl) rfl (by show 2 * 0 + _ ≤ _; exact Nat.le_of_eq rfl) (hb hby at_67) (fun _ _ => ⟨rfl, e40, (by decide : 8 + 0 ≤ _), (by decide : 5536 + 0 ≤ _)⟩)
      dsimp only [Pt.U, Pt.locs, Pt.cells, Pt.slots] at X42 lx42 yx42 zx42 st42 hQ42
      subst lx42 yx42 zx42
      obtain ⟨rfl, N42q, e42⟩ := hQ42
      have N42 := Fr.app N40 N42q
      refine own_lift st42 ?_
      show own_Go p.tables e below (T42.setTop (mkF m 70 #[iv p0, iv p1, iv p2, iv p3, iv p4, iv y0, iv y1, rv ob5, rv ob22, jv (own_key p0 p1), .second, .unset, .unset, .unset, .unset] [(.long (own_key y0 y1))])) _
      have sg43 : ∀ t, Steps p.tables e below (T42.setTop (mkF m 106 #[iv p0, iv p1, iv p2, iv p3, iv p4, iv y0, iv y1, rv ob5, rv ob22, jv (own_key p0 p1), .second, jv (own_key y0 y1), .second, iv 0, iv 1] [(.ref ob22), (.ref ob5)])) t → Steps p.tables e below (T42.setTop (mkF m 70 #[iv p0, iv p1, iv p2, iv p3, iv p4, iv y0, iv y1, rv ob5, rv ob22, jv (own_key p0 p1), .second, .unset, .unset, .unset, .unset] [(.long (own_key y0 y1))])) t := by
        intro t k
        refine XS.lstore X42.here hx rfl (hb hby at_70) rfl (l' := #[iv p0, iv p1, iv p2, iv p3, iv p4, iv y0, iv y1, rv ob5, rv ob22, jv (own_key p0 p1), .second, jv (own_key y0 y1), .second, .unset, .unset]) rfl ?_
        show Steps p.tables e below (T42.setTop (mkF m 72 #[iv p0, iv p1, iv p2, iv p3, iv p4, iv y0, iv y1, rv ob5, rv ob22, jv (own_key p0 p1), .second, jv (own_key y0 y1), .second, .unset, .unset] [])) _
        refine XS.lload X42.here hx rfl (hb hby at_72) rfl ?_
        refine XS.lload X42.here hx rfl (hb hby at_74) rfl ?_
        show Steps p.tables e below (T42.setTop (mkF m 76 #[iv p0, iv p1, iv p2, iv p3, iv p4, iv y0, iv y1, rv ob5, rv ob22, jv (own_key p0 p1), .second, jv (own_key y0 y1), .second, .unset, .unset] [(.long (own_key y0 y1)), (.long (own_key p0 p1))])) _
        refine XS.lcmp X42.here hx rfl (hb hby at_76) rfl ?_
        refine XS.ifYes X42.here hx rfl (pc0 := 77) (pc' := 84) rfl (hb hby at_77) rfl ((if0 _ _).trans (flt (fun q => ab ((lw_lt (own_key p0 p1) (own_key y0 y1)).1 q))).2.1) (by decide) (by decide) ?_
        show Steps p.tables e below (T42.setTop (mkF m 84 #[iv p0, iv p1, iv p2, iv p3, iv p4, iv y0, iv y1, rv ob5, rv ob22, jv (own_key p0 p1), .second, jv (own_key y0 y1), .second, .unset, .unset] [])) _
        refine XS.iconst X42.here hx rfl (hb hby at_84) ?_
        refine XS.istore X42.here hx rfl (hb hby at_85) rfl (l' := #[iv p0, iv p1, iv p2, iv p3, iv p4, iv y0, iv y1, rv ob5, rv ob22, jv (own_key p0 p1), .second, jv (own_key y0 y1), .second, iv 0, .unset]) rfl ?_
        show Steps p.tables e below (T42.setTop (mkF m 87 #[iv p0, iv p1, iv p2, iv p3, iv p4, iv y0, iv y1, rv ob5, rv ob22, jv (own_key p0 p1), .second, jv (own_key y0 y1), .second, iv 0, .unset] [])) _
        refine XS.lload X42.here hx rfl (hb hby at_87) rfl ?_
        refine XS.lload X42.here hx rfl (hb hby at_89) rfl ?_
        show Steps p.tables e below (T42.setTop (mkF m 91 #[iv p0, iv p1, iv p2, iv p3, iv p4, iv y0, iv y1, rv ob5, rv ob22, jv (own_key p0 p1), .second, jv (own_key y0 y1), .second, iv 0, .unset] [(.long (own_key p0 p1)), (.long (own_key y0 y1))])) _
        refine XS.lcmp X42.here hx rfl (hb hby at_91) rfl ?_
        refine XS.ifNo X42.here hx rfl (hb hby at_92) rfl ((if0 _ _).trans (tlt ((lw_lt (own_key y0 y1) (own_key p0 p1)).2 ba)).2.1) ?_
        show Steps p.tables e below (T42.setTop (mkF m 95 #[iv p0, iv p1, iv p2, iv p3, iv p4, iv y0, iv y1, rv ob5, rv ob22, jv (own_key p0 p1), .second, jv (own_key y0 y1), .second, iv 0, .unset] [])) _
        refine XS.iconst X42.here hx rfl (hb hby at_95) ?_
        refine XS.goto X42.here hx rfl (pc0 := 96) (pc' := 100) rfl (hb hby at_96) (by decide) (by decide) ?_
        show Steps p.tables e below (T42.setTop (mkF m 100 #[iv p0, iv p1, iv p2, iv p3, iv p4, iv y0, iv y1, rv ob5, rv ob22, jv (own_key p0 p1), .second, jv (own_key y0 y1), .second, iv 0, .unset] [(.int 1)])) _
        refine XS.istore X42.here hx rfl (hb hby at_100) rfl (l' := #[iv p0, iv p1, iv p2, iv p3, iv p4, iv y0, iv y1, rv ob5, rv ob22, jv (own_key p0 p1), .second, jv (own_key y0 y1), .second, iv 0, iv 1]) rfl ?_
        refine XS.aload X42.here hx rfl (hb hby at_102) rfl rfl ?_
        show Steps p.tables e below (T42.setTop (mkF m 104 #[iv p0, iv p1, iv p2, iv p3, iv p4, iv y0, iv y1, rv ob5, rv ob22, jv (own_key p0 p1), .second, jv (own_key y0 y1), .second, iv 0, iv 1] [(.ref ob5)])) _
        refine XS.aload X42.here hx rfl (hb hby at_104) rfl rfl ?_
        show Steps p.tables e below (T42.setTop (mkF m 106 #[iv p0, iv p1, iv p2, iv p3, iv p4, iv y0, iv y1, rv ob5, rv ob22, jv (own_key p0 p1), .second, jv (own_key y0 y1), .second, iv 0, iv 1] [(.ref ob22), (.ref ob5)])) _
        exact k
      refine own_lift sg43 ?_
      show own_Go p.tables e below (T42.setTop (mkF m 106 #[iv p0, iv p1, iv p2, iv p3, iv p4, iv y0, iv y1, rv ob5, rv ob22, jv (own_key p0 p1), .second, jv (own_key y0 y1), .second, iv 0, iv 1] [(.ref ob22), (.ref ob5)])) _
      have Fc44 : Fld Z T38.heap ob5 "com/example/libprocgraph/libprocgraph/reader/InvalidModelException" "line" "I" (.int p0) := (((p20_2.ext Ex22).ext Ex25).keep p38_0 (ninS ne23 nin0))
      have Fc45 : Fld Z T38.heap ob5 "com/example/libprocgraph/libprocgraph/reader/InvalidModelException" "column" "I" (.int p1) := (((p20_3.ext Ex22).ext Ex25).keep p38_0 (ninS ne23 nin0))
      have Fc47 : Exa Z T38.heap ob5 "com/example/libprocgraph/libprocgraph/reader/InvalidModelException" := (((p20_1.ext Ex22).ext Ex25).keep p38_0)
      obtain ⟨cq46, kq46, q46a, q46b, q46c⟩ := isOf hZ e42 Fc47
      obtain ⟨_, _, ⟨T46, Lx46, kx46, nx46⟩, -, X46, ⟨Lc46, hQ46, lx46, yx46, zx46⟩, st46⟩ := X42.virtualBack hx (y := (⟨"com/example/libprocgraph/libprocgraph/reader/InvalidModelException", "precedes", "(Lcom/example/libprocgraph/libprocgraph/reader/InvalidModelException;)Z"⟩ : MethodName)) (z := (⟨"com/example/libprocgraph/libprocgraph/reader/InvalidModelException", "precedes", "(Lcom/example/libprocgraph/libprocgraph/reader/InvalidModelException;)Z"⟩ : MethodName)) hown (mvT hZ (wd hw 74 rfl)) (mvT hZ (wd hw 75 rfl)) (notFace_of_selects (args := #[]) (mvT hZ (wd hw 77 rfl))) (mvT hZ (wd hw 77 rfl)) (mvT hZ (wd hw 76 rfl)) (by decide) (backOf (W := 0) (rmPr2 l Z a0 hw [] ob5 ob22 p0 p1 y0 y1 T38.heap n0 Z38 Fc44 Fc45 p38_2 p38_3 l1 ee) hZ (wd hw 78 rfl) (wd hw 2 rfl) (by decide) (by decide)) q46a q46c (g := (mkF m 106 #[iv p0, iv p1, iv p2, iv p3, iv p4, iv y0, iv y1, rv ob5, rv ob22, jv (own_key p0 p1), .second, jv (own_key y0 y1), .second, iv 0, iv 1] [(.ref ob22), (.ref ob5)])) rfl (by rw [hml]; rfl) (Steps.refl _) (argsL := [(.ref ob22)]) (rest := []) (lenOf pd_3 rfl) rfl (by show 2 * 0 + _ ≤ _; exact Nat.le_of_eq rfl) (hb hby at_106) (fun _ _ => ⟨rfl, e42, (by decide : 8 + 0 ≤ _), (by decide : 5536 + 0 ≤ _)⟩)
      dsimp only [Pt.U, Pt.locs, Pt.cells, Pt.slots] at X46 lx46 yx46 zx46 st46 hQ46
      subst lx46 yx46 zx46
      obtain ⟨rfl, N46q, e46⟩ := hQ46
      have N46 := Fr.app N42 N46q
      refine own_lift (fun t k => st46.trans k) ?_
      show own_Go p.tables e below (T46.setTop (mkF m 109 #[iv p0, iv p1, iv p2, iv p3, iv p4, iv y0, iv y1, rv ob5, rv ob22, jv (own_key p0 p1), .second, jv (own_key y0 y1), .second, iv 0, iv 1] [(.int 0)])) _
      have sg48 : ∀ t, Steps p.tables e below (T46.setTop (mkF m 118 #[iv p0, iv p1, iv p2, iv p3, iv p4, iv y0, iv y1, rv ob5, rv ob22, jv (own_key p0 p1), .second, jv (own_key y0 y1), .second, iv 0, iv 1] [(.ref ob5), (.ref ob22)])) t → Steps p.tables e below (T46.setTop (mkF m 109 #[iv p0, iv p1, iv p2, iv p3, iv p4, iv y0, iv y1, rv ob5, rv ob22, jv (own_key p0 p1), .second, jv (own_key y0 y1), .second, iv 0, iv 1] [(.int 0)])) t := by
        intro t k
        refine XS.iload X46.here hx rfl (hb hby at_109) rfl ?_
        show Steps p.tables e below (T46.setTop (mkF m 111 #[iv p0, iv p1, iv p2, iv p3, iv p4, iv y0, iv y1, rv ob5, rv ob22, jv (own_key p0 p1), .second, jv (own_key y0 y1), .second, iv 0, iv 1] [(.int 0), (.int 0)])) _
        refine XS.icmpNo X46.here hx rfl (hb hby at_111) rfl (teq (by decide : (0 : Int32) = (0 : Int32))).2 ?_
        refine XS.aload X46.here hx rfl (hb hby at_114) rfl rfl ?_
        show Steps p.tables e below (T46.setTop (mkF m 116 #[iv p0, iv p1, iv p2, iv p3, iv p4, iv y0, iv y1, rv ob5, rv ob22, jv (own_key p0 p1), .second, jv (own_key y0 y1), .second, iv 0, iv 1] [(.ref ob22)])) _
        refine XS.aload X46.here hx rfl (hb hby at_116) rfl rfl ?_
        show Steps p.tables e below (T46.setTop (mkF m 118 #[iv p0, iv p1, iv p2, iv p3, iv p4, iv y0, iv y1, rv ob5, rv ob22, jv (own_key p0 p1), .second, jv (own_key y0 y1), .second, iv 0, iv 1] [(.ref ob5), (.ref ob22)])) _
        exact k
      refine own_lift sg48 ?_
      show own_Go p.tables e below (T46.setTop (mkF m 118 #[iv p0, iv p1, iv p2, iv p3, iv p4, iv y0, iv y1, rv ob5, rv ob22, jv (own_key p0 p1), .second, jv (own_key y0 y1), .second, iv 0, iv 1] [(.ref ob5), (.ref ob22)])) _
      obtain ⟨cq49, kq49, q49a, q49b, q49c⟩ := isOf hZ e46 p38_1
      obtain ⟨_, _, ⟨T49, Lx49, kx49, nx49⟩, -, X49, ⟨Lc49, hQ49, lx49, yx49, zx49⟩, st49⟩ := X46.virtualBack hx (y := (⟨"com/example/libprocgraph/libprocgraph/reader/InvalidModelException", "precedes", "(Lcom/example/libprocgraph/libprocgraph/reader/InvalidModelException;)Z"⟩ : MethodName)) (z := (⟨"com/example/libprocgraph/libprocgraph/reader/InvalidModelException", "precedes", "(Lcom/example/libprocgraph/libprocgraph/reader/InvalidModelException;)Z"⟩ : MethodName)) hown (mvT hZ (wd hw 74 rfl)) (mvT hZ (wd hw 75 rfl)) (notFace_of_selects (args := #[]) (mvT hZ (wd hw 77 rfl))) (mvT hZ (wd hw 77 rfl)) (mvT hZ (wd hw 76 rfl)) (by decide) (backOf (W := 0) (rmPr1 l Z a0 hw [] ob22 ob5 y0 y1 p0 p1 T38.heap n0 Z38 p38_2 p38_3 Fc44 Fc45 l2) hZ (wd hw 78 rfl) (wd hw 2 rfl) (by decide) (by decide)) q49a q49c (g := (mkF m 118 #[iv p0, iv p1, iv p2, iv p3, iv p4, iv y0, iv y1, rv ob5, rv ob22, jv (own_key p0 p1), .second, jv (own_key y0 y1), .second, iv 0, iv 1] [(.ref ob5), (.ref ob22)])) rfl (by rw [hml]; rfl) (Steps.refl _) (argsL := [(.ref ob5)]) (rest := []) (lenOf pd_3 rfl) rfl (by show 2 * 0 + _ ≤ _; exact Nat.le_of_eq rfl) (hb hby at_118) (fun _ _ => ⟨rfl, e46, (by decide : 8 + 0 ≤ _), (by decide : 5536 + 0 ≤ _)⟩)
      dsimp only [Pt.U, Pt.locs, Pt.cells, Pt.slots] at X49 lx49 yx49 zx49 st49 hQ49
      subst lx49 yx49 zx49
      obtain ⟨rfl, N49q, e49⟩ := hQ49
      have N49 := Fr.app N46 N49q
      refine own_lift (fun t k => st49.trans k) ?_
      show own_Go p.tables e below (T49.setTop (mkF m 121 #[iv p0, iv p1, iv p2, iv p3, iv p4, iv y0, iv y1, rv ob5, rv ob22, jv (own_key p0 p1), .second, jv (own_key y0 y1), .second, iv 0, iv 1] [(.int 1)])) _
      have sg50 : ∀ t, Steps p.tables e below (T49.setTop (mkF m 131 #[iv p0, iv p1, iv p2, iv p3, iv p4, iv y0, iv y1, rv ob5, rv ob22, jv (own_key p0 p1), .second, jv (own_key y0 y1), .second, iv 0, iv 1] [(.int 1)])) t → Steps p.tables e below (T49.setTop (mkF m 121 #[iv p0, iv p1, iv p2, iv p3, iv p4, iv y0, iv y1, rv ob5, rv ob22, jv (own_key p0 p1), .second, jv (own_key y0 y1), .second, iv 0, iv 1] [(.int 1)])) t := by
        intro t k
        refine XS.iload X49.here hx rfl (hb hby at_121) rfl ?_
        show Steps p.tables e below (T49.setTop (mkF m 123 #[iv p0, iv p1, iv p2, iv p3, iv p4, iv y0, iv y1, rv ob5, rv ob22, jv (own_key p0 p1), .second, jv (own_key y0 y1), .second, iv 0, iv 1] [(.int 1), (.int 1)])) _
        refine XS.icmpNo X49.here hx rfl (hb hby at_123) rfl (teq (by decide : (1 : Int32) = (1 : Int32))).2 ?_
        refine XS.iconst X49.here hx rfl (hb hby at_126) ?_
        show Steps p.tables e below (T49.setTop (mkF m 127 #[iv p0, iv p1, iv p2, iv p3, iv p4, iv y0, iv y1, rv ob5, rv ob22, jv (own_key p0 p1), .second, jv (own_key y0 y1), .second, iv 0, iv 1] [(.int 1)])) _
        refine XS.goto X49.here hx rfl (pc0 := 127) (pc' := 131) rfl (hb hby at_127) (by decide) (by decide) ?_
        show Steps p.tables e below (T49.setTop (mkF m 131 #[iv p0, iv p1, iv p2, iv p3, iv p4, iv y0, iv y1, rv ob5, rv ob22, jv (own_key p0 p1), .second, jv (own_key y0 y1), .second, iv 0, iv 1] [(.int 1)])) _
        exact k
      refine own_lift sg50 ?_
      show own_Go p.tables e below (T49.setTop (mkF m 131 #[iv p0, iv p1, iv p2, iv p3, iv p4, iv y0, iv y1, rv ob5, rv ob22, jv (own_key p0 p1), .second, jv (own_key y0 y1), .second, iv 0, iv 1] [(.int 1)])) _
      obtain ⟨fs, hr, hrun, hended, hRW⟩ := X49.leaveW (s := s) Sx25 (by rw [e49]; exact Q38) (v := some (.int 1)) (fun h => by rw [Bd.returns] at h; cases h) Bd.notSynchronized
      refine ⟨_, _, ?_, hrun, hended, _, _, rfl, ?_, own_monoW hRW (by decide) (by decide)⟩
      · exact retN X49 hx (t := .boolean) Bd.returns (by simp) (hb hby at_131) hr
      · show Q0 Z  h0 n0 _ T49.heap _
        rw [e49]
        exact ⟨rfl, N49⟩
    by_cases b2 : (p4 &&& (2 : Int32)) = (0 : Int32)
    · have sg51 : ∀ t, Steps p.tables e below (T1.setTop (mkF m 26 #[iv p0, iv p1, iv p2, iv p3, iv p4, iv y0, .unset, .unset, .unset, .unset, .unset, .unset, .unset, .unset, .unset] [(.int p3)])) t → Steps p.tables e below (T1.setTop (mkF m 14 #[iv p0, iv p1, iv p2, iv p3, iv p4, iv y0, .unset, .unset, .unset, .unset, .unset, .unset, .unset, .unset, .unset] [])) t := by
        intro t k
        refine XS.iload X1.here hx rfl (hb hby at_14) rfl ?_
        show Steps p.tables e below (T1.setTop (mkF m 16 #[iv p0, iv p1, iv p2, iv p3, iv p4, iv y0, .unset, .unset, .unset, .unset, .unset, .unset, .unset, .unset, .unset] [(.int p4)])) _
        refine XS.iconst X1.here hx rfl (hb hby at_16) ?_
        refine XS.iand X1.here hx rfl (hb hby at_17) rfl ?_
        show Steps p.tables e below (T1.setTop (mkF m 18 #[iv p0, iv p1, iv p2, iv p3, iv p4, iv y0, .unset, .unset, .unset, .unset, .unset, .unset, .unset, .unset, .unset] [(.int (p4 &&& (2 : Int32)))])) _
        refine XS.ifYes X1.here hx rfl (pc0 := 18) (pc' := 25) rfl (hb hby at_18) rfl ((if0 _ _).trans (teq b2).1) (by decide) (by decide) ?_
        refine XS.iloadN X1.here hx rfl (hb hby at_25) rfl ?_
        show Steps p.tables e below (T1.setTop (mkF m 26 #[iv p0, iv p1, iv p2, iv p3, iv p4, iv y0, .unset, .unset, .unset, .unset, .unset, .unset, .unset, .unset, .unset] [(.int p3)])) _
        exact k
      refine own_lift sg51 ?_
      show own_Go p.tables e below (T1.setTop (mkF m 26 #[iv p0, iv p1, iv p2, iv p3, iv p4, iv y0, .unset, .unset, .unset, .unset, .unset, .unset, .unset, .unset, .unset] [(.int p3)])) _
      rw [show y1 = p3 from (hy1.trans (if_pos b2))] at join3
      exact join3 _ _ X1 e1 N1
    · have sg52 : ∀ t, Steps p.tables e below (T1.setTop (mkF m 26 #[iv p0, iv p1, iv p2, iv p3, iv p4, iv y0, .unset, .unset, .unset, .unset, .unset, .unset, .unset, .unset, .unset] [(.int p1)])) t → Steps p.tables e below (T1.setTop (mkF m 14 #[iv p0, iv p1, iv p2, iv p3, iv p4, iv y0, .unset, .unset, .unset, .unset, .unset, .unset, .unset, .unset, .unset] [])) t := by
        intro t k
        refine XS.iload X1.here hx rfl (hb hby at_14) rfl ?_
        show Steps p.tables e below (T1.setTop (mkF m 16 #[iv p0, iv p1, iv p2, iv p3, iv p4, iv y0, .unset, .unset, .unset, .unset, .unset, .unset, .unset, .unset, .unset] [(.int p4)])) _
        refine XS.iconst X1.here hx rfl (hb hby at_16) ?_
        refine XS.iand X1.here hx rfl (hb hby at_17) rfl ?_
        show Steps p.tables e below (T1.setTop (mkF m 18 #[iv p0, iv p1, iv p2, iv p3, iv p4, iv y0, .unset, .unset, .unset, .unset, .unset, .unset, .unset, .unset, .unset] [(.int (p4 &&& (2 : Int32)))])) _
        refine XS.ifNo X1.here hx rfl (hb hby at_18) rfl ((if0 _ _).trans (feq b2).1) ?_
        refine XS.iloadN X1.here hx rfl (hb hby at_21) rfl ?_
        show Steps p.tables e below (T1.setTop (mkF m 22 #[iv p0, iv p1, iv p2, iv p3, iv p4, iv y0, .unset, .unset, .unset, .unset, .unset, .unset, .unset, .unset, .unset] [(.int p1)])) _
        refine XS.goto X1.here hx rfl (pc0 := 22) (pc' := 26) rfl (hb hby at_22) (by decide) (by decide) ?_
        show Steps p.tables e below (T1.setTop (mkF m 26 #[iv p0, iv p1, iv p2, iv p3, iv p4, iv y0, .unset, .unset, .unset, .unset, .unset, .unset, .unset, .unset, .unset] [(.int p1)])) _
        exact k
      refine own_lift sg52 ?_
      show own_Go p.tables e below (T1.setTop (mkF m 26 #[iv p0, iv p1, iv p2, iv p3, iv p4, iv y0, .unset, .unset, .unset, .unset, .unset, .unset, .unset, .unset, .unset] [(.int p1)])) _
      rw [show y1 = p1 from (hy1.trans (if_neg b2))] at join3
      exact join3 _ _ X1 e1 N1
  by_cases b1 : (p4 &&& (1 : Int32)) = (0 : Int32)
  · have sg53 : ∀ t, Steps p.tables e below (s₁.setTop (mkF m 12 #[iv p0, iv p1, iv p2, iv p3, iv p4, .unset, .unset, .unset, .unset, .unset, .unset, .unset, .unset, .unset, .unset] [(.int p2)])) t → Steps p.tables e below (s₁.setTop (mkF m 0 #[iv p0, iv p1, iv p2, iv p3, iv p4, .unset, .unset, .unset, .unset, .unset, .unset, .unset, .unset, .unset, .unset] [])) t := by
      intro t k
      refine XS.iload X0.here hx rfl (hb hby at_0) rfl ?_
      show Steps p.tables e below (s₁.setTop (mkF m 2 #[iv p0, iv p1, iv p2, iv p3, iv p4, .unset, .unset, .unset, .unset, .unset, .unset, .unset, .unset, .unset, .unset] [(.int p4)])) _
      refine XS.iconst X0.here hx rfl (hb hby at_2) ?_
      refine XS.iand X0.here hx rfl (hb hby at_3) rfl ?_
      show Steps p.tables e below (s₁.setTop (mkF m 4 #[iv p0, iv p1, iv p2, iv p3, iv p4, .unset, .unset, .unset, .unset, .unset, .unset, .unset, .unset, .unset, .unset] [(.int (p4 &&& (1 : Int32)))])) _
      refine XS.ifYes X0.here hx rfl (pc0 := 4) (pc' := 11) rfl (hb hby at_4) rfl ((if0 _ _).trans (teq b1).1) (by decide) (by decide) ?_
      refine XS.iloadN X0.here hx rfl (hb hby at_11) rfl ?_
      show Steps p.tables e below (s₁.setTop (mkF m 12 #[iv p0, iv p1, iv p2, iv p3, iv p4, .unset, .unset, .unset, .unset, .unset, .unset, .unset, .unset, .unset, .unset] [(.int p2)])) _
      exact k
    refine own_lift sg53 ?_
    show own_Go p.tables e below (s₁.setTop (mkF m 12 #[iv p0, iv p1, iv p2, iv p3, iv p4, .unset, .unset, .unset, .unset, .unset, .unset, .unset, .unset, .unset, .unset] [(.int p2)])) _
    rw [show y0 = p2 from (hy0.trans (if_pos b1))] at join1
    exact join1 _ _ X0 e0 N0
  · have sg54 : ∀ t, Steps p.tables e below (s₁.setTop (mkF m 12 #[iv p0, iv p1, iv p2, iv p3, iv p4, .unset, .unset, .unset, .unset, .unset, .unset, .unset, .unset, .unset, .unset] [(.int p0)])) t → Steps p.tables e below (s₁.setTop (mkF m 0 #[iv p0, iv p1, iv p2, iv p3, iv p4, .unset, .unset, .unset, .unset, .unset, .unset, .unset, .unset, .unset, .unset] [])) t := by
      intro t k
      refine XS.iload X0.here hx rfl (hb hby at_0) rfl ?_
      show Steps p.tables e below (s₁.setTop (mkF m 2 #[iv p0, iv p1, iv p2, iv p3, iv p4, .unset, .unset, .unset, .unset, .unset, .unset, .unset, .unset, .unset, .unset] [(.int p4)])) _
      refine XS.iconst X0.here hx rfl (hb hby at_2) ?_
      refine XS.iand X0.here hx rfl (hb hby at_3) rfl ?_
      show Steps p.tables e below (s₁.setTop (mkF m 4 #[iv p0, iv p1, iv p2, iv p3, iv p4, .unset, .unset, .unset, .unset, .unset, .unset, .unset, .unset, .unset, .unset] [(.int (p4 &&& (1 : Int32)))])) _
      refine XS.ifNo X0.here hx rfl (hb hby at_4) rfl ((if0 _ _).trans (feq b1).1) ?_
      refine XS.iloadN X0.here hx rfl (hb hby at_7) rfl ?_
      show Steps p.tables e below (s₁.setTop (mkF m 8 #[iv p0, iv p1, iv p2, iv p3, iv p4, .unset, .unset, .unset, .unset, .unset, .unset, .unset, .unset, .unset, .unset] [(.int p0)])) _
      refine XS.goto X0.here hx rfl (pc0 := 8) (pc' := 12) rfl (hb hby at_8) (by decide) (by decide) ?_
      show Steps p.tables e below (s₁.setTop (mkF m 12 #[iv p0, iv p1, iv p2, iv p3, iv p4, .unset, .unset, .unset, .unset, .unset, .unset, .unset, .unset, .unset, .unset] [(.int p0)])) _
      exact k
    refine own_lift sg54 ?_
    show own_Go p.tables e below (s₁.setTop (mkF m 12 #[iv p0, iv p1, iv p2, iv p3, iv p4, .unset, .unset, .unset, .unset, .unset, .unset, .unset, .unset, .unset, .unset] [(.int p0)])) _
    rw [show y0 = p0 from (hy0.trans (if_neg b1))] at join1
    exact join1 _ _ X0 e0 N0
set_option maxRecDepth 65536 in
theorem rm0 (l : Launch) (Z : State) (a0 : Array Value) (hw : ∀ d ∈ tables_1, d.before a0 Z = true) (ws : List Jvm.Cond) (p0 : Int32) (p1 : Int32) (p2 : Int32) (p3 : Int32) (p4 : Int32) (u1 : Value) (u2 : Value) (h0 : Heap) (n0 : Nat) (Z0 : n0 ≤ h0.size) (TS : ThS Z h0) (Su1 : Sta Z h0 "java/lang/Throwable" "UNASSIGNED_STACK" "[Ljava/lang/StackTraceElement;" u1) (Su2 : Sta Z h0 "java/lang/Throwable" "SUPPRESSED_SENTINEL" "Ljava/util/List;" u2) (hl : l.stackTraces = true) (P_u1 : u1.isRef = true) (P_u2 : u2.isRef = true) :
    MetFree l x (head1 (Jvm.Cond.code x code maxLocals ret :: ws) room_1) (fun a U => a = #[(.int p0), (.int p1), (.int p2), (.int p3), (.int p4)] ∧ Z.Warmed39 U.vm ∧ U.heap = h0) (fun _ _ _ s _ => Jvm.Pilot.@@N@@.Jvm.D.framesKnown s = true ∧ Jvm.Pilot.@@N@@.Jvm.D.tablesKnown s = true) (fun _ U o U' => ∃ v L, o = .returned v ∧ Q0 Z h0 n0 v U'.heap L ∧ ReturnedEndW U o U' L 24 13184) := by
  obtain ⟨y0, hy0⟩ : ∃ z, z = if (p4 &&& (1 : Int32)) = (0 : Int32) then p2 else p0 := ⟨_, rfl⟩
  obtain ⟨y1, hy1⟩ : ∃ z, z = if (p4 &&& (2 : Int32)) = (0 : Int32) then p3 else p1 := ⟨_, rfl⟩
  rcases own_cases p0 p1 y0 y1 with ⟨l1, l2, ee, ab, ba⟩ | ⟨l1, l2, ee, k1, k2, ab, ba⟩ | ⟨l1, l2, ee, k1, k2, ab, ba⟩ | ⟨l1, l2, ee, k1, k2, ab, ba⟩ | ⟨l1, l2, ee, ab, ba⟩
  · exact rm0_1 l Z a0 hw ws p0 p1 p2 p3 p4 u1 u2 y0 y1 h0 n0 Z0 TS Su1 Su2 hl P_u1 P_u2 hy0 hy1 l1 l2 ee ab ba
  · exact rm0_2 l Z a0 hw ws p0 p1 p2 p3 p4 u1 u2 y0 y1 h0 n0 Z0 TS Su1 Su2 hl P_u1 P_u2 hy0 hy1 l1 l2 ee k1 k2 ab ba
  · exact rm0_3 l Z a0 hw ws p0 p1 p2 p3 p4 u1 u2 y0 y1 h0 n0 Z0 TS Su1 Su2 hl P_u1 P_u2 hy0 hy1 l1 l2 ee k1 k2 ab ba
  · exact rm0_4 l Z a0 hw ws p0 p1 p2 p3 p4 u1 u2 y0 y1 h0 n0 Z0 TS Su1 Su2 hl P_u1 P_u2 hy0 hy1 l1 l2 ee k1 k2 ab ba
  · exact rm0_5 l Z a0 hw ws p0 p1 p2 p3 p4 u1 u2 y0 y1 h0 n0 Z0 TS Su1 Su2 hl P_u1 P_u2 hy0 hy1 l1 l2 ee ab ba
set_option maxRecDepth 65536 in
set_option maxHeartbeats 40000000 in
theorem comes_1 {Post : Tables → Env → Array Value → State → Outcome → State → Prop} (hpost : ∀ tb e args s v u, (limb_1_1.after args s (.returned v) u = true ∧ limb_1_2.after args s (.returned v) u = true ∧ True) → ReturnedEndW s (.returned v) u (Jvm.fieldLocs frame_1_writes args s ++ Jvm.arrayLocs frame_1_arrays args s ++ Jvm.staticLocs frame_1_statics s) 24 13184 → Post tb e args s (.returned v) u) :
    ArmFor flags0 classFile x code maxLocals ret World_1 tables_1 room_1 Calls_1 rest_1 Pre_1 Post := by
  intro l hfl _ _ p e ha hc hk s m args below hf hA hF happ hP
  obtain ⟨hcalls, hrest, hpre⟩ := hP
  obtain ⟨-, -, -, hnamed, -, -, -, hat⟩ := (Spec.applies_iff hf).mp happ
  obtain ⟨hg, hn⟩ := and_e (Cond.before_iff.mp (show (Jvm.Cond.and given_1 narrow_1).before args s = true from hpre))
  obtain ⟨gv0, gr0⟩ := and_e hg
  obtain ⟨gv1, gr1⟩ := and_e gr0
  obtain ⟨gv2, gr2⟩ := and_e gr1
  obtain ⟨gv3, gr3⟩ := and_e gr2
  obtain ⟨gv4, gr4⟩ := and_e gr3
  obtain ⟨w0, w1, w2, w3, w4, rfl⟩ : ∃ w0 w1 w2 w3 w4 : Value, args = #[w0, w1, w2, w3, w4] := by
    have hs : args.size = 5 := by simpa [Cond.value, given_1] using gv0
    obtain ⟨L⟩ := args
    match L, hs with
    | [w0, w1, w2, w3, w4], _ => exact ⟨w0, w1, w2, w3, w4, rfl⟩
  have hw := fun d (hd : d ∈ tables_1) => atoms_spec (ws := Jvm.Cond.code x code maxLocals ret :: tables_1) hat d (List.mem_cons_of_mem _ hd)
  have hfit : Fit s := fun {y c} hc i hi => by
    obtain ⟨ha, rfl⟩ := Array.getElem?_eq_some_iff.mp hc
    have q := List.all_eq_true.mp ((Array.all_eq_true_iff_forall_mem.mp hF) _ (Array.getElem_mem ha)) i (List.mem_range.mpr hi)
    simpa [Array.getElem?_eq_getElem hi] using q
  obtain ⟨hsets, hown0⟩ := atoms_of _ (rest_1_c_eq ▸ (show rest_1_c.before _ s = true from hrest))
  have hr0 := Cond.before_iff.mp hown0
  obtain ⟨i0, ei0⟩ := is_v gv1
  obtain rfl : w0 = (.int i0) := Option.some.inj ei0
  obtain ⟨i1, ei1⟩ := is_v gv2
  obtain rfl : w1 = (.int i1) := Option.some.inj ei1
  obtain ⟨i2, ei2⟩ := is_v gv3
  obtain rfl : w2 = (.int i2) := Option.some.inj ei2
  obtain ⟨i3, ei3⟩ := is_v gv4
  obtain rfl : w3 = (.int i3) := Option.some.inj ei3
  obtain ⟨i4, ei4⟩ := is_v gr4
  obtain rfl : w4 = (.int i4) := Option.some.inj ei4
  have hl : l.stackTraces = true := by unfold Launch.stackTraces; rw [hfl]; decide
  have hr2 := two_refs hfit (wd hw 56 rfl) (wd hw 57 rfl)
  obtain ⟨iu1, eu1, P_u1⟩ := isR_v (Cond.before_iff.mp (hr2 _ (List.mem_of_getElem? (i := 0) rfl)))
  have S_u1 : Sta s s.heap "java/lang/Throwable" "UNASSIGNED_STACK" "[Ljava/lang/StackTraceElement;" iu1 := Sta.start eu1 (Or.inr ⟨(wd hw 23 rfl), (wd hw 56 rfl)⟩)
  obtain ⟨iu2, eu2, P_u2⟩ := isR_v (Cond.before_iff.mp (hr2 _ (List.mem_of_getElem? (i := 1) rfl)))
  have S_u2 : Sta s s.heap "java/lang/Throwable" "SUPPRESSED_SENTINEL" "Ljava/util/List;" iu2 := Sta.start eu2 (Or.inr ⟨(wd hw 23 rfl), (wd hw 57 rfl)⟩)
  obtain ⟨n, o, h1, h2, h3, _, L, rfl, ⟨rfl, N⟩, hq⟩ := rm0 l s _ hw tables_1 i0 i1 i2 i3 i4 iu1 iu2 s.heap s.heap.size (Nat.le_refl _) ThS.start S_u1 S_u2 hl P_u1 P_u2 p e ha hc hk s m _ below hf ((Spec.applies_iff_loose hf).mp happ).1 ⟨rfl, State.Warmed39.refl s, rfl⟩ ⟨hcalls.1, hcalls.2.1⟩
  refine ⟨n, _, h1, h2, h3, hpost _ _ _ _ _ _ ⟨Cond.after_iff.mpr rfl, Cond.after_iff.mpr (eq_i res_at (Term.int_eval (1)) rfl), trivial⟩ ⟨hq.1, hq.2.1, hq.2.2.1, (hq.2.2.2.sift fun y hy => Or.inr (N y hy)).mono (by decide) (by decide)⟩⟩
theorem main_1_1 : Claimed_1_1 := comes_1 fun _ _ _ _ _ _ h hF => ⟨h.1, hF⟩
theorem main_1_2 : Claimed_1_2 := comes_1 fun _ _ _ _ _ _ h hF => ⟨h.2.1, hF⟩
end Jvm.Pilot.@@N@@
namespace Jvm.Pilot.@@N@@
open Jvm Jvm.ClassFile Sem Op Lib Jvm.Free Jvm.Stand Jvm.Pilot.@@N@@.Jvm.D
/-! MADE BY PROGRAM (witnessworld.py) out of the Statement's table words and the real class files: 27 classes; the members and pool entries that the words name. The judged class is class 1, her method 2. -/
namespace start1
open Jvm.ClassFile
def u (s : String) : CpInfo := .utf8 (stringToUtf16 s)
/-- a pool by its gaps: so many unusable entries, then the entry; so many at the end -/
def gap : Nat → List CpInfo → List CpInfo
  | 0, r => r
  | n + 1, r => .unusable :: gap n r
def poolList (es : List (Nat × CpInfo)) (last : Nat) : List CpInfo := es.foldr (fun e r => gap e.1 (e.2 :: r)) (gap last [])
def pool (es : List (Nat × CpInfo)) (last : Nat) : Array CpInfo := ⟨poolList es last⟩
def fileOf (pool : Array CpInfo) (this : Nat) (attrs : Array Attribute := #[]) (ms : Array MethodInfo := #[]) (fl : Nat := 33) (sup : Nat := 0) (ifs : Array Nat := #[]) (fds : Array FieldInfo := #[]) : ClassFile where
  minorVersion := 0
  majorVersion := 65
  constantPool := pool
  accessFlags := fl
  thisClass := this
  superClass := sup
  interfaces := ifs
  fields := fds
  methods := ms
  attributes := attrs
def plain (name : String) (sup : Option ClassId) : Class where
  name := name
  kind := .ordinary
  loader := none
  accessFlags := 33
  super := sup
  interfaces := #[]
  cf := none
  fields := #[]
  methods := #[]
  instanceTypes := #[]
  staticTypes := #[]
  resolved := #[]
  callSites := []
  init := .initialized
  statics := none
  mirror := none

def pool0 : Array CpInfo := pool [(5, u "<init>"), (0, u "()V"), (1, .class_ 10), (1, u "java/lang/Object")] 113

def k0c0 : Code := { maxStack := 0, maxLocals := 1, code := object_method_1_code, exceptionTable := #[], attributes := #[] }
def k0m0 : Method := { name := "<init>", desc := "()V", sig := { parameters := [], returnType := none }, accessFlags := 1, code := some k0c0 }
/-- java/lang/Object -/
def k0 : Class := { plain "java/lang/Object" none with
  accessFlags := 33
  interfaces := #[]
  cf := some (fileOf pool0 8 #[] #[{ accessFlags := 1, nameIndex := 5, descriptorIndex := 6, attributes := #[] }] 33 0 #[] #[])
  fields := #[]
  methods := #[k0m0]
  instanceTypes := #[]
  staticTypes := #[]
  resolved := Array.replicate 124 none
  statics := none }

def pool1 : Array CpInfo := pool [(2, .class_ 4), (1, u "java/lang/Object"), (0, u "<init>"), (0, u "()V"), (0, .long 2147483648), (1, .class_ 10), (0, u "com/example/libprocgraph/libprocgraph/reader/InvalidModelException"), (0, .string 12), (0, u "a"), (0, .methodref 9 14), (0, .nameAndType 5 15), (0, u "(IILjava/lang/String;)V"), (0, .string 17), (0, u "b"), (0, .methodref 19 20), (0, .class_ 21), (0, .nameAndType 22 23), (0, u "com/example/libprocgraph/libprocgraph/reader/InvalidModelExceptionPrecedesPinLaw"), (0, u "key"), (0, u "(II)J"), (0, .methodref 9 25), (0, .nameAndType 26 27), (0, u "precedes"), (0, u "(Lcom/example/libprocgraph/libprocgraph/reader/InvalidModelException;)Z"), (2, u "law"), (0, u "(IIIII)Z")] 6

def k1m0 : Method := { name := "<init>", desc := "()V", sig := { parameters := [], returnType := none }, accessFlags := 1, code := none }
def k1c1 : Code := { maxStack := 6, maxLocals := 2, code := method_2_code, exceptionTable := #[], attributes := #[] }
def k1m1 : Method := { name := "key", desc := "(II)J", sig := { parameters := [.int, .int], returnType := some .long }, accessFlags := 10, code := some k1c1 }
def k1c2 : Code := { maxStack := 5, maxLocals := 15, code := code, exceptionTable := #[], attributes := #[] }
def k1m2 : Method := { name := "law", desc := "(IIIII)Z", sig := { parameters := [.int, .int, .int, .int, .int], returnType := some .boolean }, accessFlags := 9, code := some k1c2 }
/-- com/example/libprocgraph/libprocgraph/reader/InvalidModelExceptionPrecedesPinLaw -/
def k1 : Class := { plain "com/example/libprocgraph/libprocgraph/reader/InvalidModelExceptionPrecedesPinLaw" (some 0) with
  accessFlags := 49
  interfaces := #[]
  cf := some (fileOf pool1 19 #[] #[{ accessFlags := 1, nameIndex := 5, descriptorIndex := 6, attributes := #[] }, { accessFlags := 10, nameIndex := 22, descriptorIndex := 23, attributes := #[] }, { accessFlags := 9, nameIndex := 30, descriptorIndex := 31, attributes := #[] }] 49 2 #[] #[])
  fields := #[]
  methods := #[k1m0, k1m1, k1m2]
  instanceTypes := #[]
  staticTypes := #[]
  resolved := Array.replicate 38 none
  statics := none }

def pool2 : Array CpInfo := pool [(1, .class_ 2), (0, u "java/io/Serializable"), (0, .class_ 4), (0, u "java/lang/Object")] 2

/-- java/io/Serializable -/
def k2 : Class := { plain "java/io/Serializable" (some 0) with
  accessFlags := 1537
  interfaces := #[]
  cf := some (fileOf pool2 1 #[] #[] 1537 3 #[] #[])
  fields := #[]
  methods := #[]
  instanceTypes := #[]
  staticTypes := #[]
  resolved := Array.replicate 7 none
  statics := none }

def pool3 : Array CpInfo := pool [(1, .methodref 2 3), (0, .class_ 4), (0, .nameAndType 5 6), (0, u "java/lang/Object"), (0, u "<init>"), (0, u "()V"), (0, .fieldref 8 9), (0, .class_ 10), (0, .nameAndType 11 12), (0, u "java/lang/Throwable"), (0, u "cause"), (0, u "Ljava/lang/Throwable;"), (0, .fieldref 8 14), (0, .nameAndType 15 16), (0, u "UNASSIGNED_STACK"), (0, u "[Ljava/lang/StackTraceElement;"), (0, .fieldref 8 18), (0, .nameAndType 19 16), (0, u "stackTrace"), (0, .fieldref 8 21), (0, .nameAndType 22 23), (0, u "SUPPRESSED_SENTINEL"), (0, u "Ljava/util/List;"), (0, .fieldref 8 25), (0, .nameAndType 26 23), (0, u "suppressedExceptions"), (0, .methodref 8 28), (0, .nameAndType 29 30), (0, u "fillInStackTrace"), (0, u "()Ljava/lang/Throwable;"), (0, .fieldref 8 32), (0, .nameAndType 33 34), (0, u "detailMessage"), (0, u "Ljava/lang/String;"), (58, .class_ 94), (0, u "java/lang/Throwable$WrappedPrintStream"), (6, .class_ 103), (1, u "java/lang/Throwable$PrintStreamOrWriter"), (61, u "$assertionsDisabled"), (0, u "Z"), (26, .class_ 194), (0, u "java/lang/Throwable$WrappedPrintWriter"), (3, .fieldref 8 199), (0, .nameAndType 200 201), (0, u "backtrace"), (0, u "Ljava/lang/Object;"), (0, .methodref 8 203), (0, .nameAndType 29 204), (0, u "(I)Ljava/lang/Throwable;"), (6, u "depth"), (0, u "I"), (10, u "(Ljava/lang/String;)V"), (45, .class_ 271), (1, u "java/lang/Throwable$SentinelHolder"), (32, u "EMPTY_THROWABLE_ARRAY"), (0, u "[Ljava/lang/Throwable;"), (12, .class_ 319), (0, u "java/io/Serializable"), (0, u "serialVersionUID"), (0, u "J"), (5, u "NULL_CAUSE_MESSAGE"), (0, u "SELF_SUPPRESSION_MESSAGE"), (0, u "CAUSE_CAPTION"), (0, u "SUPPRESSED_CAPTION")] 73

def k3c0 : Code := { maxStack := 2, maxLocals := 1, code := jdk_78_method_1_code, exceptionTable := #[], attributes := #[] }
def k3m0 : Method := { name := "<init>", desc := "()V", sig := { parameters := [], returnType := none }, accessFlags := 1, code := some k3c0 }
def k3c1 : Code := { maxStack := 2, maxLocals := 2, code := jdk_78_method_2_code, exceptionTable := #[], attributes := #[] }
def k3m1 : Method := { name := "<init>", desc := "(Ljava/lang/String;)V", sig := { parameters := [(.object "java/lang/String")], returnType := none }, accessFlags := 1, code := some k3c1 }
def k3c2 : Code := { maxStack := 2, maxLocals := 1, code := jdk_78_method_18_code, exceptionTable := #[], attributes := #[] }
def k3m2 : Method := { name := "fillInStackTrace", desc := "()Ljava/lang/Throwable;", sig := { parameters := [], returnType := some (.object "java/lang/Throwable") }, accessFlags := 33, code := some k3c2 }
def k3m3 : Method := { name := "fillInStackTrace", desc := "(I)Ljava/lang/Throwable;", sig := { parameters := [.int], returnType := some (.object "java/lang/Throwable") }, accessFlags := 258, code := none }
/-- java/lang/Throwable -/
def k3 : Class := { plain "java/lang/Throwable" (some 0) with
  accessFlags := 33
  interfaces := #[2]
  cf := some (fileOf pool3 8 #[.nestMembers #[193, 93, 101, 269]] #[{ accessFlags := 1, nameIndex := 5, descriptorIndex := 6, attributes := #[] }, { accessFlags := 1, nameIndex := 5, descriptorIndex := 223, attributes := #[] }, { accessFlags := 33, nameIndex := 29, descriptorIndex := 30, attributes := #[] }, { accessFlags := 258, nameIndex := 29, descriptorIndex := 204, attributes := #[] }] 33 2 #[318] #[{ accessFlags := 26, nameIndex := 320, descriptorIndex := 321, attributes := #[] }, { accessFlags := 130, nameIndex := 200, descriptorIndex := 201, attributes := #[] }, { accessFlags := 2, nameIndex := 33, descriptorIndex := 34, attributes := #[] }, { accessFlags := 26, nameIndex := 15, descriptorIndex := 16, attributes := #[] }, { accessFlags := 2, nameIndex := 11, descriptorIndex := 12, attributes := #[] }, { accessFlags := 2, nameIndex := 19, descriptorIndex := 16, attributes := #[] }, { accessFlags := 130, nameIndex := 211, descriptorIndex := 212, attributes := #[] }, { accessFlags := 26, nameIndex := 22, descriptorIndex := 23, attributes := #[] }, { accessFlags := 2, nameIndex := 26, descriptorIndex := 23, attributes := #[] }, { accessFlags := 26, nameIndex := 327, descriptorIndex := 34, attributes := #[] }, { accessFlags := 26, nameIndex := 328, descriptorIndex := 34, attributes := #[] }, { accessFlags := 26, nameIndex := 329, descriptorIndex := 34, attributes := #[] }, { accessFlags := 26, nameIndex := 330, descriptorIndex := 34, attributes := #[] }, { accessFlags := 26, nameIndex := 304, descriptorIndex := 305, attributes := #[] }, { accessFlags := 4120, nameIndex := 165, descriptorIndex := 166, attributes := #[] }])
  fields := #[{ name := "serialVersionUID", type := .long, accessFlags := 26, slot := 0, constantValue := 0 }, { name := "backtrace", type := (.object "java/lang/Object"), accessFlags := 130, slot := 0, constantValue := 0 }, { name := "detailMessage", type := (.object "java/lang/String"), accessFlags := 2, slot := 1, constantValue := 0 }, { name := "UNASSIGNED_STACK", type := (.array (.object "java/lang/StackTraceElement")), accessFlags := 26, slot := 1, constantValue := 0 }, { name := "cause", type := (.object "java/lang/Throwable"), accessFlags := 2, slot := 2, constantValue := 0 }, { name := "stackTrace", type := (.array (.object "java/lang/StackTraceElement")), accessFlags := 2, slot := 3, constantValue := 0 }, { name := "depth", type := .int, accessFlags := 130, slot := 4, constantValue := 0 }, { name := "SUPPRESSED_SENTINEL", type := (.object "java/util/List"), accessFlags := 26, slot := 2, constantValue := 0 }, { name := "suppressedExceptions", type := (.object "java/util/List"), accessFlags := 2, slot := 5, constantValue := 0 }, { name := "NULL_CAUSE_MESSAGE", type := (.object "java/lang/String"), accessFlags := 26, slot := 3, constantValue := 0 }, { name := "SELF_SUPPRESSION_MESSAGE", type := (.object "java/lang/String"), accessFlags := 26, slot := 4, constantValue := 0 }, { name := "CAUSE_CAPTION", type := (.object "java/lang/String"), accessFlags := 26, slot := 5, constantValue := 0 }, { name := "SUPPRESSED_CAPTION", type := (.object "java/lang/String"), accessFlags := 26, slot := 6, constantValue := 0 }, { name := "EMPTY_THROWABLE_ARRAY", type := (.array (.object "java/lang/Throwable")), accessFlags := 26, slot := 7, constantValue := 0 }, { name := "$assertionsDisabled", type := .boolean, accessFlags := 4120, slot := 8, constantValue := 0 }]
  methods := #[k3m0, k3m1, k3m2, k3m3]
  instanceTypes := #[(.object "java/lang/Object"), (.object "java/lang/String"), (.object "java/lang/Throwable"), (.array (.object "java/lang/StackTraceElement")), .int, (.object "java/util/List")]
  staticTypes := #[.long, (.array (.object "java/lang/StackTraceElement")), (.object "java/util/List"), (.object "java/lang/String"), (.object "java/lang/String"), (.object "java/lang/String"), (.object "java/lang/String"), (.array (.object "java/lang/Throwable")), .boolean]
  resolved := Array.replicate 404 none
  statics := some 0 }

def pool4 : Array CpInfo := pool [(2, .class_ 4), (1, u "java/lang/Throwable"), (0, u "<init>"), (0, u "()V"), (0, .methodref 2 8), (0, .nameAndType 5 9), (0, u "(Ljava/lang/String;)V"), (9, .class_ 20), (0, u "java/lang/Exception"), (0, u "serialVersionUID"), (0, u "J")] 17

def k4m0 : Method := { name := "<init>", desc := "()V", sig := { parameters := [], returnType := none }, accessFlags := 1, code := none }
def k4c1 : Code := { maxStack := 2, maxLocals := 2, code := jdk_59_method_2_code, exceptionTable := #[], attributes := #[] }
def k4m1 : Method := { name := "<init>", desc := "(Ljava/lang/String;)V", sig := { parameters := [(.object "java/lang/String")], returnType := none }, accessFlags := 1, code := some k4c1 }
/-- java/lang/Exception -/
def k4 : Class := { plain "java/lang/Exception" (some 3) with
  accessFlags := 33
  interfaces := #[]
  cf := some (fileOf pool4 19 #[] #[{ accessFlags := 1, nameIndex := 5, descriptorIndex := 6, attributes := #[] }, { accessFlags := 1, nameIndex := 5, descriptorIndex := 9, attributes := #[] }] 33 2 #[] #[{ accessFlags := 24, nameIndex := 21, descriptorIndex := 22, attributes := #[] }])
  fields := #[{ name := "serialVersionUID", type := .long, accessFlags := 24, slot := 0, constantValue := 0 }]
  methods := #[k4m0, k4m1]
  instanceTypes := #[(.object "java/lang/Object"), (.object "java/lang/String"), (.object "java/lang/Throwable"), (.array (.object "java/lang/StackTraceElement")), .int, (.object "java/util/List")]
  staticTypes := #[.long]
  resolved := Array.replicate 40 none
  statics := none }

def pool5 : Array CpInfo := pool [(1, .methodref 2 3), (0, .class_ 4), (0, .nameAndType 5 6), (0, u "java/lang/Exception"), (0, u "<init>"), (0, u "(Ljava/lang/String;)V"), (0, .fieldref 8 9), (0, .class_ 10), (0, .nameAndType 11 12), (0, u "com/example/libprocgraph/libprocgraph/reader/InvalidModelException"), (0, u "line"), (0, u "I"), (0, .fieldref 8 14), (0, .nameAndType 15 12), (0, u "column"), (0, u "serialVersionUID"), (0, u "J"), (3, u "(IILjava/lang/String;)V"), (3, u "precedes"), (0, u "(Lcom/example/libprocgraph/libprocgraph/reader/InvalidModelException;)Z")] 3

def k5c0 : Code := { maxStack := 2, maxLocals := 4, code := prog_61_method_1_code, exceptionTable := #[], attributes := #[] }
def k5m0 : Method := { name := "<init>", desc := "(IILjava/lang/String;)V", sig := { parameters := [.int, .int, (.object "java/lang/String")], returnType := none }, accessFlags := 1, code := some k5c0 }
def k5c1 : Code := { maxStack := 2, maxLocals := 2, code := prog_61_method_4_code, exceptionTable := #[], attributes := #[] }
def k5m1 : Method := { name := "precedes", desc := "(Lcom/example/libprocgraph/libprocgraph/reader/InvalidModelException;)Z", sig := { parameters := [(.object "com/example/libprocgraph/libprocgraph/reader/InvalidModelException")], returnType := some .boolean }, accessFlags := 1, code := some k5c1 }
/-- com/example/libprocgraph/libprocgraph/reader/InvalidModelException -/
def k5 : Class := { plain "com/example/libprocgraph/libprocgraph/reader/InvalidModelException" (some 4) with
  accessFlags := 33
  interfaces := #[]
  cf := some (fileOf pool5 8 #[] #[{ accessFlags := 1, nameIndex := 5, descriptorIndex := 21, attributes := #[] }, { accessFlags := 1, nameIndex := 25, descriptorIndex := 26, attributes := #[] }] 33 2 #[] #[{ accessFlags := 26, nameIndex := 16, descriptorIndex := 17, attributes := #[] }, { accessFlags := 18, nameIndex := 11, descriptorIndex := 12, attributes := #[] }, { accessFlags := 18, nameIndex := 15, descriptorIndex := 12, attributes := #[] }])
  fields := #[{ name := "serialVersionUID", type := .long, accessFlags := 26, slot := 0, constantValue := 0 }, { name := "line", type := .int, accessFlags := 18, slot := 6, constantValue := 0 }, { name := "column", type := .int, accessFlags := 18, slot := 7, constantValue := 0 }]
  methods := #[k5m0, k5m1]
  instanceTypes := #[(.object "java/lang/Object"), (.object "java/lang/String"), (.object "java/lang/Throwable"), (.array (.object "java/lang/StackTraceElement")), .int, (.object "java/util/List"), .int, .int]
  staticTypes := #[.long]
  resolved := Array.replicate 30 none
  statics := none }

def pool6 : Array CpInfo := pool [(1, .class_ 2), (0, u "java/lang/Comparable"), (0, .class_ 4), (0, u "java/lang/Object")] 7

/-- java/lang/Comparable -/
def k6 : Class := { plain "java/lang/Comparable" (some 0) with
  accessFlags := 1537
  interfaces := #[]
  cf := some (fileOf pool6 1 #[] #[] 1537 3 #[] #[])
  fields := #[]
  methods := #[]
  instanceTypes := #[]
  staticTypes := #[]
  resolved := Array.replicate 12 none
  statics := none }

def pool7 : Array CpInfo := pool [(2, .class_ 4), (1, u "java/lang/CharSequence"), (42, .class_ 48), (0, u "java/lang/CharSequence$1CodePointIterator"), (10, .class_ 60), (0, u "java/lang/CharSequence$1CharIterator"), (5, .class_ 67), (0, u "java/lang/Object")] 63

/-- java/lang/CharSequence -/
def k7 : Class := { plain "java/lang/CharSequence" (some 0) with
  accessFlags := 1537
  interfaces := #[]
  cf := some (fileOf pool7 2 #[.nestMembers #[47, 59]] #[] 1537 66 #[] #[])
  fields := #[]
  methods := #[]
  instanceTypes := #[]
  staticTypes := #[]
  resolved := Array.replicate 131 none
  statics := none }

def pool8 : Array CpInfo := pool [(1, .class_ 2), (0, u "java/lang/constant/Constable"), (0, .class_ 4), (0, u "java/lang/Object")] 6

/-- java/lang/constant/Constable -/
def k8 : Class := { plain "java/lang/constant/Constable" (some 0) with
  accessFlags := 1537
  interfaces := #[]
  cf := some (fileOf pool8 1 #[] #[] 1537 3 #[] #[])
  fields := #[]
  methods := #[]
  instanceTypes := #[]
  staticTypes := #[]
  resolved := Array.replicate 11 none
  statics := none }

def pool9 : Array CpInfo := pool [(1, .class_ 2), (0, u "java/lang/constant/ConstantDesc"), (0, .class_ 4), (0, u "java/lang/Object")] 32

/-- java/lang/constant/ConstantDesc -/
def k9 : Class := { plain "java/lang/constant/ConstantDesc" (some 0) with
  accessFlags := 1537
  interfaces := #[]
  cf := some (fileOf pool9 1 #[] #[] 1537 3 #[] #[])
  fields := #[]
  methods := #[]
  instanceTypes := #[]
  staticTypes := #[]
  resolved := Array.replicate 37 none
  statics := none }

def pool10 : Array CpInfo := pool [(2, .class_ 4), (1, u "java/lang/Object"), (0, u "<init>"), (0, u "()V"), (3, .class_ 12), (1, u "java/lang/String"), (0, u "value"), (0, u "[B"), (2, u "coder"), (0, u "B"), (2, u "hash"), (0, u "I"), (2, u "hashIsZero"), (0, u "Z"), (13, u "COMPACT_STRINGS"), (534, .class_ 576), (0, u "java/lang/CharSequence"), (22, u "CASE_INSENSITIVE_ORDER"), (0, u "Ljava/util/Comparator;"), (500, u "serialPersistentFields"), (0, u "[Ljava/io/ObjectStreamField;"), (0, .class_ 1104), (0, u "java/lang/String$CaseInsensitiveComparator"), (1, .class_ 1107), (0, u "java/io/Serializable"), (0, .class_ 1109), (0, u "java/lang/Comparable"), (0, .class_ 1111), (0, u "java/lang/constant/Constable"), (0, .class_ 1113), (0, u "java/lang/constant/ConstantDesc"), (2, u "serialVersionUID"), (0, u "J"), (3, u "REPL"), (0, u "C"), (2, u "LATIN1"), (1, u "UTF16")] 323

def k10m0 : Method := { name := "<init>", desc := "()V", sig := { parameters := [], returnType := none }, accessFlags := 1, code := none }
/-- java/lang/String -/
def k10 : Class := { plain "java/lang/String" (some 0) with
  accessFlags := 49
  interfaces := #[2, 6, 7, 8, 9]
  cf := some (fileOf pool10 10 #[.nestMembers #[1103]] #[{ accessFlags := 1, nameIndex := 5, descriptorIndex := 6, attributes := #[] }] 49 2 #[1106, 1108, 575, 1110, 1112] #[{ accessFlags := 18, nameIndex := 13, descriptorIndex := 14, attributes := #[] }, { accessFlags := 18, nameIndex := 17, descriptorIndex := 18, attributes := #[] }, { accessFlags := 2, nameIndex := 21, descriptorIndex := 22, attributes := #[] }, { accessFlags := 2, nameIndex := 25, descriptorIndex := 26, attributes := #[] }, { accessFlags := 26, nameIndex := 1116, descriptorIndex := 1117, attributes := #[] }, { accessFlags := 24, nameIndex := 40, descriptorIndex := 26, attributes := #[] }, { accessFlags := 26, nameIndex := 1101, descriptorIndex := 1102, attributes := #[] }, { accessFlags := 26, nameIndex := 1121, descriptorIndex := 1122, attributes := #[] }, { accessFlags := 25, nameIndex := 599, descriptorIndex := 600, attributes := #[] }, { accessFlags := 24, nameIndex := 1125, descriptorIndex := 18, attributes := #[] }, { accessFlags := 24, nameIndex := 1127, descriptorIndex := 18, attributes := #[] }])
  fields := #[{ name := "value", type := (.array .byte), accessFlags := 18, slot := 0, constantValue := 0 }, { name := "coder", type := .byte, accessFlags := 18, slot := 1, constantValue := 0 }, { name := "hash", type := .int, accessFlags := 2, slot := 2, constantValue := 0 }, { name := "hashIsZero", type := .boolean, accessFlags := 2, slot := 3, constantValue := 0 }, { name := "serialVersionUID", type := .long, accessFlags := 26, slot := 0, constantValue := 0 }, { name := "COMPACT_STRINGS", type := .boolean, accessFlags := 24, slot := 1, constantValue := 0 }, { name := "serialPersistentFields", type := (.array (.object "java/io/ObjectStreamField")), accessFlags := 26, slot := 2, constantValue := 0 }, { name := "REPL", type := .char, accessFlags := 26, slot := 3, constantValue := 0 }, { name := "CASE_INSENSITIVE_ORDER", type := (.object "java/util/Comparator"), accessFlags := 25, slot := 4, constantValue := 0 }, { name := "LATIN1", type := .byte, accessFlags := 24, slot := 5, constantValue := 0 }, { name := "UTF16", type := .byte, accessFlags := 24, slot := 6, constantValue := 0 }]
  methods := #[k10m0]
  instanceTypes := #[(.array .byte), .byte, .int, .boolean]
  staticTypes := #[.long, .boolean, (.array (.object "java/io/ObjectStreamField")), .char, (.object "java/util/Comparator"), .byte, .byte]
  resolved := Array.replicate 1451 none
  statics := none }

def pool11 : Array CpInfo := pool [(2, .class_ 4), (1, u "java/lang/Object"), (0, u "<init>"), (0, u "()V"), (12, .class_ 20), (0, u "java/util/Collections"), (63, u "r"), (0, u "Ljava/util/Random;"), (80, .class_ 167), (0, u "java/util/Collections$UnmodifiableCollection"), (6, .class_ 175), (0, u "java/util/Collections$UnmodifiableSequencedCollection"), (6, .class_ 183), (0, u "java/util/Collections$UnmodifiableSet"), (6, .class_ 191), (0, u "java/util/Collections$UnmodifiableSequencedSet"), (6, .class_ 199), (0, u "java/util/Collections$UnmodifiableSortedSet"), (6, .class_ 207), (0, u "java/util/Collections$UnmodifiableNavigableSet"), (4, .class_ 213), (0, u "java/util/Collections$UnmodifiableList"), (1, .class_ 216), (0, u "java/util/Collections$UnmodifiableRandomAccessList"), (6, .class_ 224), (0, u "java/util/Collections$UnmodifiableMap"), (6, .class_ 232), (0, u "java/util/Collections$UnmodifiableSequencedMap"), (4, .class_ 238), (0, u "java/util/Collections$UnmodifiableSortedMap"), (6, .class_ 246), (0, u "java/util/Collections$UnmodifiableNavigableMap"), (3, .class_ 251), (0, u "java/util/Collections$SynchronizedCollection"), (4, .class_ 257), (0, u "java/util/Collections$SynchronizedSet"), (4, .class_ 263), (0, u "java/util/Collections$SynchronizedSortedSet"), (1, .class_ 266), (0, u "java/util/Collections$SynchronizedNavigableSet"), (1, .class_ 269), (0, u "java/util/Collections$SynchronizedRandomAccessList"), (1, .class_ 272), (0, u "java/util/Collections$SynchronizedList"), (5, .class_ 279), (0, u "java/util/Collections$SynchronizedMap"), (1, .class_ 282), (0, u "java/util/Collections$SynchronizedSortedMap"), (1, .class_ 285), (0, u "java/util/Collections$SynchronizedNavigableMap"), (1, .class_ 288), (0, u "java/util/Collections$CheckedCollection"), (11, .class_ 301), (0, u "java/util/Collections$CheckedQueue"), (3, .class_ 306), (0, u "java/util/Collections$CheckedSet"), (3, .class_ 311), (0, u "java/util/Collections$CheckedSortedSet"), (3, .class_ 316), (0, u "java/util/Collections$CheckedNavigableSet"), (3, .class_ 321), (0, u "java/util/Collections$CheckedRandomAccessList"), (3, .class_ 326), (0, u "java/util/Collections$CheckedList"), (1, .class_ 329), (0, u "java/util/Collections$CheckedMap"), (3, .class_ 334), (0, u "java/util/Collections$CheckedSortedMap"), (3, .class_ 339), (0, u "java/util/Collections$CheckedNavigableMap"), (4, .class_ 346), (1, u "java/util/Collections$EmptyIterator"), (3, .class_ 352), (1, u "java/util/Collections$EmptyListIterator"), (2, .class_ 357), (1, u "java/util/Collections$EmptyEnumeration"), (4, u "EMPTY_SET"), (0, u "Ljava/util/Set;"), (6, u "EMPTY_LIST"), (0, u "Ljava/util/List;"), (2, u "EMPTY_MAP"), (0, u "Ljava/util/Map;"), (4, .class_ 381), (0, u "java/util/Collections$SingletonSet"), (2, .class_ 385), (0, u "java/util/Collections$1"), (1, .class_ 388), (0, u "java/util/Collections$2"), (1, .class_ 391), (0, u "java/util/Collections$SingletonList"), (1, .class_ 394), (0, u "java/util/Collections$SingletonMap"), (22, .class_ 418), (0, u "java/util/Collections$CopiesList"), (4, .class_ 425), (1, u "java/util/Collections$ReverseComparator"), (8, .class_ 435), (0, u "java/util/Collections$ReverseComparator2"), (6, .class_ 443), (0, u "java/util/Collections$3"), (25, .class_ 470), (0, u "java/util/Collections$SetFromMap"), (2, .class_ 474), (0, u "java/util/Collections$SequencedSetFromMap"), (3, .class_ 479), (0, u "java/util/Collections$AsLIFOQueue"), (11, .class_ 492), (0, u "java/util/Collections$EmptySet"), (1, .class_ 495), (0, u "java/util/Collections$EmptyList"), (1, .class_ 498), (0, u "java/util/Collections$EmptyMap"), (1, u "BINARYSEARCH_THRESHOLD"), (0, u "I"), (2, u "REVERSE_THRESHOLD"), (1, u "SHUFFLE_THRESHOLD"), (1, u "FILL_THRESHOLD"), (1, u "ROTATE_THRESHOLD"), (1, u "COPY_THRESHOLD"), (1, u "REPLACEALL_THRESHOLD"), (1, u "INDEXOFSUBLIST_THRESHOLD"), (333, .class_ 851), (0, u "java/util/Collections$CheckedMap$CheckedEntrySet"), (0, .class_ 853), (0, u "java/util/Collections$CheckedMap$CheckedEntrySet$CheckedEntry"), (0, .class_ 855), (0, u "java/util/Collections$CheckedMap$CheckedEntrySet$1"), (0, .class_ 857), (0, u "java/util/Collections$CheckedList$1"), (0, .class_ 859), (0, u "java/util/Collections$CheckedCollection$1"), (0, .class_ 861), (0, u "java/util/Collections$UnmodifiableNavigableMap$EmptyNavigableMap"), (0, .class_ 863), (0, u "java/util/Collections$UnmodifiableMap$UnmodifiableEntrySet"), (0, .class_ 865), (0, u "java/util/Collections$UnmodifiableMap$UnmodifiableEntrySet$UnmodifiableEntry"), (0, .class_ 867), (0, u "java/util/Collections$UnmodifiableMap$UnmodifiableEntrySet$UnmodifiableEntrySetSpliterator"), (0, .class_ 869), (0, u "java/util/Collections$UnmodifiableMap$UnmodifiableEntrySet$1"), (0, .class_ 871), (0, u "java/util/Collections$UnmodifiableList$1"), (0, .class_ 873), (0, u "java/util/Collections$UnmodifiableNavigableSet$EmptyNavigableSet"), (0, .class_ 875), (0, u "java/util/Collections$UnmodifiableCollection$1")] 57

def k11m0 : Method := { name := "<init>", desc := "()V", sig := { parameters := [], returnType := none }, accessFlags := 2, code := none }
/-- java/util/Collections -/
def k11 : Class := { plain "java/util/Collections" (some 0) with
  accessFlags := 33
  interfaces := #[]
  cf := some (fileOf pool11 19 #[.nestMembers #[478, 473, 469, 434, 423, 417, 393, 390, 380, 497, 494, 491, 355, 350, 344, 338, 333, 328, 850, 852, 854, 320, 325, 856, 315, 310, 305, 300, 287, 858, 284, 281, 278, 268, 271, 265, 262, 256, 250, 245, 860, 237, 231, 223, 862, 864, 866, 868, 215, 212, 870, 206, 872, 198, 190, 182, 174, 166, 874, 442, 387, 384]] #[{ accessFlags := 2, nameIndex := 5, descriptorIndex := 6, attributes := #[] }] 33 2 #[] #[{ accessFlags := 26, nameIndex := 500, descriptorIndex := 501, attributes := #[] }, { accessFlags := 26, nameIndex := 504, descriptorIndex := 501, attributes := #[] }, { accessFlags := 26, nameIndex := 506, descriptorIndex := 501, attributes := #[] }, { accessFlags := 26, nameIndex := 508, descriptorIndex := 501, attributes := #[] }, { accessFlags := 26, nameIndex := 510, descriptorIndex := 501, attributes := #[] }, { accessFlags := 26, nameIndex := 512, descriptorIndex := 501, attributes := #[] }, { accessFlags := 26, nameIndex := 514, descriptorIndex := 501, attributes := #[] }, { accessFlags := 26, nameIndex := 516, descriptorIndex := 501, attributes := #[] }, { accessFlags := 10, nameIndex := 84, descriptorIndex := 85, attributes := #[] }, { accessFlags := 25, nameIndex := 362, descriptorIndex := 363, attributes := #[] }, { accessFlags := 25, nameIndex := 370, descriptorIndex := 371, attributes := #[] }, { accessFlags := 25, nameIndex := 374, descriptorIndex := 375, attributes := #[] }])
  fields := #[{ name := "BINARYSEARCH_THRESHOLD", type := .int, accessFlags := 26, slot := 0, constantValue := 0 }, { name := "REVERSE_THRESHOLD", type := .int, accessFlags := 26, slot := 1, constantValue := 0 }, { name := "SHUFFLE_THRESHOLD", type := .int, accessFlags := 26, slot := 2, constantValue := 0 }, { name := "FILL_THRESHOLD", type := .int, accessFlags := 26, slot := 3, constantValue := 0 }, { name := "ROTATE_THRESHOLD", type := .int, accessFlags := 26, slot := 4, constantValue := 0 }, { name := "COPY_THRESHOLD", type := .int, accessFlags := 26, slot := 5, constantValue := 0 }, { name := "REPLACEALL_THRESHOLD", type := .int, accessFlags := 26, slot := 6, constantValue := 0 }, { name := "INDEXOFSUBLIST_THRESHOLD", type := .int, accessFlags := 26, slot := 7, constantValue := 0 }, { name := "r", type := (.object "java/util/Random"), accessFlags := 10, slot := 8, constantValue := 0 }, { name := "EMPTY_SET", type := (.object "java/util/Set"), accessFlags := 25, slot := 9, constantValue := 0 }, { name := "EMPTY_LIST", type := (.object "java/util/List"), accessFlags := 25, slot := 10, constantValue := 0 }, { name := "EMPTY_MAP", type := (.object "java/util/Map"), accessFlags := 25, slot := 11, constantValue := 0 }]
  methods := #[k11m0]
  instanceTypes := #[]
  staticTypes := #[.int, .int, .int, .int, .int, .int, .int, .int, (.object "java/util/Random"), (.object "java/util/Set"), (.object "java/util/List"), (.object "java/util/Map")]
  resolved := Array.replicate 933 none
  statics := some 1 }

def pool12 : Array CpInfo := pool [(8, .class_ 10), (1, u "java/lang/Iterable"), (24, .class_ 36), (0, u "java/lang/Object")] 25

/-- java/lang/Iterable -/
def k12 : Class := { plain "java/lang/Iterable" (some 0) with
  accessFlags := 1537
  interfaces := #[]
  cf := some (fileOf pool12 8 #[] #[] 1537 35 #[] #[])
  fields := #[]
  methods := #[]
  instanceTypes := #[]
  staticTypes := #[]
  resolved := Array.replicate 62 none
  statics := none }

def pool13 : Array CpInfo := pool [(10, .class_ 12), (1, u "java/util/Collection"), (47, .class_ 61), (0, u "java/lang/Object"), (0, .class_ 63), (0, u "java/lang/Iterable")] 51

/-- java/util/Collection -/
def k13 : Class := { plain "java/util/Collection" (some 0) with
  accessFlags := 1537
  interfaces := #[12]
  cf := some (fileOf pool13 10 #[] #[] 1537 60 #[62] #[])
  fields := #[]
  methods := #[]
  instanceTypes := #[]
  staticTypes := #[]
  resolved := Array.replicate 115 none
  statics := none }

def pool14 : Array CpInfo := pool [(2, .class_ 4), (1, u "java/lang/Object"), (0, u "<init>"), (0, u "()V"), (1, .class_ 10), (1, u "java/util/AbstractCollection"), (66, .class_ 78), (0, u "java/util/Collection")] 81

def k14m0 : Method := { name := "<init>", desc := "()V", sig := { parameters := [], returnType := none }, accessFlags := 4, code := none }
/-- java/util/AbstractCollection -/
def k14 : Class := { plain "java/util/AbstractCollection" (some 0) with
  accessFlags := 1057
  interfaces := #[13]
  cf := some (fileOf pool14 8 #[] #[{ accessFlags := 4, nameIndex := 5, descriptorIndex := 6, attributes := #[] }] 1057 2 #[77] #[])
  fields := #[]
  methods := #[k14m0]
  instanceTypes := #[]
  staticTypes := #[]
  resolved := Array.replicate 160 none
  statics := none }

def pool15 : Array CpInfo := pool [(8, .class_ 10), (1, u "java/util/SequencedCollection"), (15, .class_ 27), (0, u "java/lang/Object"), (0, .class_ 29), (0, u "java/util/Collection")] 27

/-- java/util/SequencedCollection -/
def k15 : Class := { plain "java/util/SequencedCollection" (some 0) with
  accessFlags := 1537
  interfaces := #[13]
  cf := some (fileOf pool15 8 #[] #[] 1537 26 #[28] #[])
  fields := #[]
  methods := #[]
  instanceTypes := #[]
  staticTypes := #[]
  resolved := Array.replicate 57 none
  statics := none }

def pool16 : Array CpInfo := pool [(8, .class_ 10), (1, u "java/util/List"), (92, .class_ 104), (0, u "java/lang/Object"), (15, .class_ 121), (0, u "java/util/SequencedCollection")] 129

/-- java/util/List -/
def k16 : Class := { plain "java/util/List" (some 0) with
  accessFlags := 1537
  interfaces := #[15]
  cf := some (fileOf pool16 8 #[] #[] 1537 103 #[120] #[])
  fields := #[]
  methods := #[]
  instanceTypes := #[]
  staticTypes := #[]
  resolved := Array.replicate 251 none
  statics := none }

def pool17 : Array CpInfo := pool [(2, .class_ 4), (1, u "java/util/AbstractCollection"), (0, u "<init>"), (0, u "()V"), (1, .class_ 10), (1, u "java/util/AbstractList"), (0, u "modCount"), (0, u "I"), (64, .class_ 78), (0, u "java/util/AbstractList$Itr"), (3, .class_ 83), (0, u "java/util/AbstractList$ListItr"), (9, .class_ 94), (0, u "java/util/AbstractList$RandomAccessSubList"), (3, .class_ 99), (0, u "java/util/AbstractList$SubList"), (33, .class_ 134), (0, u "java/util/List"), (73, .class_ 209), (0, u "java/util/AbstractList$SubList$1"), (0, .class_ 211), (0, u "java/util/AbstractList$RandomAccessSpliterator")] 6

def k17m0 : Method := { name := "<init>", desc := "()V", sig := { parameters := [], returnType := none }, accessFlags := 4, code := none }
/-- java/util/AbstractList -/
def k17 : Class := { plain "java/util/AbstractList" (some 14) with
  accessFlags := 1057
  interfaces := #[16]
  cf := some (fileOf pool17 8 #[.nestMembers #[93, 98, 208, 210, 82, 77]] #[{ accessFlags := 4, nameIndex := 5, descriptorIndex := 6, attributes := #[] }] 1057 2 #[133] #[{ accessFlags := 132, nameIndex := 11, descriptorIndex := 12, attributes := #[] }])
  fields := #[{ name := "modCount", type := .int, accessFlags := 132, slot := 0, constantValue := 0 }]
  methods := #[k17m0]
  instanceTypes := #[.int]
  staticTypes := #[]
  resolved := Array.replicate 218 none
  statics := none }

def pool18 : Array CpInfo := pool [(1, .class_ 2), (0, u "java/util/RandomAccess"), (0, .class_ 4), (0, u "java/lang/Object")] 2

/-- java/util/RandomAccess -/
def k18 : Class := { plain "java/util/RandomAccess" (some 0) with
  accessFlags := 1537
  interfaces := #[]
  cf := some (fileOf pool18 1 #[] #[] 1537 3 #[] #[])
  fields := #[]
  methods := #[]
  instanceTypes := #[]
  staticTypes := #[]
  resolved := Array.replicate 7 none
  statics := none }

def pool19 : Array CpInfo := pool [(2, .class_ 4), (1, u "java/util/AbstractList"), (0, u "<init>"), (0, u "()V"), (1, .class_ 10), (1, u "java/util/Collections"), (54, .class_ 66), (0, u "java/util/Collections$EmptyList"), (0, .class_ 68), (0, u "java/util/RandomAccess"), (0, .class_ 70), (0, u "java/io/Serializable"), (0, u "serialVersionUID"), (0, u "J")] 77

def k19m0 : Method := { name := "<init>", desc := "()V", sig := { parameters := [], returnType := none }, accessFlags := 2, code := none }
/-- java/util/Collections$EmptyList -/
def k19 : Class := { plain "java/util/Collections$EmptyList" (some 17) with
  accessFlags := 32
  interfaces := #[18, 2]
  cf := some (fileOf pool19 65 #[.nestHost 8] #[{ accessFlags := 2, nameIndex := 5, descriptorIndex := 6, attributes := #[] }] 32 2 #[67, 69] #[{ accessFlags := 26, nameIndex := 71, descriptorIndex := 72, attributes := #[] }])
  fields := #[{ name := "serialVersionUID", type := .long, accessFlags := 26, slot := 0, constantValue := 0 }]
  methods := #[k19m0]
  instanceTypes := #[.int]
  staticTypes := #[.long]
  resolved := Array.replicate 150 none
  statics := none }

def pool20 : Array CpInfo := pool [(2, .class_ 4), (1, u "java/lang/StackTraceElement"), (0, u "<init>"), (2, .class_ 10), (1, u "java/lang/Object"), (0, u "()V"), (2, u "format"), (0, u "B"), (2, u "classLoaderName"), (0, u "Ljava/lang/String;"), (2, u "moduleName"), (2, u "moduleVersion"), (12, u "declaringClass"), (4, u "methodName"), (2, u "fileName"), (2, u "lineNumber"), (0, u "I"), (65, u "declaringClassObject"), (0, u "Ljava/lang/Class;"), (33, .class_ 153), (1, u "java/lang/StackTraceElement$HashedModules"), (17, .class_ 172), (0, u "java/io/Serializable"), (0, u "NATIVE_METHOD"), (1, u "UNKNOWN_SOURCE"), (2, u "BUILTIN_CLASS_LOADER"), (1, u "JDK_NON_UPGRADEABLE_MODULE"), (1, u "serialVersionUID"), (0, u "J")] 51

def k20m0 : Method := { name := "<init>", desc := "()V", sig := { parameters := [], returnType := none }, accessFlags := 2, code := none }
/-- java/lang/StackTraceElement -/
def k20 : Class := { plain "java/lang/StackTraceElement" (some 0) with
  accessFlags := 49
  interfaces := #[2]
  cf := some (fileOf pool20 2 #[.nestMembers #[151]] #[{ accessFlags := 2, nameIndex := 5, descriptorIndex := 11, attributes := #[] }] 49 8 #[171] #[{ accessFlags := 26, nameIndex := 173, descriptorIndex := 19, attributes := #[] }, { accessFlags := 26, nameIndex := 175, descriptorIndex := 19, attributes := #[] }, { accessFlags := 130, nameIndex := 116, descriptorIndex := 117, attributes := #[] }, { accessFlags := 2, nameIndex := 18, descriptorIndex := 19, attributes := #[] }, { accessFlags := 2, nameIndex := 22, descriptorIndex := 19, attributes := #[] }, { accessFlags := 2, nameIndex := 25, descriptorIndex := 19, attributes := #[] }, { accessFlags := 2, nameIndex := 38, descriptorIndex := 19, attributes := #[] }, { accessFlags := 2, nameIndex := 43, descriptorIndex := 19, attributes := #[] }, { accessFlags := 2, nameIndex := 46, descriptorIndex := 19, attributes := #[] }, { accessFlags := 2, nameIndex := 49, descriptorIndex := 50, attributes := #[] }, { accessFlags := 2, nameIndex := 14, descriptorIndex := 15, attributes := #[] }, { accessFlags := 26, nameIndex := 178, descriptorIndex := 15, attributes := #[] }, { accessFlags := 26, nameIndex := 180, descriptorIndex := 15, attributes := #[] }, { accessFlags := 26, nameIndex := 182, descriptorIndex := 183, attributes := #[] }])
  fields := #[{ name := "NATIVE_METHOD", type := (.object "java/lang/String"), accessFlags := 26, slot := 0, constantValue := 0 }, { name := "UNKNOWN_SOURCE", type := (.object "java/lang/String"), accessFlags := 26, slot := 1, constantValue := 0 }, { name := "declaringClassObject", type := (.object "java/lang/Class"), accessFlags := 130, slot := 0, constantValue := 0 }, { name := "classLoaderName", type := (.object "java/lang/String"), accessFlags := 2, slot := 1, constantValue := 0 }, { name := "moduleName", type := (.object "java/lang/String"), accessFlags := 2, slot := 2, constantValue := 0 }, { name := "moduleVersion", type := (.object "java/lang/String"), accessFlags := 2, slot := 3, constantValue := 0 }, { name := "declaringClass", type := (.object "java/lang/String"), accessFlags := 2, slot := 4, constantValue := 0 }, { name := "methodName", type := (.object "java/lang/String"), accessFlags := 2, slot := 5, constantValue := 0 }, { name := "fileName", type := (.object "java/lang/String"), accessFlags := 2, slot := 6, constantValue := 0 }, { name := "lineNumber", type := .int, accessFlags := 2, slot := 7, constantValue := 0 }, { name := "format", type := .byte, accessFlags := 2, slot := 8, constantValue := 0 }, { name := "BUILTIN_CLASS_LOADER", type := .byte, accessFlags := 26, slot := 2, constantValue := 0 }, { name := "JDK_NON_UPGRADEABLE_MODULE", type := .byte, accessFlags := 26, slot := 3, constantValue := 0 }, { name := "serialVersionUID", type := .long, accessFlags := 26, slot := 4, constantValue := 0 }]
  methods := #[k20m0]
  instanceTypes := #[(.object "java/lang/Class"), (.object "java/lang/String"), (.object "java/lang/String"), (.object "java/lang/String"), (.object "java/lang/String"), (.object "java/lang/String"), (.object "java/lang/String"), .int, .byte]
  staticTypes := #[(.object "java/lang/String"), (.object "java/lang/String"), .byte, .byte, .long]
  resolved := Array.replicate 235 none
  statics := none }

def pool21 : Array CpInfo := pool [(1, u "java/lang/Cloneable"), (0, .class_ 1), (0, u "java/lang/Object"), (0, .class_ 3)] 3

/-- java/lang/Cloneable -/
def k21 : Class := { plain "java/lang/Cloneable" (some 0) with
  accessFlags := 1537
  interfaces := #[]
  cf := some (fileOf pool21 2 #[] #[] 1537 4 #[] #[])
  fields := #[]
  methods := #[]
  instanceTypes := #[]
  staticTypes := #[]
  resolved := Array.replicate 8 none
  statics := none }

/-- the primitive byte -/
def k22 : Class := { plain "byte" none with kind := .primitive 'B', accessFlags := 0x411 }
/-- [B -/
def k23 : Class := { plain "[B" (some 0) with kind := .array 22 .byte, interfaces := #[21, 2], accessFlags := 1041 }

/-- [Ljava/lang/Object; -/
def k24 : Class := { plain "[Ljava/lang/Object;" (some 0) with kind := .array 0 (.object "java/lang/Object"), interfaces := #[21, 2], accessFlags := 1041 }

/-- [Ljava/lang/StackTraceElement; -/
def k25 : Class := { plain "[Ljava/lang/StackTraceElement;" (some 0) with kind := .array 20 (.object "java/lang/StackTraceElement"), interfaces := #[21, 2], accessFlags := 1041 }

/-- [Ljava/lang/Throwable; -/
def k26 : Class := { plain "[Ljava/lang/Throwable;" (some 0) with kind := .array 3 (.object "java/lang/Throwable"), interfaces := #[21, 2], accessFlags := 1041 }

def heap : Heap := #[{ cls := 3, slots := #[.long 0, .ref 2, .ref 3, .null, .null, .null, .null, .ref 4, .int 1], vm := .statics 3 },
  { cls := 11, slots := #[.int 0, .int 0, .int 0, .int 0, .int 0, .int 0, .int 0, .int 0, .null, .null, .ref 3, .null], vm := .statics 11 },
  { cls := 25, slots := #[], vm := .none },
  { cls := 19, slots := #[.int 0], vm := .none },
  { cls := 26, slots := #[], vm := .none }]
def classes : Array Class := #[k0, k1, k2, k3, k4, k5, k6, k7, k8, k9, k10, k11, k12, k13, k14, k15, k16, k17, k18, k19, k20, k21, k22, k23, k24, k25, k26]
def interned : List (Array UInt16 × Addr) := []
def slotsUsed : Nat := 22
def theMethod : MethodId := ⟨1, 2⟩
def args0 : Array Value := #[.int 5, .int 5, .int 5, .int 5, .int 5]
def aboutOver (below : List Frame) : State where
  vm := { classes := classes, interned := interned.toArray }
  heap := heap
  slotsUsed := slotsUsed
  threads := #[{ frames := .invoking theMethod args0 :: below }]
def below0 : List Frame := [.native { method := ⟨0, 0⟩, args := #[] }]
def about1 : State := aboutOver below0
def p0 : Program := .bare "" "" ""
def e0 : Env := launch0.env 0 0 0
theorem w_frames : about1.frames = Frame.invoking theMethod args0 :: below0 := rfl
set_option maxRecDepth 65536 in
theorem w_args : argsFit about1.vm theMethod args0 = true := by decide +kernel
set_option maxRecDepth 65536 in
theorem w_heap : heapFits about1 = true := by decide +kernel
set_option maxRecDepth 65536 in
theorem w_runnable : about1.curStatus? = some .runnable := by decide +kernel
set_option maxRecDepth 65536 in
theorem w_alone : about1.alone = true := by decide +kernel
set_option maxRecDepth 65536 in
theorem w_named : about1.methodNamed? x = some theMethod := by decide +kernel
set_option maxRecDepth 65536 in
theorem w_hears : about1.hears theMethod below0 = true := by decide +kernel
set_option maxRecDepth 65536 in
theorem w_ripe : about1.ripe theMethod args0 below0 = true := by decide +kernel
theorem w_running : about1.status = .running := rfl
set_option maxRecDepth 65536 in
theorem w_room : about1.hasRoom e0.platform room_1 = true :=
  launch0.hasRoom_least _ room_1 (by decide +kernel) (by decide +kernel) (by decide +kernel) (by decide +kernel) (by decide +kernel) (by decide +kernel)
theorem allAtoms_all (ts : List Jvm.Cond) (a : Array Jvm.Value) (st : Jvm.State) : (allAtoms ts).before a st = ts.all (fun c => c.before a st) := by
  induction ts with
  | nil => rfl
  | cons c t ih =>
    show (Jvm.Cond.and c (allAtoms t)).before a st = _
    rw [Jvm.Cond.before_and, ih, List.all_cons]
def words1 : List Jvm.Cond := Jvm.Cond.code x code maxLocals ret :: tables_1
/-- a 'code' word, met by the world's own term for the bytes: nothing is compared byte by byte -/
theorem code_word {y : MethodName} {bytes : ByteArray} {mx : Nat} {rt : Option FieldType} {a : Array Value} {s : State} {m : MethodId} {meth : Method} {c : Code} (h1 : s.methodNamed? y = some m) (h2 : s.vm.method? m = some meth) (h3 : meth.code = some c) (h4 : c.code = bytes)
    (h5 : (c.maxLocals == mx && c.exceptionTable.isEmpty && decide (c.maxStack ≤ mostOperands) && decide (meth.sig.returnType = rt) && !meth.locks && decide (parseMethodDescriptor y.desc = some meth.sig)) = true) : (Jvm.Cond.code y bytes mx rt).before a s = true := by
  simp only [Bool.and_eq_true, beq_iff_eq, Bool.not_eq_true', decide_eq_true_eq] at h5
  obtain ⟨⟨⟨⟨⟨g1, g2⟩, g3⟩, g4⟩, g5⟩, g6⟩ := h5
  simp [Cond.before, Cond.holds, Cond.value, h1, h2, h3, h4, g1, g2, g3, g4, g5, g6]
def isCode : Jvm.Cond → Bool
  | .code _ _ _ _ => true
  | _ => false
theorem all_split {L : List Jvm.Cond} {P : Jvm.Cond → Bool} (h1 : L.all (fun c => isCode c || P c) = true) (h2 : ∀ c ∈ L.filter isCode, P c = true) : L.all P = true := by
  refine List.all_eq_true.mpr fun c hc => ?_
  have h := List.all_eq_true.mp h1 c hc
  rcases Bool.eq_false_or_eq_true (isCode c) with hi | hi
  · exact h2 c (List.mem_filter.mpr ⟨hc, hi⟩)
  · simpa [hi] using h
set_option maxRecDepth 65536 in
theorem w_c0 : (Jvm.Cond.code x code maxLocals ret).before args0 about1 = true := code_word (m := ⟨1, 2⟩) (meth := k1m2) (c := k1c2) (by decide +kernel) rfl rfl rfl (by decide +kernel)
set_option maxRecDepth 65536 in
theorem w_c1 : (Jvm.Cond.code ({ cls := "com/example/libprocgraph/libprocgraph/reader/InvalidModelException", name := "<init>", desc := "(IILjava/lang/String;)V" } : Jvm.MethodName) prog_61_method_1_code (4 : Nat) (Option.none : Option Jvm.ClassFile.FieldType)).before args0 about1 = true := code_word (m := ⟨5, 0⟩) (meth := k5m0) (c := k5c0) (by decide +kernel) rfl rfl rfl (by decide +kernel)
set_option maxRecDepth 65536 in
theorem w_c2 : (Jvm.Cond.code ({ cls := "java/lang/Exception", name := "<init>", desc := "(Ljava/lang/String;)V" } : Jvm.MethodName) jdk_59_method_2_code (2 : Nat) (Option.none : Option Jvm.ClassFile.FieldType)).before args0 about1 = true := code_word (m := ⟨4, 1⟩) (meth := k4m1) (c := k4c1) (by decide +kernel) rfl rfl rfl (by decide +kernel)
set_option maxRecDepth 65536 in
theorem w_c3 : (Jvm.Cond.code ({ cls := "java/lang/Throwable", name := "<init>", desc := "(Ljava/lang/String;)V" } : Jvm.MethodName) jdk_78_method_2_code (2 : Nat) (Option.none : Option Jvm.ClassFile.FieldType)).before args0 about1 = true := code_word (m := ⟨3, 1⟩) (meth := k3m1) (c := k3c1) (by decide +kernel) rfl rfl rfl (by decide +kernel)
set_option maxRecDepth 65536 in
theorem w_c4 : (Jvm.Cond.code ({ cls := "java/lang/Object", name := "<init>", desc := "()V" } : Jvm.MethodName) object_method_1_code (1 : Nat) (Option.none : Option Jvm.ClassFile.FieldType)).before args0 about1 = true := code_word (m := ⟨0, 0⟩) (meth := k0m0) (c := k0c0) (by decide +kernel) rfl rfl rfl (by decide +kernel)
set_option maxRecDepth 65536 in
theorem w_c5 : (Jvm.Cond.code ({ cls := "java/lang/Throwable", name := "<init>", desc := "()V" } : Jvm.MethodName) jdk_78_method_1_code (1 : Nat) (Option.none : Option Jvm.ClassFile.FieldType)).before args0 about1 = true := code_word (m := ⟨3, 0⟩) (meth := k3m0) (c := k3c0) (by decide +kernel) rfl rfl rfl (by decide +kernel)
set_option maxRecDepth 65536 in
theorem w_c6 : (Jvm.Cond.code ({ cls := "com/example/libprocgraph/libprocgraph/reader/InvalidModelExceptionPrecedesPinLaw", name := "key", desc := "(II)J" } : Jvm.MethodName) method_2_code (2 : Nat) (Option.some Jvm.ClassFile.FieldType.long)).before args0 about1 = true := code_word (m := ⟨1, 1⟩) (meth := k1m1) (c := k1c1) (by decide +kernel) rfl rfl rfl (by decide +kernel)
set_option maxRecDepth 65536 in
theorem w_c7 : (Jvm.Cond.code ({ cls := "com/example/libprocgraph/libprocgraph/reader/InvalidModelException", name := "precedes", desc := "(Lcom/example/libprocgraph/libprocgraph/reader/InvalidModelException;)Z" } : Jvm.MethodName) prog_61_method_4_code (2 : Nat) (Option.some Jvm.ClassFile.FieldType.boolean)).before args0 about1 = true := code_word (m := ⟨5, 1⟩) (meth := k5m1) (c := k5c1) (by decide +kernel) rfl rfl rfl (by decide +kernel)
def codes1 : List Jvm.Cond := [Jvm.Cond.code x code maxLocals ret, Jvm.Cond.code ({ cls := "com/example/libprocgraph/libprocgraph/reader/InvalidModelException", name := "<init>", desc := "(IILjava/lang/String;)V" } : Jvm.MethodName) prog_61_method_1_code (4 : Nat) (Option.none : Option Jvm.ClassFile.FieldType), Jvm.Cond.code ({ cls := "java/lang/Exception", name := "<init>", desc := "(Ljava/lang/String;)V" } : Jvm.MethodName) jdk_59_method_2_code (2 : Nat) (Option.none : Option Jvm.ClassFile.FieldType), Jvm.Cond.code ({ cls := "java/lang/Throwable", name := "<init>", desc := "(Ljava/lang/String;)V" } : Jvm.MethodName) jdk_78_method_2_code (2 : Nat) (Option.none : Option Jvm.ClassFile.FieldType), Jvm.Cond.code ({ cls := "java/lang/Object", name := "<init>", desc := "()V" } : Jvm.MethodName) object_method_1_code (1 : Nat) (Option.none : Option Jvm.ClassFile.FieldType), Jvm.Cond.code ({ cls := "java/lang/Throwable", name := "<init>", desc := "()V" } : Jvm.MethodName) jdk_78_method_1_code (1 : Nat) (Option.none : Option Jvm.ClassFile.FieldType), Jvm.Cond.code ({ cls := "com/example/libprocgraph/libprocgraph/reader/InvalidModelExceptionPrecedesPinLaw", name := "key", desc := "(II)J" } : Jvm.MethodName) method_2_code (2 : Nat) (Option.some Jvm.ClassFile.FieldType.long), Jvm.Cond.code ({ cls := "com/example/libprocgraph/libprocgraph/reader/InvalidModelException", name := "precedes", desc := "(Lcom/example/libprocgraph/libprocgraph/reader/InvalidModelException;)Z" } : Jvm.MethodName) prog_61_method_4_code (2 : Nat) (Option.some Jvm.ClassFile.FieldType.boolean)]
set_option maxRecDepth 65536 in
theorem codes_eq : words1.filter isCode = codes1 := rfl
theorem w_codes : ∀ c ∈ words1.filter isCode, c.before args0 about1 = true := by
  rw [codes_eq]
  intro c hc
  simp only [codes1, List.mem_cons, List.not_mem_nil, or_false] at hc
  rcases hc with rfl | rfl | rfl | rfl | rfl | rfl | rfl | rfl
  · exact w_c0
  · exact w_c1
  · exact w_c2
  · exact w_c3
  · exact w_c4
  · exact w_c5
  · exact w_c6
  · exact w_c7
set_option maxRecDepth 65536 in
theorem w_t1 : (words1.take 24).all (fun c => isCode c || c.before args0 about1) = true := by decide +kernel
set_option maxRecDepth 65536 in
theorem w_t2 : ((words1.drop 24).take 24).all (fun c => isCode c || c.before args0 about1) = true := by decide +kernel
set_option maxRecDepth 65536 in
theorem w_t3 : (((words1.drop 24).drop 24).take 24).all (fun c => isCode c || c.before args0 about1) = true := by decide +kernel
set_option maxRecDepth 65536 in
theorem w_t4 : (((words1.drop 24).drop 24).drop 24).all (fun c => isCode c || c.before args0 about1) = true := by decide +kernel
theorem w_tables : (allAtoms (Jvm.Cond.code x code maxLocals ret :: tables_1)).before args0 about1 = true := by
  rw [allAtoms_all]
  show words1.all (fun c => c.before args0 about1) = true
  refine all_split ?_ w_codes
  rw [← List.take_append_drop 24 words1, List.all_append, w_t1, ← List.take_append_drop 24 (words1.drop 24), List.all_append, w_t2, ← List.take_append_drop 24 ((words1.drop 24).drop 24), List.all_append, w_t3, w_t4]
  rfl
set_option maxRecDepth 65536 in
theorem w_rest : rest_1_c.before args0 about1 = true := by decide +kernel
set_option maxRecDepth 65536 in
theorem w_case : (Jvm.Cond.and given_1 narrow_1).before args0 about1 = true := by decide +kernel
theorem w_applies : (headSpec (Jvm.Cond.code x code maxLocals ret :: tables_1) room_1).applies x e0.platform about1 = true :=
  (Spec.applies_iff w_frames).mpr ⟨w_running, w_runnable, w_alone, w_named, w_hears, w_ripe, w_room, w_tables⟩
theorem atStart : AtStart classFile x code maxLocals ret World_1 tables_1 room_1 Calls_1 rest_1 Pre_1 launch0 p0 e0 about1 theMethod args0 below0 :=
  ⟨lists_1, trivial, launch0.admits_env _ _ _, launch0.least_env, fairChoices_fair.cas, fairChoices_fair.clock, w_frames, w_args, w_heap, w_applies, ⟨(by decide +kernel : framesKnown about1 = true), ⟨(by decide +kernel : tablesKnown about1 = true), trivial⟩⟩, w_rest, w_case⟩
end start1
theorem witness_1 : WitnessClaimed_1 := ⟨start1.p0, start1.e0, start1.about1, start1.theMethod, start1.args0, start1.below0, start1.atStart⟩
end Jvm.Pilot.@@N@@
