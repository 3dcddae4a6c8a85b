import JvmDerived
import JvmDerived.Pilot.@@N@@Statement
import JvmDerived.Pilot.@@N@@Code
set_option linter.unusedVariables false
set_option linter.unusedSimpArgs false
namespace Jvm.RoadKit
open Sem ClassFile Op Lib Jvm.Stand Jvm.Free Jvm.LawKit
section New
variable {p : Program} {l : Launch} {e : Env} {R : Room} {s : State} {m : MethodId} {args : Array Value} {below : List Frame} {meth : Method} {c : Code} {T : State} {locs : List Loc} {cells slots : Nat}
theorem retI (X : Stand p l e R s m args below meth c T locs cells slots) (hx : p.tables.exec = Jvm.exec) {pc : Nat} {Ls : Array Slot} {z : Int32} {rest : List Value} (hret : meth.sig.returnType = some .int) (hd : decode c.code pc = .ok (.ireturn, 1)) {fs : List Frame}
    (hl : ∀ (f : JFrame) (acts : List Action), f.method = m → f.locked = none → f.entered = [] → (doReturn e (T.setTop f) acts (some (.int z))).1 = T.setFrames fs) : Steps p.tables e below (T.setTop (mkF m pc Ls (.int z :: rest))) (T.setFrames fs) := by
  have hm' : T.vm.method? m = some meth := X.method'
  have hn : narrow .int (.int z) = .int z := rfl
  show Steps p.tables e below (T.setTop { method := m, pc := pc, locals := Ls, stack := _ :: rest, locked := none }) _
  jvm_step X.here [X.here.top, hx, hd, hm', hret, hn]
  first | (intro acts; rw [hl _ acts rfl rfl rfl]) | rw [hl _ _ rfl rfl rfl]
  exact Steps.refl _
end New
end Jvm.RoadKit
namespace Jvm.Pilot.@@N@@
open Jvm Jvm.ClassFile Sem Op Lib Jvm.Free Jvm.Stand Jvm.LawKit Jvm.RoadKit Bundle Jvm.Pilot.@@N@@.Jvm.D
theorem wd {Z : State} {a0 : Array Value} (hw : ∀ d ∈ tables_1, d.before a0 Z = true) (i : Nat) {d : Jvm.Cond} (h : tables_1[i]? = some d) : d.before a0 Z = true := hw _ (List.mem_of_getElem? h)
abbrev jv (x : Int64) : Slot := .val (.long x)
/-- from A the run comes to an end that R speaks of -/
abbrev own_Go (tb : Tables) (e : Env) (below : List Frame) (A : State) (R : State → Outcome → Prop) : Prop := ∃ s₂ o, Steps tb e below A s₂ ∧ R s₂ o
theorem own_go {tb : Tables} {e : Env} {below : List Frame} {A : State} {R : State → Outcome → Prop} (h : own_Go tb e below A R) : ∃ s₂ o, Steps tb e below A s₂ ∧ R s₂ o := h
theorem own_lift {tb : Tables} {e : Env} {below : List Frame} {A B : State} {R : State → Outcome → Prop} (h : ∀ t, Steps tb e below A t → Steps tb e below B t) (k : own_Go tb e below A R) : own_Go tb e below B R := by
  obtain ⟨t, o, k1, k2⟩ := k
  exact ⟨t, o, h t k1, k2⟩
theorem own_plain {Z : State} {h : Heap} {a : Addr} {C : String} (F : Exa Z h a C) : ∃ c : Cell, h[a]? = some c ∧ c.vm.isStatics = false := by
  obtain ⟨c, _, h1, -, -, h4, -⟩ := F
  exact ⟨c, h1, h4⟩
theorem own_Arr_keep {Z : State} {h h' : Heap} {a : Addr} {c : Cell} {ty : FieldType} {ws : List Addr} (F : Arr Z h a c ty) (K : Keep h h' ws) (q : a ∉ ws) : Arr Z h' a c ty := ⟨K.2.1 a c F.1 q, F.2⟩
theorem own_asymm {a b : Int32} (h : a < b) : ¬ b < a := Int32.not_lt.mpr (Int32.le_of_lt h)
theorem own_Sta_keep {Z : State} {h h' : Heap} {C n d : String} {v : Value} {ws : List Addr} (F : Sta Z h C n d v) (K : Keep h h' ws) (q : ∀ x ∈ ws, ∃ c : Cell, h[x]? = some c ∧ c.vm.isStatics = false) : Sta Z h' C n d v := by
  obtain ⟨cf, i, k, f, st, cell, h1, h2, h3, h4, h5, h6, h7⟩ := F
  refine ⟨cf, i, k, f, st, cell, h1, h2, h3, h4, K.2.1 st cell h5 fun z => ?_, h6, h7⟩
  obtain ⟨c, g1, g2⟩ := q st z
  cases h5.symm.trans g1
  rw [h6] at g2
  cases g2
theorem pn_0 : plainName "java/lang/Record" = true := by first | (simp [plainName, overriddenIn]; done) | decide +kernel
theorem d1_0 : decode jdk_30_method_1_code 0 = .ok (.aload_n 0, 1) := by decide +kernel
theorem d1_1 : decode jdk_30_method_1_code 1 = .ok (.invokespecial 1, 3) := by decide +kernel
theorem d1_4 : decode jdk_30_method_1_code 4 = .ok (.return_, 1) := by decide +kernel
def Q_rmRec (Z : State) (a1 : Addr) (h0 : Heap) (n0 : Nat) (v : Option Value) (h : Heap) (L : List Loc) : Prop := v = none ∧ Fr n0 L ∧ h = h0
theorem ef_rmRec (m : MethodId) (x0 : Addr) : entryFrame m #[(.ref x0)] 1 = mkF m 0 #[.val (.ref x0)] [] := by first | (simp [entryFrame, mkF, argsToLocals, Value.category]; done) | rfl
set_option maxRecDepth 65536 in
set_option maxHeartbeats 40000000 in
theorem rmRec (l : Launch) (Z : State) (a0 : Array Value) (hw : ∀ d ∈ tables_1, d.before a0 Z = true) (ws : List Jvm.Cond) (a1 : Addr) (h0 : Heap) (n0 : Nat) (Z0 : n0 ≤ h0.size)   :
    MetFree l (⟨"java/lang/Record", "<init>", "()V"⟩ : MethodName) (head1 (Jvm.Cond.code (⟨"java/lang/Record", "<init>", "()V"⟩ : MethodName) jdk_30_method_1_code 1 none :: ws) ({ frames := 1, cells := 0, slots := 0, locals := 12 } : Room)) (fun a U => a = #[(.ref a1)] ∧ Z.Warmed39 U.vm ∧ U.heap = h0) (fun _ _ _ _ _ => True) (fun _ U o U' => ∃ v L, o = .returned v ∧ Q_rmRec Z a1 h0 n0 v U'.heap L ∧ FrameEnd U o U' L ({ frames := 1, cells := 0, slots := 0, locals := 12 } : Room).cells ({ frames := 1, cells := 0, slots := 0, locals := 12 } : Room).slots) := by
  refine MetFree.of_bodySF (plainFor_of_name pn_0) hisR ?_
  intro p e s m args below meth c s₁ Bd hml0 hP hK
  obtain ⟨rfl, hZ, hh⟩ := hP
  have hx := Bd.exec
  have hby := Bd.bytes
  have hml : c.maxLocals = 1 := hml0
  have hown : s.vm.findClass "java/lang/Record" = some m.cls := findClass_of_methodNamed Bd.named
  have hnm := (name_of_methodNamed Bd.named Bd.method).1
  have X0 : Stand p l e ({ frames := 1, cells := 0, slots := 0, locals := 12 } : Room) s m #[(.ref a1)] below meth c s₁ [] 0 0 := Stand.of_body Bd
  have e0 : s₁.heap = h0 := by rw [← hh, Bd.state]; rfl
  have N0 := Fr.nil n0
  refine own_go (own_lift (fun t k => castTop (ef_rmRec m a1) k) ?_)
  show own_Go p.tables e below (s₁.setTop (mkF m 0 #[rv a1] [])) _
  have sg1 : ∀ t, Steps p.tables e below (s₁.setTop (mkF m 1 #[rv a1] [(.ref a1)])) t → Steps p.tables e below (s₁.setTop (mkF m 0 #[rv a1] [])) t := by
    intro t k
    refine XS.aloadN X0.here hx rfl (hb hby d1_0) rfl rfl ?_
    show Steps p.tables e below (s₁.setTop (mkF m 1 #[rv a1] [(.ref a1)])) _
    exact k
  refine own_lift sg1 ?_
  show own_Go p.tables e below (s₁.setTop (mkF m 1 #[rv a1] [(.ref a1)])) _
  obtain ⟨T2, X2, e2, st2⟩ := initO X0 hx hZ hown (wd hw 11 rfl) (wd hw 12 rfl) (wd hw 13 rfl) e0 (g := (mkF m 1 #[rv a1] [(.ref a1)])) rfl (by rw [hml]; rfl) rfl (hb hby d1_1) (by decide) (W := 0) (by show 2 * 0 + _ ≤ _; exact Nat.le_of_eq rfl) (by decide)
  refine own_lift st2 ?_
  show own_Go p.tables e below (T2.setTop (mkF m 4 #[rv a1] [])) _
  obtain ⟨fs, hr, hrun, hended, hW, hsame⟩ := X2.leave (v := none) (fun _ => rfl)
  refine ⟨_, _, ?_, hrun, hended, _, _, rfl, ?_, ⟨_, rfl⟩, hW, hsame.mono (by decide) (by decide)⟩
  · exact X2.returnOut hx Bd.returns (hb hby d1_4) hr
  · show Q_rmRec Z a1 h0 n0 _ T2.heap _
    rw [e2]
    exact ⟨rfl, N0, rfl⟩
theorem pn_1 : plainName "com/example/ophion/ophion/runtime/Position" = true := by first | (simp [plainName, overriddenIn]; done) | decide +kernel
theorem d2_0 : decode prog_11_method_2_code 0 = .ok (.aload_n 0, 1) := by decide +kernel
theorem d2_1 : decode prog_11_method_2_code 1 = .ok (.invokespecial 1, 3) := by decide +kernel
theorem pd_0 : parseMethodDescriptor "()V" = some ⟨[], none⟩ := by decide +kernel
theorem d2_4 : decode prog_11_method_2_code 4 = .ok (.aload_n 0, 1) := by decide +kernel
theorem d2_5 : decode prog_11_method_2_code 5 = .ok (.iload_n 1, 1) := by decide +kernel
theorem d2_6 : decode prog_11_method_2_code 6 = .ok (.putfield 7, 3) := by decide +kernel
theorem d2_9 : decode prog_11_method_2_code 9 = .ok (.aload_n 0, 1) := by decide +kernel
theorem d2_10 : decode prog_11_method_2_code 10 = .ok (.iload_n 2, 1) := by decide +kernel
theorem d2_11 : decode prog_11_method_2_code 11 = .ok (.putfield 13, 3) := by decide +kernel
theorem d2_14 : decode prog_11_method_2_code 14 = .ok (.aload_n 0, 1) := by decide +kernel
theorem d2_15 : decode prog_11_method_2_code 15 = .ok (.iload_n 3, 1) := by decide +kernel
theorem d2_16 : decode prog_11_method_2_code 16 = .ok (.putfield 16, 3) := by decide +kernel
theorem d2_19 : decode prog_11_method_2_code 19 = .ok (.aload_n 0, 1) := by decide +kernel
theorem d2_20 : decode prog_11_method_2_code 20 = .ok (.iload 4, 2) := by decide +kernel
theorem d2_22 : decode prog_11_method_2_code 22 = .ok (.putfield 19, 3) := by decide +kernel
theorem d2_25 : decode prog_11_method_2_code 25 = .ok (.aload_n 0, 1) := by decide +kernel
theorem d2_26 : decode prog_11_method_2_code 26 = .ok (.iload 5, 2) := by decide +kernel
theorem d2_28 : decode prog_11_method_2_code 28 = .ok (.putfield 22, 3) := by decide +kernel
theorem d2_31 : decode prog_11_method_2_code 31 = .ok (.aload_n 0, 1) := by decide +kernel
theorem d2_32 : decode prog_11_method_2_code 32 = .ok (.iload 6, 2) := by decide +kernel
theorem d2_34 : decode prog_11_method_2_code 34 = .ok (.putfield 25, 3) := by decide +kernel
theorem d2_37 : decode prog_11_method_2_code 37 = .ok (.return_, 1) := by decide +kernel
def Q_rmInit6 (Z : State) (a1 : Addr) (p1 : Int32) (p2 : Int32) (p3 : Int32) (p4 : Int32) (p5 : Int32) (p6 : Int32) (h0 : Heap) (n0 : Nat) (v : Option Value) (h : Heap) (L : List Loc) : Prop := v = none ∧ Fr n0 L ∧ Keep h0 h [a1] ∧ Exa Z h a1 "com/example/ophion/ophion/runtime/Position" ∧ Fld Z h a1 "com/example/ophion/ophion/runtime/Position" "line" "I" (.int p1) ∧ Fld Z h a1 "com/example/ophion/ophion/runtime/Position" "column" "I" (.int p2) ∧ Fld Z h a1 "com/example/ophion/ophion/runtime/Position" "endLine" "I" (.int p3) ∧ Fld Z h a1 "com/example/ophion/ophion/runtime/Position" "endColumn" "I" (.int p4) ∧ Fld Z h a1 "com/example/ophion/ophion/runtime/Position" "anchorStart" "I" (.int p5) ∧ Fld Z h a1 "com/example/ophion/ophion/runtime/Position" "anchorEnd" "I" (.int p6)
theorem ef_rmInit6 (m : MethodId) (x0 : Addr) (x1 : Int32) (x2 : Int32) (x3 : Int32) (x4 : Int32) (x5 : Int32) (x6 : Int32) : entryFrame m #[(.ref x0), (.int x1), (.int x2), (.int x3), (.int x4), (.int x5), (.int x6)] 7 = mkF m 0 #[.val (.ref x0), .val (.int x1), .val (.int x2), .val (.int x3), .val (.int x4), .val (.int x5), .val (.int x6)] [] := by first | (simp [entryFrame, mkF, argsToLocals, Value.category]; done) | rfl
set_option maxRecDepth 65536 in
set_option maxHeartbeats 40000000 in
theorem rmInit6 (l : Launch) (Z : State) (a0 : Array Value) (hw : ∀ d ∈ tables_1, d.before a0 Z = true) (ws : List Jvm.Cond) (a1 : Addr) (p1 : Int32) (p2 : Int32) (p3 : Int32) (p4 : Int32) (p5 : Int32) (p6 : Int32) (h0 : Heap) (n0 : Nat) (Z0 : n0 ≤ h0.size) (F0 : Fld Z h0 a1 "com/example/ophion/ophion/runtime/Position" "line" "I" (.int 0)) (F1 : Fld Z h0 a1 "com/example/ophion/ophion/runtime/Position" "column" "I" (.int 0)) (F2 : Fld Z h0 a1 "com/example/ophion/ophion/runtime/Position" "endLine" "I" (.int 0)) (F3 : Fld Z h0 a1 "com/example/ophion/ophion/runtime/Position" "endColumn" "I" (.int 0)) (F4 : Fld Z h0 a1 "com/example/ophion/ophion/runtime/Position" "anchorStart" "I" (.int 0)) (F5 : Fld Z h0 a1 "com/example/ophion/ophion/runtime/Position" "anchorEnd" "I" (.int 0)) (E1 : Exa Z h0 a1 "com/example/ophion/ophion/runtime/Position") (G1 : n0 ≤ a1)  :
    MetFree l (⟨"com/example/ophion/ophion/runtime/Position", "<init>", "(IIIIII)V"⟩ : MethodName) (head1 (Jvm.Cond.code (⟨"com/example/ophion/ophion/runtime/Position", "<init>", "(IIIIII)V"⟩ : MethodName) prog_11_method_2_code 7 none :: ws) ({ frames := 2, cells := 0, slots := 0, locals := 24 } : Room)) (fun a U => a = #[(.ref a1), (.int p1), (.int p2), (.int p3), (.int p4), (.int p5), (.int p6)] ∧ Z.Warmed39 U.vm ∧ U.heap = h0) (fun _ _ _ _ _ => True) (fun _ U o U' => ∃ v L, o = .returned v ∧ Q_rmInit6 Z a1 p1 p2 p3 p4 p5 p6 h0 n0 v U'.heap L ∧ FrameEnd U o U' L ({ frames := 2, cells := 0, slots := 0, locals := 24 } : Room).cells ({ frames := 2, cells := 0, slots := 0, locals := 24 } : Room).slots) := by
  refine MetFree.of_bodySF (plainFor_of_name pn_1) hisR ?_
  intro p e s m args below meth c s₁ Bd hml0 hP hK
  obtain ⟨rfl, hZ, hh⟩ := hP
  have hx := Bd.exec
  have hby := Bd.bytes
  have hml : c.maxLocals = 7 := hml0
  have hown : s.vm.findClass "com/example/ophion/ophion/runtime/Position" = some m.cls := findClass_of_methodNamed Bd.named
  have hnm := (name_of_methodNamed Bd.named Bd.method).1
  have X0 : Stand p l e ({ frames := 2, cells := 0, slots := 0, locals := 24 } : Room) s m #[(.ref a1), (.int p1), (.int p2), (.int p3), (.int p4), (.int p5), (.int p6)] below meth c s₁ [] 0 0 := Stand.of_body Bd
  have e0 : s₁.heap = h0 := by rw [← hh, Bd.state]; rfl
  have N0 := Fr.nil n0
  refine own_go (own_lift (fun t k => castTop (ef_rmInit6 m a1 p1 p2 p3 p4 p5 p6) k) ?_)
  show own_Go p.tables e below (s₁.setTop (mkF m 0 #[rv a1, iv p1, iv p2, iv p3, iv p4, iv p5, iv p6] [])) _
  have sg1 : ∀ t, Steps p.tables e below (s₁.setTop (mkF m 1 #[rv a1, iv p1, iv p2, iv p3, iv p4, iv p5, iv p6] [(.ref a1)])) t → Steps p.tables e below (s₁.setTop (mkF m 0 #[rv a1, iv p1, iv p2, iv p3, iv p4, iv p5, iv p6] [])) t := by
    intro t k
    refine XS.aloadN X0.here hx rfl (hb hby d2_0) rfl rfl ?_
    show Steps p.tables e below (s₁.setTop (mkF m 1 #[rv a1, iv p1, iv p2, iv p3, iv p4, iv p5, iv p6] [(.ref a1)])) _
    exact k
  refine own_lift sg1 ?_
  show own_Go p.tables e below (s₁.setTop (mkF m 1 #[rv a1, iv p1, iv p2, iv p3, iv p4, iv p5, iv p6] [(.ref a1)])) _
  obtain ⟨_, _, ⟨T2, Lx2, kx2, nx2⟩, -, X2, ⟨Lc2, hQ2, lx2, yx2, zx2⟩, st2⟩ := X0.specialBack hx (y := (⟨"java/lang/Record", "<init>", "()V"⟩ : MethodName)) rfl hown (mvT hZ (wd hw 6 rfl)) (mvT hZ (wd hw 7 rfl)) (mvT hZ (wd hw 10 rfl)) (by decide) (backOf (W := 0) (rmRec l Z a0 hw [] a1 h0 n0 Z0 ) hZ (wd hw 10 rfl) (wd hw 9 rfl) (by decide) (by decide)) (g := (mkF m 1 #[rv a1, iv p1, iv p2, iv p3, iv p4, iv p5, iv p6] [(.ref a1)])) rfl (by rw [hml]; rfl) (Steps.refl _) (a := a1) (argsL := []) (rest := []) (lenOf pd_0 rfl) rfl (by show 2 * 0 + _ ≤ _; exact Nat.le_of_eq rfl) (hb hby d2_1) (fun _ _ => ⟨rfl, e0, (by decide : 0 + 0 ≤ _), (by decide : 0 + 0 ≤ _)⟩)
  dsimp only [Pt.U, Pt.locs, Pt.cells, Pt.slots] at X2 lx2 yx2 zx2 st2 hQ2
  subst lx2 yx2 zx2
  obtain ⟨rfl, N2q, e2⟩ := hQ2
  have N2 := Fr.app N0 N2q
  refine own_lift (fun t k => st2.trans k) ?_
  show own_Go p.tables e below (T2.setTop (mkF m 4 #[rv a1, iv p1, iv p2, iv p3, iv p4, iv p5, iv p6] [])) _
  have sg3 : ∀ t, Steps p.tables e below (T2.setTop (mkF m 6 #[rv a1, iv p1, iv p2, iv p3, iv p4, iv p5, iv p6] [(.int p1), (.ref a1)])) t → Steps p.tables e below (T2.setTop (mkF m 4 #[rv a1, iv p1, iv p2, iv p3, iv p4, iv p5, iv p6] [])) t := by
    intro t k
    refine XS.aloadN X2.here hx rfl (hb hby d2_4) rfl rfl ?_
    show Steps p.tables e below (T2.setTop (mkF m 5 #[rv a1, iv p1, iv p2, iv p3, iv p4, iv p5, iv p6] [(.ref a1)])) _
    refine XS.iloadN X2.here hx rfl (hb hby d2_5) rfl ?_
    show Steps p.tables e below (T2.setTop (mkF m 6 #[rv a1, iv p1, iv p2, iv p3, iv p4, iv p5, iv p6] [(.int p1), (.ref a1)])) _
    exact k
  refine own_lift sg3 ?_
  show own_Go p.tables e below (T2.setTop (mkF m 6 #[rv a1, iv p1, iv p2, iv p3, iv p4, iv p5, iv p6] [(.int p1), (.ref a1)])) _
  obtain ⟨T4, h4, X4, e4, W4, st4⟩ := putF X2 hx hZ hown (host := "") (Or.inl (wd hw 14 rfl)) Via.refl e2 F0 E1 (Or.inr ⟨(wd hw 15 rfl), rfl, hnm⟩) (wd hw 1 rfl) (ty := .int) (by decide) rfl rfl (g := (mkF m 6 #[rv a1, iv p1, iv p2, iv p3, iv p4, iv p5, iv p6] [(.int p1), (.ref a1)])) rfl rfl (hb hby d2_6)
  have N4 := Fr.snoc X4 N2 G1
  have Z4 : n0 ≤ h4.size := Nat.le_trans Z0 (Nat.le_of_eq W4.size.symm)
  have K4 : Keep h0 h4 [a1] := (Keep.refl h0 [a1]).wr W4 (Or.inl (List.mem_of_getElem? (i := 0) rfl))
  have Fw4 : Fld Z h4 a1 "com/example/ophion/ophion/runtime/Position" "line" "I" (.int p1) := F0.same W4
  refine own_lift st4 ?_
  show own_Go p.tables e below (T4.setTop (mkF m 9 #[rv a1, iv p1, iv p2, iv p3, iv p4, iv p5, iv p6] [])) _
  have sg5 : ∀ t, Steps p.tables e below (T4.setTop (mkF m 11 #[rv a1, iv p1, iv p2, iv p3, iv p4, iv p5, iv p6] [(.int p2), (.ref a1)])) t → Steps p.tables e below (T4.setTop (mkF m 9 #[rv a1, iv p1, iv p2, iv p3, iv p4, iv p5, iv p6] [])) t := by
    intro t k
    refine XS.aloadN X4.here hx rfl (hb hby d2_9) rfl rfl ?_
    show Steps p.tables e below (T4.setTop (mkF m 10 #[rv a1, iv p1, iv p2, iv p3, iv p4, iv p5, iv p6] [(.ref a1)])) _
    refine XS.iloadN X4.here hx rfl (hb hby d2_10) rfl ?_
    show Steps p.tables e below (T4.setTop (mkF m 11 #[rv a1, iv p1, iv p2, iv p3, iv p4, iv p5, iv p6] [(.int p2), (.ref a1)])) _
    exact k
  refine own_lift sg5 ?_
  show own_Go p.tables e below (T4.setTop (mkF m 11 #[rv a1, iv p1, iv p2, iv p3, iv p4, iv p5, iv p6] [(.int p2), (.ref a1)])) _
  have Fc6 : Fld Z h4 a1 "com/example/ophion/ophion/runtime/Position" "column" "I" (.int 0) := (F1.other W4 (Or.inr (slot_ne (Or.inr (wd hw 17 rfl)) (Or.inr (wd hw 15 rfl)) (by decide) (t := .int) (t' := .int) (by decide) (by decide))))
  have Fc7 : Exa Z h4 a1 "com/example/ophion/ophion/runtime/Position" := (E1.wr W4)
  obtain ⟨T8, h8, X8, e8, W8, st8⟩ := putF X4 hx hZ hown (host := "") (Or.inl (wd hw 16 rfl)) Via.refl e4 Fc6 Fc7 (Or.inr ⟨(wd hw 17 rfl), rfl, hnm⟩) (wd hw 1 rfl) (ty := .int) (by decide) rfl rfl (g := (mkF m 11 #[rv a1, iv p1, iv p2, iv p3, iv p4, iv p5, iv p6] [(.int p2), (.ref a1)])) rfl rfl (hb hby d2_11)
  have N8 := Fr.snoc X8 N4 G1
  have Z8 : n0 ≤ h8.size := Nat.le_trans Z4 (Nat.le_of_eq W8.size.symm)
  have K8 : Keep h0 h8 [a1] := K4.wr W8 (Or.inl (List.mem_of_getElem? (i := 0) rfl))
  have Fw8 : Fld Z h8 a1 "com/example/ophion/ophion/runtime/Position" "column" "I" (.int p2) := Fc6.same W8
  refine own_lift st8 ?_
  show own_Go p.tables e below (T8.setTop (mkF m 14 #[rv a1, iv p1, iv p2, iv p3, iv p4, iv p5, iv p6] [])) _
  have sg9 : ∀ t, Steps p.tables e below (T8.setTop (mkF m 16 #[rv a1, iv p1, iv p2, iv p3, iv p4, iv p5, iv p6] [(.int p3), (.ref a1)])) t → Steps p.tables e below (T8.setTop (mkF m 14 #[rv a1, iv p1, iv p2, iv p3, iv p4, iv p5, iv p6] [])) t := by
    intro t k
    refine XS.aloadN X8.here hx rfl (hb hby d2_14) rfl rfl ?_
    show Steps p.tables e below (T8.setTop (mkF m 15 #[rv a1, iv p1, iv p2, iv p3, iv p4, iv p5, iv p6] [(.ref a1)])) _
    refine XS.iloadN X8.here hx rfl (hb hby d2_15) rfl ?_
    show Steps p.tables e below (T8.setTop (mkF m 16 #[rv a1, iv p1, iv p2, iv p3, iv p4, iv p5, iv p6] [(.int p3), (.ref a1)])) _
    exact k
  refine own_lift sg9 ?_
  show own_Go p.tables e below (T8.setTop (mkF m 16 #[rv a1, iv p1, iv p2, iv p3, iv p4, iv p5, iv p6] [(.int p3), (.ref a1)])) _
  have Fc10 : Fld Z h8 a1 "com/example/ophion/ophion/runtime/Position" "endLine" "I" (.int 0) := ((F2.other W4 (Or.inr (slot_ne (Or.inr (wd hw 19 rfl)) (Or.inr (wd hw 15 rfl)) (by decide) (t := .int) (t' := .int) (by decide) (by decide)))).other W8 (Or.inr (slot_ne (Or.inr (wd hw 19 rfl)) (Or.inr (wd hw 17 rfl)) (by decide) (t := .int) (t' := .int) (by decide) (by decide))))
  have Fc11 : Exa Z h8 a1 "com/example/ophion/ophion/runtime/Position" := (Fc7.wr W8)
  obtain ⟨T12, h12, X12, e12, W12, st12⟩ := putF X8 hx hZ hown (host := "") (Or.inl (wd hw 18 rfl)) Via.refl e8 Fc10 Fc11 (Or.inr ⟨(wd hw 19 rfl), rfl, hnm⟩) (wd hw 1 rfl) (ty := .int) (by decide) rfl rfl (g := (mkF m 16 #[rv a1, iv p1, iv p2, iv p3, iv p4, iv p5, iv p6] [(.int p3), (.ref a1)])) rfl rfl (hb hby d2_16)
  have N12 := Fr.snoc X12 N8 G1
  have Z12 : n0 ≤ h12.size := Nat.le_trans Z8 (Nat.le_of_eq W12.size.symm)
  have K12 : Keep h0 h12 [a1] := K8.wr W12 (Or.inl (List.mem_of_getElem? (i := 0) rfl))
  have Fw12 : Fld Z h12 a1 "com/example/ophion/ophion/runtime/Position" "endLine" "I" (.int p3) := Fc10.same W12
  refine own_lift st12 ?_
  show own_Go p.tables e below (T12.setTop (mkF m 19 #[rv a1, iv p1, iv p2, iv p3, iv p4, iv p5, iv p6] [])) _
  have sg13 : ∀ t, Steps p.tables e below (T12.setTop (mkF m 22 #[rv a1, iv p1, iv p2, iv p3, iv p4, iv p5, iv p6] [(.int p4), (.ref a1)])) t → Steps p.tables e below (T12.setTop (mkF m 19 #[rv a1, iv p1, iv p2, iv p3, iv p4, iv p5, iv p6] [])) t := by
    intro t k
    refine XS.aloadN X12.here hx rfl (hb hby d2_19) rfl rfl ?_
    show Steps p.tables e below (T12.setTop (mkF m 20 #[rv a1, iv p1, iv p2, iv p3, iv p4, iv p5, iv p6] [(.ref a1)])) _
    refine XS.iload X12.here hx rfl (hb hby d2_20) rfl ?_
    show Steps p.tables e below (T12.setTop (mkF m 22 #[rv a1, iv p1, iv p2, iv p3, iv p4, iv p5, iv p6] [(.int p4), (.ref a1)])) _
    exact k
  refine own_lift sg13 ?_
  show own_Go p.tables e below (T12.setTop (mkF m 22 #[rv a1, iv p1, iv p2, iv p3, iv p4, iv p5, iv p6] [(.int p4), (.ref a1)])) _
  have Fc14 : Fld Z h12 a1 "com/example/ophion/ophion/runtime/Position" "endColumn" "I" (.int 0) := (((F3.other W4 (Or.inr (slot_ne (Or.inr (wd hw 21 rfl)) (Or.inr (wd hw 15 rfl)) (by decide) (t := .int) (t' := .int) (by decide) (by decide)))).other W8 (Or.inr (slot_ne (Or.inr (wd hw 21 rfl)) (Or.inr (wd hw 17 rfl)) (by decide) (t := .int) (t' := .int) (by decide) (by decide)))).other W12 (Or.inr (slot_ne (Or.inr (wd hw 21 rfl)) (Or.inr (wd hw 19 rfl)) (by decide) (t := .int) (t' := .int) (by decide) (by decide))))
  have Fc15 : Exa Z h12 a1 "com/example/ophion/ophion/runtime/Position" := (Fc11.wr W12)
  obtain ⟨T16, h16, X16, e16, W16, st16⟩ := putF X12 hx hZ hown (host := "") (Or.inl (wd hw 20 rfl)) Via.refl e12 Fc14 Fc15 (Or.inr ⟨(wd hw 21 rfl), rfl, hnm⟩) (wd hw 1 rfl) (ty := .int) (by decide) rfl rfl (g := (mkF m 22 #[rv a1, iv p1, iv p2, iv p3, iv p4, iv p5, iv p6] [(.int p4), (.ref a1)])) rfl rfl (hb hby d2_22)
  have N16 := Fr.snoc X16 N12 G1
  have Z16 : n0 ≤ h16.size := Nat.le_trans Z12 (Nat.le_of_eq W16.size.symm)
  have K16 : Keep h0 h16 [a1] := K12.wr W16 (Or.inl (List.mem_of_getElem? (i := 0) rfl))
  have Fw16 : Fld Z h16 a1 "com/example/ophion/ophion/runtime/Position" "endColumn" "I" (.int p4) := Fc14.same W16
  refine own_lift st16 ?_
  show own_Go p.tables e below (T16.setTop (mkF m 25 #[rv a1, iv p1, iv p2, iv p3, iv p4, iv p5, iv p6] [])) _
  have sg17 : ∀ t, Steps p.tables e below (T16.setTop (mkF m 28 #[rv a1, iv p1, iv p2, iv p3, iv p4, iv p5, iv p6] [(.int p5), (.ref a1)])) t → Steps p.tables e below (T16.setTop (mkF m 25 #[rv a1, iv p1, iv p2, iv p3, iv p4, iv p5, iv p6] [])) t := by
    intro t k
    refine XS.aloadN X16.here hx rfl (hb hby d2_25) rfl rfl ?_
    show Steps p.tables e below (T16.setTop (mkF m 26 #[rv a1, iv p1, iv p2, iv p3, iv p4, iv p5, iv p6] [(.ref a1)])) _
    refine XS.iload X16.here hx rfl (hb hby d2_26) rfl ?_
    show Steps p.tables e below (T16.setTop (mkF m 28 #[rv a1, iv p1, iv p2, iv p3, iv p4, iv p5, iv p6] [(.int p5), (.ref a1)])) _
    exact k
  refine own_lift sg17 ?_
  show own_Go p.tables e below (T16.setTop (mkF m 28 #[rv a1, iv p1, iv p2, iv p3, iv p4, iv p5, iv p6] [(.int p5), (.ref a1)])) _
  have Fc18 : Fld Z h16 a1 "com/example/ophion/ophion/runtime/Position" "anchorStart" "I" (.int 0) := ((((F4.other W4 (Or.inr (slot_ne (Or.inr (wd hw 23 rfl)) (Or.inr (wd hw 15 rfl)) (by decide) (t := .int) (t' := .int) (by decide) (by decide)))).other W8 (Or.inr (slot_ne (Or.inr (wd hw 23 rfl)) (Or.inr (wd hw 17 rfl)) (by decide) (t := .int) (t' := .int) (by decide) (by decide)))).other W12 (Or.inr (slot_ne (Or.inr (wd hw 23 rfl)) (Or.inr (wd hw 19 rfl)) (by decide) (t := .int) (t' := .int) (by decide) (by decide)))).other W16 (Or.inr (slot_ne (Or.inr (wd hw 23 rfl)) (Or.inr (wd hw 21 rfl)) (by decide) (t := .int) (t' := .int) (by decide) (by decide))))
  have Fc19 : Exa Z h16 a1 "com/example/ophion/ophion/runtime/Position" := (Fc15.wr W16)
  obtain ⟨T20, h20, X20, e20, W20, st20⟩ := putF X16 hx hZ hown (host := "") (Or.inl (wd hw 22 rfl)) Via.refl e16 Fc18 Fc19 (Or.inr ⟨(wd hw 23 rfl), rfl, hnm⟩) (wd hw 1 rfl) (ty := .int) (by decide) rfl rfl (g := (mkF m 28 #[rv a1, iv p1, iv p2, iv p3, iv p4, iv p5, iv p6] [(.int p5), (.ref a1)])) rfl rfl (hb hby d2_28)
  have N20 := Fr.snoc X20 N16 G1
  have Z20 : n0 ≤ h20.size := Nat.le_trans Z16 (Nat.le_of_eq W20.size.symm)
  have K20 : Keep h0 h20 [a1] := K16.wr W20 (Or.inl (List.mem_of_getElem? (i := 0) rfl))
  have Fw20 : Fld Z h20 a1 "com/example/ophion/ophion/runtime/Position" "anchorStart" "I" (.int p5) := Fc18.same W20
  refine own_lift st20 ?_
  show own_Go p.tables e below (T20.setTop (mkF m 31 #[rv a1, iv p1, iv p2, iv p3, iv p4, iv p5, iv p6] [])) _
  have sg21 : ∀ t, Steps p.tables e below (T20.setTop (mkF m 34 #[rv a1, iv p1, iv p2, iv p3, iv p4, iv p5, iv p6] [(.int p6), (.ref a1)])) t → Steps p.tables e below (T20.setTop (mkF m 31 #[rv a1, iv p1, iv p2, iv p3, iv p4, iv p5, iv p6] [])) t := by
    intro t k
    refine XS.aloadN X20.here hx rfl (hb hby d2_31) rfl rfl ?_
    show Steps p.tables e below (T20.setTop (mkF m 32 #[rv a1, iv p1, iv p2, iv p3, iv p4, iv p5, iv p6] [(.ref a1)])) _
    refine XS.iload X20.here hx rfl (hb hby d2_32) rfl ?_
    show Steps p.tables e below (T20.setTop (mkF m 34 #[rv a1, iv p1, iv p2, iv p3, iv p4, iv p5, iv p6] [(.int p6), (.ref a1)])) _
    exact k
  refine own_lift sg21 ?_
  show own_Go p.tables e below (T20.setTop (mkF m 34 #[rv a1, iv p1, iv p2, iv p3, iv p4, iv p5, iv p6] [(.int p6), (.ref a1)])) _
  have Fc22 : Fld Z h20 a1 "com/example/ophion/ophion/runtime/Position" "anchorEnd" "I" (.int 0) := (((((F5.other W4 (Or.inr (slot_ne (Or.inr (wd hw 25 rfl)) (Or.inr (wd hw 15 rfl)) (by decide) (t := .int) (t' := .int) (by decide) (by decide)))).other W8 (Or.inr (slot_ne (Or.inr (wd hw 25 rfl)) (Or.inr (wd hw 17 rfl)) (by decide) (t := .int) (t' := .int) (by decide) (by decide)))).other W12 (Or.inr (slot_ne (Or.inr (wd hw 25 rfl)) (Or.inr (wd hw 19 rfl)) (by decide) (t := .int) (t' := .int) (by decide) (by decide)))).other W16 (Or.inr (slot_ne (Or.inr (wd hw 25 rfl)) (Or.inr (wd hw 21 rfl)) (by decide) (t := .int) (t' := .int) (by decide) (by decide)))).other W20 (Or.inr (slot_ne (Or.inr (wd hw 25 rfl)) (Or.inr (wd hw 23 rfl)) (by decide) (t := .int) (t' := .int) (by decide) (by decide))))
  have Fc23 : Exa Z h20 a1 "com/example/ophion/ophion/runtime/Position" := (Fc19.wr W20)
  obtain ⟨T24, h24, X24, e24, W24, st24⟩ := putF X20 hx hZ hown (host := "") (Or.inl (wd hw 24 rfl)) Via.refl e20 Fc22 Fc23 (Or.inr ⟨(wd hw 25 rfl), rfl, hnm⟩) (wd hw 1 rfl) (ty := .int) (by decide) rfl rfl (g := (mkF m 34 #[rv a1, iv p1, iv p2, iv p3, iv p4, iv p5, iv p6] [(.int p6), (.ref a1)])) rfl rfl (hb hby d2_34)
  have N24 := Fr.snoc X24 N20 G1
  have Z24 : n0 ≤ h24.size := Nat.le_trans Z20 (Nat.le_of_eq W24.size.symm)
  have K24 : Keep h0 h24 [a1] := K20.wr W24 (Or.inl (List.mem_of_getElem? (i := 0) rfl))
  have Fw24 : Fld Z h24 a1 "com/example/ophion/ophion/runtime/Position" "anchorEnd" "I" (.int p6) := Fc22.same W24
  refine own_lift st24 ?_
  show own_Go p.tables e below (T24.setTop (mkF m 37 #[rv a1, iv p1, iv p2, iv p3, iv p4, iv p5, iv p6] [])) _
  obtain ⟨fs, hr, hrun, hended, hW, hsame⟩ := X24.leave (v := none) (fun _ => rfl)
  have Fc25 : Exa Z h24 a1 "com/example/ophion/ophion/runtime/Position" := (Fc23.wr W24)
  have Fc26 : Fld Z h24 a1 "com/example/ophion/ophion/runtime/Position" "line" "I" (.int p1) := (((((Fw4.other W8 (Or.inr (slot_ne (Or.inr (wd hw 15 rfl)) (Or.inr (wd hw 17 rfl)) (by decide) (t := .int) (t' := .int) (by decide) (by decide)))).other W12 (Or.inr (slot_ne (Or.inr (wd hw 15 rfl)) (Or.inr (wd hw 19 rfl)) (by decide) (t := .int) (t' := .int) (by decide) (by decide)))).other W16 (Or.inr (slot_ne (Or.inr (wd hw 15 rfl)) (Or.inr (wd hw 21 rfl)) (by decide) (t := .int) (t' := .int) (by decide) (by decide)))).other W20 (Or.inr (slot_ne (Or.inr (wd hw 15 rfl)) (Or.inr (wd hw 23 rfl)) (by decide) (t := .int) (t' := .int) (by decide) (by decide)))).other W24 (Or.inr (slot_ne (Or.inr (wd hw 15 rfl)) (Or.inr (wd hw 25 rfl)) (by decide) (t := .int) (t' := .int) (by decide) (by decide))))
  have Fc27 : Fld Z h24 a1 "com/example/ophion/ophion/runtime/Position" "column" "I" (.int p2) := ((((Fw8.other W12 (Or.inr (slot_ne (Or.inr (wd hw 17 rfl)) (Or.inr (wd hw 19 rfl)) (by decide) (t := .int) (t' := .int) (by decide) (by decide)))).other W16 (Or.inr (slot_ne (Or.inr (wd hw 17 rfl)) (Or.inr (wd hw 21 rfl)) (by decide) (t := .int) (t' := .int) (by decide) (by decide)))).other W20 (Or.inr (slot_ne (Or.inr (wd hw 17 rfl)) (Or.inr (wd hw 23 rfl)) (by decide) (t := .int) (t' := .int) (by decide) (by decide)))).other W24 (Or.inr (slot_ne (Or.inr (wd hw 17 rfl)) (Or.inr (wd hw 25 rfl)) (by decide) (t := .int) (t' := .int) (by decide) (by decide))))
  have Fc28 : Fld Z h24 a1 "com/example/ophion/ophion/runtime/Position" "endLine" "I" (.int p3) := (((Fw12.other W16 (Or.inr (slot_ne (Or.inr (wd hw 19 rfl)) (Or.inr (wd hw 21 rfl)) (by decide) (t := .int) (t' := .int) (by decide) (by decide)))).other W20 (Or.inr (slot_ne (Or.inr (wd hw 19 rfl)) (Or.inr (wd hw 23 rfl)) (by decide) (t := .int) (t' := .int) (by decide) (by decide)))).other W24 (Or.inr (slot_ne (Or.inr (wd hw 19 rfl)) (Or.inr (wd hw 25 rfl)) (by decide) (t := .int) (t' := .int) (by decide) (by decide))))
  have Fc29 : Fld Z h24 a1 "com/example/ophion/ophion/runtime/Position" "endColumn" "I" (.int p4) := ((Fw16.other W20 (Or.inr (slot_ne (Or.inr (wd hw 21 rfl)) (Or.inr (wd hw 23 rfl)) (by decide) (t := .int) (t' := .int) (by decide) (by decide)))).other W24 (Or.inr (slot_ne (Or.inr (wd hw 21 rfl)) (Or.inr (wd hw 25 rfl)) (by decide) (t := .int) (t' := .int) (by decide) (by decide))))
  have Fc30 : Fld Z h24 a1 "com/example/ophion/ophion/runtime/Position" "anchorStart" "I" (.int p5) := (Fw20.other W24 (Or.inr (slot_ne (Or.inr (wd hw 23 rfl)) (Or.inr (wd hw 25 rfl)) (by decide) (t := .int) (t' := .int) (by decide) (by decide))))
  refine ⟨_, _, ?_, hrun, hended, _, _, rfl, ?_, ⟨_, rfl⟩, hW, hsame.mono (by decide) (by decide)⟩
  · exact X24.returnOut hx Bd.returns (hb hby d2_37) hr
  · show Q_rmInit6 Z a1 p1 p2 p3 p4 p5 p6 h0 n0 _ T24.heap _
    rw [e24]
    exact ⟨rfl, N24, K24, Fc25, Fc26, Fc27, Fc28, Fc29, Fc30, Fw24⟩
theorem d3_0 : decode prog_11_method_1_code 0 = .ok (.aload_n 0, 1) := by decide +kernel
theorem d3_1 : decode prog_11_method_1_code 1 = .ok (.iload_n 1, 1) := by decide +kernel
theorem d3_2 : decode prog_11_method_1_code 2 = .ok (.iload_n 2, 1) := by decide +kernel
theorem d3_3 : decode prog_11_method_1_code 3 = .ok (.iload_n 3, 1) := by decide +kernel
theorem d3_4 : decode prog_11_method_1_code 4 = .ok (.iload 4, 2) := by decide +kernel
theorem d3_6 : decode prog_11_method_1_code 6 = .ok (.iconst (-1), 1) := by decide +kernel
theorem d3_7 : decode prog_11_method_1_code 7 = .ok (.iconst (-1), 1) := by decide +kernel
theorem d3_8 : decode prog_11_method_1_code 8 = .ok (.invokespecial 28, 3) := by decide +kernel
theorem pd_1 : parseMethodDescriptor "(IIIIII)V" = some ⟨[.int, .int, .int, .int, .int, .int], none⟩ := by decide +kernel
theorem d3_11 : decode prog_11_method_1_code 11 = .ok (.return_, 1) := by decide +kernel
def Q_rmInit4 (Z : State) (a1 : Addr) (p1 : Int32) (p2 : Int32) (p3 : Int32) (p4 : Int32) (h0 : Heap) (n0 : Nat) (v : Option Value) (h : Heap) (L : List Loc) : Prop := v = none ∧ Fr n0 L ∧ Keep h0 h [a1] ∧ Exa Z h a1 "com/example/ophion/ophion/runtime/Position" ∧ Fld Z h a1 "com/example/ophion/ophion/runtime/Position" "line" "I" (.int p1) ∧ Fld Z h a1 "com/example/ophion/ophion/runtime/Position" "column" "I" (.int p2) ∧ Fld Z h a1 "com/example/ophion/ophion/runtime/Position" "endLine" "I" (.int p3) ∧ Fld Z h a1 "com/example/ophion/ophion/runtime/Position" "endColumn" "I" (.int p4) ∧ Fld Z h a1 "com/example/ophion/ophion/runtime/Position" "anchorStart" "I" (.int (-1)) ∧ Fld Z h a1 "com/example/ophion/ophion/runtime/Position" "anchorEnd" "I" (.int (-1))
theorem ef_rmInit4 (m : MethodId) (x0 : Addr) (x1 : Int32) (x2 : Int32) (x3 : Int32) (x4 : Int32) : entryFrame m #[(.ref x0), (.int x1), (.int x2), (.int x3), (.int x4)] 5 = mkF m 0 #[.val (.ref x0), .val (.int x1), .val (.int x2), .val (.int x3), .val (.int x4)] [] := by first | (simp [entryFrame, mkF, argsToLocals, Value.category]; done) | rfl
set_option maxRecDepth 65536 in
set_option maxHeartbeats 40000000 in
theorem rmInit4 (l : Launch) (Z : State) (a0 : Array Value) (hw : ∀ d ∈ tables_1, d.before a0 Z = true) (ws : List Jvm.Cond) (a1 : Addr) (p1 : Int32) (p2 : Int32) (p3 : Int32) (p4 : Int32) (h0 : Heap) (n0 : Nat) (Z0 : n0 ≤ h0.size) (F0 : Fld Z h0 a1 "com/example/ophion/ophion/runtime/Position" "line" "I" (.int 0)) (F1 : Fld Z h0 a1 "com/example/ophion/ophion/runtime/Position" "column" "I" (.int 0)) (F2 : Fld Z h0 a1 "com/example/ophion/ophion/runtime/Position" "endLine" "I" (.int 0)) (F3 : Fld Z h0 a1 "com/example/ophion/ophion/runtime/Position" "endColumn" "I" (.int 0)) (F4 : Fld Z h0 a1 "com/example/ophion/ophion/runtime/Position" "anchorStart" "I" (.int 0)) (F5 : Fld Z h0 a1 "com/example/ophion/ophion/runtime/Position" "anchorEnd" "I" (.int 0)) (E1 : Exa Z h0 a1 "com/example/ophion/ophion/runtime/Position") (G1 : n0 ≤ a1)  :
    MetFree l (⟨"com/example/ophion/ophion/runtime/Position", "<init>", "(IIII)V"⟩ : MethodName) (head1 (Jvm.Cond.code (⟨"com/example/ophion/ophion/runtime/Position", "<init>", "(IIII)V"⟩ : MethodName) prog_11_method_1_code 5 none :: ws) ({ frames := 3, cells := 0, slots := 0, locals := 42 } : Room)) (fun a U => a = #[(.ref a1), (.int p1), (.int p2), (.int p3), (.int p4)] ∧ Z.Warmed39 U.vm ∧ U.heap = h0) (fun _ _ _ _ _ => True) (fun _ U o U' => ∃ v L, o = .returned v ∧ Q_rmInit4 Z a1 p1 p2 p3 p4 h0 n0 v U'.heap L ∧ FrameEnd U o U' L ({ frames := 3, cells := 0, slots := 0, locals := 42 } : Room).cells ({ frames := 3, cells := 0, slots := 0, locals := 42 } : Room).slots) := by
  refine MetFree.of_bodySF (plainFor_of_name pn_1) hisR ?_
  intro p e s m args below meth c s₁ Bd hml0 hP hK
  obtain ⟨rfl, hZ, hh⟩ := hP
  have hx := Bd.exec
  have hby := Bd.bytes
  have hml : c.maxLocals = 5 := hml0
  have hown : s.vm.findClass "com/example/ophion/ophion/runtime/Position" = some m.cls := findClass_of_methodNamed Bd.named
  have hnm := (name_of_methodNamed Bd.named Bd.method).1
  have X0 : Stand p l e ({ frames := 3, cells := 0, slots := 0, locals := 42 } : Room) s m #[(.ref a1), (.int p1), (.int p2), (.int p3), (.int p4)] below meth c s₁ [] 0 0 := Stand.of_body Bd
  have e0 : s₁.heap = h0 := by rw [← hh, Bd.state]; rfl
  have N0 := Fr.nil n0
  refine own_go (own_lift (fun t k => castTop (ef_rmInit4 m a1 p1 p2 p3 p4) k) ?_)
  show own_Go p.tables e below (s₁.setTop (mkF m 0 #[rv a1, iv p1, iv p2, iv p3, iv p4] [])) _
  have sg1 : ∀ t, Steps p.tables e below (s₁.setTop (mkF m 8 #[rv a1, iv p1, iv p2, iv p3, iv p4] [(.int (-1)), (.int (-1)), (.int p4), (.int p3), (.int p2), (.int p1), (.ref a1)])) t → Steps p.tables e below (s₁.setTop (mkF m 0 #[rv a1, iv p1, iv p2, iv p3, iv p4] [])) t := by
    intro t k
    refine XS.aloadN X0.here hx rfl (hb hby d3_0) rfl rfl ?_
    show Steps p.tables e below (s₁.setTop (mkF m 1 #[rv a1, iv p1, iv p2, iv p3, iv p4] [(.ref a1)])) _
    refine XS.iloadN X0.here hx rfl (hb hby d3_1) rfl ?_
    show Steps p.tables e below (s₁.setTop (mkF m 2 #[rv a1, iv p1, iv p2, iv p3, iv p4] [(.int p1), (.ref a1)])) _
    refine XS.iloadN X0.here hx rfl (hb hby d3_2) rfl ?_
    show Steps p.tables e below (s₁.setTop (mkF m 3 #[rv a1, iv p1, iv p2, iv p3, iv p4] [(.int p2), (.int p1), (.ref a1)])) _
    refine XS.iloadN X0.here hx rfl (hb hby d3_3) rfl ?_
    show Steps p.tables e below (s₁.setTop (mkF m 4 #[rv a1, iv p1, iv p2, iv p3, iv p4] [(.int p3), (.int p2), (.int p1), (.ref a1)])) _
    refine XS.iload X0.here hx rfl (hb hby d3_4) rfl ?_
    show Steps p.tables e below (s₁.setTop (mkF m 6 #[rv a1, iv p1, iv p2, iv p3, iv p4] [(.int p4), (.int p3), (.int p2), (.int p1), (.ref a1)])) _
    refine XS.iconst X0.here hx rfl (hb hby d3_6) ?_
    show Steps p.tables e below (s₁.setTop (mkF m 7 #[rv a1, iv p1, iv p2, iv p3, iv p4] [(.int (-1)), (.int p4), (.int p3), (.int p2), (.int p1), (.ref a1)])) _
    refine XS.iconst X0.here hx rfl (hb hby d3_7) ?_
    show Steps p.tables e below (s₁.setTop (mkF m 8 #[rv a1, iv p1, iv p2, iv p3, iv p4] [(.int (-1)), (.int (-1)), (.int p4), (.int p3), (.int p2), (.int p1), (.ref a1)])) _
    exact k
  refine own_lift sg1 ?_
  show own_Go p.tables e below (s₁.setTop (mkF m 8 #[rv a1, iv p1, iv p2, iv p3, iv p4] [(.int (-1)), (.int (-1)), (.int p4), (.int p3), (.int p2), (.int p1), (.ref a1)])) _
  obtain ⟨_, _, ⟨T2, Lx2, kx2, nx2⟩, -, X2, ⟨Lc2, hQ2, lx2, yx2, zx2⟩, st2⟩ := X0.specialBack hx (y := (⟨"com/example/ophion/ophion/runtime/Position", "<init>", "(IIIIII)V"⟩ : MethodName)) rfl hown (mvT hZ (wd hw 29 rfl)) (mvT hZ (wd hw 4 rfl)) (mvT hZ (wd hw 5 rfl)) (by decide) (backOf (W := 0) (rmInit6 l Z a0 hw [] a1 p1 p2 p3 p4 (-1 : Int32) (-1 : Int32) h0 n0 Z0 F0 F1 F2 F3 F4 F5 E1 G1) hZ (wd hw 5 rfl) (wd hw 2 rfl) (by decide) (by decide)) (g := (mkF m 8 #[rv a1, iv p1, iv p2, iv p3, iv p4] [(.int (-1)), (.int (-1)), (.int p4), (.int p3), (.int p2), (.int p1), (.ref a1)])) rfl (by rw [hml]; rfl) (Steps.refl _) (a := a1) (argsL := [(.int p1), (.int p2), (.int p3), (.int p4), (.int (-1)), (.int (-1))]) (rest := []) (lenOf pd_1 rfl) rfl (by show 2 * 0 + _ ≤ _; exact Nat.le_of_eq rfl) (hb hby d3_8) (fun _ _ => ⟨rfl, e0, (by decide : 0 + 0 ≤ _), (by decide : 0 + 0 ≤ _)⟩)
  dsimp only [Pt.U, Pt.locs, Pt.cells, Pt.slots] at X2 lx2 yx2 zx2 st2 hQ2
  subst lx2 yx2 zx2
  obtain ⟨rfl, N2q, p2_0, p2_1, p2_2, p2_3, p2_4, p2_5, p2_6, p2_7⟩ := hQ2
  have N2 := Fr.app N0 N2q
  have Z2 : n0 ≤ T2.heap.size := Nat.le_trans Z0 p2_0.1
  have K2 : Keep h0 T2.heap [a1] := (Keep.refl h0 [a1]).trans p2_0 (allS (Or.inl (List.mem_of_getElem? (i := 0) rfl)) all0)
  refine own_lift (fun t k => st2.trans k) ?_
  show own_Go p.tables e below (T2.setTop (mkF m 11 #[rv a1, iv p1, iv p2, iv p3, iv p4] [])) _
  obtain ⟨fs, hr, hrun, hended, hW, hsame⟩ := X2.leave (v := none) (fun _ => rfl)
  refine ⟨_, _, ?_, hrun, hended, _, _, rfl, ?_, ⟨_, rfl⟩, hW, hsame.mono (by decide) (by decide)⟩
  · exact X2.returnOut hx Bd.returns (hb hby d3_11) hr
  · show Q_rmInit4 Z a1 p1 p2 p3 p4 h0 n0 _ T2.heap _
    exact ⟨rfl, N2, K2, p2_1, p2_2, p2_3, p2_4, p2_5, p2_6, p2_7⟩
theorem d4_0 : decode prog_11_method_3_code 0 = .ok (.aload_n 0, 1) := by decide +kernel
theorem d4_1 : decode prog_11_method_3_code 1 = .ok (.getfield 22, 3) := by decide +kernel
theorem d4_4 : decode prog_11_method_3_code 4 = .ok (.ifCond .lt 7, 3) := by decide +kernel
theorem d4_7 : decode prog_11_method_3_code 7 = .ok (.iconst 1, 1) := by decide +kernel
theorem d4_8 : decode prog_11_method_3_code 8 = .ok (.goto 4, 3) := by decide +kernel
theorem d4_12 : decode prog_11_method_3_code 12 = .ok (.ireturn, 1) := by decide +kernel
def Q_rmHasY (Z : State) (a1 : Addr) (w1 : Int32) (h0 : Heap) (n0 : Nat) (v : Option Value) (h : Heap) (L : List Loc) : Prop := v = some (.int 1) ∧ Fr n0 L ∧ h = h0
theorem ef_rmHasY (m : MethodId) (x0 : Addr) : entryFrame m #[(.ref x0)] 1 = mkF m 0 #[.val (.ref x0)] [] := by first | (simp [entryFrame, mkF, argsToLocals, Value.category]; done) | rfl
set_option maxRecDepth 65536 in
set_option maxHeartbeats 40000000 in
theorem rmHasY (l : Launch) (Z : State) (a0 : Array Value) (hw : ∀ d ∈ tables_1, d.before a0 Z = true) (ws : List Jvm.Cond) (a1 : Addr) (w1 : Int32) (h0 : Heap) (n0 : Nat) (Z0 : n0 ≤ h0.size) (F1 : Fld Z h0 a1 "com/example/ophion/ophion/runtime/Position" "anchorStart" "I" (.int w1)) (c1 : ¬ (w1 < (0 : Int32))) :
    MetFree l (⟨"com/example/ophion/ophion/runtime/Position", "hasAnchor", "()Z"⟩ : MethodName) (head1 (Jvm.Cond.code (⟨"com/example/ophion/ophion/runtime/Position", "hasAnchor", "()Z"⟩ : MethodName) prog_11_method_3_code 1 (some .boolean) :: ws) ({ frames := 0, cells := 0, slots := 0, locals := 0 } : Room)) (fun a U => a = #[(.ref a1)] ∧ Z.Warmed39 U.vm ∧ U.heap = h0) (fun _ _ _ _ _ => True) (fun _ U o U' => ∃ v L, o = .returned v ∧ Q_rmHasY Z a1 w1 h0 n0 v U'.heap L ∧ FrameEnd U o U' L ({ frames := 0, cells := 0, slots := 0, locals := 0 } : Room).cells ({ frames := 0, cells := 0, slots := 0, locals := 0 } : Room).slots) := by
  refine MetFree.of_bodySF (plainFor_of_name pn_1) hisR ?_
  intro p e s m args below meth c s₁ Bd hml0 hP hK
  obtain ⟨rfl, hZ, hh⟩ := hP
  have hx := Bd.exec
  have hby := Bd.bytes
  have hml : c.maxLocals = 1 := hml0
  have hown : s.vm.findClass "com/example/ophion/ophion/runtime/Position" = some m.cls := findClass_of_methodNamed Bd.named
  have hnm := (name_of_methodNamed Bd.named Bd.method).1
  have X0 : Stand p l e ({ frames := 0, cells := 0, slots := 0, locals := 0 } : Room) s m #[(.ref a1)] below meth c s₁ [] 0 0 := Stand.of_body Bd
  have e0 : s₁.heap = h0 := by rw [← hh, Bd.state]; rfl
  have N0 := Fr.nil n0
  refine own_go (own_lift (fun t k => castTop (ef_rmHasY m a1) k) ?_)
  show own_Go p.tables e below (s₁.setTop (mkF m 0 #[rv a1] [])) _
  have sg1 : ∀ t, Steps p.tables e below (s₁.setTop (mkF m 1 #[rv a1] [(.ref a1)])) t → Steps p.tables e below (s₁.setTop (mkF m 0 #[rv a1] [])) t := by
    intro t k
    refine XS.aloadN X0.here hx rfl (hb hby d4_0) rfl rfl ?_
    show Steps p.tables e below (s₁.setTop (mkF m 1 #[rv a1] [(.ref a1)])) _
    exact k
  refine own_lift sg1 ?_
  show own_Go p.tables e below (s₁.setTop (mkF m 1 #[rv a1] [(.ref a1)])) _
  obtain ⟨T2, X2, e2, st2⟩ := getF X0 hx hZ hown (host := "") (Or.inl (wd hw 22 rfl)) Via.refl e0 F1 (g := (mkF m 1 #[rv a1] [(.ref a1)])) rfl rfl (hb hby d4_1)
  refine own_lift st2 ?_
  show own_Go p.tables e below (T2.setTop (mkF m 4 #[rv a1] [(.int w1)])) _
  have sg3 : ∀ t, Steps p.tables e below (T2.setTop (mkF m 12 #[rv a1] [(.int 1)])) t → Steps p.tables e below (T2.setTop (mkF m 4 #[rv a1] [(.int w1)])) t := by
    intro t k
    refine XS.ifNo X2.here hx rfl (hb hby d4_4) rfl ((if0 _ _).trans (flt c1).1) ?_
    show Steps p.tables e below (T2.setTop (mkF m 7 #[rv a1] [])) _
    refine XS.iconst X2.here hx rfl (hb hby d4_7) ?_
    show Steps p.tables e below (T2.setTop (mkF m 8 #[rv a1] [(.int 1)])) _
    refine XS.goto X2.here hx rfl (pc0 := 8) (pc' := 12) rfl (hb hby d4_8) (by decide) (by decide) ?_
    show Steps p.tables e below (T2.setTop (mkF m 12 #[rv a1] [(.int 1)])) _
    exact k
  refine own_lift sg3 ?_
  show own_Go p.tables e below (T2.setTop (mkF m 12 #[rv a1] [(.int 1)])) _
  obtain ⟨fs, hr, hrun, hended, hW, hsame⟩ := X2.leave (v := some (.int 1)) (fun h => by rw [Bd.returns] at h; cases h)
  refine ⟨_, _, ?_, hrun, hended, _, _, rfl, ?_, ⟨_, rfl⟩, hW, hsame.mono (by decide) (by decide)⟩
  · exact retN X2 hx (t := .boolean) Bd.returns (by simp) (hb hby d4_12) hr
  · show Q_rmHasY Z a1 w1 h0 n0 _ T2.heap _
    rw [e2]
    exact ⟨rfl, N0, rfl⟩
theorem d4_11 : decode prog_11_method_3_code 11 = .ok (.iconst 0, 1) := by decide +kernel
def Q_rmHasN (Z : State) (a1 : Addr) (w1 : Int32) (h0 : Heap) (n0 : Nat) (v : Option Value) (h : Heap) (L : List Loc) : Prop := v = some (.int 0) ∧ Fr n0 L ∧ h = h0
theorem ef_rmHasN (m : MethodId) (x0 : Addr) : entryFrame m #[(.ref x0)] 1 = mkF m 0 #[.val (.ref x0)] [] := by first | (simp [entryFrame, mkF, argsToLocals, Value.category]; done) | rfl
set_option maxRecDepth 65536 in
set_option maxHeartbeats 40000000 in
theorem rmHasN (l : Launch) (Z : State) (a0 : Array Value) (hw : ∀ d ∈ tables_1, d.before a0 Z = true) (ws : List Jvm.Cond) (a1 : Addr) (w1 : Int32) (h0 : Heap) (n0 : Nat) (Z0 : n0 ≤ h0.size) (F1 : Fld Z h0 a1 "com/example/ophion/ophion/runtime/Position" "anchorStart" "I" (.int w1)) (c1 : w1 < (0 : Int32)) :
    MetFree l (⟨"com/example/ophion/ophion/runtime/Position", "hasAnchor", "()Z"⟩ : MethodName) (head1 (Jvm.Cond.code (⟨"com/example/ophion/ophion/runtime/Position", "hasAnchor", "()Z"⟩ : MethodName) prog_11_method_3_code 1 (some .boolean) :: ws) ({ frames := 0, cells := 0, slots := 0, locals := 0 } : Room)) (fun a U => a = #[(.ref a1)] ∧ Z.Warmed39 U.vm ∧ U.heap = h0) (fun _ _ _ _ _ => True) (fun _ U o U' => ∃ v L, o = .returned v ∧ Q_rmHasN Z a1 w1 h0 n0 v U'.heap L ∧ FrameEnd U o U' L ({ frames := 0, cells := 0, slots := 0, locals := 0 } : Room).cells ({ frames := 0, cells := 0, slots := 0, locals := 0 } : Room).slots) := by
  refine MetFree.of_bodySF (plainFor_of_name pn_1) hisR ?_
  intro p e s m args below meth c s₁ Bd hml0 hP hK
  obtain ⟨rfl, hZ, hh⟩ := hP
  have hx := Bd.exec
  have hby := Bd.bytes
  have hml : c.maxLocals = 1 := hml0
  have hown : s.vm.findClass "com/example/ophion/ophion/runtime/Position" = some m.cls := findClass_of_methodNamed Bd.named
  have hnm := (name_of_methodNamed Bd.named Bd.method).1
  have X0 : Stand p l e ({ frames := 0, cells := 0, slots := 0, locals := 0 } : Room) s m #[(.ref a1)] below meth c s₁ [] 0 0 := Stand.of_body Bd
  have e0 : s₁.heap = h0 := by rw [← hh, Bd.state]; rfl
  have N0 := Fr.nil n0
  refine own_go (own_lift (fun t k => castTop (ef_rmHasN m a1) k) ?_)
  show own_Go p.tables e below (s₁.setTop (mkF m 0 #[rv a1] [])) _
  have sg1 : ∀ t, Steps p.tables e below (s₁.setTop (mkF m 1 #[rv a1] [(.ref a1)])) t → Steps p.tables e below (s₁.setTop (mkF m 0 #[rv a1] [])) t := by
    intro t k
    refine XS.aloadN X0.here hx rfl (hb hby d4_0) rfl rfl ?_
    show Steps p.tables e below (s₁.setTop (mkF m 1 #[rv a1] [(.ref a1)])) _
    exact k
  refine own_lift sg1 ?_
  show own_Go p.tables e below (s₁.setTop (mkF m 1 #[rv a1] [(.ref a1)])) _
  obtain ⟨T2, X2, e2, st2⟩ := getF X0 hx hZ hown (host := "") (Or.inl (wd hw 22 rfl)) Via.refl e0 F1 (g := (mkF m 1 #[rv a1] [(.ref a1)])) rfl rfl (hb hby d4_1)
  refine own_lift st2 ?_
  show own_Go p.tables e below (T2.setTop (mkF m 4 #[rv a1] [(.int w1)])) _
  have sg3 : ∀ t, Steps p.tables e below (T2.setTop (mkF m 12 #[rv a1] [(.int 0)])) t → Steps p.tables e below (T2.setTop (mkF m 4 #[rv a1] [(.int w1)])) t := by
    intro t k
    refine XS.ifYes X2.here hx rfl (pc0 := 4) (pc' := 11) rfl (hb hby d4_4) rfl ((if0 _ _).trans (tlt c1).1) (by decide) (by decide) ?_
    show Steps p.tables e below (T2.setTop (mkF m 11 #[rv a1] [])) _
    refine XS.iconst X2.here hx rfl (hb hby d4_11) ?_
    show Steps p.tables e below (T2.setTop (mkF m 12 #[rv a1] [(.int 0)])) _
    exact k
  refine own_lift sg3 ?_
  show own_Go p.tables e below (T2.setTop (mkF m 12 #[rv a1] [(.int 0)])) _
  obtain ⟨fs, hr, hrun, hended, hW, hsame⟩ := X2.leave (v := some (.int 0)) (fun h => by rw [Bd.returns] at h; cases h)
  refine ⟨_, _, ?_, hrun, hended, _, _, rfl, ?_, ⟨_, rfl⟩, hW, hsame.mono (by decide) (by decide)⟩
  · exact retN X2 hx (t := .boolean) Bd.returns (by simp) (hb hby d4_12) hr
  · show Q_rmHasN Z a1 w1 h0 n0 _ T2.heap _
    rw [e2]
    exact ⟨rfl, N0, rfl⟩
theorem pn_2 : plainName "com/example/ophion/ophion/runtime/PositionHasAnchorPinLaw" = true := by first | (simp [plainName, overriddenIn]; done) | decide +kernel
theorem pd_2 : parseMethodDescriptor "(IIII)V" = some ⟨[.int, .int, .int, .int], none⟩ := by decide +kernel
theorem pd_3 : parseMethodDescriptor "()Z" = some ⟨[], some .boolean⟩ := by decide +kernel
def Q0 (Z : State)  (h0 : Heap) (n0 : Nat) (v : Option Value) (h : Heap) (L : List Loc) : Prop := v = some (.int 1) ∧ Fr n0 L
theorem ef_rm0_1 (m : MethodId) (x0 : Int32) (x1 : Int32) (x2 : Int32) (x3 : Int32) (x4 : Int32) (x5 : Int32) : entryFrame m #[(.int x0), (.int x1), (.int x2), (.int x3), (.int x4), (.int x5)] maxLocals = mkF m 0 #[.val (.int x0), .val (.int x1), .val (.int x2), .val (.int x3), .val (.int x4), .val (.int x5), .unset, .unset, .unset] [] := by first | (simp [entryFrame, mkF, argsToLocals, Value.category, maxLocals]; done) | rfl
set_option maxRecDepth 65536 in
set_option maxHeartbeats 40000000 in
theorem rm0_1 (l : Launch) (Z : State) (a0 : Array Value) (hw : ∀ d ∈ tables_1, d.before a0 Z = true) (ws : List Jvm.Cond) (p0 : Int32) (p1 : Int32) (p2 : Int32) (p3 : Int32) (p4 : Int32) (p5 : Int32) (h0 : Heap) (n0 : Nat) (Z0 : n0 ≤ h0.size)  (c1 : p4 < (0 : Int32)) :
    MetFree l x (head1 (Jvm.Cond.code x code maxLocals ret :: ws) room_1) (fun a U => a = #[(.int p0), (.int p1), (.int p2), (.int p3), (.int p4), (.int p5)] ∧ Z.Warmed39 U.vm ∧ U.heap = h0) (fun _ _ _ _ _ => True) (fun _ U o U' => ∃ v L, o = .returned v ∧ Q0 Z  h0 n0 v U'.heap L ∧ FrameEnd U o U' L 16 128) := by
  refine MetFree.of_bodySF (plainFor_of_name pn_2) hisR ?_
  intro p e s m args below meth c s₁ Bd hml0 hP hK
  obtain ⟨rfl, hZ, hh⟩ := hP
  have hx := Bd.exec
  have hby := Bd.bytes
  have hml : c.maxLocals = 9 := hml0
  have hown : s.vm.findClass "com/example/ophion/ophion/runtime/PositionHasAnchorPinLaw" = some m.cls := findClass_of_methodNamed Bd.named
  have hnm := (name_of_methodNamed Bd.named Bd.method).1
  have X0 : Stand p l e room_1 s m #[(.int p0), (.int p1), (.int p2), (.int p3), (.int p4), (.int p5)] below meth c s₁ [] 0 0 := Stand.of_body Bd
  have e0 : s₁.heap = h0 := by rw [← hh, Bd.state]; rfl
  have N0 := Fr.nil n0
  refine own_go (own_lift (fun t k => castTop (ef_rm0_1 m p0 p1 p2 p3 p4 p5) k) ?_)
  show own_Go p.tables e below (s₁.setTop (mkF m 0 #[iv p0, iv p1, iv p2, iv p3, iv p4, iv p5, .unset, .unset, .unset] [])) _
  obtain ⟨T1, h1, X1, e1, Ex1, Ax1, Dx1, Ux1, st1⟩ := newO X0 hx hZ hown (wd hw 0 rfl) (wd hw 1 rfl) (wd hw 2 rfl) e0 (g := (mkF m 0 #[iv p0, iv p1, iv p2, iv p3, iv p4, iv p5, .unset, .unset, .unset] [])) rfl (hb hby at_0) (by decide) (by decide)
  obtain ⟨ob1, g1⟩ : ∃ z, z = h0.size := ⟨_, rfl⟩
  rw [← g1] at Ax1 Dx1 Ux1 st1
  have Z1 : n0 ≤ h1.size := Nat.le_trans Z0 Ex1.1
  have ge1 : n0 ≤ ob1 := Nat.le_trans Z0 (Nat.le_of_eq g1.symm)
  have Fn1_15 : Fld Z h1 ob1 "com/example/ophion/ophion/runtime/Position" "line" "I" (.int 0) := Dx1 (Or.inr (wd hw 15 rfl)) (ty := .int) (by decide)
  have Fn1_17 : Fld Z h1 ob1 "com/example/ophion/ophion/runtime/Position" "column" "I" (.int 0) := Dx1 (Or.inr (wd hw 17 rfl)) (ty := .int) (by decide)
  have Fn1_19 : Fld Z h1 ob1 "com/example/ophion/ophion/runtime/Position" "endLine" "I" (.int 0) := Dx1 (Or.inr (wd hw 19 rfl)) (ty := .int) (by decide)
  have Fn1_21 : Fld Z h1 ob1 "com/example/ophion/ophion/runtime/Position" "endColumn" "I" (.int 0) := Dx1 (Or.inr (wd hw 21 rfl)) (ty := .int) (by decide)
  have Fn1_23 : Fld Z h1 ob1 "com/example/ophion/ophion/runtime/Position" "anchorStart" "I" (.int 0) := Dx1 (Or.inr (wd hw 23 rfl)) (ty := .int) (by decide)
  have Fn1_25 : Fld Z h1 ob1 "com/example/ophion/ophion/runtime/Position" "anchorEnd" "I" (.int 0) := Dx1 (Or.inr (wd hw 25 rfl)) (ty := .int) (by decide)
  refine own_lift st1 ?_
  show own_Go p.tables e below (T1.setTop (mkF m 3 #[iv p0, iv p1, iv p2, iv p3, iv p4, iv p5, .unset, .unset, .unset] [(.ref ob1)])) _
  have sg2 : ∀ t, Steps p.tables e below (T1.setTop (mkF m 12 #[iv p0, iv p1, iv p2, iv p3, iv p4, iv p5, .unset, .unset, .unset] [(.int p5), (.int p4), (.int p3), (.int p2), (.int p1), (.int p0), (.ref ob1), (.ref ob1)])) t → Steps p.tables e below (T1.setTop (mkF m 3 #[iv p0, iv p1, iv p2, iv p3, iv p4, iv p5, .unset, .unset, .unset] [(.ref ob1)])) t := by
    intro t k
    refine XS.dup X1.here hx rfl (hb hby at_3) rfl rfl ?_
    show Steps p.tables e below (T1.setTop (mkF m 4 #[iv p0, iv p1, iv p2, iv p3, iv p4, iv p5, .unset, .unset, .unset] [(.ref ob1), (.ref ob1)])) _
    refine XS.iloadN X1.here hx rfl (hb hby at_4) rfl ?_
    show Steps p.tables e below (T1.setTop (mkF m 5 #[iv p0, iv p1, iv p2, iv p3, iv p4, iv p5, .unset, .unset, .unset] [(.int p0), (.ref ob1), (.ref ob1)])) _
    refine XS.iloadN X1.here hx rfl (hb hby at_5) rfl ?_
    show Steps p.tables e below (T1.setTop (mkF m 6 #[iv p0, iv p1, iv p2, iv p3, iv p4, iv p5, .unset, .unset, .unset] [(.int p1), (.int p0), (.ref ob1), (.ref ob1)])) _
    refine XS.iloadN X1.here hx rfl (hb hby at_6) rfl ?_
    show Steps p.tables e below (T1.setTop (mkF m 7 #[iv p0, iv p1, iv p2, iv p3, iv p4, iv p5, .unset, .unset, .unset] [(.int p2), (.int p1), (.int p0), (.ref ob1), (.ref ob1)])) _
    refine XS.iloadN X1.here hx rfl (hb hby at_7) rfl ?_
    show Steps p.tables e below (T1.setTop (mkF m 8 #[iv p0, iv p1, iv p2, iv p3, iv p4, iv p5, .unset, .unset, .unset] [(.int p3), (.int p2), (.int p1), (.int p0), (.ref ob1), (.ref ob1)])) _
    refine XS.iload X1.here hx rfl (hb hby at_8) rfl ?_
    show Steps p.tables e below (T1.setTop (mkF m 10 #[iv p0, iv p1, iv p2, iv p3, iv p4, iv p5, .unset, .unset, .unset] [(.int p4), (.int p3), (.int p2), (.int p1), (.int p0), (.ref ob1), (.ref ob1)])) _
    refine XS.iload X1.here hx rfl (hb hby at_10) rfl ?_
    show Steps p.tables e below (T1.setTop (mkF m 12 #[iv p0, iv p1, iv p2, iv p3, iv p4, iv p5, .unset, .unset, .unset] [(.int p5), (.int p4), (.int p3), (.int p2), (.int p1), (.int p0), (.ref ob1), (.ref ob1)])) _
    exact k
  refine own_lift sg2 ?_
  show own_Go p.tables e below (T1.setTop (mkF m 12 #[iv p0, iv p1, iv p2, iv p3, iv p4, iv p5, .unset, .unset, .unset] [(.int p5), (.int p4), (.int p3), (.int p2), (.int p1), (.int p0), (.ref ob1), (.ref ob1)])) _
  obtain ⟨_, _, ⟨T3, Lx3, kx3, nx3⟩, -, X3, ⟨Lc3, hQ3, lx3, yx3, zx3⟩, st3⟩ := X1.specialBack hx (y := (⟨"com/example/ophion/ophion/runtime/Position", "<init>", "(IIIIII)V"⟩ : MethodName)) rfl hown (mvT hZ (wd hw 3 rfl)) (mvT hZ (wd hw 4 rfl)) (mvT hZ (wd hw 5 rfl)) (by decide) (backOf (W := 1) (rmInit6 l Z a0 hw [] ob1 p0 p1 p2 p3 p4 p5 h1 n0 Z1 Fn1_15 Fn1_17 Fn1_19 Fn1_21 Fn1_23 Fn1_25 Ax1 ge1) hZ (wd hw 5 rfl) (wd hw 2 rfl) (by decide) (by decide)) (g := (mkF m 12 #[iv p0, iv p1, iv p2, iv p3, iv p4, iv p5, .unset, .unset, .unset] [(.int p5), (.int p4), (.int p3), (.int p2), (.int p1), (.int p0), (.ref ob1), (.ref ob1)])) rfl (by rw [hml]; rfl) (Steps.refl _) (a := ob1) (argsL := [(.int p0), (.int p1), (.int p2), (.int p3), (.int p4), (.int p5)]) (rest := [(.ref ob1)]) (lenOf pd_1 rfl) rfl (by show 2 * 0 + _ ≤ _; exact Nat.le_of_eq rfl) (hb hby at_12) (fun _ _ => ⟨rfl, e1, (by decide : 1 + 0 ≤ _), (by decide : 6 + 0 ≤ _)⟩)
  dsimp only [Pt.U, Pt.locs, Pt.cells, Pt.slots] at X3 lx3 yx3 zx3 st3 hQ3
  subst lx3 yx3 zx3
  obtain ⟨rfl, N3q, p3_0, p3_1, p3_2, p3_3, p3_4, p3_5, p3_6, p3_7⟩ := hQ3
  have N3 := Fr.app N0 N3q
  have Z3 : n0 ≤ T3.heap.size := Nat.le_trans Z1 p3_0.1
  refine own_lift (fun t k => st3.trans k) ?_
  show own_Go p.tables e below (T3.setTop (mkF m 15 #[iv p0, iv p1, iv p2, iv p3, iv p4, iv p5, .unset, .unset, .unset] [(.ref ob1)])) _
  have sg4 : ∀ t, Steps p.tables e below (T3.setTop (mkF m 17 #[iv p0, iv p1, iv p2, iv p3, iv p4, iv p5, rv ob1, .unset, .unset] [])) t → Steps p.tables e below (T3.setTop (mkF m 15 #[iv p0, iv p1, iv p2, iv p3, iv p4, iv p5, .unset, .unset, .unset] [(.ref ob1)])) t := by
    intro t k
    refine XS.astore X3.here hx rfl (hb hby at_15) rfl rfl (l' := #[iv p0, iv p1, iv p2, iv p3, iv p4, iv p5, rv ob1, .unset, .unset]) rfl ?_
    show Steps p.tables e below (T3.setTop (mkF m 17 #[iv p0, iv p1, iv p2, iv p3, iv p4, iv p5, rv ob1, .unset, .unset] [])) _
    exact k
  refine own_lift sg4 ?_
  show own_Go p.tables e below (T3.setTop (mkF m 17 #[iv p0, iv p1, iv p2, iv p3, iv p4, iv p5, rv ob1, .unset, .unset] [])) _
  obtain ⟨T5, h5, X5, e5, Ex5, Ax5, Dx5, Ux5, st5⟩ := newO X3 hx hZ hown (wd hw 0 rfl) (wd hw 1 rfl) (wd hw 2 rfl) rfl (g := (mkF m 17 #[iv p0, iv p1, iv p2, iv p3, iv p4, iv p5, rv ob1, .unset, .unset] [])) rfl (hb hby at_17) (by decide) (by decide)
  obtain ⟨ob5, g5⟩ : ∃ z, z = T3.heap.size := ⟨_, rfl⟩
  rw [← g5] at Ax5 Dx5 Ux5 st5
  have ne6 : ob1 ≠ ob5 := Nat.ne_of_lt (Nat.lt_of_lt_of_le p3_1.lt (Nat.le_of_eq g5.symm))
  have Z5 : n0 ≤ h5.size := Nat.le_trans Z3 Ex5.1
  have ge5 : n0 ≤ ob5 := Nat.le_trans Z3 (Nat.le_of_eq g5.symm)
  have Fn5_15 : Fld Z h5 ob5 "com/example/ophion/ophion/runtime/Position" "line" "I" (.int 0) := Dx5 (Or.inr (wd hw 15 rfl)) (ty := .int) (by decide)
  have Fn5_17 : Fld Z h5 ob5 "com/example/ophion/ophion/runtime/Position" "column" "I" (.int 0) := Dx5 (Or.inr (wd hw 17 rfl)) (ty := .int) (by decide)
  have Fn5_19 : Fld Z h5 ob5 "com/example/ophion/ophion/runtime/Position" "endLine" "I" (.int 0) := Dx5 (Or.inr (wd hw 19 rfl)) (ty := .int) (by decide)
  have Fn5_21 : Fld Z h5 ob5 "com/example/ophion/ophion/runtime/Position" "endColumn" "I" (.int 0) := Dx5 (Or.inr (wd hw 21 rfl)) (ty := .int) (by decide)
  have Fn5_23 : Fld Z h5 ob5 "com/example/ophion/ophion/runtime/Position" "anchorStart" "I" (.int 0) := Dx5 (Or.inr (wd hw 23 rfl)) (ty := .int) (by decide)
  have Fn5_25 : Fld Z h5 ob5 "com/example/ophion/ophion/runtime/Position" "anchorEnd" "I" (.int 0) := Dx5 (Or.inr (wd hw 25 rfl)) (ty := .int) (by decide)
  refine own_lift st5 ?_
  show own_Go p.tables e below (T5.setTop (mkF m 20 #[iv p0, iv p1, iv p2, iv p3, iv p4, iv p5, rv ob1, .unset, .unset] [(.ref ob5)])) _
  have sg7 : ∀ t, Steps p.tables e below (T5.setTop (mkF m 25 #[iv p0, iv p1, iv p2, iv p3, iv p4, iv p5, rv ob1, .unset, .unset] [(.int p3), (.int p2), (.int p1), (.int p0), (.ref ob5), (.ref ob5)])) t → Steps p.tables e below (T5.setTop (mkF m 20 #[iv p0, iv p1, iv p2, iv p3, iv p4, iv p5, rv ob1, .unset, .unset] [(.ref ob5)])) t := by
    intro t k
    refine XS.dup X5.here hx rfl (hb hby at_20) rfl rfl ?_
    show Steps p.tables e below (T5.setTop (mkF m 21 #[iv p0, iv p1, iv p2, iv p3, iv p4, iv p5, rv ob1, .unset, .unset] [(.ref ob5), (.ref ob5)])) _
    refine XS.iloadN X5.here hx rfl (hb hby at_21) rfl ?_
    show Steps p.tables e below (T5.setTop (mkF m 22 #[iv p0, iv p1, iv p2, iv p3, iv p4, iv p5, rv ob1, .unset, .unset] [(.int p0), (.ref ob5), (.ref ob5)])) _
    refine XS.iloadN X5.here hx rfl (hb hby at_22) rfl ?_
    show Steps p.tables e below (T5.setTop (mkF m 23 #[iv p0, iv p1, iv p2, iv p3, iv p4, iv p5, rv ob1, .unset, .unset] [(.int p1), (.int p0), (.ref ob5), (.ref ob5)])) _
    refine XS.iloadN X5.here hx rfl (hb hby at_23) rfl ?_
    show Steps p.tables e below (T5.setTop (mkF m 24 #[iv p0, iv p1, iv p2, iv p3, iv p4, iv p5, rv ob1, .unset, .unset] [(.int p2), (.int p1), (.int p0), (.ref ob5), (.ref ob5)])) _
    refine XS.iloadN X5.here hx rfl (hb hby at_24) rfl ?_
    show Steps p.tables e below (T5.setTop (mkF m 25 #[iv p0, iv p1, iv p2, iv p3, iv p4, iv p5, rv ob1, .unset, .unset] [(.int p3), (.int p2), (.int p1), (.int p0), (.ref ob5), (.ref ob5)])) _
    exact k
  refine own_lift sg7 ?_
  show own_Go p.tables e below (T5.setTop (mkF m 25 #[iv p0, iv p1, iv p2, iv p3, iv p4, iv p5, rv ob1, .unset, .unset] [(.int p3), (.int p2), (.int p1), (.int p0), (.ref ob5), (.ref ob5)])) _
  obtain ⟨_, _, ⟨T8, Lx8, kx8, nx8⟩, -, X8, ⟨Lc8, hQ8, lx8, yx8, zx8⟩, st8⟩ := X5.specialBack hx (y := (⟨"com/example/ophion/ophion/runtime/Position", "<init>", "(IIII)V"⟩ : MethodName)) rfl hown (mvT hZ (wd hw 26 rfl)) (mvT hZ (wd hw 27 rfl)) (mvT hZ (wd hw 28 rfl)) (by decide) (backOf (W := 1) (rmInit4 l Z a0 hw [] ob5 p0 p1 p2 p3 h5 n0 Z5 Fn5_15 Fn5_17 Fn5_19 Fn5_21 Fn5_23 Fn5_25 Ax5 ge5) hZ (wd hw 28 rfl) (wd hw 2 rfl) (by decide) (by decide)) (g := (mkF m 25 #[iv p0, iv p1, iv p2, iv p3, iv p4, iv p5, rv ob1, .unset, .unset] [(.int p3), (.int p2), (.int p1), (.int p0), (.ref ob5), (.ref ob5)])) rfl (by rw [hml]; rfl) (Steps.refl _) (a := ob5) (argsL := [(.int p0), (.int p1), (.int p2), (.int p3)]) (rest := [(.ref ob5)]) (lenOf pd_2 rfl) rfl (by show 2 * 0 + _ ≤ _; exact Nat.le_of_eq rfl) (hb hby at_25) (fun _ _ => ⟨rfl, e5, (by decide : 2 + 0 ≤ _), (by decide : 12 + 0 ≤ _)⟩)
  dsimp only [Pt.U, Pt.locs, Pt.cells, Pt.slots] at X8 lx8 yx8 zx8 st8 hQ8
  subst lx8 yx8 zx8
  obtain ⟨rfl, N8q, p8_0, p8_1, p8_2, p8_3, p8_4, p8_5, p8_6, p8_7⟩ := hQ8
  have N8 := Fr.app N3 N8q
  have Z8 : n0 ≤ T8.heap.size := Nat.le_trans Z5 p8_0.1
  refine own_lift (fun t k => st8.trans k) ?_
  show own_Go p.tables e below (T8.setTop (mkF m 28 #[iv p0, iv p1, iv p2, iv p3, iv p4, iv p5, rv ob1, .unset, .unset] [(.ref ob5)])) _
  have sg9 : ∀ t, Steps p.tables e below (T8.setTop (mkF m 46 #[iv p0, iv p1, iv p2, iv p3, iv p4, iv p5, rv ob1, rv ob5, iv 0] [(.ref ob1)])) t → Steps p.tables e below (T8.setTop (mkF m 28 #[iv p0, iv p1, iv p2, iv p3, iv p4, iv p5, rv ob1, .unset, .unset] [(.ref ob5)])) t := by
    intro t k
    refine XS.astore X8.here hx rfl (hb hby at_28) rfl rfl (l' := #[iv p0, iv p1, iv p2, iv p3, iv p4, iv p5, rv ob1, rv ob5, .unset]) rfl ?_
    show Steps p.tables e below (T8.setTop (mkF m 30 #[iv p0, iv p1, iv p2, iv p3, iv p4, iv p5, rv ob1, rv ob5, .unset] [])) _
    refine XS.iload X8.here hx rfl (hb hby at_30) rfl ?_
    show Steps p.tables e below (T8.setTop (mkF m 32 #[iv p0, iv p1, iv p2, iv p3, iv p4, iv p5, rv ob1, rv ob5, .unset] [(.int p4)])) _
    refine XS.ifNo X8.here hx rfl (hb hby at_32) rfl ((if0 _ _).trans (tlt c1).2.1) ?_
    show Steps p.tables e below (T8.setTop (mkF m 35 #[iv p0, iv p1, iv p2, iv p3, iv p4, iv p5, rv ob1, rv ob5, .unset] [])) _
    refine XS.iconst X8.here hx rfl (hb hby at_35) ?_
    show Steps p.tables e below (T8.setTop (mkF m 36 #[iv p0, iv p1, iv p2, iv p3, iv p4, iv p5, rv ob1, rv ob5, .unset] [(.int 0)])) _
    refine XS.istore X8.here hx rfl (hb hby at_36) rfl (l' := #[iv p0, iv p1, iv p2, iv p3, iv p4, iv p5, rv ob1, rv ob5, iv 0]) rfl ?_
    show Steps p.tables e below (T8.setTop (mkF m 38 #[iv p0, iv p1, iv p2, iv p3, iv p4, iv p5, rv ob1, rv ob5, iv 0] [])) _
    refine XS.goto X8.here hx rfl (pc0 := 38) (pc' := 44) rfl (hb hby at_38) (by decide) (by decide) ?_
    show Steps p.tables e below (T8.setTop (mkF m 44 #[iv p0, iv p1, iv p2, iv p3, iv p4, iv p5, rv ob1, rv ob5, iv 0] [])) _
    refine XS.aload X8.here hx rfl (hb hby at_44) rfl rfl ?_
    show Steps p.tables e below (T8.setTop (mkF m 46 #[iv p0, iv p1, iv p2, iv p3, iv p4, iv p5, rv ob1, rv ob5, iv 0] [(.ref ob1)])) _
    exact k
  refine own_lift sg9 ?_
  show own_Go p.tables e below (T8.setTop (mkF m 46 #[iv p0, iv p1, iv p2, iv p3, iv p4, iv p5, rv ob1, rv ob5, iv 0] [(.ref ob1)])) _
  have Fc10 : Fld Z T8.heap ob1 "com/example/ophion/ophion/runtime/Position" "anchorStart" "I" (.int p4) := ((p3_6.ext Ex5).keep p8_0 (ninS ne6 nin0))
  have Fc12 : Exa Z T8.heap ob1 "com/example/ophion/ophion/runtime/Position" := ((p3_1.ext Ex5).keep p8_0)
  obtain ⟨cq11, kq11, q11a, q11b, q11c⟩ := isOf hZ rfl Fc12
  obtain ⟨_, _, ⟨T11, Lx11, kx11, nx11⟩, -, X11, ⟨Lc11, hQ11, lx11, yx11, zx11⟩, st11⟩ := X8.virtualBack hx (y := (⟨"com/example/ophion/ophion/runtime/Position", "hasAnchor", "()Z"⟩ : MethodName)) (z := (⟨"com/example/ophion/ophion/runtime/Position", "hasAnchor", "()Z"⟩ : MethodName)) hown (mvT hZ (wd hw 30 rfl)) (mvT hZ (wd hw 31 rfl)) (notFace_of_selects (args := #[]) (mvT hZ (wd hw 33 rfl))) (mvT hZ (wd hw 33 rfl)) (mvT hZ (wd hw 32 rfl)) (by decide) (backOf (W := 0) (rmHasN l Z a0 hw [] ob1 p4 T8.heap n0 Z8 Fc10 c1) hZ (wd hw 34 rfl) (wd hw 2 rfl) (by decide) (by decide)) q11a q11c (g := (mkF m 46 #[iv p0, iv p1, iv p2, iv p3, iv p4, iv p5, rv ob1, rv ob5, iv 0] [(.ref ob1)])) rfl (by rw [hml]; rfl) (Steps.refl _) (argsL := []) (rest := []) (lenOf pd_3 rfl) rfl (by show 2 * 0 + _ ≤ _; exact Nat.le_of_eq rfl) (hb hby at_46) (fun _ _ => ⟨rfl, rfl, (by decide : 2 + 0 ≤ _), (by decide : 12 + 0 ≤ _)⟩)
  dsimp only [Pt.U, Pt.locs, Pt.cells, Pt.slots] at X11 lx11 yx11 zx11 st11 hQ11
  subst lx11 yx11 zx11
  obtain ⟨rfl, N11q, e11⟩ := hQ11
  have N11 := Fr.app N8 N11q
  refine own_lift (fun t k => st11.trans k) ?_
  show own_Go p.tables e below (T11.setTop (mkF m 49 #[iv p0, iv p1, iv p2, iv p3, iv p4, iv p5, rv ob1, rv ob5, iv 0] [(.int 0)])) _
  have sg13 : ∀ t, Steps p.tables e below (T11.setTop (mkF m 56 #[iv p0, iv p1, iv p2, iv p3, iv p4, iv p5, rv ob1, rv ob5, iv 0] [(.ref ob5)])) t → Steps p.tables e below (T11.setTop (mkF m 49 #[iv p0, iv p1, iv p2, iv p3, iv p4, iv p5, rv ob1, rv ob5, iv 0] [(.int 0)])) t := by
    intro t k
    refine XS.iload X11.here hx rfl (hb hby at_49) rfl ?_
    show Steps p.tables e below (T11.setTop (mkF m 51 #[iv p0, iv p1, iv p2, iv p3, iv p4, iv p5, rv ob1, rv ob5, iv 0] [(.int 0), (.int 0)])) _
    refine XS.icmpNo X11.here hx rfl (hb hby at_51) rfl (teq (by decide : (0 : Int32) = (0 : Int32))).2 ?_
    show Steps p.tables e below (T11.setTop (mkF m 54 #[iv p0, iv p1, iv p2, iv p3, iv p4, iv p5, rv ob1, rv ob5, iv 0] [])) _
    refine XS.aload X11.here hx rfl (hb hby at_54) rfl rfl ?_
    show Steps p.tables e below (T11.setTop (mkF m 56 #[iv p0, iv p1, iv p2, iv p3, iv p4, iv p5, rv ob1, rv ob5, iv 0] [(.ref ob5)])) _
    exact k
  refine own_lift sg13 ?_
  show own_Go p.tables e below (T11.setTop (mkF m 56 #[iv p0, iv p1, iv p2, iv p3, iv p4, iv p5, rv ob1, rv ob5, iv 0] [(.ref ob5)])) _
  obtain ⟨cq14, kq14, q14a, q14b, q14c⟩ := isOf hZ e11 p8_1
  obtain ⟨_, _, ⟨T14, Lx14, kx14, nx14⟩, -, X14, ⟨Lc14, hQ14, lx14, yx14, zx14⟩, st14⟩ := X11.virtualBack hx (y := (⟨"com/example/ophion/ophion/runtime/Position", "hasAnchor", "()Z"⟩ : MethodName)) (z := (⟨"com/example/ophion/ophion/runtime/Position", "hasAnchor", "()Z"⟩ : MethodName)) hown (mvT hZ (wd hw 30 rfl)) (mvT hZ (wd hw 31 rfl)) (notFace_of_selects (args := #[]) (mvT hZ (wd hw 33 rfl))) (mvT hZ (wd hw 33 rfl)) (mvT hZ (wd hw 32 rfl)) (by decide) (backOf (W := 0) (rmHasN l Z a0 hw [] ob5 (-1 : Int32) T8.heap n0 Z8 p8_6 (by decide : (-1 : Int32) < (0 : Int32))) hZ (wd hw 34 rfl) (wd hw 2 rfl) (by decide) (by decide)) q14a q14c (g := (mkF m 56 #[iv p0, iv p1, iv p2, iv p3, iv p4, iv p5, rv ob1, rv ob5, iv 0] [(.ref ob5)])) rfl (by rw [hml]; rfl) (Steps.refl _) (argsL := []) (rest := []) (lenOf pd_3 rfl) rfl (by show 2 * 0 + _ ≤ _; exact Nat.le_of_eq rfl) (hb hby at_56) (fun _ _ => ⟨rfl, e11, (by decide : 2 + 0 ≤ _), (by decide : 12 + 0 ≤ _)⟩)
  dsimp only [Pt.U, Pt.locs, Pt.cells, Pt.slots] at X14 lx14 yx14 zx14 st14 hQ14
  subst lx14 yx14 zx14
  obtain ⟨rfl, N14q, e14⟩ := hQ14
  have N14 := Fr.app N11 N14q
  refine own_lift (fun t k => st14.trans k) ?_
  show own_Go p.tables e below (T14.setTop (mkF m 59 #[iv p0, iv p1, iv p2, iv p3, iv p4, iv p5, rv ob1, rv ob5, iv 0] [(.int 0)])) _
  have sg15 : ∀ t, Steps p.tables e below (T14.setTop (mkF m 67 #[iv p0, iv p1, iv p2, iv p3, iv p4, iv p5, rv ob1, rv ob5, iv 0] [(.int 1)])) t → Steps p.tables e below (T14.setTop (mkF m 59 #[iv p0, iv p1, iv p2, iv p3, iv p4, iv p5, rv ob1, rv ob5, iv 0] [(.int 0)])) t := by
    intro t k
    refine XS.ifNo X14.here hx rfl (hb hby at_59) rfl ((if0 _ _).trans (teq (by decide : (0 : Int32) = (0 : Int32))).2) ?_
    show Steps p.tables e below (T14.setTop (mkF m 62 #[iv p0, iv p1, iv p2, iv p3, iv p4, iv p5, rv ob1, rv ob5, iv 0] [])) _
    refine XS.iconst X14.here hx rfl (hb hby at_62) ?_
    show Steps p.tables e below (T14.setTop (mkF m 63 #[iv p0, iv p1, iv p2, iv p3, iv p4, iv p5, rv ob1, rv ob5, iv 0] [(.int 1)])) _
    refine XS.goto X14.here hx rfl (pc0 := 63) (pc' := 67) rfl (hb hby at_63) (by decide) (by decide) ?_
    show Steps p.tables e below (T14.setTop (mkF m 67 #[iv p0, iv p1, iv p2, iv p3, iv p4, iv p5, rv ob1, rv ob5, iv 0] [(.int 1)])) _
    exact k
  refine own_lift sg15 ?_
  show own_Go p.tables e below (T14.setTop (mkF m 67 #[iv p0, iv p1, iv p2, iv p3, iv p4, iv p5, rv ob1, rv ob5, iv 0] [(.int 1)])) _
  obtain ⟨fs, hr, hrun, hended, hW, hsame⟩ := X14.leave (v := some (.int 1)) (fun h => by rw [Bd.returns] at h; cases h)
  refine ⟨_, _, ?_, hrun, hended, _, _, rfl, ?_, ⟨_, rfl⟩, hW, hsame.mono (by decide) (by decide)⟩
  · exact retN X14 hx (t := .boolean) Bd.returns (by simp) (hb hby at_67) hr
  · show Q0 Z  h0 n0 _ T14.heap _
    rw [e14]
    exact ⟨rfl, N14⟩
theorem ef_rm0_2 (m : MethodId) (x0 : Int32) (x1 : Int32) (x2 : Int32) (x3 : Int32) (x4 : Int32) (x5 : Int32) : entryFrame m #[(.int x0), (.int x1), (.int x2), (.int x3), (.int x4), (.int x5)] maxLocals = mkF m 0 #[.val (.int x0), .val (.int x1), .val (.int x2), .val (.int x3), .val (.int x4), .val (.int x5), .unset, .unset, .unset] [] := by first | (simp [entryFrame, mkF, argsToLocals, Value.category, maxLocals]; done) | rfl
set_option maxRecDepth 65536 in
set_option maxHeartbeats 40000000 in
theorem rm0_2 (l : Launch) (Z : State) (a0 : Array Value) (hw : ∀ d ∈ tables_1, d.before a0 Z = true) (ws : List Jvm.Cond) (p0 : Int32) (p1 : Int32) (p2 : Int32) (p3 : Int32) (p4 : Int32) (p5 : Int32) (h0 : Heap) (n0 : Nat) (Z0 : n0 ≤ h0.size)  (c1 : ¬ (p4 < (0 : Int32))) :
    MetFree l x (head1 (Jvm.Cond.code x code maxLocals ret :: ws) room_1) (fun a U => a = #[(.int p0), (.int p1), (.int p2), (.int p3), (.int p4), (.int p5)] ∧ Z.Warmed39 U.vm ∧ U.heap = h0) (fun _ _ _ _ _ => True) (fun _ U o U' => ∃ v L, o = .returned v ∧ Q0 Z  h0 n0 v U'.heap L ∧ FrameEnd U o U' L 16 128) := by
  refine MetFree.of_bodySF (plainFor_of_name pn_2) hisR ?_
  intro p e s m args below meth c s₁ Bd hml0 hP hK
  obtain ⟨rfl, hZ, hh⟩ := hP
  have hx := Bd.exec
  have hby := Bd.bytes
  have hml : c.maxLocals = 9 := hml0
  have hown : s.vm.findClass "com/example/ophion/ophion/runtime/PositionHasAnchorPinLaw" = some m.cls := findClass_of_methodNamed Bd.named
  have hnm := (name_of_methodNamed Bd.named Bd.method).1
  have X0 : Stand p l e room_1 s m #[(.int p0), (.int p1), (.int p2), (.int p3), (.int p4), (.int p5)] below meth c s₁ [] 0 0 := Stand.of_body Bd
  have e0 : s₁.heap = h0 := by rw [← hh, Bd.state]; rfl
  have N0 := Fr.nil n0
  refine own_go (own_lift (fun t k => castTop (ef_rm0_2 m p0 p1 p2 p3 p4 p5) k) ?_)
  show own_Go p.tables e below (s₁.setTop (mkF m 0 #[iv p0, iv p1, iv p2, iv p3, iv p4, iv p5, .unset, .unset, .unset] [])) _
  obtain ⟨T1, h1, X1, e1, Ex1, Ax1, Dx1, Ux1, st1⟩ := newO X0 hx hZ hown (wd hw 0 rfl) (wd hw 1 rfl) (wd hw 2 rfl) e0 (g := (mkF m 0 #[iv p0, iv p1, iv p2, iv p3, iv p4, iv p5, .unset, .unset, .unset] [])) rfl (hb hby at_0) (by decide) (by decide)
  obtain ⟨ob1, g1⟩ : ∃ z, z = h0.size := ⟨_, rfl⟩
  rw [← g1] at Ax1 Dx1 Ux1 st1
  have Z1 : n0 ≤ h1.size := Nat.le_trans Z0 Ex1.1
  have ge1 : n0 ≤ ob1 := Nat.le_trans Z0 (Nat.le_of_eq g1.symm)
  have Fn1_15 : Fld Z h1 ob1 "com/example/ophion/ophion/runtime/Position" "line" "I" (.int 0) := Dx1 (Or.inr (wd hw 15 rfl)) (ty := .int) (by decide)
  have Fn1_17 : Fld Z h1 ob1 "com/example/ophion/ophion/runtime/Position" "column" "I" (.int 0) := Dx1 (Or.inr (wd hw 17 rfl)) (ty := .int) (by decide)
  have Fn1_19 : Fld Z h1 ob1 "com/example/ophion/ophion/runtime/Position" "endLine" "I" (.int 0) := Dx1 (Or.inr (wd hw 19 rfl)) (ty := .int) (by decide)
  have Fn1_21 : Fld Z h1 ob1 "com/example/ophion/ophion/runtime/Position" "endColumn" "I" (.int 0) := Dx1 (Or.inr (wd hw 21 rfl)) (ty := .int) (by decide)
  have Fn1_23 : Fld Z h1 ob1 "com/example/ophion/ophion/runtime/Position" "anchorStart" "I" (.int 0) := Dx1 (Or.inr (wd hw 23 rfl)) (ty := .int) (by decide)
  have Fn1_25 : Fld Z h1 ob1 "com/example/ophion/ophion/runtime/Position" "anchorEnd" "I" (.int 0) := Dx1 (Or.inr (wd hw 25 rfl)) (ty := .int) (by decide)
  refine own_lift st1 ?_
  show own_Go p.tables e below (T1.setTop (mkF m 3 #[iv p0, iv p1, iv p2, iv p3, iv p4, iv p5, .unset, .unset, .unset] [(.ref ob1)])) _
  have sg2 : ∀ t, Steps p.tables e below (T1.setTop (mkF m 12 #[iv p0, iv p1, iv p2, iv p3, iv p4, iv p5, .unset, .unset, .unset] [(.int p5), (.int p4), (.int p3), (.int p2), (.int p1), (.int p0), (.ref ob1), (.ref ob1)])) t → Steps p.tables e below (T1.setTop (mkF m 3 #[iv p0, iv p1, iv p2, iv p3, iv p4, iv p5, .unset, .unset, .unset] [(.ref ob1)])) t := by
    intro t k
    refine XS.dup X1.here hx rfl (hb hby at_3) rfl rfl ?_
    show Steps p.tables e below (T1.setTop (mkF m 4 #[iv p0, iv p1, iv p2, iv p3, iv p4, iv p5, .unset, .unset, .unset] [(.ref ob1), (.ref ob1)])) _
    refine XS.iloadN X1.here hx rfl (hb hby at_4) rfl ?_
    show Steps p.tables e below (T1.setTop (mkF m 5 #[iv p0, iv p1, iv p2, iv p3, iv p4, iv p5, .unset, .unset, .unset] [(.int p0), (.ref ob1), (.ref ob1)])) _
    refine XS.iloadN X1.here hx rfl (hb hby at_5) rfl ?_
    show Steps p.tables e below (T1.setTop (mkF m 6 #[iv p0, iv p1, iv p2, iv p3, iv p4, iv p5, .unset, .unset, .unset] [(.int p1), (.int p0), (.ref ob1), (.ref ob1)])) _
    refine XS.iloadN X1.here hx rfl (hb hby at_6) rfl ?_
    show Steps p.tables e below (T1.setTop (mkF m 7 #[iv p0, iv p1, iv p2, iv p3, iv p4, iv p5, .unset, .unset, .unset] [(.int p2), (.int p1), (.int p0), (.ref ob1), (.ref ob1)])) _
    refine XS.iloadN X1.here hx rfl (hb hby at_7) rfl ?_
    show Steps p.tables e below (T1.setTop (mkF m 8 #[iv p0, iv p1, iv p2, iv p3, iv p4, iv p5, .unset, .unset, .unset] [(.int p3), (.int p2), (.int p1), (.int p0), (.ref ob1), (.ref ob1)])) _
    refine XS.iload X1.here hx rfl (hb hby at_8) rfl ?_
    show Steps p.tables e below (T1.setTop (mkF m 10 #[iv p0, iv p1, iv p2, iv p3, iv p4, iv p5, .unset, .unset, .unset] [(.int p4), (.int p3), (.int p2), (.int p1), (.int p0), (.ref ob1), (.ref ob1)])) _
    refine XS.iload X1.here hx rfl (hb hby at_10) rfl ?_
    show Steps p.tables e below (T1.setTop (mkF m 12 #[iv p0, iv p1, iv p2, iv p3, iv p4, iv p5, .unset, .unset, .unset] [(.int p5), (.int p4), (.int p3), (.int p2), (.int p1), (.int p0), (.ref ob1), (.ref ob1)])) _
    exact k
  refine own_lift sg2 ?_
  show own_Go p.tables e below (T1.setTop (mkF m 12 #[iv p0, iv p1, iv p2, iv p3, iv p4, iv p5, .unset, .unset, .unset] [(.int p5), (.int p4), (.int p3), (.int p2), (.int p1), (.int p0), (.ref ob1), (.ref ob1)])) _
  obtain ⟨_, _, ⟨T3, Lx3, kx3, nx3⟩, -, X3, ⟨Lc3, hQ3, lx3, yx3, zx3⟩, st3⟩ := X1.specialBack hx (y := (⟨"com/example/ophion/ophion/runtime/Position", "<init>", "(IIIIII)V"⟩ : MethodName)) rfl hown (mvT hZ (wd hw 3 rfl)) (mvT hZ (wd hw 4 rfl)) (mvT hZ (wd hw 5 rfl)) (by decide) (backOf (W := 1) (rmInit6 l Z a0 hw [] ob1 p0 p1 p2 p3 p4 p5 h1 n0 Z1 Fn1_15 Fn1_17 Fn1_19 Fn1_21 Fn1_23 Fn1_25 Ax1 ge1) hZ (wd hw 5 rfl) (wd hw 2 rfl) (by decide) (by decide)) (g := (mkF m 12 #[iv p0, iv p1, iv p2, iv p3, iv p4, iv p5, .unset, .unset, .unset] [(.int p5), (.int p4), (.int p3), (.int p2), (.int p1), (.int p0), (.ref ob1), (.ref ob1)])) rfl (by rw [hml]; rfl) (Steps.refl _) (a := ob1) (argsL := [(.int p0), (.int p1), (.int p2), (.int p3), (.int p4), (.int p5)]) (rest := [(.ref ob1)]) (lenOf pd_1 rfl) rfl (by show 2 * 0 + _ ≤ _; exact Nat.le_of_eq rfl) (hb hby at_12) (fun _ _ => ⟨rfl, e1, (by decide : 1 + 0 ≤ _), (by decide : 6 + 0 ≤ _)⟩)
  dsimp only [Pt.U, Pt.locs, Pt.cells, Pt.slots] at X3 lx3 yx3 zx3 st3 hQ3
  subst lx3 yx3 zx3
  obtain ⟨rfl, N3q, p3_0, p3_1, p3_2, p3_3, p3_4, p3_5, p3_6, p3_7⟩ := hQ3
  have N3 := Fr.app N0 N3q
  have Z3 : n0 ≤ T3.heap.size := Nat.le_trans Z1 p3_0.1
  refine own_lift (fun t k => st3.trans k) ?_
  show own_Go p.tables e below (T3.setTop (mkF m 15 #[iv p0, iv p1, iv p2, iv p3, iv p4, iv p5, .unset, .unset, .unset] [(.ref ob1)])) _
  have sg4 : ∀ t, Steps p.tables e below (T3.setTop (mkF m 17 #[iv p0, iv p1, iv p2, iv p3, iv p4, iv p5, rv ob1, .unset, .unset] [])) t → Steps p.tables e below (T3.setTop (mkF m 15 #[iv p0, iv p1, iv p2, iv p3, iv p4, iv p5, .unset, .unset, .unset] [(.ref ob1)])) t := by
    intro t k
    refine XS.astore X3.here hx rfl (hb hby at_15) rfl rfl (l' := #[iv p0, iv p1, iv p2, iv p3, iv p4, iv p5, rv ob1, .unset, .unset]) rfl ?_
    show Steps p.tables e below (T3.setTop (mkF m 17 #[iv p0, iv p1, iv p2, iv p3, iv p4, iv p5, rv ob1, .unset, .unset] [])) _
    exact k
  refine own_lift sg4 ?_
  show own_Go p.tables e below (T3.setTop (mkF m 17 #[iv p0, iv p1, iv p2, iv p3, iv p4, iv p5, rv ob1, .unset, .unset] [])) _
  obtain ⟨T5, h5, X5, e5, Ex5, Ax5, Dx5, Ux5, st5⟩ := newO X3 hx hZ hown (wd hw 0 rfl) (wd hw 1 rfl) (wd hw 2 rfl) rfl (g := (mkF m 17 #[iv p0, iv p1, iv p2, iv p3, iv p4, iv p5, rv ob1, .unset, .unset] [])) rfl (hb hby at_17) (by decide) (by decide)
  obtain ⟨ob5, g5⟩ : ∃ z, z = T3.heap.size := ⟨_, rfl⟩
  rw [← g5] at Ax5 Dx5 Ux5 st5
  have ne6 : ob1 ≠ ob5 := Nat.ne_of_lt (Nat.lt_of_lt_of_le p3_1.lt (Nat.le_of_eq g5.symm))
  have Z5 : n0 ≤ h5.size := Nat.le_trans Z3 Ex5.1
  have ge5 : n0 ≤ ob5 := Nat.le_trans Z3 (Nat.le_of_eq g5.symm)
  have Fn5_15 : Fld Z h5 ob5 "com/example/ophion/ophion/runtime/Position" "line" "I" (.int 0) := Dx5 (Or.inr (wd hw 15 rfl)) (ty := .int) (by decide)
  have Fn5_17 : Fld Z h5 ob5 "com/example/ophion/ophion/runtime/Position" "column" "I" (.int 0) := Dx5 (Or.inr (wd hw 17 rfl)) (ty := .int) (by decide)
  have Fn5_19 : Fld Z h5 ob5 "com/example/ophion/ophion/runtime/Position" "endLine" "I" (.int 0) := Dx5 (Or.inr (wd hw 19 rfl)) (ty := .int) (by decide)
  have Fn5_21 : Fld Z h5 ob5 "com/example/ophion/ophion/runtime/Position" "endColumn" "I" (.int 0) := Dx5 (Or.inr (wd hw 21 rfl)) (ty := .int) (by decide)
  have Fn5_23 : Fld Z h5 ob5 "com/example/ophion/ophion/runtime/Position" "anchorStart" "I" (.int 0) := Dx5 (Or.inr (wd hw 23 rfl)) (ty := .int) (by decide)
  have Fn5_25 : Fld Z h5 ob5 "com/example/ophion/ophion/runtime/Position" "anchorEnd" "I" (.int 0) := Dx5 (Or.inr (wd hw 25 rfl)) (ty := .int) (by decide)
  refine own_lift st5 ?_
  show own_Go p.tables e below (T5.setTop (mkF m 20 #[iv p0, iv p1, iv p2, iv p3, iv p4, iv p5, rv ob1, .unset, .unset] [(.ref ob5)])) _
  have sg7 : ∀ t, Steps p.tables e below (T5.setTop (mkF m 25 #[iv p0, iv p1, iv p2, iv p3, iv p4, iv p5, rv ob1, .unset, .unset] [(.int p3), (.int p2), (.int p1), (.int p0), (.ref ob5), (.ref ob5)])) t → Steps p.tables e below (T5.setTop (mkF m 20 #[iv p0, iv p1, iv p2, iv p3, iv p4, iv p5, rv ob1, .unset, .unset] [(.ref ob5)])) t := by
    intro t k
    refine XS.dup X5.here hx rfl (hb hby at_20) rfl rfl ?_
    show Steps p.tables e below (T5.setTop (mkF m 21 #[iv p0, iv p1, iv p2, iv p3, iv p4, iv p5, rv ob1, .unset, .unset] [(.ref ob5), (.ref ob5)])) _
    refine XS.iloadN X5.here hx rfl (hb hby at_21) rfl ?_
    show Steps p.tables e below (T5.setTop (mkF m 22 #[iv p0, iv p1, iv p2, iv p3, iv p4, iv p5, rv ob1, .unset, .unset] [(.int p0), (.ref ob5), (.ref ob5)])) _
    refine XS.iloadN X5.here hx rfl (hb hby at_22) rfl ?_
    show Steps p.tables e below (T5.setTop (mkF m 23 #[iv p0, iv p1, iv p2, iv p3, iv p4, iv p5, rv ob1, .unset, .unset] [(.int p1), (.int p0), (.ref ob5), (.ref ob5)])) _
    refine XS.iloadN X5.here hx rfl (hb hby at_23) rfl ?_
    show Steps p.tables e below (T5.setTop (mkF m 24 #[iv p0, iv p1, iv p2, iv p3, iv p4, iv p5, rv ob1, .unset, .unset] [(.int p2), (.int p1), (.int p0), (.ref ob5), (.ref ob5)])) _
    refine XS.iloadN X5.here hx rfl (hb hby at_24) rfl ?_
    show Steps p.tables e below (T5.setTop (mkF m 25 #[iv p0, iv p1, iv p2, iv p3, iv p4, iv p5, rv ob1, .unset, .unset] [(.int p3), (.int p2), (.int p1), (.int p0), (.ref ob5), (.ref ob5)])) _
    exact k
  refine own_lift sg7 ?_
  show own_Go p.tables e below (T5.setTop (mkF m 25 #[iv p0, iv p1, iv p2, iv p3, iv p4, iv p5, rv ob1, .unset, .unset] [(.int p3), (.int p2), (.int p1), (.int p0), (.ref ob5), (.ref ob5)])) _
  obtain ⟨_, _, ⟨T8, Lx8, kx8, nx8⟩, -, X8, ⟨Lc8, hQ8, lx8, yx8, zx8⟩, st8⟩ := X5.specialBack hx (y := (⟨"com/example/ophion/ophion/runtime/Position", "<init>", "(IIII)V"⟩ : MethodName)) rfl hown (mvT hZ (wd hw 26 rfl)) (mvT hZ (wd hw 27 rfl)) (mvT hZ (wd hw 28 rfl)) (by decide) (backOf (W := 1) (rmInit4 l Z a0 hw [] ob5 p0 p1 p2 p3 h5 n0 Z5 Fn5_15 Fn5_17 Fn5_19 Fn5_21 Fn5_23 Fn5_25 Ax5 ge5) hZ (wd hw 28 rfl) (wd hw 2 rfl) (by decide) (by decide)) (g := (mkF m 25 #[iv p0, iv p1, iv p2, iv p3, iv p4, iv p5, rv ob1, .unset, .unset] [(.int p3), (.int p2), (.int p1), (.int p0), (.ref ob5), (.ref ob5)])) rfl (by rw [hml]; rfl) (Steps.refl _) (a := ob5) (argsL := [(.int p0), (.int p1), (.int p2), (.int p3)]) (rest := [(.ref ob5)]) (lenOf pd_2 rfl) rfl (by show 2 * 0 + _ ≤ _; exact Nat.le_of_eq rfl) (hb hby at_25) (fun _ _ => ⟨rfl, e5, (by decide : 2 + 0 ≤ _), (by decide : 12 + 0 ≤ _)⟩)
  dsimp only [Pt.U, Pt.locs, Pt.cells, Pt.slots] at X8 lx8 yx8 zx8 st8 hQ8
  subst lx8 yx8 zx8
  obtain ⟨rfl, N8q, p8_0, p8_1, p8_2, p8_3, p8_4, p8_5, p8_6, p8_7⟩ := hQ8
  have N8 := Fr.app N3 N8q
  have Z8 : n0 ≤ T8.heap.size := Nat.le_trans Z5 p8_0.1
  refine own_lift (fun t k => st8.trans k) ?_
  show own_Go p.tables e below (T8.setTop (mkF m 28 #[iv p0, iv p1, iv p2, iv p3, iv p4, iv p5, rv ob1, .unset, .unset] [(.ref ob5)])) _
  have sg9 : ∀ t, Steps p.tables e below (T8.setTop (mkF m 46 #[iv p0, iv p1, iv p2, iv p3, iv p4, iv p5, rv ob1, rv ob5, iv 1] [(.ref ob1)])) t → Steps p.tables e below (T8.setTop (mkF m 28 #[iv p0, iv p1, iv p2, iv p3, iv p4, iv p5, rv ob1, .unset, .unset] [(.ref ob5)])) t := by
    intro t k
    refine XS.astore X8.here hx rfl (hb hby at_28) rfl rfl (l' := #[iv p0, iv p1, iv p2, iv p3, iv p4, iv p5, rv ob1, rv ob5, .unset]) rfl ?_
    show Steps p.tables e below (T8.setTop (mkF m 30 #[iv p0, iv p1, iv p2, iv p3, iv p4, iv p5, rv ob1, rv ob5, .unset] [])) _
    refine XS.iload X8.here hx rfl (hb hby at_30) rfl ?_
    show Steps p.tables e below (T8.setTop (mkF m 32 #[iv p0, iv p1, iv p2, iv p3, iv p4, iv p5, rv ob1, rv ob5, .unset] [(.int p4)])) _
    refine XS.ifYes X8.here hx rfl (pc0 := 32) (pc' := 41) rfl (hb hby at_32) rfl ((if0 _ _).trans (flt c1).2.1) (by decide) (by decide) ?_
    show Steps p.tables e below (T8.setTop (mkF m 41 #[iv p0, iv p1, iv p2, iv p3, iv p4, iv p5, rv ob1, rv ob5, .unset] [])) _
    refine XS.iconst X8.here hx rfl (hb hby at_41) ?_
    show Steps p.tables e below (T8.setTop (mkF m 42 #[iv p0, iv p1, iv p2, iv p3, iv p4, iv p5, rv ob1, rv ob5, .unset] [(.int 1)])) _
    refine XS.istore X8.here hx rfl (hb hby at_42) rfl (l' := #[iv p0, iv p1, iv p2, iv p3, iv p4, iv p5, rv ob1, rv ob5, iv 1]) rfl ?_
    show Steps p.tables e below (T8.setTop (mkF m 44 #[iv p0, iv p1, iv p2, iv p3, iv p4, iv p5, rv ob1, rv ob5, iv 1] [])) _
    refine XS.aload X8.here hx rfl (hb hby at_44) rfl rfl ?_
    show Steps p.tables e below (T8.setTop (mkF m 46 #[iv p0, iv p1, iv p2, iv p3, iv p4, iv p5, rv ob1, rv ob5, iv 1] [(.ref ob1)])) _
    exact k
  refine own_lift sg9 ?_
  show own_Go p.tables e below (T8.setTop (mkF m 46 #[iv p0, iv p1, iv p2, iv p3, iv p4, iv p5, rv ob1, rv ob5, iv 1] [(.ref ob1)])) _
  have Fc10 : Fld Z T8.heap ob1 "com/example/ophion/ophion/runtime/Position" "anchorStart" "I" (.int p4) := ((p3_6.ext Ex5).keep p8_0 (ninS ne6 nin0))
  have Fc12 : Exa Z T8.heap ob1 "com/example/ophion/ophion/runtime/Position" := ((p3_1.ext Ex5).keep p8_0)
  obtain ⟨cq11, kq11, q11a, q11b, q11c⟩ := isOf hZ rfl Fc12
  obtain ⟨_, _, ⟨T11, Lx11, kx11, nx11⟩, -, X11, ⟨Lc11, hQ11, lx11, yx11, zx11⟩, st11⟩ := X8.virtualBack hx (y := (⟨"com/example/ophion/ophion/runtime/Position", "hasAnchor", "()Z"⟩ : MethodName)) (z := (⟨"com/example/ophion/ophion/runtime/Position", "hasAnchor", "()Z"⟩ : MethodName)) hown (mvT hZ (wd hw 30 rfl)) (mvT hZ (wd hw 31 rfl)) (notFace_of_selects (args := #[]) (mvT hZ (wd hw 33 rfl))) (mvT hZ (wd hw 33 rfl)) (mvT hZ (wd hw 32 rfl)) (by decide) (backOf (W := 0) (rmHasY l Z a0 hw [] ob1 p4 T8.heap n0 Z8 Fc10 c1) hZ (wd hw 34 rfl) (wd hw 2 rfl) (by decide) (by decide)) q11a q11c (g := (mkF m 46 #[iv p0, iv p1, iv p2, iv p3, iv p4, iv p5, rv ob1, rv ob5, iv 1] [(.ref ob1)])) rfl (by rw [hml]; rfl) (Steps.refl _) (argsL := []) (rest := []) (lenOf pd_3 rfl) rfl (by show 2 * 0 + _ ≤ _; exact Nat.le_of_eq rfl) (hb hby at_46) (fun _ _ => ⟨rfl, rfl, (by decide : 2 + 0 ≤ _), (by decide : 12 + 0 ≤ _)⟩)
  dsimp only [Pt.U, Pt.locs, Pt.cells, Pt.slots] at X11 lx11 yx11 zx11 st11 hQ11
  subst lx11 yx11 zx11
  obtain ⟨rfl, N11q, e11⟩ := hQ11
  have N11 := Fr.app N8 N11q
  refine own_lift (fun t k => st11.trans k) ?_
  show own_Go p.tables e below (T11.setTop (mkF m 49 #[iv p0, iv p1, iv p2, iv p3, iv p4, iv p5, rv ob1, rv ob5, iv 1] [(.int 1)])) _
  have sg13 : ∀ t, Steps p.tables e below (T11.setTop (mkF m 56 #[iv p0, iv p1, iv p2, iv p3, iv p4, iv p5, rv ob1, rv ob5, iv 1] [(.ref ob5)])) t → Steps p.tables e below (T11.setTop (mkF m 49 #[iv p0, iv p1, iv p2, iv p3, iv p4, iv p5, rv ob1, rv ob5, iv 1] [(.int 1)])) t := by
    intro t k
    refine XS.iload X11.here hx rfl (hb hby at_49) rfl ?_
    show Steps p.tables e below (T11.setTop (mkF m 51 #[iv p0, iv p1, iv p2, iv p3, iv p4, iv p5, rv ob1, rv ob5, iv 1] [(.int 1), (.int 1)])) _
    refine XS.icmpNo X11.here hx rfl (hb hby at_51) rfl (teq (by decide : (1 : Int32) = (1 : Int32))).2 ?_
    show Steps p.tables e below (T11.setTop (mkF m 54 #[iv p0, iv p1, iv p2, iv p3, iv p4, iv p5, rv ob1, rv ob5, iv 1] [])) _
    refine XS.aload X11.here hx rfl (hb hby at_54) rfl rfl ?_
    show Steps p.tables e below (T11.setTop (mkF m 56 #[iv p0, iv p1, iv p2, iv p3, iv p4, iv p5, rv ob1, rv ob5, iv 1] [(.ref ob5)])) _
    exact k
  refine own_lift sg13 ?_
  show own_Go p.tables e below (T11.setTop (mkF m 56 #[iv p0, iv p1, iv p2, iv p3, iv p4, iv p5, rv ob1, rv ob5, iv 1] [(.ref ob5)])) _
  obtain ⟨cq14, kq14, q14a, q14b, q14c⟩ := isOf hZ e11 p8_1
  obtain ⟨_, _, ⟨T14, Lx14, kx14, nx14⟩, -, X14, ⟨Lc14, hQ14, lx14, yx14, zx14⟩, st14⟩ := X11.virtualBack hx (y := (⟨"com/example/ophion/ophion/runtime/Position", "hasAnchor", "()Z"⟩ : MethodName)) (z := (⟨"com/example/ophion/ophion/runtime/Position", "hasAnchor", "()Z"⟩ : MethodName)) hown (mvT hZ (wd hw 30 rfl)) (mvT hZ (wd hw 31 rfl)) (notFace_of_selects (args := #[]) (mvT hZ (wd hw 33 rfl))) (mvT hZ (wd hw 33 rfl)) (mvT hZ (wd hw 32 rfl)) (by decide) (backOf (W := 0) (rmHasN l Z a0 hw [] ob5 (-1 : Int32) T8.heap n0 Z8 p8_6 (by decide : (-1 : Int32) < (0 : Int32))) hZ (wd hw 34 rfl) (wd hw 2 rfl) (by decide) (by decide)) q14a q14c (g := (mkF m 56 #[iv p0, iv p1, iv p2, iv p3, iv p4, iv p5, rv ob1, rv ob5, iv 1] [(.ref ob5)])) rfl (by rw [hml]; rfl) (Steps.refl _) (argsL := []) (rest := []) (lenOf pd_3 rfl) rfl (by show 2 * 0 + _ ≤ _; exact Nat.le_of_eq rfl) (hb hby at_56) (fun _ _ => ⟨rfl, e11, (by decide : 2 + 0 ≤ _), (by decide : 12 + 0 ≤ _)⟩)
  dsimp only [Pt.U, Pt.locs, Pt.cells, Pt.slots] at X14 lx14 yx14 zx14 st14 hQ14
  subst lx14 yx14 zx14
  obtain ⟨rfl, N14q, e14⟩ := hQ14
  have N14 := Fr.app N11 N14q
  refine own_lift (fun t k => st14.trans k) ?_
  show own_Go p.tables e below (T14.setTop (mkF m 59 #[iv p0, iv p1, iv p2, iv p3, iv p4, iv p5, rv ob1, rv ob5, iv 1] [(.int 0)])) _
  have sg15 : ∀ t, Steps p.tables e below (T14.setTop (mkF m 67 #[iv p0, iv p1, iv p2, iv p3, iv p4, iv p5, rv ob1, rv ob5, iv 1] [(.int 1)])) t → Steps p.tables e below (T14.setTop (mkF m 59 #[iv p0, iv p1, iv p2, iv p3, iv p4, iv p5, rv ob1, rv ob5, iv 1] [(.int 0)])) t := by
    intro t k
    refine XS.ifNo X14.here hx rfl (hb hby at_59) rfl ((if0 _ _).trans (teq (by decide : (0 : Int32) = (0 : Int32))).2) ?_
    show Steps p.tables e below (T14.setTop (mkF m 62 #[iv p0, iv p1, iv p2, iv p3, iv p4, iv p5, rv ob1, rv ob5, iv 1] [])) _
    refine XS.iconst X14.here hx rfl (hb hby at_62) ?_
    show Steps p.tables e below (T14.setTop (mkF m 63 #[iv p0, iv p1, iv p2, iv p3, iv p4, iv p5, rv ob1, rv ob5, iv 1] [(.int 1)])) _
    refine XS.goto X14.here hx rfl (pc0 := 63) (pc' := 67) rfl (hb hby at_63) (by decide) (by decide) ?_
    show Steps p.tables e below (T14.setTop (mkF m 67 #[iv p0, iv p1, iv p2, iv p3, iv p4, iv p5, rv ob1, rv ob5, iv 1] [(.int 1)])) _
    exact k
  refine own_lift sg15 ?_
  show own_Go p.tables e below (T14.setTop (mkF m 67 #[iv p0, iv p1, iv p2, iv p3, iv p4, iv p5, rv ob1, rv ob5, iv 1] [(.int 1)])) _
  obtain ⟨fs, hr, hrun, hended, hW, hsame⟩ := X14.leave (v := some (.int 1)) (fun h => by rw [Bd.returns] at h; cases h)
  refine ⟨_, _, ?_, hrun, hended, _, _, rfl, ?_, ⟨_, rfl⟩, hW, hsame.mono (by decide) (by decide)⟩
  · exact retN X14 hx (t := .boolean) Bd.returns (by simp) (hb hby at_67) hr
  · show Q0 Z  h0 n0 _ T14.heap _
    rw [e14]
    exact ⟨rfl, N14⟩
set_option maxRecDepth 65536 in
theorem rm0 (l : Launch) (Z : State) (a0 : Array Value) (hw : ∀ d ∈ tables_1, d.before a0 Z = true) (ws : List Jvm.Cond) (p0 : Int32) (p1 : Int32) (p2 : Int32) (p3 : Int32) (p4 : Int32) (p5 : Int32) (h0 : Heap) (n0 : Nat) (Z0 : n0 ≤ h0.size)   :
    MetFree l x (head1 (Jvm.Cond.code x code maxLocals ret :: ws) room_1) (fun a U => a = #[(.int p0), (.int p1), (.int p2), (.int p3), (.int p4), (.int p5)] ∧ Z.Warmed39 U.vm ∧ U.heap = h0) (fun _ _ _ _ _ => True) (fun _ U o U' => ∃ v L, o = .returned v ∧ Q0 Z h0 n0 v U'.heap L ∧ FrameEnd U o U' L 16 128) := by
  by_cases hc : p4 < (0 : Int32)
  · exact rm0_1 l Z a0 hw ws p0 p1 p2 p3 p4 p5  h0 n0 Z0  hc
  · exact rm0_2 l Z a0 hw ws p0 p1 p2 p3 p4 p5  h0 n0 Z0  hc
set_option maxRecDepth 65536 in
set_option maxHeartbeats 40000000 in
theorem comes_1 {Post : Tables → Env → Array Value → State → Outcome → State → Prop} (hpost : ∀ tb e args s v u, (limb_1_1.after args s (.returned v) u = true ∧ limb_1_2.after args s (.returned v) u = true ∧ True) → FrameEnd s (.returned v) u (Jvm.fieldLocs frame_1_writes args s ++ Jvm.arrayLocs frame_1_arrays args s ++ Jvm.staticLocs frame_1_statics s) 16 128 → Post tb e args s (.returned v) u) :
    ArmFor flags0 classFile x code maxLocals ret World_1 tables_1 room_1 Calls_1 rest_1 Pre_1 Post := by
  intro l hfl _ _ p e ha hc hk s m args below hf hA hF happ hP
  obtain ⟨hcalls, hrest, hpre⟩ := hP
  obtain ⟨-, -, -, hnamed, -, -, -, hat⟩ := (Spec.applies_iff hf).mp happ
  obtain ⟨hg, hn⟩ := and_e (Cond.before_iff.mp (show (Jvm.Cond.and given_1 narrow_1).before args s = true from hpre))
  obtain ⟨gv0, gr0⟩ := and_e hg
  obtain ⟨gv1, gr1⟩ := and_e gr0
  obtain ⟨gv2, gr2⟩ := and_e gr1
  obtain ⟨gv3, gr3⟩ := and_e gr2
  obtain ⟨gv4, gr4⟩ := and_e gr3
  obtain ⟨gv5, gr5⟩ := and_e gr4
  obtain ⟨w0, w1, w2, w3, w4, w5, rfl⟩ : ∃ w0 w1 w2 w3 w4 w5 : Value, args = #[w0, w1, w2, w3, w4, w5] := by
    have hs : args.size = 6 := by simpa [Cond.value, given_1] using gv0
    obtain ⟨L⟩ := args
    match L, hs with
    | [w0, w1, w2, w3, w4, w5], _ => exact ⟨w0, w1, w2, w3, w4, w5, rfl⟩
  have hw := fun d (hd : d ∈ tables_1) => atoms_spec (ws := Jvm.Cond.code x code maxLocals ret :: tables_1) hat d (List.mem_cons_of_mem _ hd)
  have hfit : Fit s := fun {y c} hc i hi => by
    obtain ⟨ha, rfl⟩ := Array.getElem?_eq_some_iff.mp hc
    have q := List.all_eq_true.mp ((Array.all_eq_true_iff_forall_mem.mp hF) _ (Array.getElem_mem ha)) i (List.mem_range.mpr hi)
    simpa [Array.getElem?_eq_getElem hi] using q
  obtain ⟨i0, ei0⟩ := is_v gv1
  obtain rfl : w0 = (.int i0) := Option.some.inj ei0
  obtain ⟨i1, ei1⟩ := is_v gv2
  obtain rfl : w1 = (.int i1) := Option.some.inj ei1
  obtain ⟨i2, ei2⟩ := is_v gv3
  obtain rfl : w2 = (.int i2) := Option.some.inj ei2
  obtain ⟨i3, ei3⟩ := is_v gv4
  obtain rfl : w3 = (.int i3) := Option.some.inj ei3
  obtain ⟨i4, ei4⟩ := is_v gv5
  obtain rfl : w4 = (.int i4) := Option.some.inj ei4
  obtain ⟨i5, ei5⟩ := is_v gr5
  obtain rfl : w5 = (.int i5) := Option.some.inj ei5
  obtain ⟨n, o, h1, h2, h3, _, L, rfl, ⟨rfl, N⟩, hq⟩ := rm0 l s _ hw tables_1 i0 i1 i2 i3 i4 i5  s.heap s.heap.size (Nat.le_refl _)  p e ha hc hk s m _ below hf ((Spec.applies_iff_loose hf).mp happ).1 ⟨rfl, State.Warmed39.refl s, rfl⟩ trivial
  refine ⟨n, _, h1, h2, h3, hpost _ _ _ _ _ _ ⟨Cond.after_iff.mpr rfl, Cond.after_iff.mpr (eq_i res_at (Term.int_eval (1)) rfl), trivial⟩ ⟨hq.1, hq.2.1, (hq.2.2.sift fun y hy => Or.inr (N y hy)).mono (by decide) (by decide)⟩⟩
theorem main_1_1 : Claimed_1_1 := comes_1 fun _ _ _ _ _ _ h hF => ⟨h.1, hF⟩
theorem main_1_2 : Claimed_1_2 := comes_1 fun _ _ _ _ _ _ h hF => ⟨h.2.1, hF⟩
end Jvm.Pilot.@@N@@
namespace Jvm.Pilot.@@N@@
open Jvm Jvm.ClassFile Sem Op Lib Jvm.Free Jvm.Stand Jvm.Pilot.@@N@@.Jvm.D
/-! MADE BY PROGRAM (witnessworld.py) out of the Statement's table words and the real class files: 8 classes; the members and pool entries that the words name. The judged class is class 1, her method 1. -/
namespace start1
open Jvm.ClassFile
def u (s : String) : CpInfo := .utf8 (stringToUtf16 s)
/-- a pool by its gaps: so many unusable entries, then the entry; so many at the end -/
def gap : Nat → List CpInfo → List CpInfo
  | 0, r => r
  | n + 1, r => .unusable :: gap n r
def poolList (es : List (Nat × CpInfo)) (last : Nat) : List CpInfo := es.foldr (fun e r => gap e.1 (e.2 :: r)) (gap last [])
def pool (es : List (Nat × CpInfo)) (last : Nat) : Array CpInfo := ⟨poolList es last⟩
def fileOf (pool : Array CpInfo) (this : Nat) (attrs : Array Attribute := #[]) (ms : Array MethodInfo := #[]) (fl : Nat := 33) (sup : Nat := 0) (ifs : Array Nat := #[]) (fds : Array FieldInfo := #[]) : ClassFile where
  minorVersion := 0
  majorVersion := 65
  constantPool := pool
  accessFlags := fl
  thisClass := this
  superClass := sup
  interfaces := ifs
  fields := fds
  methods := ms
  attributes := attrs
def plain (name : String) (sup : Option ClassId) : Class where
  name := name
  kind := .ordinary
  loader := none
  accessFlags := 33
  super := sup
  interfaces := #[]
  cf := none
  fields := #[]
  methods := #[]
  instanceTypes := #[]
  staticTypes := #[]
  resolved := #[]
  callSites := []
  init := .initialized
  statics := none
  mirror := none

def pool0 : Array CpInfo := pool [(5, u "<init>"), (0, u "()V"), (1, .class_ 10), (1, u "java/lang/Object")] 113

def k0c0 : Code := { maxStack := 0, maxLocals := 1, code := object_method_1_code, exceptionTable := #[], attributes := #[] }
def k0m0 : Method := { name := "<init>", desc := "()V", sig := { parameters := [], returnType := none }, accessFlags := 1, code := some k0c0 }
/-- java/lang/Object -/
def k0 : Class := { plain "java/lang/Object" none with
  accessFlags := 33
  interfaces := #[]
  cf := some (fileOf pool0 8 #[] #[{ accessFlags := 1, nameIndex := 5, descriptorIndex := 6, attributes := #[] }] 33 0 #[] #[])
  fields := #[]
  methods := #[k0m0]
  instanceTypes := #[]
  staticTypes := #[]
  resolved := Array.replicate 124 none
  statics := none }

def pool1 : Array CpInfo := pool [(2, .class_ 4), (1, u "java/lang/Object"), (0, u "<init>"), (0, u "()V"), (0, .class_ 8), (0, u "com/example/ophion/ophion/runtime/Position"), (0, .methodref 7 10), (0, .nameAndType 5 11), (0, u "(IIIIII)V"), (0, .methodref 7 13), (0, .nameAndType 5 14), (0, u "(IIII)V"), (0, .methodref 7 16), (0, .nameAndType 17 18), (0, u "hasAnchor"), (0, u "()Z"), (0, .class_ 20), (0, u "com/example/ophion/ophion/runtime/PositionHasAnchorPinLaw"), (2, u "law"), (0, u "(IIIIII)Z")] 3

def k1m0 : Method := { name := "<init>", desc := "()V", sig := { parameters := [], returnType := none }, accessFlags := 1, code := none }
def k1c1 : Code := { maxStack := 8, maxLocals := 9, code := code, exceptionTable := #[], attributes := #[] }
def k1m1 : Method := { name := "law", desc := "(IIIIII)Z", sig := { parameters := [.int, .int, .int, .int, .int, .int], returnType := some .boolean }, accessFlags := 9, code := some k1c1 }
/-- com/example/ophion/ophion/runtime/PositionHasAnchorPinLaw -/
def k1 : Class := { plain "com/example/ophion/ophion/runtime/PositionHasAnchorPinLaw" (some 0) with
  accessFlags := 49
  interfaces := #[]
  cf := some (fileOf pool1 19 #[] #[{ accessFlags := 1, nameIndex := 5, descriptorIndex := 6, attributes := #[] }, { accessFlags := 9, nameIndex := 23, descriptorIndex := 24, attributes := #[] }] 49 2 #[] #[])
  fields := #[]
  methods := #[k1m0, k1m1]
  instanceTypes := #[]
  staticTypes := #[]
  resolved := Array.replicate 28 none
  statics := none }

def pool2 : Array CpInfo := pool [(1, .methodref 2 3), (0, .class_ 4), (0, .nameAndType 5 6), (0, u "java/lang/Object"), (0, u "<init>"), (0, u "()V"), (0, .class_ 8), (0, u "java/lang/Record")] 13

def k2c0 : Code := { maxStack := 1, maxLocals := 1, code := jdk_30_method_1_code, exceptionTable := #[], attributes := #[] }
def k2m0 : Method := { name := "<init>", desc := "()V", sig := { parameters := [], returnType := none }, accessFlags := 4, code := some k2c0 }
/-- java/lang/Record -/
def k2 : Class := { plain "java/lang/Record" (some 0) with
  accessFlags := 1057
  interfaces := #[]
  cf := some (fileOf pool2 7 #[] #[{ accessFlags := 4, nameIndex := 5, descriptorIndex := 6, attributes := #[] }] 1057 2 #[] #[])
  fields := #[]
  methods := #[k2m0]
  instanceTypes := #[]
  staticTypes := #[]
  resolved := Array.replicate 22 none
  statics := none }

def pool3 : Array CpInfo := pool [(1, .methodref 2 3), (0, .class_ 4), (0, .nameAndType 5 6), (0, u "java/lang/Record"), (0, u "<init>"), (0, u "()V"), (0, .fieldref 8 9), (0, .class_ 10), (0, .nameAndType 11 12), (0, u "com/example/ophion/ophion/runtime/Position"), (0, u "line"), (0, u "I"), (0, .fieldref 8 14), (0, .nameAndType 15 12), (0, u "column"), (0, .fieldref 8 17), (0, .nameAndType 18 12), (0, u "endLine"), (0, .fieldref 8 20), (0, .nameAndType 21 12), (0, u "endColumn"), (0, .fieldref 8 23), (0, .nameAndType 24 12), (0, u "anchorStart"), (0, .fieldref 8 26), (0, .nameAndType 27 12), (0, u "anchorEnd"), (0, .methodref 8 29), (0, .nameAndType 5 30), (0, u "(IIIIII)V"), (12, u "(IIII)V"), (3, u "hasAnchor"), (0, u "()Z")] 29

def k3c0 : Code := { maxStack := 7, maxLocals := 5, code := prog_11_method_1_code, exceptionTable := #[], attributes := #[] }
def k3m0 : Method := { name := "<init>", desc := "(IIII)V", sig := { parameters := [.int, .int, .int, .int], returnType := none }, accessFlags := 1, code := some k3c0 }
def k3c1 : Code := { maxStack := 2, maxLocals := 7, code := prog_11_method_2_code, exceptionTable := #[], attributes := #[] }
def k3m1 : Method := { name := "<init>", desc := "(IIIIII)V", sig := { parameters := [.int, .int, .int, .int, .int, .int], returnType := none }, accessFlags := 1, code := some k3c1 }
def k3c2 : Code := { maxStack := 1, maxLocals := 1, code := prog_11_method_3_code, exceptionTable := #[], attributes := #[] }
def k3m2 : Method := { name := "hasAnchor", desc := "()Z", sig := { parameters := [], returnType := some .boolean }, accessFlags := 1, code := some k3c2 }
/-- com/example/ophion/ophion/runtime/Position -/
def k3 : Class := { plain "com/example/ophion/ophion/runtime/Position" (some 2) with
  accessFlags := 49
  interfaces := #[]
  cf := some (fileOf pool3 8 #[] #[{ accessFlags := 1, nameIndex := 5, descriptorIndex := 43, attributes := #[] }, { accessFlags := 1, nameIndex := 5, descriptorIndex := 30, attributes := #[] }, { accessFlags := 1, nameIndex := 47, descriptorIndex := 48, attributes := #[] }] 49 2 #[] #[{ accessFlags := 18, nameIndex := 11, descriptorIndex := 12, attributes := #[] }, { accessFlags := 18, nameIndex := 15, descriptorIndex := 12, attributes := #[] }, { accessFlags := 18, nameIndex := 18, descriptorIndex := 12, attributes := #[] }, { accessFlags := 18, nameIndex := 21, descriptorIndex := 12, attributes := #[] }, { accessFlags := 18, nameIndex := 24, descriptorIndex := 12, attributes := #[] }, { accessFlags := 18, nameIndex := 27, descriptorIndex := 12, attributes := #[] }])
  fields := #[{ name := "line", type := .int, accessFlags := 18, slot := 0, constantValue := 0 }, { name := "column", type := .int, accessFlags := 18, slot := 1, constantValue := 0 }, { name := "endLine", type := .int, accessFlags := 18, slot := 2, constantValue := 0 }, { name := "endColumn", type := .int, accessFlags := 18, slot := 3, constantValue := 0 }, { name := "anchorStart", type := .int, accessFlags := 18, slot := 4, constantValue := 0 }, { name := "anchorEnd", type := .int, accessFlags := 18, slot := 5, constantValue := 0 }]
  methods := #[k3m0, k3m1, k3m2]
  instanceTypes := #[.int, .int, .int, .int, .int, .int]
  staticTypes := #[]
  resolved := Array.replicate 78 none
  statics := none }

def pool4 : Array CpInfo := pool [(1, u "java/lang/Cloneable"), (0, .class_ 1), (0, u "java/lang/Object"), (0, .class_ 3)] 3

/-- java/lang/Cloneable -/
def k4 : Class := { plain "java/lang/Cloneable" (some 0) with
  accessFlags := 1537
  interfaces := #[]
  cf := some (fileOf pool4 2 #[] #[] 1537 4 #[] #[])
  fields := #[]
  methods := #[]
  instanceTypes := #[]
  staticTypes := #[]
  resolved := Array.replicate 8 none
  statics := none }

def pool5 : Array CpInfo := pool [(1, u "java/io/Serializable"), (0, .class_ 1), (0, u "java/lang/Object"), (0, .class_ 3)] 3

/-- java/io/Serializable -/
def k5 : Class := { plain "java/io/Serializable" (some 0) with
  accessFlags := 1537
  interfaces := #[]
  cf := some (fileOf pool5 2 #[] #[] 1537 4 #[] #[])
  fields := #[]
  methods := #[]
  instanceTypes := #[]
  staticTypes := #[]
  resolved := Array.replicate 8 none
  statics := none }

/-- the primitive byte -/
def k6 : Class := { plain "byte" none with kind := .primitive 'B', accessFlags := 0x411 }
/-- [B -/
def k7 : Class := { plain "[B" (some 0) with kind := .array 6 .byte, interfaces := #[4, 5], accessFlags := 1041 }

def heap : Heap := #[]
def classes : Array Class := #[k0, k1, k2, k3, k4, k5, k6, k7]
def interned : List (Array UInt16 × Addr) := []
def slotsUsed : Nat := 0
def theMethod : MethodId := ⟨1, 1⟩
def args0 : Array Value := #[.int 5, .int 5, .int 5, .int 5, .int 5, .int 5]
def aboutOver (below : List Frame) : State where
  vm := { classes := classes, interned := interned.toArray }
  heap := heap
  slotsUsed := slotsUsed
  threads := #[{ frames := .invoking theMethod args0 :: below }]
def below0 : List Frame := [.native { method := ⟨0, 0⟩, args := #[] }]
def about1 : State := aboutOver below0
def p0 : Program := .bare "" "" ""
def e0 : Env := launch0.env 0 0 0
theorem w_frames : about1.frames = Frame.invoking theMethod args0 :: below0 := rfl
set_option maxRecDepth 65536 in
theorem w_args : argsFit about1.vm theMethod args0 = true := by decide +kernel
set_option maxRecDepth 65536 in
theorem w_heap : heapFits about1 = true := by decide +kernel
set_option maxRecDepth 65536 in
theorem w_runnable : about1.curStatus? = some .runnable := by decide +kernel
set_option maxRecDepth 65536 in
theorem w_alone : about1.alone = true := by decide +kernel
set_option maxRecDepth 65536 in
theorem w_named : about1.methodNamed? x = some theMethod := by decide +kernel
set_option maxRecDepth 65536 in
theorem w_hears : about1.hears theMethod below0 = true := by decide +kernel
set_option maxRecDepth 65536 in
theorem w_ripe : about1.ripe theMethod args0 below0 = true := by decide +kernel
theorem w_running : about1.status = .running := rfl
set_option maxRecDepth 65536 in
theorem w_room : about1.hasRoom e0.platform room_1 = true :=
  launch0.hasRoom_least _ room_1 (by decide +kernel) (by decide +kernel) (by decide +kernel) (by decide +kernel) (by decide +kernel) (by decide +kernel)
theorem allAtoms_all (ts : List Jvm.Cond) (a : Array Jvm.Value) (st : Jvm.State) : (allAtoms ts).before a st = ts.all (fun c => c.before a st) := by
  induction ts with
  | nil => rfl
  | cons c t ih =>
    show (Jvm.Cond.and c (allAtoms t)).before a st = _
    rw [Jvm.Cond.before_and, ih, List.all_cons]
def words1 : List Jvm.Cond := Jvm.Cond.code x code maxLocals ret :: tables_1
/-- a 'code' word, met by the world's own term for the bytes: nothing is compared byte by byte -/
theorem code_word {y : MethodName} {bytes : ByteArray} {mx : Nat} {rt : Option FieldType} {a : Array Value} {s : State} {m : MethodId} {meth : Method} {c : Code} (h1 : s.methodNamed? y = some m) (h2 : s.vm.method? m = some meth) (h3 : meth.code = some c) (h4 : c.code = bytes)
    (h5 : (c.maxLocals == mx && c.exceptionTable.isEmpty && decide (c.maxStack ≤ mostOperands) && decide (meth.sig.returnType = rt) && !meth.locks && decide (parseMethodDescriptor y.desc = some meth.sig)) = true) : (Jvm.Cond.code y bytes mx rt).before a s = true := by
  simp only [Bool.and_eq_true, beq_iff_eq, Bool.not_eq_true', decide_eq_true_eq] at h5
  obtain ⟨⟨⟨⟨⟨g1, g2⟩, g3⟩, g4⟩, g5⟩, g6⟩ := h5
  simp [Cond.before, Cond.holds, Cond.value, h1, h2, h3, h4, g1, g2, g3, g4, g5, g6]
def isCode : Jvm.Cond → Bool
  | .code _ _ _ _ => true
  | _ => false
theorem all_split {L : List Jvm.Cond} {P : Jvm.Cond → Bool} (h1 : L.all (fun c => isCode c || P c) = true) (h2 : ∀ c ∈ L.filter isCode, P c = true) : L.all P = true := by
  refine List.all_eq_true.mpr fun c hc => ?_
  have h := List.all_eq_true.mp h1 c hc
  rcases Bool.eq_false_or_eq_true (isCode c) with hi | hi
  · exact h2 c (List.mem_filter.mpr ⟨hc, hi⟩)
  · simpa [hi] using h
set_option maxRecDepth 65536 in
theorem w_c0 : (Jvm.Cond.code x code maxLocals ret).before args0 about1 = true := code_word (m := ⟨1, 1⟩) (meth := k1m1) (c := k1c1) (by decide +kernel) rfl rfl rfl (by decide +kernel)
set_option maxRecDepth 65536 in
theorem w_c1 : (Jvm.Cond.code ({ cls := "com/example/ophion/ophion/runtime/Position", name := "<init>", desc := "(IIIIII)V" } : Jvm.MethodName) prog_11_method_2_code (7 : Nat) (Option.none : Option Jvm.ClassFile.FieldType)).before args0 about1 = true := code_word (m := ⟨3, 1⟩) (meth := k3m1) (c := k3c1) (by decide +kernel) rfl rfl rfl (by decide +kernel)
set_option maxRecDepth 65536 in
theorem w_c2 : (Jvm.Cond.code ({ cls := "java/lang/Record", name := "<init>", desc := "()V" } : Jvm.MethodName) jdk_30_method_1_code (1 : Nat) (Option.none : Option Jvm.ClassFile.FieldType)).before args0 about1 = true := code_word (m := ⟨2, 0⟩) (meth := k2m0) (c := k2c0) (by decide +kernel) rfl rfl rfl (by decide +kernel)
set_option maxRecDepth 65536 in
theorem w_c3 : (Jvm.Cond.code ({ cls := "java/lang/Object", name := "<init>", desc := "()V" } : Jvm.MethodName) object_method_1_code (1 : Nat) (Option.none : Option Jvm.ClassFile.FieldType)).before args0 about1 = true := code_word (m := ⟨0, 0⟩) (meth := k0m0) (c := k0c0) (by decide +kernel) rfl rfl rfl (by decide +kernel)
set_option maxRecDepth 65536 in
theorem w_c4 : (Jvm.Cond.code ({ cls := "com/example/ophion/ophion/runtime/Position", name := "<init>", desc := "(IIII)V" } : Jvm.MethodName) prog_11_method_1_code (5 : Nat) (Option.none : Option Jvm.ClassFile.FieldType)).before args0 about1 = true := code_word (m := ⟨3, 0⟩) (meth := k3m0) (c := k3c0) (by decide +kernel) rfl rfl rfl (by decide +kernel)
set_option maxRecDepth 65536 in
theorem w_c5 : (Jvm.Cond.code ({ cls := "com/example/ophion/ophion/runtime/Position", name := "hasAnchor", desc := "()Z" } : Jvm.MethodName) prog_11_method_3_code (1 : Nat) (Option.some Jvm.ClassFile.FieldType.boolean)).before args0 about1 = true := code_word (m := ⟨3, 2⟩) (meth := k3m2) (c := k3c2) (by decide +kernel) rfl rfl rfl (by decide +kernel)
def codes1 : List Jvm.Cond := [Jvm.Cond.code x code maxLocals ret, Jvm.Cond.code ({ cls := "com/example/ophion/ophion/runtime/Position", name := "<init>", desc := "(IIIIII)V" } : Jvm.MethodName) prog_11_method_2_code (7 : Nat) (Option.none : Option Jvm.ClassFile.FieldType), Jvm.Cond.code ({ cls := "java/lang/Record", name := "<init>", desc := "()V" } : Jvm.MethodName) jdk_30_method_1_code (1 : Nat) (Option.none : Option Jvm.ClassFile.FieldType), Jvm.Cond.code ({ cls := "java/lang/Object", name := "<init>", desc := "()V" } : Jvm.MethodName) object_method_1_code (1 : Nat) (Option.none : Option Jvm.ClassFile.FieldType), Jvm.Cond.code ({ cls := "com/example/ophion/ophion/runtime/Position", name := "<init>", desc := "(IIII)V" } : Jvm.MethodName) prog_11_method_1_code (5 : Nat) (Option.none : Option Jvm.ClassFile.FieldType), Jvm.Cond.code ({ cls := "com/example/ophion/ophion/runtime/Position", name := "hasAnchor", desc := "()Z" } : Jvm.MethodName) prog_11_method_3_code (1 : Nat) (Option.some Jvm.ClassFile.FieldType.boolean)]
set_option maxRecDepth 65536 in
theorem codes_eq : words1.filter isCode = codes1 := rfl
theorem w_codes : ∀ c ∈ words1.filter isCode, c.before args0 about1 = true := by
  rw [codes_eq]
  intro c hc
  simp only [codes1, List.mem_cons, List.not_mem_nil, or_false] at hc
  rcases hc with rfl | rfl | rfl | rfl | rfl | rfl
  · exact w_c0
  · exact w_c1
  · exact w_c2
  · exact w_c3
  · exact w_c4
  · exact w_c5
set_option maxRecDepth 65536 in
theorem w_t1 : (words1.take 24).all (fun c => isCode c || c.before args0 about1) = true := by decide +kernel
set_option maxRecDepth 65536 in
theorem w_t2 : (words1.drop 24).all (fun c => isCode c || c.before args0 about1) = true := by decide +kernel
theorem w_tables : (allAtoms (Jvm.Cond.code x code maxLocals ret :: tables_1)).before args0 about1 = true := by
  rw [allAtoms_all]
  show words1.all (fun c => c.before args0 about1) = true
  refine all_split ?_ w_codes
  rw [← List.take_append_drop 24 words1, List.all_append, w_t1, w_t2]
  rfl
set_option maxRecDepth 65536 in
theorem w_case : (Jvm.Cond.and given_1 narrow_1).before args0 about1 = true := by decide +kernel
theorem w_applies : (headSpec (Jvm.Cond.code x code maxLocals ret :: tables_1) room_1).applies x e0.platform about1 = true :=
  (Spec.applies_iff w_frames).mpr ⟨w_running, w_runnable, w_alone, w_named, w_hears, w_ripe, w_room, w_tables⟩
theorem atStart : AtStart classFile x code maxLocals ret World_1 tables_1 room_1 Calls_1 rest_1 Pre_1 launch0 p0 e0 about1 theMethod args0 below0 :=
  ⟨lists_1, trivial, launch0.admits_env _ _ _, launch0.least_env, fairChoices_fair.cas, fairChoices_fair.clock, w_frames, w_args, w_heap, w_applies, trivial, trivial, w_case⟩
end start1
theorem witness_1 : WitnessClaimed_1 := ⟨start1.p0, start1.e0, start1.about1, start1.theMethod, start1.args0, start1.below0, start1.atStart⟩
end Jvm.Pilot.@@N@@
