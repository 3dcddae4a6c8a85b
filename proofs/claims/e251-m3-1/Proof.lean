import JvmDerived
import JvmDerived.Pilot.@@N@@Statement
import JvmDerived.Pilot.@@N@@Code
set_option linter.unusedVariables false
set_option linter.unusedSimpArgs false
@@BLOCK:NumsL.lean.txt@@
namespace Jvm.RoadKit
open Sem ClassFile Op Lib Jvm.Stand Jvm.Free Jvm.LawKit
section New
variable {p : Program} {l : Launch} {e : Env} {R : Room} {s : State} {m : MethodId} {args : Array Value} {below : List Frame} {meth : Method} {c : Code} {T : State} {locs : List Loc} {cells slots : Nat}
theorem retI (X : Stand p l e R s m args below meth c T locs cells slots) (hx : p.tables.exec = Jvm.exec) {pc : Nat} {Ls : Array Slot} {z : Int32} {rest : List Value} (hret : meth.sig.returnType = some .int) (hd : decode c.code pc = .ok (.ireturn, 1)) {fs : List Frame}
    (hl : ∀ (f : JFrame) (acts : List Action), f.method = m → f.locked = none → f.entered = [] → (doReturn e (T.setTop f) acts (some (.int z))).1 = T.setFrames fs) : Steps p.tables e below (T.setTop (mkF m pc Ls (.int z :: rest))) (T.setFrames fs) := by
  have hm' : T.vm.method? m = some meth := X.method'
  have hn : narrow .int (.int z) = .int z := rfl
  show Steps p.tables e below (T.setTop { method := m, pc := pc, locals := Ls, stack := _ :: rest, locked := none }) _
  jvm_step X.here [X.here.top, hx, hd, hm', hret, hn]
  first | (intro acts; rw [hl _ acts rfl rfl rfl]) | rw [hl _ _ rfl rfl rfl]
  exact Steps.refl _
end New
end Jvm.RoadKit
namespace Jvm.Pilot.@@N@@
open Jvm Jvm.ClassFile Sem Op Lib Jvm.Free Jvm.Stand Jvm.LawKit Jvm.RoadKit Bundle Jvm.Pilot.@@N@@.Jvm.D
theorem wd {Z : State} {a0 : Array Value} (hw : ∀ d ∈ tables_1, d.before a0 Z = true) (i : Nat) {d : Jvm.Cond} (h : tables_1[i]? = some d) : d.before a0 Z = true := hw _ (List.mem_of_getElem? h)
abbrev jv (x : Int64) : Slot := .val (.long x)
/-- from A the run comes to an end that R speaks of -/
abbrev own_Go (tb : Tables) (e : Env) (below : List Frame) (A : State) (R : State → Outcome → Prop) : Prop := ∃ s₂ o, Steps tb e below A s₂ ∧ R s₂ o
theorem own_go {tb : Tables} {e : Env} {below : List Frame} {A : State} {R : State → Outcome → Prop} (h : own_Go tb e below A R) : ∃ s₂ o, Steps tb e below A s₂ ∧ R s₂ o := h
theorem own_lift {tb : Tables} {e : Env} {below : List Frame} {A B : State} {R : State → Outcome → Prop} (h : ∀ t, Steps tb e below A t → Steps tb e below B t) (k : own_Go tb e below A R) : own_Go tb e below B R := by
  obtain ⟨t, o, k1, k2⟩ := k
  exact ⟨t, o, h t k1, k2⟩
theorem own_plain {Z : State} {h : Heap} {a : Addr} {C : String} (F : Exa Z h a C) : ∃ c : Cell, h[a]? = some c ∧ c.vm.isStatics = false := by
  obtain ⟨c, _, h1, -, -, h4, -⟩ := F
  exact ⟨c, h1, h4⟩
theorem own_Arr_keep {Z : State} {h h' : Heap} {a : Addr} {c : Cell} {ty : FieldType} {ws : List Addr} (F : Arr Z h a c ty) (K : Keep h h' ws) (q : a ∉ ws) : Arr Z h' a c ty := ⟨K.2.1 a c F.1 q, F.2⟩
theorem own_asymm {a b : Int32} (h : a < b) : ¬ b < a := Int32.not_lt.mpr (Int32.le_of_lt h)
theorem own_Sta_keep {Z : State} {h h' : Heap} {C n d : String} {v : Value} {ws : List Addr} (F : Sta Z h C n d v) (K : Keep h h' ws) (q : ∀ x ∈ ws, ∃ c : Cell, h[x]? = some c ∧ c.vm.isStatics = false) : Sta Z h' C n d v := by
  obtain ⟨cf, i, k, f, st, cell, h1, h2, h3, h4, h5, h6, h7⟩ := F
  refine ⟨cf, i, k, f, st, cell, h1, h2, h3, h4, K.2.1 st cell h5 fun z => ?_, h6, h7⟩
  obtain ⟨c, g1, g2⟩ := q st z
  cases h5.symm.trans g1
  rw [h6] at g2
  cases g2
theorem own_fld {args : Array Value} {s : State} {t : Term} {a : Addr} {C n d : String} {k : Int32} (ev : t.eval args s none [] s = some (.ref a)) (h : (Cond.eq (.field t C n d) (.int k)).value args s none s [] = some true) : Fld s s.heap a C n d (.int k) := by
  obtain ⟨x, y, hx, hy, -, hk⟩ := cmp_v (Or.inl h)
  obtain rfl : y = .int k := (Option.some.inj ((Term.int_eval k).symm.trans hy)).symm
  obtain ⟨z, rfl⟩ := hk
  have q : z = k := gotT (Cond.eq_ints hx hy) h
  subst q
  rw [fld_at ev] at hx
  exact Fld.start hx
theorem own_cases (p0 p1 : Int32) : (((p0 &&& (2147483647 : Int32)) % (6 : Int32)) = (0 : Int32) ∨ ((p0 &&& (2147483647 : Int32)) % (6 : Int32)) = (1 : Int32) ∨ ((p0 &&& (2147483647 : Int32)) % (6 : Int32)) = (2 : Int32) ∨ ((p0 &&& (2147483647 : Int32)) % (6 : Int32)) = (3 : Int32) ∨ ((p0 &&& (2147483647 : Int32)) % (6 : Int32)) = (4 : Int32) ∨ ((p0 &&& (2147483647 : Int32)) % (6 : Int32)) = (5 : Int32)) ∧ (((p1 &&& (2147483647 : Int32)) % (3 : Int32)) = (0 : Int32) ∨ ((p1 &&& (2147483647 : Int32)) % (3 : Int32)) = (1 : Int32) ∨ ((p1 &&& (2147483647 : Int32)) % (3 : Int32)) = (2 : Int32)) := by
  have m0 : (p0 &&& (2147483647 : Int32)).toInt = p0.toInt % 2 ^ 31 := Jvm.Kit.i32_mask p0 2147483647 (k := 31) (by decide) (by decide)
  have m1 : (p1 &&& (2147483647 : Int32)).toInt = p1.toInt % 2 ^ 31 := Jvm.Kit.i32_mask p1 2147483647 (k := 31) (by decide) (by decide)
  have a0 : ((p0 &&& (2147483647 : Int32)) % (6 : Int32)).toInt = (p0 &&& (2147483647 : Int32)).toInt.tmod 6 := by rw [Int32.toInt_mod]; rfl
  have a1 : ((p1 &&& (2147483647 : Int32)) % (3 : Int32)).toInt = (p1 &&& (2147483647 : Int32)).toInt.tmod 3 := by rw [Int32.toInt_mod]; rfl
  rw [Int.tmod_eq_emod_of_nonneg (by omega)] at a0 a1
  simp only [← Int32.toInt_inj]
  refine ⟨?_, ?_⟩
  · have e0 : (0 : Int32).toInt = 0 := rfl
    have e1 : (1 : Int32).toInt = 1 := rfl
    have e2 : (2 : Int32).toInt = 2 := rfl
    have e3 : (3 : Int32).toInt = 3 := rfl
    have e4 : (4 : Int32).toInt = 4 := rfl
    have e5 : (5 : Int32).toInt = 5 := rfl
    omega
  · have e0 : (0 : Int32).toInt = 0 := rfl
    have e1 : (1 : Int32).toInt = 1 := rfl
    have e2 : (2 : Int32).toInt = 2 := rfl
    omega
theorem pn_0 : plainName "java/lang/Enum" = true := by first | (simp [plainName, overriddenIn]; done) | decide +kernel
theorem d1_0 : decode jdk_37_method_2_code 0 = .ok (.aload_n 0, 1) := by decide +kernel
theorem d1_1 : decode jdk_37_method_2_code 1 = .ok (.getfield 7, 3) := by decide +kernel
theorem d1_4 : decode jdk_37_method_2_code 4 = .ok (.ireturn, 1) := by decide +kernel
def Q_rmOrd (Z : State) (a1 : Addr) (w1 : Int32) (h0 : Heap) (n0 : Nat) (v : Option Value) (h : Heap) (L : List Loc) : Prop := v = some (.int w1) ∧ Fr n0 L ∧ h = h0
theorem ef_rmOrd (m : MethodId) (x0 : Addr) : entryFrame m #[(.ref x0)] 1 = mkF m 0 #[.val (.ref x0)] [] := by first | (simp [entryFrame, mkF, argsToLocals, Value.category]; done) | rfl
set_option maxRecDepth 65536 in
set_option maxHeartbeats 40000000 in
theorem rmOrd (l : Launch) (Z : State) (a0 : Array Value) (hw : ∀ d ∈ tables_1, d.before a0 Z = true) (ws : List Jvm.Cond) (a1 : Addr) (w1 : Int32) (h0 : Heap) (n0 : Nat) (Z0 : n0 ≤ h0.size) (F1 : Fld Z h0 a1 "java/lang/Enum" "ordinal" "I" (.int w1))  :
    MetFree l (⟨"java/lang/Enum", "ordinal", "()I"⟩ : MethodName) (head1 (Jvm.Cond.code (⟨"java/lang/Enum", "ordinal", "()I"⟩ : MethodName) jdk_37_method_2_code 1 (some .int) :: ws) ({ frames := 0, cells := 0, slots := 0, locals := 0 } : Room)) (fun a U => a = #[(.ref a1)] ∧ Z.Warmed39 U.vm ∧ U.heap = h0) (fun _ _ _ _ _ => True) (fun _ U o U' => ∃ v L, o = .returned v ∧ Q_rmOrd Z a1 w1 h0 n0 v U'.heap L ∧ FrameEnd U o U' L ({ frames := 0, cells := 0, slots := 0, locals := 0 } : Room).cells ({ frames := 0, cells := 0, slots := 0, locals := 0 } : Room).slots) := by
  refine MetFree.of_bodySF (plainFor_of_name pn_0) hisR ?_
  intro p e s m args below meth c s₁ Bd hml0 hP hK
  obtain ⟨rfl, hZ, hh⟩ := hP
  have hx := Bd.exec
  have hby := Bd.bytes
  have hml : c.maxLocals = 1 := hml0
  have hown : s.vm.findClass "java/lang/Enum" = some m.cls := findClass_of_methodNamed Bd.named
  have hnm := (name_of_methodNamed Bd.named Bd.method).1
  have X0 : Stand p l e ({ frames := 0, cells := 0, slots := 0, locals := 0 } : Room) s m #[(.ref a1)] below meth c s₁ [] 0 0 := Stand.of_body Bd
  have e0 : s₁.heap = h0 := by rw [← hh, Bd.state]; rfl
  have N0 := Fr.nil n0
  refine own_go (own_lift (fun t k => castTop (ef_rmOrd m a1) k) ?_)
  show own_Go p.tables e below (s₁.setTop (mkF m 0 #[rv a1] [])) _
  have sg1 : ∀ t, Steps p.tables e below (s₁.setTop (mkF m 1 #[rv a1] [(.ref a1)])) t → Steps p.tables e below (s₁.setTop (mkF m 0 #[rv a1] [])) t := by
    intro t k
    refine XS.aloadN X0.here hx rfl (hb hby d1_0) rfl rfl ?_
    show Steps p.tables e below (s₁.setTop (mkF m 1 #[rv a1] [(.ref a1)])) _
    exact k
  refine own_lift sg1 ?_
  show own_Go p.tables e below (s₁.setTop (mkF m 1 #[rv a1] [(.ref a1)])) _
  obtain ⟨T2, X2, e2, st2⟩ := getF X0 hx hZ hown (host := "") (Or.inl (wd hw 25 rfl)) Via.refl e0 F1 (g := (mkF m 1 #[rv a1] [(.ref a1)])) rfl rfl (hb hby d1_1)
  refine own_lift st2 ?_
  show own_Go p.tables e below (T2.setTop (mkF m 4 #[rv a1] [(.int w1)])) _
  obtain ⟨fs, hr, hrun, hended, hW, hsame⟩ := X2.leave (v := some (.int w1)) (fun h => by rw [Bd.returns] at h; cases h)
  refine ⟨_, _, ?_, hrun, hended, _, _, rfl, ?_, ⟨_, rfl⟩, hW, hsame.mono (by decide) (by decide)⟩
  · exact retI X2 hx Bd.returns (hb hby d1_4) hr
  · show Q_rmOrd Z a1 w1 h0 n0 _ T2.heap _
    rw [e2]
    exact ⟨rfl, N0, rfl⟩
theorem pn_1 : plainName "com/example/ophion/ophion/runtime/CompareOp" = true := by first | (simp [plainName, overriddenIn]; done) | decide +kernel
theorem d2_0 : decode prog_5_method_7_code 0 = .ok (.aload_n 0, 1) := by decide +kernel
theorem d2_1 : decode prog_5_method_7_code 1 = .ok (.invokevirtual 48, 3) := by decide +kernel
theorem pd_0 : parseMethodDescriptor "()I" = some ⟨[], some .int⟩ := by decide +kernel
theorem d2_4 : decode prog_5_method_7_code 4 = .ok (.tableswitch 86 0 4 #[36, 46, 56, 66, 76], 36) := by decide +kernel
theorem d2_40 : decode prog_5_method_7_code 40 = .ok (.iload_n 1, 1) := by decide +kernel
theorem d2_41 : decode prog_5_method_7_code 41 = .ok (.ifCond .ge 7, 3) := by decide +kernel
theorem d2_44 : decode prog_5_method_7_code 44 = .ok (.iconst 1, 1) := by decide +kernel
theorem d2_45 : decode prog_5_method_7_code 45 = .ok (.goto 4, 3) := by decide +kernel
theorem d2_49 : decode prog_5_method_7_code 49 = .ok (.ireturn, 1) := by decide +kernel
def Q_rmHolds0t (Z : State) (a1 : Addr) (p1 : Int32) (h0 : Heap) (n0 : Nat) (v : Option Value) (h : Heap) (L : List Loc) : Prop := v = some (.int 1) ∧ Fr n0 L ∧ h = h0
theorem ef_rmHolds0t (m : MethodId) (x0 : Addr) (x1 : Int32) : entryFrame m #[(.ref x0), (.int x1)] 2 = mkF m 0 #[.val (.ref x0), .val (.int x1)] [] := by first | (simp [entryFrame, mkF, argsToLocals, Value.category]; done) | rfl
set_option maxRecDepth 65536 in
set_option maxHeartbeats 40000000 in
theorem rmHolds0t (l : Launch) (Z : State) (a0 : Array Value) (hw : ∀ d ∈ tables_1, d.before a0 Z = true) (ws : List Jvm.Cond) (a1 : Addr) (p1 : Int32) (h0 : Heap) (n0 : Nat) (Z0 : n0 ≤ h0.size) (F1 : Fld Z h0 a1 "java/lang/Enum" "ordinal" "I" (.int 0)) (E1 : Exa Z h0 a1 "com/example/ophion/ophion/runtime/CompareOp") (c1 : p1 < (0 : Int32)) :
    MetFree l (⟨"com/example/ophion/ophion/runtime/CompareOp", "holds", "(I)Z"⟩ : MethodName) (head1 (Jvm.Cond.code (⟨"com/example/ophion/ophion/runtime/CompareOp", "holds", "(I)Z"⟩ : MethodName) prog_5_method_7_code 2 (some .boolean) :: ws) ({ frames := 1, cells := 0, slots := 0, locals := 12 } : Room)) (fun a U => a = #[(.ref a1), (.int p1)] ∧ Z.Warmed39 U.vm ∧ U.heap = h0) (fun _ _ _ _ _ => True) (fun _ U o U' => ∃ v L, o = .returned v ∧ Q_rmHolds0t Z a1 p1 h0 n0 v U'.heap L ∧ FrameEnd U o U' L ({ frames := 1, cells := 0, slots := 0, locals := 12 } : Room).cells ({ frames := 1, cells := 0, slots := 0, locals := 12 } : Room).slots) := by
  refine MetFree.of_bodySF (plainFor_of_name pn_1) hisR ?_
  intro p e s m args below meth c s₁ Bd hml0 hP hK
  obtain ⟨rfl, hZ, hh⟩ := hP
  have hx := Bd.exec
  have hby := Bd.bytes
  have hml : c.maxLocals = 2 := hml0
  have hown : s.vm.findClass "com/example/ophion/ophion/runtime/CompareOp" = some m.cls := findClass_of_methodNamed Bd.named
  have hnm := (name_of_methodNamed Bd.named Bd.method).1
  have X0 : Stand p l e ({ frames := 1, cells := 0, slots := 0, locals := 12 } : Room) s m #[(.ref a1), (.int p1)] below meth c s₁ [] 0 0 := Stand.of_body Bd
  have e0 : s₁.heap = h0 := by rw [← hh, Bd.state]; rfl
  have N0 := Fr.nil n0
  refine own_go (own_lift (fun t k => castTop (ef_rmHolds0t m a1 p1) k) ?_)
  show own_Go p.tables e below (s₁.setTop (mkF m 0 #[rv a1, iv p1] [])) _
  have sg1 : ∀ t, Steps p.tables e below (s₁.setTop (mkF m 1 #[rv a1, iv p1] [(.ref a1)])) t → Steps p.tables e below (s₁.setTop (mkF m 0 #[rv a1, iv p1] [])) t := by
    intro t k
    refine XS.aloadN X0.here hx rfl (hb hby d2_0) rfl rfl ?_
    show Steps p.tables e below (s₁.setTop (mkF m 1 #[rv a1, iv p1] [(.ref a1)])) _
    exact k
  refine own_lift sg1 ?_
  show own_Go p.tables e below (s₁.setTop (mkF m 1 #[rv a1, iv p1] [(.ref a1)])) _
  obtain ⟨cq2, kq2, q2a, q2b, q2c⟩ := isOf hZ e0 E1
  obtain ⟨_, _, ⟨T2, Lx2, kx2, nx2⟩, -, X2, ⟨Lc2, hQ2, lx2, yx2, zx2⟩, st2⟩ := X0.virtualBackUp hx (x := (⟨"com/example/ophion/ophion/runtime/CompareOp", "ordinal", "()I"⟩ : MethodName)) (y := (⟨"java/lang/Enum", "ordinal", "()I"⟩ : MethodName)) hown (mvT hZ (wd hw 18 rfl)) (mvT hZ (wd hw 19 rfl)) (mvT hZ (wd hw 20 rfl)) (by decide) (mvT hZ (wd hw 22 rfl)) (mvT hZ (wd hw 21 rfl)) (backOf (W := 0) (rmOrd l Z a0 hw [] a1 (0 : Int32) h0 n0 Z0 F1) hZ (wd hw 24 rfl) (wd hw 23 rfl) (by decide) (by decide)) q2a q2c (g := (mkF m 1 #[rv a1, iv p1] [(.ref a1)])) rfl (by rw [hml]; rfl) (Steps.refl _) (argsL := []) (rest := []) (lenOf pd_0 rfl) rfl (by show 2 * 0 + _ ≤ _; exact Nat.le_of_eq rfl) (hb hby d2_1) (fun _ _ => ⟨rfl, e0, (by decide : 0 + 0 ≤ _), (by decide : 0 + 0 ≤ _)⟩)
  dsimp only [Pt.U, Pt.locs, Pt.cells, Pt.slots] at X2 lx2 yx2 zx2 st2 hQ2
  subst lx2 yx2 zx2
  obtain ⟨rfl, N2q, e2⟩ := hQ2
  have N2 := Fr.app N0 N2q
  refine own_lift (fun t k => st2.trans k) ?_
  show own_Go p.tables e below (T2.setTop (mkF m 4 #[rv a1, iv p1] [(.int 0)])) _
  have sg3 : ∀ t, Steps p.tables e below (T2.setTop (mkF m 49 #[rv a1, iv p1] [(.int 1)])) t → Steps p.tables e below (T2.setTop (mkF m 4 #[rv a1, iv p1] [(.int 0)])) t := by
    intro t k
    refine XS.tswIn X2.here hx rfl (pc0 := 4) (pc' := 40) rfl (hb hby d2_4) rfl (by decide) (o := 36) (by decide) (by decide) (by decide) ?_
    show Steps p.tables e below (T2.setTop (mkF m 40 #[rv a1, iv p1] [])) _
    refine XS.iloadN X2.here hx rfl (hb hby d2_40) rfl ?_
    show Steps p.tables e below (T2.setTop (mkF m 41 #[rv a1, iv p1] [(.int p1)])) _
    refine XS.ifNo X2.here hx rfl (hb hby d2_41) rfl ((if0 _ _).trans (tlt c1).2.1) ?_
    show Steps p.tables e below (T2.setTop (mkF m 44 #[rv a1, iv p1] [])) _
    refine XS.iconst X2.here hx rfl (hb hby d2_44) ?_
    show Steps p.tables e below (T2.setTop (mkF m 45 #[rv a1, iv p1] [(.int 1)])) _
    refine XS.goto X2.here hx rfl (pc0 := 45) (pc' := 49) rfl (hb hby d2_45) (by decide) (by decide) ?_
    show Steps p.tables e below (T2.setTop (mkF m 49 #[rv a1, iv p1] [(.int 1)])) _
    exact k
  refine own_lift sg3 ?_
  show own_Go p.tables e below (T2.setTop (mkF m 49 #[rv a1, iv p1] [(.int 1)])) _
  obtain ⟨fs, hr, hrun, hended, hW, hsame⟩ := X2.leave (v := some (.int 1)) (fun h => by rw [Bd.returns] at h; cases h)
  refine ⟨_, _, ?_, hrun, hended, _, _, rfl, ?_, ⟨_, rfl⟩, hW, hsame.mono (by decide) (by decide)⟩
  · exact retN X2 hx (t := .boolean) Bd.returns (by simp) (hb hby d2_49) hr
  · show Q_rmHolds0t Z a1 p1 h0 n0 _ T2.heap _
    rw [e2]
    exact ⟨rfl, N2, rfl⟩
theorem d2_48 : decode prog_5_method_7_code 48 = .ok (.iconst 0, 1) := by decide +kernel
def Q_rmHolds0f (Z : State) (a1 : Addr) (p1 : Int32) (h0 : Heap) (n0 : Nat) (v : Option Value) (h : Heap) (L : List Loc) : Prop := v = some (.int 0) ∧ Fr n0 L ∧ h = h0
theorem ef_rmHolds0f (m : MethodId) (x0 : Addr) (x1 : Int32) : entryFrame m #[(.ref x0), (.int x1)] 2 = mkF m 0 #[.val (.ref x0), .val (.int x1)] [] := by first | (simp [entryFrame, mkF, argsToLocals, Value.category]; done) | rfl
set_option maxRecDepth 65536 in
set_option maxHeartbeats 40000000 in
theorem rmHolds0f (l : Launch) (Z : State) (a0 : Array Value) (hw : ∀ d ∈ tables_1, d.before a0 Z = true) (ws : List Jvm.Cond) (a1 : Addr) (p1 : Int32) (h0 : Heap) (n0 : Nat) (Z0 : n0 ≤ h0.size) (F1 : Fld Z h0 a1 "java/lang/Enum" "ordinal" "I" (.int 0)) (E1 : Exa Z h0 a1 "com/example/ophion/ophion/runtime/CompareOp") (c1 : ¬ (p1 < (0 : Int32))) :
    MetFree l (⟨"com/example/ophion/ophion/runtime/CompareOp", "holds", "(I)Z"⟩ : MethodName) (head1 (Jvm.Cond.code (⟨"com/example/ophion/ophion/runtime/CompareOp", "holds", "(I)Z"⟩ : MethodName) prog_5_method_7_code 2 (some .boolean) :: ws) ({ frames := 1, cells := 0, slots := 0, locals := 12 } : Room)) (fun a U => a = #[(.ref a1), (.int p1)] ∧ Z.Warmed39 U.vm ∧ U.heap = h0) (fun _ _ _ _ _ => True) (fun _ U o U' => ∃ v L, o = .returned v ∧ Q_rmHolds0f Z a1 p1 h0 n0 v U'.heap L ∧ FrameEnd U o U' L ({ frames := 1, cells := 0, slots := 0, locals := 12 } : Room).cells ({ frames := 1, cells := 0, slots := 0, locals := 12 } : Room).slots) := by
  refine MetFree.of_bodySF (plainFor_of_name pn_1) hisR ?_
  intro p e s m args below meth c s₁ Bd hml0 hP hK
  obtain ⟨rfl, hZ, hh⟩ := hP
  have hx := Bd.exec
  have hby := Bd.bytes
  have hml : c.maxLocals = 2 := hml0
  have hown : s.vm.findClass "com/example/ophion/ophion/runtime/CompareOp" = some m.cls := findClass_of_methodNamed Bd.named
  have hnm := (name_of_methodNamed Bd.named Bd.method).1
  have X0 : Stand p l e ({ frames := 1, cells := 0, slots := 0, locals := 12 } : Room) s m #[(.ref a1), (.int p1)] below meth c s₁ [] 0 0 := Stand.of_body Bd
  have e0 : s₁.heap = h0 := by rw [← hh, Bd.state]; rfl
  have N0 := Fr.nil n0
  refine own_go (own_lift (fun t k => castTop (ef_rmHolds0f m a1 p1) k) ?_)
  show own_Go p.tables e below (s₁.setTop (mkF m 0 #[rv a1, iv p1] [])) _
  have sg1 : ∀ t, Steps p.tables e below (s₁.setTop (mkF m 1 #[rv a1, iv p1] [(.ref a1)])) t → Steps p.tables e below (s₁.setTop (mkF m 0 #[rv a1, iv p1] [])) t := by
    intro t k
    refine XS.aloadN X0.here hx rfl (hb hby d2_0) rfl rfl ?_
    show Steps p.tables e below (s₁.setTop (mkF m 1 #[rv a1, iv p1] [(.ref a1)])) _
    exact k
  refine own_lift sg1 ?_
  show own_Go p.tables e below (s₁.setTop (mkF m 1 #[rv a1, iv p1] [(.ref a1)])) _
  obtain ⟨cq2, kq2, q2a, q2b, q2c⟩ := isOf hZ e0 E1
  obtain ⟨_, _, ⟨T2, Lx2, kx2, nx2⟩, -, X2, ⟨Lc2, hQ2, lx2, yx2, zx2⟩, st2⟩ := X0.virtualBackUp hx (x := (⟨"com/example/ophion/ophion/runtime/CompareOp", "ordinal", "()I"⟩ : MethodName)) (y := (⟨"java/lang/Enum", "ordinal", "()I"⟩ : MethodName)) hown (mvT hZ (wd hw 18 rfl)) (mvT hZ (wd hw 19 rfl)) (mvT hZ (wd hw 20 rfl)) (by decide) (mvT hZ (wd hw 22 rfl)) (mvT hZ (wd hw 21 rfl)) (backOf (W := 0) (rmOrd l Z a0 hw [] a1 (0 : Int32) h0 n0 Z0 F1) hZ (wd hw 24 rfl) (wd hw 23 rfl) (by decide) (by decide)) q2a q2c (g := (mkF m 1 #[rv a1, iv p1] [(.ref a1)])) rfl (by rw [hml]; rfl) (Steps.refl _) (argsL := []) (rest := []) (lenOf pd_0 rfl) rfl (by show 2 * 0 + _ ≤ _; exact Nat.le_of_eq rfl) (hb hby d2_1) (fun _ _ => ⟨rfl, e0, (by decide : 0 + 0 ≤ _), (by decide : 0 + 0 ≤ _)⟩)
  dsimp only [Pt.U, Pt.locs, Pt.cells, Pt.slots] at X2 lx2 yx2 zx2 st2 hQ2
  subst lx2 yx2 zx2
  obtain ⟨rfl, N2q, e2⟩ := hQ2
  have N2 := Fr.app N0 N2q
  refine own_lift (fun t k => st2.trans k) ?_
  show own_Go p.tables e below (T2.setTop (mkF m 4 #[rv a1, iv p1] [(.int 0)])) _
  have sg3 : ∀ t, Steps p.tables e below (T2.setTop (mkF m 49 #[rv a1, iv p1] [(.int 0)])) t → Steps p.tables e below (T2.setTop (mkF m 4 #[rv a1, iv p1] [(.int 0)])) t := by
    intro t k
    refine XS.tswIn X2.here hx rfl (pc0 := 4) (pc' := 40) rfl (hb hby d2_4) rfl (by decide) (o := 36) (by decide) (by decide) (by decide) ?_
    show Steps p.tables e below (T2.setTop (mkF m 40 #[rv a1, iv p1] [])) _
    refine XS.iloadN X2.here hx rfl (hb hby d2_40) rfl ?_
    show Steps p.tables e below (T2.setTop (mkF m 41 #[rv a1, iv p1] [(.int p1)])) _
    refine XS.ifYes X2.here hx rfl (pc0 := 41) (pc' := 48) rfl (hb hby d2_41) rfl ((if0 _ _).trans (flt c1).2.1) (by decide) (by decide) ?_
    show Steps p.tables e below (T2.setTop (mkF m 48 #[rv a1, iv p1] [])) _
    refine XS.iconst X2.here hx rfl (hb hby d2_48) ?_
    show Steps p.tables e below (T2.setTop (mkF m 49 #[rv a1, iv p1] [(.int 0)])) _
    exact k
  refine own_lift sg3 ?_
  show own_Go p.tables e below (T2.setTop (mkF m 49 #[rv a1, iv p1] [(.int 0)])) _
  obtain ⟨fs, hr, hrun, hended, hW, hsame⟩ := X2.leave (v := some (.int 0)) (fun h => by rw [Bd.returns] at h; cases h)
  refine ⟨_, _, ?_, hrun, hended, _, _, rfl, ?_, ⟨_, rfl⟩, hW, hsame.mono (by decide) (by decide)⟩
  · exact retN X2 hx (t := .boolean) Bd.returns (by simp) (hb hby d2_49) hr
  · show Q_rmHolds0f Z a1 p1 h0 n0 _ T2.heap _
    rw [e2]
    exact ⟨rfl, N2, rfl⟩
theorem d2_50 : decode prog_5_method_7_code 50 = .ok (.iload_n 1, 1) := by decide +kernel
theorem d2_51 : decode prog_5_method_7_code 51 = .ok (.ifCond .gt 7, 3) := by decide +kernel
theorem d2_58 : decode prog_5_method_7_code 58 = .ok (.iconst 0, 1) := by decide +kernel
theorem d2_59 : decode prog_5_method_7_code 59 = .ok (.ireturn, 1) := by decide +kernel
def Q_rmHolds1t (Z : State) (a1 : Addr) (p1 : Int32) (h0 : Heap) (n0 : Nat) (v : Option Value) (h : Heap) (L : List Loc) : Prop := v = some (.int 0) ∧ Fr n0 L ∧ h = h0
theorem ef_rmHolds1t (m : MethodId) (x0 : Addr) (x1 : Int32) : entryFrame m #[(.ref x0), (.int x1)] 2 = mkF m 0 #[.val (.ref x0), .val (.int x1)] [] := by first | (simp [entryFrame, mkF, argsToLocals, Value.category]; done) | rfl
set_option maxRecDepth 65536 in
set_option maxHeartbeats 40000000 in
theorem rmHolds1t (l : Launch) (Z : State) (a0 : Array Value) (hw : ∀ d ∈ tables_1, d.before a0 Z = true) (ws : List Jvm.Cond) (a1 : Addr) (p1 : Int32) (h0 : Heap) (n0 : Nat) (Z0 : n0 ≤ h0.size) (F1 : Fld Z h0 a1 "java/lang/Enum" "ordinal" "I" (.int 1)) (E1 : Exa Z h0 a1 "com/example/ophion/ophion/runtime/CompareOp") (c1 : (0 : Int32) < p1) :
    MetFree l (⟨"com/example/ophion/ophion/runtime/CompareOp", "holds", "(I)Z"⟩ : MethodName) (head1 (Jvm.Cond.code (⟨"com/example/ophion/ophion/runtime/CompareOp", "holds", "(I)Z"⟩ : MethodName) prog_5_method_7_code 2 (some .boolean) :: ws) ({ frames := 1, cells := 0, slots := 0, locals := 12 } : Room)) (fun a U => a = #[(.ref a1), (.int p1)] ∧ Z.Warmed39 U.vm ∧ U.heap = h0) (fun _ _ _ _ _ => True) (fun _ U o U' => ∃ v L, o = .returned v ∧ Q_rmHolds1t Z a1 p1 h0 n0 v U'.heap L ∧ FrameEnd U o U' L ({ frames := 1, cells := 0, slots := 0, locals := 12 } : Room).cells ({ frames := 1, cells := 0, slots := 0, locals := 12 } : Room).slots) := by
  refine MetFree.of_bodySF (plainFor_of_name pn_1) hisR ?_
  intro p e s m args below meth c s₁ Bd hml0 hP hK
  obtain ⟨rfl, hZ, hh⟩ := hP
  have hx := Bd.exec
  have hby := Bd.bytes
  have hml : c.maxLocals = 2 := hml0
  have hown : s.vm.findClass "com/example/ophion/ophion/runtime/CompareOp" = some m.cls := findClass_of_methodNamed Bd.named
  have hnm := (name_of_methodNamed Bd.named Bd.method).1
  have X0 : Stand p l e ({ frames := 1, cells := 0, slots := 0, locals := 12 } : Room) s m #[(.ref a1), (.int p1)] below meth c s₁ [] 0 0 := Stand.of_body Bd
  have e0 : s₁.heap = h0 := by rw [← hh, Bd.state]; rfl
  have N0 := Fr.nil n0
  refine own_go (own_lift (fun t k => castTop (ef_rmHolds1t m a1 p1) k) ?_)
  show own_Go p.tables e below (s₁.setTop (mkF m 0 #[rv a1, iv p1] [])) _
  have sg1 : ∀ t, Steps p.tables e below (s₁.setTop (mkF m 1 #[rv a1, iv p1] [(.ref a1)])) t → Steps p.tables e below (s₁.setTop (mkF m 0 #[rv a1, iv p1] [])) t := by
    intro t k
    refine XS.aloadN X0.here hx rfl (hb hby d2_0) rfl rfl ?_
    show Steps p.tables e below (s₁.setTop (mkF m 1 #[rv a1, iv p1] [(.ref a1)])) _
    exact k
  refine own_lift sg1 ?_
  show own_Go p.tables e below (s₁.setTop (mkF m 1 #[rv a1, iv p1] [(.ref a1)])) _
  obtain ⟨cq2, kq2, q2a, q2b, q2c⟩ := isOf hZ e0 E1
  obtain ⟨_, _, ⟨T2, Lx2, kx2, nx2⟩, -, X2, ⟨Lc2, hQ2, lx2, yx2, zx2⟩, st2⟩ := X0.virtualBackUp hx (x := (⟨"com/example/ophion/ophion/runtime/CompareOp", "ordinal", "()I"⟩ : MethodName)) (y := (⟨"java/lang/Enum", "ordinal", "()I"⟩ : MethodName)) hown (mvT hZ (wd hw 18 rfl)) (mvT hZ (wd hw 19 rfl)) (mvT hZ (wd hw 20 rfl)) (by decide) (mvT hZ (wd hw 22 rfl)) (mvT hZ (wd hw 21 rfl)) (backOf (W := 0) (rmOrd l Z a0 hw [] a1 (1 : Int32) h0 n0 Z0 F1) hZ (wd hw 24 rfl) (wd hw 23 rfl) (by decide) (by decide)) q2a q2c (g := (mkF m 1 #[rv a1, iv p1] [(.ref a1)])) rfl (by rw [hml]; rfl) (Steps.refl _) (argsL := []) (rest := []) (lenOf pd_0 rfl) rfl (by show 2 * 0 + _ ≤ _; exact Nat.le_of_eq rfl) (hb hby d2_1) (fun _ _ => ⟨rfl, e0, (by decide : 0 + 0 ≤ _), (by decide : 0 + 0 ≤ _)⟩)
  dsimp only [Pt.U, Pt.locs, Pt.cells, Pt.slots] at X2 lx2 yx2 zx2 st2 hQ2
  subst lx2 yx2 zx2
  obtain ⟨rfl, N2q, e2⟩ := hQ2
  have N2 := Fr.app N0 N2q
  refine own_lift (fun t k => st2.trans k) ?_
  show own_Go p.tables e below (T2.setTop (mkF m 4 #[rv a1, iv p1] [(.int 1)])) _
  have sg3 : ∀ t, Steps p.tables e below (T2.setTop (mkF m 59 #[rv a1, iv p1] [(.int 0)])) t → Steps p.tables e below (T2.setTop (mkF m 4 #[rv a1, iv p1] [(.int 1)])) t := by
    intro t k
    refine XS.tswIn X2.here hx rfl (pc0 := 4) (pc' := 50) rfl (hb hby d2_4) rfl (by decide) (o := 46) (by decide) (by decide) (by decide) ?_
    show Steps p.tables e below (T2.setTop (mkF m 50 #[rv a1, iv p1] [])) _
    refine XS.iloadN X2.here hx rfl (hb hby d2_50) rfl ?_
    show Steps p.tables e below (T2.setTop (mkF m 51 #[rv a1, iv p1] [(.int p1)])) _
    refine XS.ifYes X2.here hx rfl (pc0 := 51) (pc' := 58) rfl (hb hby d2_51) rfl ((if0 _ _).trans (tlt c1).2.2.1) (by decide) (by decide) ?_
    show Steps p.tables e below (T2.setTop (mkF m 58 #[rv a1, iv p1] [])) _
    refine XS.iconst X2.here hx rfl (hb hby d2_58) ?_
    show Steps p.tables e below (T2.setTop (mkF m 59 #[rv a1, iv p1] [(.int 0)])) _
    exact k
  refine own_lift sg3 ?_
  show own_Go p.tables e below (T2.setTop (mkF m 59 #[rv a1, iv p1] [(.int 0)])) _
  obtain ⟨fs, hr, hrun, hended, hW, hsame⟩ := X2.leave (v := some (.int 0)) (fun h => by rw [Bd.returns] at h; cases h)
  refine ⟨_, _, ?_, hrun, hended, _, _, rfl, ?_, ⟨_, rfl⟩, hW, hsame.mono (by decide) (by decide)⟩
  · exact retN X2 hx (t := .boolean) Bd.returns (by simp) (hb hby d2_59) hr
  · show Q_rmHolds1t Z a1 p1 h0 n0 _ T2.heap _
    rw [e2]
    exact ⟨rfl, N2, rfl⟩
theorem d2_54 : decode prog_5_method_7_code 54 = .ok (.iconst 1, 1) := by decide +kernel
theorem d2_55 : decode prog_5_method_7_code 55 = .ok (.goto 4, 3) := by decide +kernel
def Q_rmHolds1f (Z : State) (a1 : Addr) (p1 : Int32) (h0 : Heap) (n0 : Nat) (v : Option Value) (h : Heap) (L : List Loc) : Prop := v = some (.int 1) ∧ Fr n0 L ∧ h = h0
theorem ef_rmHolds1f (m : MethodId) (x0 : Addr) (x1 : Int32) : entryFrame m #[(.ref x0), (.int x1)] 2 = mkF m 0 #[.val (.ref x0), .val (.int x1)] [] := by first | (simp [entryFrame, mkF, argsToLocals, Value.category]; done) | rfl
set_option maxRecDepth 65536 in
set_option maxHeartbeats 40000000 in
theorem rmHolds1f (l : Launch) (Z : State) (a0 : Array Value) (hw : ∀ d ∈ tables_1, d.before a0 Z = true) (ws : List Jvm.Cond) (a1 : Addr) (p1 : Int32) (h0 : Heap) (n0 : Nat) (Z0 : n0 ≤ h0.size) (F1 : Fld Z h0 a1 "java/lang/Enum" "ordinal" "I" (.int 1)) (E1 : Exa Z h0 a1 "com/example/ophion/ophion/runtime/CompareOp") (c1 : ¬ ((0 : Int32) < p1)) :
    MetFree l (⟨"com/example/ophion/ophion/runtime/CompareOp", "holds", "(I)Z"⟩ : MethodName) (head1 (Jvm.Cond.code (⟨"com/example/ophion/ophion/runtime/CompareOp", "holds", "(I)Z"⟩ : MethodName) prog_5_method_7_code 2 (some .boolean) :: ws) ({ frames := 1, cells := 0, slots := 0, locals := 12 } : Room)) (fun a U => a = #[(.ref a1), (.int p1)] ∧ Z.Warmed39 U.vm ∧ U.heap = h0) (fun _ _ _ _ _ => True) (fun _ U o U' => ∃ v L, o = .returned v ∧ Q_rmHolds1f Z a1 p1 h0 n0 v U'.heap L ∧ FrameEnd U o U' L ({ frames := 1, cells := 0, slots := 0, locals := 12 } : Room).cells ({ frames := 1, cells := 0, slots := 0, locals := 12 } : Room).slots) := by
  refine MetFree.of_bodySF (plainFor_of_name pn_1) hisR ?_
  intro p e s m args below meth c s₁ Bd hml0 hP hK
  obtain ⟨rfl, hZ, hh⟩ := hP
  have hx := Bd.exec
  have hby := Bd.bytes
  have hml : c.maxLocals = 2 := hml0
  have hown : s.vm.findClass "com/example/ophion/ophion/runtime/CompareOp" = some m.cls := findClass_of_methodNamed Bd.named
  have hnm := (name_of_methodNamed Bd.named Bd.method).1
  have X0 : Stand p l e ({ frames := 1, cells := 0, slots := 0, locals := 12 } : Room) s m #[(.ref a1), (.int p1)] below meth c s₁ [] 0 0 := Stand.of_body Bd
  have e0 : s₁.heap = h0 := by rw [← hh, Bd.state]; rfl
  have N0 := Fr.nil n0
  refine own_go (own_lift (fun t k => castTop (ef_rmHolds1f m a1 p1) k) ?_)
  show own_Go p.tables e below (s₁.setTop (mkF m 0 #[rv a1, iv p1] [])) _
  have sg1 : ∀ t, Steps p.tables e below (s₁.setTop (mkF m 1 #[rv a1, iv p1] [(.ref a1)])) t → Steps p.tables e below (s₁.setTop (mkF m 0 #[rv a1, iv p1] [])) t := by
    intro t k
    refine XS.aloadN X0.here hx rfl (hb hby d2_0) rfl rfl ?_
    show Steps p.tables e below (s₁.setTop (mkF m 1 #[rv a1, iv p1] [(.ref a1)])) _
    exact k
  refine own_lift sg1 ?_
  show own_Go p.tables e below (s₁.setTop (mkF m 1 #[rv a1, iv p1] [(.ref a1)])) _
  obtain ⟨cq2, kq2, q2a, q2b, q2c⟩ := isOf hZ e0 E1
  obtain ⟨_, _, ⟨T2, Lx2, kx2, nx2⟩, -, X2, ⟨Lc2, hQ2, lx2, yx2, zx2⟩, st2⟩ := X0.virtualBackUp hx (x := (⟨"com/example/ophion/ophion/runtime/CompareOp", "ordinal", "()I"⟩ : MethodName)) (y := (⟨"java/lang/Enum", "ordinal", "()I"⟩ : MethodName)) hown (mvT hZ (wd hw 18 rfl)) (mvT hZ (wd hw 19 rfl)) (mvT hZ (wd hw 20 rfl)) (by decide) (mvT hZ (wd hw 22 rfl)) (mvT hZ (wd hw 21 rfl)) (backOf (W := 0) (rmOrd l Z a0 hw [] a1 (1 : Int32) h0 n0 Z0 F1) hZ (wd hw 24 rfl) (wd hw 23 rfl) (by decide) (by decide)) q2a q2c (g := (mkF m 1 #[rv a1, iv p1] [(.ref a1)])) rfl (by rw [hml]; rfl) (Steps.refl _) (argsL := []) (rest := []) (lenOf pd_0 rfl) rfl (by show 2 * 0 + _ ≤ _; exact Nat.le_of_eq rfl) (hb hby d2_1) (fun _ _ => ⟨rfl, e0, (by decide : 0 + 0 ≤ _), (by decide : 0 + 0 ≤ _)⟩)
  dsimp only [Pt.U, Pt.locs, Pt.cells, Pt.slots] at X2 lx2 yx2 zx2 st2 hQ2
  subst lx2 yx2 zx2
  obtain ⟨rfl, N2q, e2⟩ := hQ2
  have N2 := Fr.app N0 N2q
  refine own_lift (fun t k => st2.trans k) ?_
  show own_Go p.tables e below (T2.setTop (mkF m 4 #[rv a1, iv p1] [(.int 1)])) _
  have sg3 : ∀ t, Steps p.tables e below (T2.setTop (mkF m 59 #[rv a1, iv p1] [(.int 1)])) t → Steps p.tables e below (T2.setTop (mkF m 4 #[rv a1, iv p1] [(.int 1)])) t := by
    intro t k
    refine XS.tswIn X2.here hx rfl (pc0 := 4) (pc' := 50) rfl (hb hby d2_4) rfl (by decide) (o := 46) (by decide) (by decide) (by decide) ?_
    show Steps p.tables e below (T2.setTop (mkF m 50 #[rv a1, iv p1] [])) _
    refine XS.iloadN X2.here hx rfl (hb hby d2_50) rfl ?_
    show Steps p.tables e below (T2.setTop (mkF m 51 #[rv a1, iv p1] [(.int p1)])) _
    refine XS.ifNo X2.here hx rfl (hb hby d2_51) rfl ((if0 _ _).trans (flt c1).2.2.1) ?_
    show Steps p.tables e below (T2.setTop (mkF m 54 #[rv a1, iv p1] [])) _
    refine XS.iconst X2.here hx rfl (hb hby d2_54) ?_
    show Steps p.tables e below (T2.setTop (mkF m 55 #[rv a1, iv p1] [(.int 1)])) _
    refine XS.goto X2.here hx rfl (pc0 := 55) (pc' := 59) rfl (hb hby d2_55) (by decide) (by decide) ?_
    show Steps p.tables e below (T2.setTop (mkF m 59 #[rv a1, iv p1] [(.int 1)])) _
    exact k
  refine own_lift sg3 ?_
  show own_Go p.tables e below (T2.setTop (mkF m 59 #[rv a1, iv p1] [(.int 1)])) _
  obtain ⟨fs, hr, hrun, hended, hW, hsame⟩ := X2.leave (v := some (.int 1)) (fun h => by rw [Bd.returns] at h; cases h)
  refine ⟨_, _, ?_, hrun, hended, _, _, rfl, ?_, ⟨_, rfl⟩, hW, hsame.mono (by decide) (by decide)⟩
  · exact retN X2 hx (t := .boolean) Bd.returns (by simp) (hb hby d2_59) hr
  · show Q_rmHolds1f Z a1 p1 h0 n0 _ T2.heap _
    rw [e2]
    exact ⟨rfl, N2, rfl⟩
theorem d2_60 : decode prog_5_method_7_code 60 = .ok (.iload_n 1, 1) := by decide +kernel
theorem d2_61 : decode prog_5_method_7_code 61 = .ok (.ifCond .ne 7, 3) := by decide +kernel
theorem d2_64 : decode prog_5_method_7_code 64 = .ok (.iconst 1, 1) := by decide +kernel
theorem d2_65 : decode prog_5_method_7_code 65 = .ok (.goto 4, 3) := by decide +kernel
theorem d2_69 : decode prog_5_method_7_code 69 = .ok (.ireturn, 1) := by decide +kernel
def Q_rmHolds2t (Z : State) (a1 : Addr) (p1 : Int32) (h0 : Heap) (n0 : Nat) (v : Option Value) (h : Heap) (L : List Loc) : Prop := v = some (.int 1) ∧ Fr n0 L ∧ h = h0
theorem ef_rmHolds2t (m : MethodId) (x0 : Addr) (x1 : Int32) : entryFrame m #[(.ref x0), (.int x1)] 2 = mkF m 0 #[.val (.ref x0), .val (.int x1)] [] := by first | (simp [entryFrame, mkF, argsToLocals, Value.category]; done) | rfl
set_option maxRecDepth 65536 in
set_option maxHeartbeats 40000000 in
theorem rmHolds2t (l : Launch) (Z : State) (a0 : Array Value) (hw : ∀ d ∈ tables_1, d.before a0 Z = true) (ws : List Jvm.Cond) (a1 : Addr) (p1 : Int32) (h0 : Heap) (n0 : Nat) (Z0 : n0 ≤ h0.size) (F1 : Fld Z h0 a1 "java/lang/Enum" "ordinal" "I" (.int 2)) (E1 : Exa Z h0 a1 "com/example/ophion/ophion/runtime/CompareOp") (c1 : p1 = (0 : Int32)) :
    MetFree l (⟨"com/example/ophion/ophion/runtime/CompareOp", "holds", "(I)Z"⟩ : MethodName) (head1 (Jvm.Cond.code (⟨"com/example/ophion/ophion/runtime/CompareOp", "holds", "(I)Z"⟩ : MethodName) prog_5_method_7_code 2 (some .boolean) :: ws) ({ frames := 1, cells := 0, slots := 0, locals := 12 } : Room)) (fun a U => a = #[(.ref a1), (.int p1)] ∧ Z.Warmed39 U.vm ∧ U.heap = h0) (fun _ _ _ _ _ => True) (fun _ U o U' => ∃ v L, o = .returned v ∧ Q_rmHolds2t Z a1 p1 h0 n0 v U'.heap L ∧ FrameEnd U o U' L ({ frames := 1, cells := 0, slots := 0, locals := 12 } : Room).cells ({ frames := 1, cells := 0, slots := 0, locals := 12 } : Room).slots) := by
  refine MetFree.of_bodySF (plainFor_of_name pn_1) hisR ?_
  intro p e s m args below meth c s₁ Bd hml0 hP hK
  obtain ⟨rfl, hZ, hh⟩ := hP
  have hx := Bd.exec
  have hby := Bd.bytes
  have hml : c.maxLocals = 2 := hml0
  have hown : s.vm.findClass "com/example/ophion/ophion/runtime/CompareOp" = some m.cls := findClass_of_methodNamed Bd.named
  have hnm := (name_of_methodNamed Bd.named Bd.method).1
  have X0 : Stand p l e ({ frames := 1, cells := 0, slots := 0, locals := 12 } : Room) s m #[(.ref a1), (.int p1)] below meth c s₁ [] 0 0 := Stand.of_body Bd
  have e0 : s₁.heap = h0 := by rw [← hh, Bd.state]; rfl
  have N0 := Fr.nil n0
  refine own_go (own_lift (fun t k => castTop (ef_rmHolds2t m a1 p1) k) ?_)
  show own_Go p.tables e below (s₁.setTop (mkF m 0 #[rv a1, iv p1] [])) _
  have sg1 : ∀ t, Steps p.tables e below (s₁.setTop (mkF m 1 #[rv a1, iv p1] [(.ref a1)])) t → Steps p.tables e below (s₁.setTop (mkF m 0 #[rv a1, iv p1] [])) t := by
    intro t k
    refine XS.aloadN X0.here hx rfl (hb hby d2_0) rfl rfl ?_
    show Steps p.tables e below (s₁.setTop (mkF m 1 #[rv a1, iv p1] [(.ref a1)])) _
    exact k
  refine own_lift sg1 ?_
  show own_Go p.tables e below (s₁.setTop (mkF m 1 #[rv a1, iv p1] [(.ref a1)])) _
  obtain ⟨cq2, kq2, q2a, q2b, q2c⟩ := isOf hZ e0 E1
  obtain ⟨_, _, ⟨T2, Lx2, kx2, nx2⟩, -, X2, ⟨Lc2, hQ2, lx2, yx2, zx2⟩, st2⟩ := X0.virtualBackUp hx (x := (⟨"com/example/ophion/ophion/runtime/CompareOp", "ordinal", "()I"⟩ : MethodName)) (y := (⟨"java/lang/Enum", "ordinal", "()I"⟩ : MethodName)) hown (mvT hZ (wd hw 18 rfl)) (mvT hZ (wd hw 19 rfl)) (mvT hZ (wd hw 20 rfl)) (by decide) (mvT hZ (wd hw 22 rfl)) (mvT hZ (wd hw 21 rfl)) (backOf (W := 0) (rmOrd l Z a0 hw [] a1 (2 : Int32) h0 n0 Z0 F1) hZ (wd hw 24 rfl) (wd hw 23 rfl) (by decide) (by decide)) q2a q2c (g := (mkF m 1 #[rv a1, iv p1] [(.ref a1)])) rfl (by rw [hml]; rfl) (Steps.refl _) (argsL := []) (rest := []) (lenOf pd_0 rfl) rfl (by show 2 * 0 + _ ≤ _; exact Nat.le_of_eq rfl) (hb hby d2_1) (fun _ _ => ⟨rfl, e0, (by decide : 0 + 0 ≤ _), (by decide : 0 + 0 ≤ _)⟩)
  dsimp only [Pt.U, Pt.locs, Pt.cells, Pt.slots] at X2 lx2 yx2 zx2 st2 hQ2
  subst lx2 yx2 zx2
  obtain ⟨rfl, N2q, e2⟩ := hQ2
  have N2 := Fr.app N0 N2q
  refine own_lift (fun t k => st2.trans k) ?_
  show own_Go p.tables e below (T2.setTop (mkF m 4 #[rv a1, iv p1] [(.int 2)])) _
  have sg3 : ∀ t, Steps p.tables e below (T2.setTop (mkF m 69 #[rv a1, iv p1] [(.int 1)])) t → Steps p.tables e below (T2.setTop (mkF m 4 #[rv a1, iv p1] [(.int 2)])) t := by
    intro t k
    refine XS.tswIn X2.here hx rfl (pc0 := 4) (pc' := 60) rfl (hb hby d2_4) rfl (by decide) (o := 56) (by decide) (by decide) (by decide) ?_
    show Steps p.tables e below (T2.setTop (mkF m 60 #[rv a1, iv p1] [])) _
    refine XS.iloadN X2.here hx rfl (hb hby d2_60) rfl ?_
    show Steps p.tables e below (T2.setTop (mkF m 61 #[rv a1, iv p1] [(.int p1)])) _
    refine XS.ifNo X2.here hx rfl (hb hby d2_61) rfl ((if0 _ _).trans (teq c1).2) ?_
    show Steps p.tables e below (T2.setTop (mkF m 64 #[rv a1, iv p1] [])) _
    refine XS.iconst X2.here hx rfl (hb hby d2_64) ?_
    show Steps p.tables e below (T2.setTop (mkF m 65 #[rv a1, iv p1] [(.int 1)])) _
    refine XS.goto X2.here hx rfl (pc0 := 65) (pc' := 69) rfl (hb hby d2_65) (by decide) (by decide) ?_
    show Steps p.tables e below (T2.setTop (mkF m 69 #[rv a1, iv p1] [(.int 1)])) _
    exact k
  refine own_lift sg3 ?_
  show own_Go p.tables e below (T2.setTop (mkF m 69 #[rv a1, iv p1] [(.int 1)])) _
  obtain ⟨fs, hr, hrun, hended, hW, hsame⟩ := X2.leave (v := some (.int 1)) (fun h => by rw [Bd.returns] at h; cases h)
  refine ⟨_, _, ?_, hrun, hended, _, _, rfl, ?_, ⟨_, rfl⟩, hW, hsame.mono (by decide) (by decide)⟩
  · exact retN X2 hx (t := .boolean) Bd.returns (by simp) (hb hby d2_69) hr
  · show Q_rmHolds2t Z a1 p1 h0 n0 _ T2.heap _
    rw [e2]
    exact ⟨rfl, N2, rfl⟩
theorem d2_68 : decode prog_5_method_7_code 68 = .ok (.iconst 0, 1) := by decide +kernel
def Q_rmHolds2f (Z : State) (a1 : Addr) (p1 : Int32) (h0 : Heap) (n0 : Nat) (v : Option Value) (h : Heap) (L : List Loc) : Prop := v = some (.int 0) ∧ Fr n0 L ∧ h = h0
theorem ef_rmHolds2f (m : MethodId) (x0 : Addr) (x1 : Int32) : entryFrame m #[(.ref x0), (.int x1)] 2 = mkF m 0 #[.val (.ref x0), .val (.int x1)] [] := by first | (simp [entryFrame, mkF, argsToLocals, Value.category]; done) | rfl
set_option maxRecDepth 65536 in
set_option maxHeartbeats 40000000 in
theorem rmHolds2f (l : Launch) (Z : State) (a0 : Array Value) (hw : ∀ d ∈ tables_1, d.before a0 Z = true) (ws : List Jvm.Cond) (a1 : Addr) (p1 : Int32) (h0 : Heap) (n0 : Nat) (Z0 : n0 ≤ h0.size) (F1 : Fld Z h0 a1 "java/lang/Enum" "ordinal" "I" (.int 2)) (E1 : Exa Z h0 a1 "com/example/ophion/ophion/runtime/CompareOp") (c1 : ¬ (p1 = (0 : Int32))) :
    MetFree l (⟨"com/example/ophion/ophion/runtime/CompareOp", "holds", "(I)Z"⟩ : MethodName) (head1 (Jvm.Cond.code (⟨"com/example/ophion/ophion/runtime/CompareOp", "holds", "(I)Z"⟩ : MethodName) prog_5_method_7_code 2 (some .boolean) :: ws) ({ frames := 1, cells := 0, slots := 0, locals := 12 } : Room)) (fun a U => a = #[(.ref a1), (.int p1)] ∧ Z.Warmed39 U.vm ∧ U.heap = h0) (fun _ _ _ _ _ => True) (fun _ U o U' => ∃ v L, o = .returned v ∧ Q_rmHolds2f Z a1 p1 h0 n0 v U'.heap L ∧ FrameEnd U o U' L ({ frames := 1, cells := 0, slots := 0, locals := 12 } : Room).cells ({ frames := 1, cells := 0, slots := 0, locals := 12 } : Room).slots) := by
  refine MetFree.of_bodySF (plainFor_of_name pn_1) hisR ?_
  intro p e s m args below meth c s₁ Bd hml0 hP hK
  obtain ⟨rfl, hZ, hh⟩ := hP
  have hx := Bd.exec
  have hby := Bd.bytes
  have hml : c.maxLocals = 2 := hml0
  have hown : s.vm.findClass "com/example/ophion/ophion/runtime/CompareOp" = some m.cls := findClass_of_methodNamed Bd.named
  have hnm := (name_of_methodNamed Bd.named Bd.method).1
  have X0 : Stand p l e ({ frames := 1, cells := 0, slots := 0, locals := 12 } : Room) s m #[(.ref a1), (.int p1)] below meth c s₁ [] 0 0 := Stand.of_body Bd
  have e0 : s₁.heap = h0 := by rw [← hh, Bd.state]; rfl
  have N0 := Fr.nil n0
  refine own_go (own_lift (fun t k => castTop (ef_rmHolds2f m a1 p1) k) ?_)
  show own_Go p.tables e below (s₁.setTop (mkF m 0 #[rv a1, iv p1] [])) _
  have sg1 : ∀ t, Steps p.tables e below (s₁.setTop (mkF m 1 #[rv a1, iv p1] [(.ref a1)])) t → Steps p.tables e below (s₁.setTop (mkF m 0 #[rv a1, iv p1] [])) t := by
    intro t k
    refine XS.aloadN X0.here hx rfl (hb hby d2_0) rfl rfl ?_
    show Steps p.tables e below (s₁.setTop (mkF m 1 #[rv a1, iv p1] [(.ref a1)])) _
    exact k
  refine own_lift sg1 ?_
  show own_Go p.tables e below (s₁.setTop (mkF m 1 #[rv a1, iv p1] [(.ref a1)])) _
  obtain ⟨cq2, kq2, q2a, q2b, q2c⟩ := isOf hZ e0 E1
  obtain ⟨_, _, ⟨T2, Lx2, kx2, nx2⟩, -, X2, ⟨Lc2, hQ2, lx2, yx2, zx2⟩, st2⟩ := X0.virtualBackUp hx (x := (⟨"com/example/ophion/ophion/runtime/CompareOp", "ordinal", "()I"⟩ : MethodName)) (y := (⟨"java/lang/Enum", "ordinal", "()I"⟩ : MethodName)) hown (mvT hZ (wd hw 18 rfl)) (mvT hZ (wd hw 19 rfl)) (mvT hZ (wd hw 20 rfl)) (by decide) (mvT hZ (wd hw 22 rfl)) (mvT hZ (wd hw 21 rfl)) (backOf (W := 0) (rmOrd l Z a0 hw [] a1 (2 : Int32) h0 n0 Z0 F1) hZ (wd hw 24 rfl) (wd hw 23 rfl) (by decide) (by decide)) q2a q2c (g := (mkF m 1 #[rv a1, iv p1] [(.ref a1)])) rfl (by rw [hml]; rfl) (Steps.refl _) (argsL := []) (rest := []) (lenOf pd_0 rfl) rfl (by show 2 * 0 + _ ≤ _; exact Nat.le_of_eq rfl) (hb hby d2_1) (fun _ _ => ⟨rfl, e0, (by decide : 0 + 0 ≤ _), (by decide : 0 + 0 ≤ _)⟩)
  dsimp only [Pt.U, Pt.locs, Pt.cells, Pt.slots] at X2 lx2 yx2 zx2 st2 hQ2
  subst lx2 yx2 zx2
  obtain ⟨rfl, N2q, e2⟩ := hQ2
  have N2 := Fr.app N0 N2q
  refine own_lift (fun t k => st2.trans k) ?_
  show own_Go p.tables e below (T2.setTop (mkF m 4 #[rv a1, iv p1] [(.int 2)])) _
  have sg3 : ∀ t, Steps p.tables e below (T2.setTop (mkF m 69 #[rv a1, iv p1] [(.int 0)])) t → Steps p.tables e below (T2.setTop (mkF m 4 #[rv a1, iv p1] [(.int 2)])) t := by
    intro t k
    refine XS.tswIn X2.here hx rfl (pc0 := 4) (pc' := 60) rfl (hb hby d2_4) rfl (by decide) (o := 56) (by decide) (by decide) (by decide) ?_
    show Steps p.tables e below (T2.setTop (mkF m 60 #[rv a1, iv p1] [])) _
    refine XS.iloadN X2.here hx rfl (hb hby d2_60) rfl ?_
    show Steps p.tables e below (T2.setTop (mkF m 61 #[rv a1, iv p1] [(.int p1)])) _
    refine XS.ifYes X2.here hx rfl (pc0 := 61) (pc' := 68) rfl (hb hby d2_61) rfl ((if0 _ _).trans (feq c1).2) (by decide) (by decide) ?_
    show Steps p.tables e below (T2.setTop (mkF m 68 #[rv a1, iv p1] [])) _
    refine XS.iconst X2.here hx rfl (hb hby d2_68) ?_
    show Steps p.tables e below (T2.setTop (mkF m 69 #[rv a1, iv p1] [(.int 0)])) _
    exact k
  refine own_lift sg3 ?_
  show own_Go p.tables e below (T2.setTop (mkF m 69 #[rv a1, iv p1] [(.int 0)])) _
  obtain ⟨fs, hr, hrun, hended, hW, hsame⟩ := X2.leave (v := some (.int 0)) (fun h => by rw [Bd.returns] at h; cases h)
  refine ⟨_, _, ?_, hrun, hended, _, _, rfl, ?_, ⟨_, rfl⟩, hW, hsame.mono (by decide) (by decide)⟩
  · exact retN X2 hx (t := .boolean) Bd.returns (by simp) (hb hby d2_69) hr
  · show Q_rmHolds2f Z a1 p1 h0 n0 _ T2.heap _
    rw [e2]
    exact ⟨rfl, N2, rfl⟩
theorem d2_70 : decode prog_5_method_7_code 70 = .ok (.iload_n 1, 1) := by decide +kernel
theorem d2_71 : decode prog_5_method_7_code 71 = .ok (.ifCond .eq 7, 3) := by decide +kernel
theorem d2_78 : decode prog_5_method_7_code 78 = .ok (.iconst 0, 1) := by decide +kernel
theorem d2_79 : decode prog_5_method_7_code 79 = .ok (.ireturn, 1) := by decide +kernel
def Q_rmHolds3t (Z : State) (a1 : Addr) (p1 : Int32) (h0 : Heap) (n0 : Nat) (v : Option Value) (h : Heap) (L : List Loc) : Prop := v = some (.int 0) ∧ Fr n0 L ∧ h = h0
theorem ef_rmHolds3t (m : MethodId) (x0 : Addr) (x1 : Int32) : entryFrame m #[(.ref x0), (.int x1)] 2 = mkF m 0 #[.val (.ref x0), .val (.int x1)] [] := by first | (simp [entryFrame, mkF, argsToLocals, Value.category]; done) | rfl
set_option maxRecDepth 65536 in
set_option maxHeartbeats 40000000 in
theorem rmHolds3t (l : Launch) (Z : State) (a0 : Array Value) (hw : ∀ d ∈ tables_1, d.before a0 Z = true) (ws : List Jvm.Cond) (a1 : Addr) (p1 : Int32) (h0 : Heap) (n0 : Nat) (Z0 : n0 ≤ h0.size) (F1 : Fld Z h0 a1 "java/lang/Enum" "ordinal" "I" (.int 3)) (E1 : Exa Z h0 a1 "com/example/ophion/ophion/runtime/CompareOp") (c1 : p1 = (0 : Int32)) :
    MetFree l (⟨"com/example/ophion/ophion/runtime/CompareOp", "holds", "(I)Z"⟩ : MethodName) (head1 (Jvm.Cond.code (⟨"com/example/ophion/ophion/runtime/CompareOp", "holds", "(I)Z"⟩ : MethodName) prog_5_method_7_code 2 (some .boolean) :: ws) ({ frames := 1, cells := 0, slots := 0, locals := 12 } : Room)) (fun a U => a = #[(.ref a1), (.int p1)] ∧ Z.Warmed39 U.vm ∧ U.heap = h0) (fun _ _ _ _ _ => True) (fun _ U o U' => ∃ v L, o = .returned v ∧ Q_rmHolds3t Z a1 p1 h0 n0 v U'.heap L ∧ FrameEnd U o U' L ({ frames := 1, cells := 0, slots := 0, locals := 12 } : Room).cells ({ frames := 1, cells := 0, slots := 0, locals := 12 } : Room).slots) := by
  refine MetFree.of_bodySF (plainFor_of_name pn_1) hisR ?_
  intro p e s m args below meth c s₁ Bd hml0 hP hK
  obtain ⟨rfl, hZ, hh⟩ := hP
  have hx := Bd.exec
  have hby := Bd.bytes
  have hml : c.maxLocals = 2 := hml0
  have hown : s.vm.findClass "com/example/ophion/ophion/runtime/CompareOp" = some m.cls := findClass_of_methodNamed Bd.named
  have hnm := (name_of_methodNamed Bd.named Bd.method).1
  have X0 : Stand p l e ({ frames := 1, cells := 0, slots := 0, locals := 12 } : Room) s m #[(.ref a1), (.int p1)] below meth c s₁ [] 0 0 := Stand.of_body Bd
  have e0 : s₁.heap = h0 := by rw [← hh, Bd.state]; rfl
  have N0 := Fr.nil n0
  refine own_go (own_lift (fun t k => castTop (ef_rmHolds3t m a1 p1) k) ?_)
  show own_Go p.tables e below (s₁.setTop (mkF m 0 #[rv a1, iv p1] [])) _
  have sg1 : ∀ t, Steps p.tables e below (s₁.setTop (mkF m 1 #[rv a1, iv p1] [(.ref a1)])) t → Steps p.tables e below (s₁.setTop (mkF m 0 #[rv a1, iv p1] [])) t := by
    intro t k
    refine XS.aloadN X0.here hx rfl (hb hby d2_0) rfl rfl ?_
    show Steps p.tables e below (s₁.setTop (mkF m 1 #[rv a1, iv p1] [(.ref a1)])) _
    exact k
  refine own_lift sg1 ?_
  show own_Go p.tables e below (s₁.setTop (mkF m 1 #[rv a1, iv p1] [(.ref a1)])) _
  obtain ⟨cq2, kq2, q2a, q2b, q2c⟩ := isOf hZ e0 E1
  obtain ⟨_, _, ⟨T2, Lx2, kx2, nx2⟩, -, X2, ⟨Lc2, hQ2, lx2, yx2, zx2⟩, st2⟩ := X0.virtualBackUp hx (x := (⟨"com/example/ophion/ophion/runtime/CompareOp", "ordinal", "()I"⟩ : MethodName)) (y := (⟨"java/lang/Enum", "ordinal", "()I"⟩ : MethodName)) hown (mvT hZ (wd hw 18 rfl)) (mvT hZ (wd hw 19 rfl)) (mvT hZ (wd hw 20 rfl)) (by decide) (mvT hZ (wd hw 22 rfl)) (mvT hZ (wd hw 21 rfl)) (backOf (W := 0) (rmOrd l Z a0 hw [] a1 (3 : Int32) h0 n0 Z0 F1) hZ (wd hw 24 rfl) (wd hw 23 rfl) (by decide) (by decide)) q2a q2c (g := (mkF m 1 #[rv a1, iv p1] [(.ref a1)])) rfl (by rw [hml]; rfl) (Steps.refl _) (argsL := []) (rest := []) (lenOf pd_0 rfl) rfl (by show 2 * 0 + _ ≤ _; exact Nat.le_of_eq rfl) (hb hby d2_1) (fun _ _ => ⟨rfl, e0, (by decide : 0 + 0 ≤ _), (by decide : 0 + 0 ≤ _)⟩)
  dsimp only [Pt.U, Pt.locs, Pt.cells, Pt.slots] at X2 lx2 yx2 zx2 st2 hQ2
  subst lx2 yx2 zx2
  obtain ⟨rfl, N2q, e2⟩ := hQ2
  have N2 := Fr.app N0 N2q
  refine own_lift (fun t k => st2.trans k) ?_
  show own_Go p.tables e below (T2.setTop (mkF m 4 #[rv a1, iv p1] [(.int 3)])) _
  have sg3 : ∀ t, Steps p.tables e below (T2.setTop (mkF m 79 #[rv a1, iv p1] [(.int 0)])) t → Steps p.tables e below (T2.setTop (mkF m 4 #[rv a1, iv p1] [(.int 3)])) t := by
    intro t k
    refine XS.tswIn X2.here hx rfl (pc0 := 4) (pc' := 70) rfl (hb hby d2_4) rfl (by decide) (o := 66) (by decide) (by decide) (by decide) ?_
    show Steps p.tables e below (T2.setTop (mkF m 70 #[rv a1, iv p1] [])) _
    refine XS.iloadN X2.here hx rfl (hb hby d2_70) rfl ?_
    show Steps p.tables e below (T2.setTop (mkF m 71 #[rv a1, iv p1] [(.int p1)])) _
    refine XS.ifYes X2.here hx rfl (pc0 := 71) (pc' := 78) rfl (hb hby d2_71) rfl ((if0 _ _).trans (teq c1).1) (by decide) (by decide) ?_
    show Steps p.tables e below (T2.setTop (mkF m 78 #[rv a1, iv p1] [])) _
    refine XS.iconst X2.here hx rfl (hb hby d2_78) ?_
    show Steps p.tables e below (T2.setTop (mkF m 79 #[rv a1, iv p1] [(.int 0)])) _
    exact k
  refine own_lift sg3 ?_
  show own_Go p.tables e below (T2.setTop (mkF m 79 #[rv a1, iv p1] [(.int 0)])) _
  obtain ⟨fs, hr, hrun, hended, hW, hsame⟩ := X2.leave (v := some (.int 0)) (fun h => by rw [Bd.returns] at h; cases h)
  refine ⟨_, _, ?_, hrun, hended, _, _, rfl, ?_, ⟨_, rfl⟩, hW, hsame.mono (by decide) (by decide)⟩
  · exact retN X2 hx (t := .boolean) Bd.returns (by simp) (hb hby d2_79) hr
  · show Q_rmHolds3t Z a1 p1 h0 n0 _ T2.heap _
    rw [e2]
    exact ⟨rfl, N2, rfl⟩
theorem d2_74 : decode prog_5_method_7_code 74 = .ok (.iconst 1, 1) := by decide +kernel
theorem d2_75 : decode prog_5_method_7_code 75 = .ok (.goto 4, 3) := by decide +kernel
def Q_rmHolds3f (Z : State) (a1 : Addr) (p1 : Int32) (h0 : Heap) (n0 : Nat) (v : Option Value) (h : Heap) (L : List Loc) : Prop := v = some (.int 1) ∧ Fr n0 L ∧ h = h0
theorem ef_rmHolds3f (m : MethodId) (x0 : Addr) (x1 : Int32) : entryFrame m #[(.ref x0), (.int x1)] 2 = mkF m 0 #[.val (.ref x0), .val (.int x1)] [] := by first | (simp [entryFrame, mkF, argsToLocals, Value.category]; done) | rfl
set_option maxRecDepth 65536 in
set_option maxHeartbeats 40000000 in
theorem rmHolds3f (l : Launch) (Z : State) (a0 : Array Value) (hw : ∀ d ∈ tables_1, d.before a0 Z = true) (ws : List Jvm.Cond) (a1 : Addr) (p1 : Int32) (h0 : Heap) (n0 : Nat) (Z0 : n0 ≤ h0.size) (F1 : Fld Z h0 a1 "java/lang/Enum" "ordinal" "I" (.int 3)) (E1 : Exa Z h0 a1 "com/example/ophion/ophion/runtime/CompareOp") (c1 : ¬ (p1 = (0 : Int32))) :
    MetFree l (⟨"com/example/ophion/ophion/runtime/CompareOp", "holds", "(I)Z"⟩ : MethodName) (head1 (Jvm.Cond.code (⟨"com/example/ophion/ophion/runtime/CompareOp", "holds", "(I)Z"⟩ : MethodName) prog_5_method_7_code 2 (some .boolean) :: ws) ({ frames := 1, cells := 0, slots := 0, locals := 12 } : Room)) (fun a U => a = #[(.ref a1), (.int p1)] ∧ Z.Warmed39 U.vm ∧ U.heap = h0) (fun _ _ _ _ _ => True) (fun _ U o U' => ∃ v L, o = .returned v ∧ Q_rmHolds3f Z a1 p1 h0 n0 v U'.heap L ∧ FrameEnd U o U' L ({ frames := 1, cells := 0, slots := 0, locals := 12 } : Room).cells ({ frames := 1, cells := 0, slots := 0, locals := 12 } : Room).slots) := by
  refine MetFree.of_bodySF (plainFor_of_name pn_1) hisR ?_
  intro p e s m args below meth c s₁ Bd hml0 hP hK
  obtain ⟨rfl, hZ, hh⟩ := hP
  have hx := Bd.exec
  have hby := Bd.bytes
  have hml : c.maxLocals = 2 := hml0
  have hown : s.vm.findClass "com/example/ophion/ophion/runtime/CompareOp" = some m.cls := findClass_of_methodNamed Bd.named
  have hnm := (name_of_methodNamed Bd.named Bd.method).1
  have X0 : Stand p l e ({ frames := 1, cells := 0, slots := 0, locals := 12 } : Room) s m #[(.ref a1), (.int p1)] below meth c s₁ [] 0 0 := Stand.of_body Bd
  have e0 : s₁.heap = h0 := by rw [← hh, Bd.state]; rfl
  have N0 := Fr.nil n0
  refine own_go (own_lift (fun t k => castTop (ef_rmHolds3f m a1 p1) k) ?_)
  show own_Go p.tables e below (s₁.setTop (mkF m 0 #[rv a1, iv p1] [])) _
  have sg1 : ∀ t, Steps p.tables e below (s₁.setTop (mkF m 1 #[rv a1, iv p1] [(.ref a1)])) t → Steps p.tables e below (s₁.setTop (mkF m 0 #[rv a1, iv p1] [])) t := by
    intro t k
    refine XS.aloadN X0.here hx rfl (hb hby d2_0) rfl rfl ?_
    show Steps p.tables e below (s₁.setTop (mkF m 1 #[rv a1, iv p1] [(.ref a1)])) _
    exact k
  refine own_lift sg1 ?_
  show own_Go p.tables e below (s₁.setTop (mkF m 1 #[rv a1, iv p1] [(.ref a1)])) _
  obtain ⟨cq2, kq2, q2a, q2b, q2c⟩ := isOf hZ e0 E1
  obtain ⟨_, _, ⟨T2, Lx2, kx2, nx2⟩, -, X2, ⟨Lc2, hQ2, lx2, yx2, zx2⟩, st2⟩ := X0.virtualBackUp hx (x := (⟨"com/example/ophion/ophion/runtime/CompareOp", "ordinal", "()I"⟩ : MethodName)) (y := (⟨"java/lang/Enum", "ordinal", "()I"⟩ : MethodName)) hown (mvT hZ (wd hw 18 rfl)) (mvT hZ (wd hw 19 rfl)) (mvT hZ (wd hw 20 rfl)) (by decide) (mvT hZ (wd hw 22 rfl)) (mvT hZ (wd hw 21 rfl)) (backOf (W := 0) (rmOrd l Z a0 hw [] a1 (3 : Int32) h0 n0 Z0 F1) hZ (wd hw 24 rfl) (wd hw 23 rfl) (by decide) (by decide)) q2a q2c (g := (mkF m 1 #[rv a1, iv p1] [(.ref a1)])) rfl (by rw [hml]; rfl) (Steps.refl _) (argsL := []) (rest := []) (lenOf pd_0 rfl) rfl (by show 2 * 0 + _ ≤ _; exact Nat.le_of_eq rfl) (hb hby d2_1) (fun _ _ => ⟨rfl, e0, (by decide : 0 + 0 ≤ _), (by decide : 0 + 0 ≤ _)⟩)
  dsimp only [Pt.U, Pt.locs, Pt.cells, Pt.slots] at X2 lx2 yx2 zx2 st2 hQ2
  subst lx2 yx2 zx2
  obtain ⟨rfl, N2q, e2⟩ := hQ2
  have N2 := Fr.app N0 N2q
  refine own_lift (fun t k => st2.trans k) ?_
  show own_Go p.tables e below (T2.setTop (mkF m 4 #[rv a1, iv p1] [(.int 3)])) _
  have sg3 : ∀ t, Steps p.tables e below (T2.setTop (mkF m 79 #[rv a1, iv p1] [(.int 1)])) t → Steps p.tables e below (T2.setTop (mkF m 4 #[rv a1, iv p1] [(.int 3)])) t := by
    intro t k
    refine XS.tswIn X2.here hx rfl (pc0 := 4) (pc' := 70) rfl (hb hby d2_4) rfl (by decide) (o := 66) (by decide) (by decide) (by decide) ?_
    show Steps p.tables e below (T2.setTop (mkF m 70 #[rv a1, iv p1] [])) _
    refine XS.iloadN X2.here hx rfl (hb hby d2_70) rfl ?_
    show Steps p.tables e below (T2.setTop (mkF m 71 #[rv a1, iv p1] [(.int p1)])) _
    refine XS.ifNo X2.here hx rfl (hb hby d2_71) rfl ((if0 _ _).trans (feq c1).1) ?_
    show Steps p.tables e below (T2.setTop (mkF m 74 #[rv a1, iv p1] [])) _
    refine XS.iconst X2.here hx rfl (hb hby d2_74) ?_
    show Steps p.tables e below (T2.setTop (mkF m 75 #[rv a1, iv p1] [(.int 1)])) _
    refine XS.goto X2.here hx rfl (pc0 := 75) (pc' := 79) rfl (hb hby d2_75) (by decide) (by decide) ?_
    show Steps p.tables e below (T2.setTop (mkF m 79 #[rv a1, iv p1] [(.int 1)])) _
    exact k
  refine own_lift sg3 ?_
  show own_Go p.tables e below (T2.setTop (mkF m 79 #[rv a1, iv p1] [(.int 1)])) _
  obtain ⟨fs, hr, hrun, hended, hW, hsame⟩ := X2.leave (v := some (.int 1)) (fun h => by rw [Bd.returns] at h; cases h)
  refine ⟨_, _, ?_, hrun, hended, _, _, rfl, ?_, ⟨_, rfl⟩, hW, hsame.mono (by decide) (by decide)⟩
  · exact retN X2 hx (t := .boolean) Bd.returns (by simp) (hb hby d2_79) hr
  · show Q_rmHolds3f Z a1 p1 h0 n0 _ T2.heap _
    rw [e2]
    exact ⟨rfl, N2, rfl⟩
theorem d2_80 : decode prog_5_method_7_code 80 = .ok (.iload_n 1, 1) := by decide +kernel
theorem d2_81 : decode prog_5_method_7_code 81 = .ok (.ifCond .le 7, 3) := by decide +kernel
theorem d2_84 : decode prog_5_method_7_code 84 = .ok (.iconst 1, 1) := by decide +kernel
theorem d2_85 : decode prog_5_method_7_code 85 = .ok (.goto 4, 3) := by decide +kernel
theorem d2_89 : decode prog_5_method_7_code 89 = .ok (.ireturn, 1) := by decide +kernel
def Q_rmHolds4t (Z : State) (a1 : Addr) (p1 : Int32) (h0 : Heap) (n0 : Nat) (v : Option Value) (h : Heap) (L : List Loc) : Prop := v = some (.int 1) ∧ Fr n0 L ∧ h = h0
theorem ef_rmHolds4t (m : MethodId) (x0 : Addr) (x1 : Int32) : entryFrame m #[(.ref x0), (.int x1)] 2 = mkF m 0 #[.val (.ref x0), .val (.int x1)] [] := by first | (simp [entryFrame, mkF, argsToLocals, Value.category]; done) | rfl
set_option maxRecDepth 65536 in
set_option maxHeartbeats 40000000 in
theorem rmHolds4t (l : Launch) (Z : State) (a0 : Array Value) (hw : ∀ d ∈ tables_1, d.before a0 Z = true) (ws : List Jvm.Cond) (a1 : Addr) (p1 : Int32) (h0 : Heap) (n0 : Nat) (Z0 : n0 ≤ h0.size) (F1 : Fld Z h0 a1 "java/lang/Enum" "ordinal" "I" (.int 4)) (E1 : Exa Z h0 a1 "com/example/ophion/ophion/runtime/CompareOp") (c1 : (0 : Int32) < p1) :
    MetFree l (⟨"com/example/ophion/ophion/runtime/CompareOp", "holds", "(I)Z"⟩ : MethodName) (head1 (Jvm.Cond.code (⟨"com/example/ophion/ophion/runtime/CompareOp", "holds", "(I)Z"⟩ : MethodName) prog_5_method_7_code 2 (some .boolean) :: ws) ({ frames := 1, cells := 0, slots := 0, locals := 12 } : Room)) (fun a U => a = #[(.ref a1), (.int p1)] ∧ Z.Warmed39 U.vm ∧ U.heap = h0) (fun _ _ _ _ _ => True) (fun _ U o U' => ∃ v L, o = .returned v ∧ Q_rmHolds4t Z a1 p1 h0 n0 v U'.heap L ∧ FrameEnd U o U' L ({ frames := 1, cells := 0, slots := 0, locals := 12 } : Room).cells ({ frames := 1, cells := 0, slots := 0, locals := 12 } : Room).slots) := by
  refine MetFree.of_bodySF (plainFor_of_name pn_1) hisR ?_
  intro p e s m args below meth c s₁ Bd hml0 hP hK
  obtain ⟨rfl, hZ, hh⟩ := hP
  have hx := Bd.exec
  have hby := Bd.bytes
  have hml : c.maxLocals = 2 := hml0
  have hown : s.vm.findClass "com/example/ophion/ophion/runtime/CompareOp" = some m.cls := findClass_of_methodNamed Bd.named
  have hnm := (name_of_methodNamed Bd.named Bd.method).1
  have X0 : Stand p l e ({ frames := 1, cells := 0, slots := 0, locals := 12 } : Room) s m #[(.ref a1), (.int p1)] below meth c s₁ [] 0 0 := Stand.of_body Bd
  have e0 : s₁.heap = h0 := by rw [← hh, Bd.state]; rfl
  have N0 := Fr.nil n0
  refine own_go (own_lift (fun t k => castTop (ef_rmHolds4t m a1 p1) k) ?_)
  show own_Go p.tables e below (s₁.setTop (mkF m 0 #[rv a1, iv p1] [])) _
  have sg1 : ∀ t, Steps p.tables e below (s₁.setTop (mkF m 1 #[rv a1, iv p1] [(.ref a1)])) t → Steps p.tables e below (s₁.setTop (mkF m 0 #[rv a1, iv p1] [])) t := by
    intro t k
    refine XS.aloadN X0.here hx rfl (hb hby d2_0) rfl rfl ?_
    show Steps p.tables e below (s₁.setTop (mkF m 1 #[rv a1, iv p1] [(.ref a1)])) _
    exact k
  refine own_lift sg1 ?_
  show own_Go p.tables e below (s₁.setTop (mkF m 1 #[rv a1, iv p1] [(.ref a1)])) _
  obtain ⟨cq2, kq2, q2a, q2b, q2c⟩ := isOf hZ e0 E1
  obtain ⟨_, _, ⟨T2, Lx2, kx2, nx2⟩, -, X2, ⟨Lc2, hQ2, lx2, yx2, zx2⟩, st2⟩ := X0.virtualBackUp hx (x := (⟨"com/example/ophion/ophion/runtime/CompareOp", "ordinal", "()I"⟩ : MethodName)) (y := (⟨"java/lang/Enum", "ordinal", "()I"⟩ : MethodName)) hown (mvT hZ (wd hw 18 rfl)) (mvT hZ (wd hw 19 rfl)) (mvT hZ (wd hw 20 rfl)) (by decide) (mvT hZ (wd hw 22 rfl)) (mvT hZ (wd hw 21 rfl)) (backOf (W := 0) (rmOrd l Z a0 hw [] a1 (4 : Int32) h0 n0 Z0 F1) hZ (wd hw 24 rfl) (wd hw 23 rfl) (by decide) (by decide)) q2a q2c (g := (mkF m 1 #[rv a1, iv p1] [(.ref a1)])) rfl (by rw [hml]; rfl) (Steps.refl _) (argsL := []) (rest := []) (lenOf pd_0 rfl) rfl (by show 2 * 0 + _ ≤ _; exact Nat.le_of_eq rfl) (hb hby d2_1) (fun _ _ => ⟨rfl, e0, (by decide : 0 + 0 ≤ _), (by decide : 0 + 0 ≤ _)⟩)
  dsimp only [Pt.U, Pt.locs, Pt.cells, Pt.slots] at X2 lx2 yx2 zx2 st2 hQ2
  subst lx2 yx2 zx2
  obtain ⟨rfl, N2q, e2⟩ := hQ2
  have N2 := Fr.app N0 N2q
  refine own_lift (fun t k => st2.trans k) ?_
  show own_Go p.tables e below (T2.setTop (mkF m 4 #[rv a1, iv p1] [(.int 4)])) _
  have sg3 : ∀ t, Steps p.tables e below (T2.setTop (mkF m 89 #[rv a1, iv p1] [(.int 1)])) t → Steps p.tables e below (T2.setTop (mkF m 4 #[rv a1, iv p1] [(.int 4)])) t := by
    intro t k
    refine XS.tswIn X2.here hx rfl (pc0 := 4) (pc' := 80) rfl (hb hby d2_4) rfl (by decide) (o := 76) (by decide) (by decide) (by decide) ?_
    show Steps p.tables e below (T2.setTop (mkF m 80 #[rv a1, iv p1] [])) _
    refine XS.iloadN X2.here hx rfl (hb hby d2_80) rfl ?_
    show Steps p.tables e below (T2.setTop (mkF m 81 #[rv a1, iv p1] [(.int p1)])) _
    refine XS.ifNo X2.here hx rfl (hb hby d2_81) rfl ((if0 _ _).trans (tlt c1).2.2.2) ?_
    show Steps p.tables e below (T2.setTop (mkF m 84 #[rv a1, iv p1] [])) _
    refine XS.iconst X2.here hx rfl (hb hby d2_84) ?_
    show Steps p.tables e below (T2.setTop (mkF m 85 #[rv a1, iv p1] [(.int 1)])) _
    refine XS.goto X2.here hx rfl (pc0 := 85) (pc' := 89) rfl (hb hby d2_85) (by decide) (by decide) ?_
    show Steps p.tables e below (T2.setTop (mkF m 89 #[rv a1, iv p1] [(.int 1)])) _
    exact k
  refine own_lift sg3 ?_
  show own_Go p.tables e below (T2.setTop (mkF m 89 #[rv a1, iv p1] [(.int 1)])) _
  obtain ⟨fs, hr, hrun, hended, hW, hsame⟩ := X2.leave (v := some (.int 1)) (fun h => by rw [Bd.returns] at h; cases h)
  refine ⟨_, _, ?_, hrun, hended, _, _, rfl, ?_, ⟨_, rfl⟩, hW, hsame.mono (by decide) (by decide)⟩
  · exact retN X2 hx (t := .boolean) Bd.returns (by simp) (hb hby d2_89) hr
  · show Q_rmHolds4t Z a1 p1 h0 n0 _ T2.heap _
    rw [e2]
    exact ⟨rfl, N2, rfl⟩
theorem d2_88 : decode prog_5_method_7_code 88 = .ok (.iconst 0, 1) := by decide +kernel
def Q_rmHolds4f (Z : State) (a1 : Addr) (p1 : Int32) (h0 : Heap) (n0 : Nat) (v : Option Value) (h : Heap) (L : List Loc) : Prop := v = some (.int 0) ∧ Fr n0 L ∧ h = h0
theorem ef_rmHolds4f (m : MethodId) (x0 : Addr) (x1 : Int32) : entryFrame m #[(.ref x0), (.int x1)] 2 = mkF m 0 #[.val (.ref x0), .val (.int x1)] [] := by first | (simp [entryFrame, mkF, argsToLocals, Value.category]; done) | rfl
set_option maxRecDepth 65536 in
set_option maxHeartbeats 40000000 in
theorem rmHolds4f (l : Launch) (Z : State) (a0 : Array Value) (hw : ∀ d ∈ tables_1, d.before a0 Z = true) (ws : List Jvm.Cond) (a1 : Addr) (p1 : Int32) (h0 : Heap) (n0 : Nat) (Z0 : n0 ≤ h0.size) (F1 : Fld Z h0 a1 "java/lang/Enum" "ordinal" "I" (.int 4)) (E1 : Exa Z h0 a1 "com/example/ophion/ophion/runtime/CompareOp") (c1 : ¬ ((0 : Int32) < p1)) :
    MetFree l (⟨"com/example/ophion/ophion/runtime/CompareOp", "holds", "(I)Z"⟩ : MethodName) (head1 (Jvm.Cond.code (⟨"com/example/ophion/ophion/runtime/CompareOp", "holds", "(I)Z"⟩ : MethodName) prog_5_method_7_code 2 (some .boolean) :: ws) ({ frames := 1, cells := 0, slots := 0, locals := 12 } : Room)) (fun a U => a = #[(.ref a1), (.int p1)] ∧ Z.Warmed39 U.vm ∧ U.heap = h0) (fun _ _ _ _ _ => True) (fun _ U o U' => ∃ v L, o = .returned v ∧ Q_rmHolds4f Z a1 p1 h0 n0 v U'.heap L ∧ FrameEnd U o U' L ({ frames := 1, cells := 0, slots := 0, locals := 12 } : Room).cells ({ frames := 1, cells := 0, slots := 0, locals := 12 } : Room).slots) := by
  refine MetFree.of_bodySF (plainFor_of_name pn_1) hisR ?_
  intro p e s m args below meth c s₁ Bd hml0 hP hK
  obtain ⟨rfl, hZ, hh⟩ := hP
  have hx := Bd.exec
  have hby := Bd.bytes
  have hml : c.maxLocals = 2 := hml0
  have hown : s.vm.findClass "com/example/ophion/ophion/runtime/CompareOp" = some m.cls := findClass_of_methodNamed Bd.named
  have hnm := (name_of_methodNamed Bd.named Bd.method).1
  have X0 : Stand p l e ({ frames := 1, cells := 0, slots := 0, locals := 12 } : Room) s m #[(.ref a1), (.int p1)] below meth c s₁ [] 0 0 := Stand.of_body Bd
  have e0 : s₁.heap = h0 := by rw [← hh, Bd.state]; rfl
  have N0 := Fr.nil n0
  refine own_go (own_lift (fun t k => castTop (ef_rmHolds4f m a1 p1) k) ?_)
  show own_Go p.tables e below (s₁.setTop (mkF m 0 #[rv a1, iv p1] [])) _
  have sg1 : ∀ t, Steps p.tables e below (s₁.setTop (mkF m 1 #[rv a1, iv p1] [(.ref a1)])) t → Steps p.tables e below (s₁.setTop (mkF m 0 #[rv a1, iv p1] [])) t := by
    intro t k
    refine XS.aloadN X0.here hx rfl (hb hby d2_0) rfl rfl ?_
    show Steps p.tables e below (s₁.setTop (mkF m 1 #[rv a1, iv p1] [(.ref a1)])) _
    exact k
  refine own_lift sg1 ?_
  show own_Go p.tables e below (s₁.setTop (mkF m 1 #[rv a1, iv p1] [(.ref a1)])) _
  obtain ⟨cq2, kq2, q2a, q2b, q2c⟩ := isOf hZ e0 E1
  obtain ⟨_, _, ⟨T2, Lx2, kx2, nx2⟩, -, X2, ⟨Lc2, hQ2, lx2, yx2, zx2⟩, st2⟩ := X0.virtualBackUp hx (x := (⟨"com/example/ophion/ophion/runtime/CompareOp", "ordinal", "()I"⟩ : MethodName)) (y := (⟨"java/lang/Enum", "ordinal", "()I"⟩ : MethodName)) hown (mvT hZ (wd hw 18 rfl)) (mvT hZ (wd hw 19 rfl)) (mvT hZ (wd hw 20 rfl)) (by decide) (mvT hZ (wd hw 22 rfl)) (mvT hZ (wd hw 21 rfl)) (backOf (W := 0) (rmOrd l Z a0 hw [] a1 (4 : Int32) h0 n0 Z0 F1) hZ (wd hw 24 rfl) (wd hw 23 rfl) (by decide) (by decide)) q2a q2c (g := (mkF m 1 #[rv a1, iv p1] [(.ref a1)])) rfl (by rw [hml]; rfl) (Steps.refl _) (argsL := []) (rest := []) (lenOf pd_0 rfl) rfl (by show 2 * 0 + _ ≤ _; exact Nat.le_of_eq rfl) (hb hby d2_1) (fun _ _ => ⟨rfl, e0, (by decide : 0 + 0 ≤ _), (by decide : 0 + 0 ≤ _)⟩)
  dsimp only [Pt.U, Pt.locs, Pt.cells, Pt.slots] at X2 lx2 yx2 zx2 st2 hQ2
  subst lx2 yx2 zx2
  obtain ⟨rfl, N2q, e2⟩ := hQ2
  have N2 := Fr.app N0 N2q
  refine own_lift (fun t k => st2.trans k) ?_
  show own_Go p.tables e below (T2.setTop (mkF m 4 #[rv a1, iv p1] [(.int 4)])) _
  have sg3 : ∀ t, Steps p.tables e below (T2.setTop (mkF m 89 #[rv a1, iv p1] [(.int 0)])) t → Steps p.tables e below (T2.setTop (mkF m 4 #[rv a1, iv p1] [(.int 4)])) t := by
    intro t k
    refine XS.tswIn X2.here hx rfl (pc0 := 4) (pc' := 80) rfl (hb hby d2_4) rfl (by decide) (o := 76) (by decide) (by decide) (by decide) ?_
    show Steps p.tables e below (T2.setTop (mkF m 80 #[rv a1, iv p1] [])) _
    refine XS.iloadN X2.here hx rfl (hb hby d2_80) rfl ?_
    show Steps p.tables e below (T2.setTop (mkF m 81 #[rv a1, iv p1] [(.int p1)])) _
    refine XS.ifYes X2.here hx rfl (pc0 := 81) (pc' := 88) rfl (hb hby d2_81) rfl ((if0 _ _).trans (flt c1).2.2.2) (by decide) (by decide) ?_
    show Steps p.tables e below (T2.setTop (mkF m 88 #[rv a1, iv p1] [])) _
    refine XS.iconst X2.here hx rfl (hb hby d2_88) ?_
    show Steps p.tables e below (T2.setTop (mkF m 89 #[rv a1, iv p1] [(.int 0)])) _
    exact k
  refine own_lift sg3 ?_
  show own_Go p.tables e below (T2.setTop (mkF m 89 #[rv a1, iv p1] [(.int 0)])) _
  obtain ⟨fs, hr, hrun, hended, hW, hsame⟩ := X2.leave (v := some (.int 0)) (fun h => by rw [Bd.returns] at h; cases h)
  refine ⟨_, _, ?_, hrun, hended, _, _, rfl, ?_, ⟨_, rfl⟩, hW, hsame.mono (by decide) (by decide)⟩
  · exact retN X2 hx (t := .boolean) Bd.returns (by simp) (hb hby d2_89) hr
  · show Q_rmHolds4f Z a1 p1 h0 n0 _ T2.heap _
    rw [e2]
    exact ⟨rfl, N2, rfl⟩
theorem d2_90 : decode prog_5_method_7_code 90 = .ok (.iload_n 1, 1) := by decide +kernel
theorem d2_91 : decode prog_5_method_7_code 91 = .ok (.ifCond .lt 7, 3) := by decide +kernel
theorem d2_98 : decode prog_5_method_7_code 98 = .ok (.iconst 0, 1) := by decide +kernel
theorem d2_99 : decode prog_5_method_7_code 99 = .ok (.ireturn, 1) := by decide +kernel
def Q_rmHolds5t (Z : State) (a1 : Addr) (p1 : Int32) (h0 : Heap) (n0 : Nat) (v : Option Value) (h : Heap) (L : List Loc) : Prop := v = some (.int 0) ∧ Fr n0 L ∧ h = h0
theorem ef_rmHolds5t (m : MethodId) (x0 : Addr) (x1 : Int32) : entryFrame m #[(.ref x0), (.int x1)] 2 = mkF m 0 #[.val (.ref x0), .val (.int x1)] [] := by first | (simp [entryFrame, mkF, argsToLocals, Value.category]; done) | rfl
set_option maxRecDepth 65536 in
set_option maxHeartbeats 40000000 in
theorem rmHolds5t (l : Launch) (Z : State) (a0 : Array Value) (hw : ∀ d ∈ tables_1, d.before a0 Z = true) (ws : List Jvm.Cond) (a1 : Addr) (p1 : Int32) (h0 : Heap) (n0 : Nat) (Z0 : n0 ≤ h0.size) (F1 : Fld Z h0 a1 "java/lang/Enum" "ordinal" "I" (.int 5)) (E1 : Exa Z h0 a1 "com/example/ophion/ophion/runtime/CompareOp") (c1 : p1 < (0 : Int32)) :
    MetFree l (⟨"com/example/ophion/ophion/runtime/CompareOp", "holds", "(I)Z"⟩ : MethodName) (head1 (Jvm.Cond.code (⟨"com/example/ophion/ophion/runtime/CompareOp", "holds", "(I)Z"⟩ : MethodName) prog_5_method_7_code 2 (some .boolean) :: ws) ({ frames := 1, cells := 0, slots := 0, locals := 12 } : Room)) (fun a U => a = #[(.ref a1), (.int p1)] ∧ Z.Warmed39 U.vm ∧ U.heap = h0) (fun _ _ _ _ _ => True) (fun _ U o U' => ∃ v L, o = .returned v ∧ Q_rmHolds5t Z a1 p1 h0 n0 v U'.heap L ∧ FrameEnd U o U' L ({ frames := 1, cells := 0, slots := 0, locals := 12 } : Room).cells ({ frames := 1, cells := 0, slots := 0, locals := 12 } : Room).slots) := by
  refine MetFree.of_bodySF (plainFor_of_name pn_1) hisR ?_
  intro p e s m args below meth c s₁ Bd hml0 hP hK
  obtain ⟨rfl, hZ, hh⟩ := hP
  have hx := Bd.exec
  have hby := Bd.bytes
  have hml : c.maxLocals = 2 := hml0
  have hown : s.vm.findClass "com/example/ophion/ophion/runtime/CompareOp" = some m.cls := findClass_of_methodNamed Bd.named
  have hnm := (name_of_methodNamed Bd.named Bd.method).1
  have X0 : Stand p l e ({ frames := 1, cells := 0, slots := 0, locals := 12 } : Room) s m #[(.ref a1), (.int p1)] below meth c s₁ [] 0 0 := Stand.of_body Bd
  have e0 : s₁.heap = h0 := by rw [← hh, Bd.state]; rfl
  have N0 := Fr.nil n0
  refine own_go (own_lift (fun t k => castTop (ef_rmHolds5t m a1 p1) k) ?_)
  show own_Go p.tables e below (s₁.setTop (mkF m 0 #[rv a1, iv p1] [])) _
  have sg1 : ∀ t, Steps p.tables e below (s₁.setTop (mkF m 1 #[rv a1, iv p1] [(.ref a1)])) t → Steps p.tables e below (s₁.setTop (mkF m 0 #[rv a1, iv p1] [])) t := by
    intro t k
    refine XS.aloadN X0.here hx rfl (hb hby d2_0) rfl rfl ?_
    show Steps p.tables e below (s₁.setTop (mkF m 1 #[rv a1, iv p1] [(.ref a1)])) _
    exact k
  refine own_lift sg1 ?_
  show own_Go p.tables e below (s₁.setTop (mkF m 1 #[rv a1, iv p1] [(.ref a1)])) _
  obtain ⟨cq2, kq2, q2a, q2b, q2c⟩ := isOf hZ e0 E1
  obtain ⟨_, _, ⟨T2, Lx2, kx2, nx2⟩, -, X2, ⟨Lc2, hQ2, lx2, yx2, zx2⟩, st2⟩ := X0.virtualBackUp hx (x := (⟨"com/example/ophion/ophion/runtime/CompareOp", "ordinal", "()I"⟩ : MethodName)) (y := (⟨"java/lang/Enum", "ordinal", "()I"⟩ : MethodName)) hown (mvT hZ (wd hw 18 rfl)) (mvT hZ (wd hw 19 rfl)) (mvT hZ (wd hw 20 rfl)) (by decide) (mvT hZ (wd hw 22 rfl)) (mvT hZ (wd hw 21 rfl)) (backOf (W := 0) (rmOrd l Z a0 hw [] a1 (5 : Int32) h0 n0 Z0 F1) hZ (wd hw 24 rfl) (wd hw 23 rfl) (by decide) (by decide)) q2a q2c (g := (mkF m 1 #[rv a1, iv p1] [(.ref a1)])) rfl (by rw [hml]; rfl) (Steps.refl _) (argsL := []) (rest := []) (lenOf pd_0 rfl) rfl (by show 2 * 0 + _ ≤ _; exact Nat.le_of_eq rfl) (hb hby d2_1) (fun _ _ => ⟨rfl, e0, (by decide : 0 + 0 ≤ _), (by decide : 0 + 0 ≤ _)⟩)
  dsimp only [Pt.U, Pt.locs, Pt.cells, Pt.slots] at X2 lx2 yx2 zx2 st2 hQ2
  subst lx2 yx2 zx2
  obtain ⟨rfl, N2q, e2⟩ := hQ2
  have N2 := Fr.app N0 N2q
  refine own_lift (fun t k => st2.trans k) ?_
  show own_Go p.tables e below (T2.setTop (mkF m 4 #[rv a1, iv p1] [(.int 5)])) _
  have sg3 : ∀ t, Steps p.tables e below (T2.setTop (mkF m 99 #[rv a1, iv p1] [(.int 0)])) t → Steps p.tables e below (T2.setTop (mkF m 4 #[rv a1, iv p1] [(.int 5)])) t := by
    intro t k
    refine XS.tswOut X2.here hx rfl (pc0 := 4) (pc' := 90) rfl (hb hby d2_4) rfl (by decide) (by decide) (by decide) ?_
    show Steps p.tables e below (T2.setTop (mkF m 90 #[rv a1, iv p1] [])) _
    refine XS.iloadN X2.here hx rfl (hb hby d2_90) rfl ?_
    show Steps p.tables e below (T2.setTop (mkF m 91 #[rv a1, iv p1] [(.int p1)])) _
    refine XS.ifYes X2.here hx rfl (pc0 := 91) (pc' := 98) rfl (hb hby d2_91) rfl ((if0 _ _).trans (tlt c1).1) (by decide) (by decide) ?_
    show Steps p.tables e below (T2.setTop (mkF m 98 #[rv a1, iv p1] [])) _
    refine XS.iconst X2.here hx rfl (hb hby d2_98) ?_
    show Steps p.tables e below (T2.setTop (mkF m 99 #[rv a1, iv p1] [(.int 0)])) _
    exact k
  refine own_lift sg3 ?_
  show own_Go p.tables e below (T2.setTop (mkF m 99 #[rv a1, iv p1] [(.int 0)])) _
  obtain ⟨fs, hr, hrun, hended, hW, hsame⟩ := X2.leave (v := some (.int 0)) (fun h => by rw [Bd.returns] at h; cases h)
  refine ⟨_, _, ?_, hrun, hended, _, _, rfl, ?_, ⟨_, rfl⟩, hW, hsame.mono (by decide) (by decide)⟩
  · exact retN X2 hx (t := .boolean) Bd.returns (by simp) (hb hby d2_99) hr
  · show Q_rmHolds5t Z a1 p1 h0 n0 _ T2.heap _
    rw [e2]
    exact ⟨rfl, N2, rfl⟩
theorem d2_94 : decode prog_5_method_7_code 94 = .ok (.iconst 1, 1) := by decide +kernel
theorem d2_95 : decode prog_5_method_7_code 95 = .ok (.goto 4, 3) := by decide +kernel
def Q_rmHolds5f (Z : State) (a1 : Addr) (p1 : Int32) (h0 : Heap) (n0 : Nat) (v : Option Value) (h : Heap) (L : List Loc) : Prop := v = some (.int 1) ∧ Fr n0 L ∧ h = h0
theorem ef_rmHolds5f (m : MethodId) (x0 : Addr) (x1 : Int32) : entryFrame m #[(.ref x0), (.int x1)] 2 = mkF m 0 #[.val (.ref x0), .val (.int x1)] [] := by first | (simp [entryFrame, mkF, argsToLocals, Value.category]; done) | rfl
set_option maxRecDepth 65536 in
set_option maxHeartbeats 40000000 in
theorem rmHolds5f (l : Launch) (Z : State) (a0 : Array Value) (hw : ∀ d ∈ tables_1, d.before a0 Z = true) (ws : List Jvm.Cond) (a1 : Addr) (p1 : Int32) (h0 : Heap) (n0 : Nat) (Z0 : n0 ≤ h0.size) (F1 : Fld Z h0 a1 "java/lang/Enum" "ordinal" "I" (.int 5)) (E1 : Exa Z h0 a1 "com/example/ophion/ophion/runtime/CompareOp") (c1 : ¬ (p1 < (0 : Int32))) :
    MetFree l (⟨"com/example/ophion/ophion/runtime/CompareOp", "holds", "(I)Z"⟩ : MethodName) (head1 (Jvm.Cond.code (⟨"com/example/ophion/ophion/runtime/CompareOp", "holds", "(I)Z"⟩ : MethodName) prog_5_method_7_code 2 (some .boolean) :: ws) ({ frames := 1, cells := 0, slots := 0, locals := 12 } : Room)) (fun a U => a = #[(.ref a1), (.int p1)] ∧ Z.Warmed39 U.vm ∧ U.heap = h0) (fun _ _ _ _ _ => True) (fun _ U o U' => ∃ v L, o = .returned v ∧ Q_rmHolds5f Z a1 p1 h0 n0 v U'.heap L ∧ FrameEnd U o U' L ({ frames := 1, cells := 0, slots := 0, locals := 12 } : Room).cells ({ frames := 1, cells := 0, slots := 0, locals := 12 } : Room).slots) := by
  refine MetFree.of_bodySF (plainFor_of_name pn_1) hisR ?_
  intro p e s m args below meth c s₁ Bd hml0 hP hK
  obtain ⟨rfl, hZ, hh⟩ := hP
  have hx := Bd.exec
  have hby := Bd.bytes
  have hml : c.maxLocals = 2 := hml0
  have hown : s.vm.findClass "com/example/ophion/ophion/runtime/CompareOp" = some m.cls := findClass_of_methodNamed Bd.named
  have hnm := (name_of_methodNamed Bd.named Bd.method).1
  have X0 : Stand p l e ({ frames := 1, cells := 0, slots := 0, locals := 12 } : Room) s m #[(.ref a1), (.int p1)] below meth c s₁ [] 0 0 := Stand.of_body Bd
  have e0 : s₁.heap = h0 := by rw [← hh, Bd.state]; rfl
  have N0 := Fr.nil n0
  refine own_go (own_lift (fun t k => castTop (ef_rmHolds5f m a1 p1) k) ?_)
  show own_Go p.tables e below (s₁.setTop (mkF m 0 #[rv a1, iv p1] [])) _
  have sg1 : ∀ t, Steps p.tables e below (s₁.setTop (mkF m 1 #[rv a1, iv p1] [(.ref a1)])) t → Steps p.tables e below (s₁.setTop (mkF m 0 #[rv a1, iv p1] [])) t := by
    intro t k
    refine XS.aloadN X0.here hx rfl (hb hby d2_0) rfl rfl ?_
    show Steps p.tables e below (s₁.setTop (mkF m 1 #[rv a1, iv p1] [(.ref a1)])) _
    exact k
  refine own_lift sg1 ?_
  show own_Go p.tables e below (s₁.setTop (mkF m 1 #[rv a1, iv p1] [(.ref a1)])) _
  obtain ⟨cq2, kq2, q2a, q2b, q2c⟩ := isOf hZ e0 E1
  obtain ⟨_, _, ⟨T2, Lx2, kx2, nx2⟩, -, X2, ⟨Lc2, hQ2, lx2, yx2, zx2⟩, st2⟩ := X0.virtualBackUp hx (x := (⟨"com/example/ophion/ophion/runtime/CompareOp", "ordinal", "()I"⟩ : MethodName)) (y := (⟨"java/lang/Enum", "ordinal", "()I"⟩ : MethodName)) hown (mvT hZ (wd hw 18 rfl)) (mvT hZ (wd hw 19 rfl)) (mvT hZ (wd hw 20 rfl)) (by decide) (mvT hZ (wd hw 22 rfl)) (mvT hZ (wd hw 21 rfl)) (backOf (W := 0) (rmOrd l Z a0 hw [] a1 (5 : Int32) h0 n0 Z0 F1) hZ (wd hw 24 rfl) (wd hw 23 rfl) (by decide) (by decide)) q2a q2c (g := (mkF m 1 #[rv a1, iv p1] [(.ref a1)])) rfl (by rw [hml]; rfl) (Steps.refl _) (argsL := []) (rest := []) (lenOf pd_0 rfl) rfl (by show 2 * 0 + _ ≤ _; exact Nat.le_of_eq rfl) (hb hby d2_1) (fun _ _ => ⟨rfl, e0, (by decide : 0 + 0 ≤ _), (by decide : 0 + 0 ≤ _)⟩)
  dsimp only [Pt.U, Pt.locs, Pt.cells, Pt.slots] at X2 lx2 yx2 zx2 st2 hQ2
  subst lx2 yx2 zx2
  obtain ⟨rfl, N2q, e2⟩ := hQ2
  have N2 := Fr.app N0 N2q
  refine own_lift (fun t k => st2.trans k) ?_
  show own_Go p.tables e below (T2.setTop (mkF m 4 #[rv a1, iv p1] [(.int 5)])) _
  have sg3 : ∀ t, Steps p.tables e below (T2.setTop (mkF m 99 #[rv a1, iv p1] [(.int 1)])) t → Steps p.tables e below (T2.setTop (mkF m 4 #[rv a1, iv p1] [(.int 5)])) t := by
    intro t k
    refine XS.tswOut X2.here hx rfl (pc0 := 4) (pc' := 90) rfl (hb hby d2_4) rfl (by decide) (by decide) (by decide) ?_
    show Steps p.tables e below (T2.setTop (mkF m 90 #[rv a1, iv p1] [])) _
    refine XS.iloadN X2.here hx rfl (hb hby d2_90) rfl ?_
    show Steps p.tables e below (T2.setTop (mkF m 91 #[rv a1, iv p1] [(.int p1)])) _
    refine XS.ifNo X2.here hx rfl (hb hby d2_91) rfl ((if0 _ _).trans (flt c1).1) ?_
    show Steps p.tables e below (T2.setTop (mkF m 94 #[rv a1, iv p1] [])) _
    refine XS.iconst X2.here hx rfl (hb hby d2_94) ?_
    show Steps p.tables e below (T2.setTop (mkF m 95 #[rv a1, iv p1] [(.int 1)])) _
    refine XS.goto X2.here hx rfl (pc0 := 95) (pc' := 99) rfl (hb hby d2_95) (by decide) (by decide) ?_
    show Steps p.tables e below (T2.setTop (mkF m 99 #[rv a1, iv p1] [(.int 1)])) _
    exact k
  refine own_lift sg3 ?_
  show own_Go p.tables e below (T2.setTop (mkF m 99 #[rv a1, iv p1] [(.int 1)])) _
  obtain ⟨fs, hr, hrun, hended, hW, hsame⟩ := X2.leave (v := some (.int 1)) (fun h => by rw [Bd.returns] at h; cases h)
  refine ⟨_, _, ?_, hrun, hended, _, _, rfl, ?_, ⟨_, rfl⟩, hW, hsame.mono (by decide) (by decide)⟩
  · exact retN X2 hx (t := .boolean) Bd.returns (by simp) (hb hby d2_99) hr
  · show Q_rmHolds5f Z a1 p1 h0 n0 _ T2.heap _
    rw [e2]
    exact ⟨rfl, N2, rfl⟩
theorem pn_2 : plainName "com/example/ophion/ophion/runtime/CompareOpSwappedPinLaw" = true := by first | (simp [plainName, overriddenIn]; done) | decide +kernel
theorem d3_0 : decode method_2_code 0 = .ok (.iload_n 0, 1) := by decide +kernel
theorem d3_1 : decode method_2_code 1 = .ok (.ifCond .ne 7, 3) := by decide +kernel
theorem d3_4 : decode method_2_code 4 = .ok (.getstatic 7, 3) := by decide +kernel
theorem d3_7 : decode method_2_code 7 = .ok (.areturn, 1) := by decide +kernel
def Q_rmPick0 (Z : State) (p1 : Int32) (r1 : Addr) (h0 : Heap) (n0 : Nat) (v : Option Value) (h : Heap) (L : List Loc) : Prop := v = some (.ref r1) ∧ Fr n0 L ∧ h = h0
theorem ef_rmPick0 (m : MethodId) (x0 : Int32) : entryFrame m #[(.int x0)] 1 = mkF m 0 #[.val (.int x0)] [] := by first | (simp [entryFrame, mkF, argsToLocals, Value.category]; done) | rfl
set_option maxRecDepth 65536 in
set_option maxHeartbeats 40000000 in
theorem rmPick0 (l : Launch) (Z : State) (a0 : Array Value) (hw : ∀ d ∈ tables_1, d.before a0 Z = true) (ws : List Jvm.Cond) (p1 : Int32) (r1 : Addr) (h0 : Heap) (n0 : Nat) (Z0 : n0 ≤ h0.size) (S1 : Sta Z h0 "com/example/ophion/ophion/runtime/CompareOp" "LESS" "Lcom/example/ophion/ophion/runtime/CompareOp;" (.ref r1)) (c0 : p1 = (0 : Int32)) :
    MetFree l (⟨"com/example/ophion/ophion/runtime/CompareOpSwappedPinLaw", "pick", "(I)Lcom/example/ophion/ophion/runtime/CompareOp;"⟩ : MethodName) (head1 (Jvm.Cond.code (⟨"com/example/ophion/ophion/runtime/CompareOpSwappedPinLaw", "pick", "(I)Lcom/example/ophion/ophion/runtime/CompareOp;"⟩ : MethodName) method_2_code 1 (some (.object "com/example/ophion/ophion/runtime/CompareOp")) :: ws) ({ frames := 0, cells := 0, slots := 0, locals := 0 } : Room)) (fun a U => a = #[(.int p1)] ∧ Z.Warmed39 U.vm ∧ U.heap = h0) (fun _ _ _ _ _ => True) (fun _ U o U' => ∃ v L, o = .returned v ∧ Q_rmPick0 Z p1 r1 h0 n0 v U'.heap L ∧ FrameEnd U o U' L ({ frames := 0, cells := 0, slots := 0, locals := 0 } : Room).cells ({ frames := 0, cells := 0, slots := 0, locals := 0 } : Room).slots) := by
  refine MetFree.of_bodySF (plainFor_of_name pn_2) hisR ?_
  intro p e s m args below meth c s₁ Bd hml0 hP hK
  obtain ⟨rfl, hZ, hh⟩ := hP
  have hx := Bd.exec
  have hby := Bd.bytes
  have hml : c.maxLocals = 1 := hml0
  have hown : s.vm.findClass "com/example/ophion/ophion/runtime/CompareOpSwappedPinLaw" = some m.cls := findClass_of_methodNamed Bd.named
  have hnm := (name_of_methodNamed Bd.named Bd.method).1
  have X0 : Stand p l e ({ frames := 0, cells := 0, slots := 0, locals := 0 } : Room) s m #[(.int p1)] below meth c s₁ [] 0 0 := Stand.of_body Bd
  have e0 : s₁.heap = h0 := by rw [← hh, Bd.state]; rfl
  have N0 := Fr.nil n0
  refine own_go (own_lift (fun t k => castTop (ef_rmPick0 m p1) k) ?_)
  show own_Go p.tables e below (s₁.setTop (mkF m 0 #[iv p1] [])) _
  have sg1 : ∀ t, Steps p.tables e below (s₁.setTop (mkF m 4 #[iv p1] [])) t → Steps p.tables e below (s₁.setTop (mkF m 0 #[iv p1] [])) t := by
    intro t k
    refine XS.iloadN X0.here hx rfl (hb hby d3_0) rfl ?_
    show Steps p.tables e below (s₁.setTop (mkF m 1 #[iv p1] [(.int p1)])) _
    refine XS.ifNo X0.here hx rfl (hb hby d3_1) rfl ((if0 _ _).trans (teq c0).2) ?_
    show Steps p.tables e below (s₁.setTop (mkF m 4 #[iv p1] [])) _
    exact k
  refine own_lift sg1 ?_
  show own_Go p.tables e below (s₁.setTop (mkF m 4 #[iv p1] [])) _
  obtain ⟨T2, X2, e2, st2⟩ := getS X0 hx hZ hown (host := "") (wd hw 5 rfl) Via.refl e0 S1 (g := (mkF m 4 #[iv p1] [])) rfl (hb hby d3_4)
  refine own_lift st2 ?_
  show own_Go p.tables e below (T2.setTop (mkF m 7 #[iv p1] [(.ref r1)])) _
  obtain ⟨fs, hr, hrun, hended, hW, hsame⟩ := X2.leave (v := some (.ref r1)) (fun h => by rw [Bd.returns] at h; cases h)
  refine ⟨_, _, ?_, hrun, hended, _, _, rfl, ?_, ⟨_, rfl⟩, hW, hsame.mono (by decide) (by decide)⟩
  · exact retOut X2 hx Bd.returns rfl (Or.inr (Or.inr (Or.inr (Or.inr ⟨rfl, rfl, rfl⟩)))) (hb hby d3_7) hr
  · show Q_rmPick0 Z p1 r1 h0 n0 _ T2.heap _
    rw [e2]
    exact ⟨rfl, N0, rfl⟩
theorem d3_8 : decode method_2_code 8 = .ok (.iload_n 0, 1) := by decide +kernel
theorem d3_9 : decode method_2_code 9 = .ok (.iconst 1, 1) := by decide +kernel
theorem d3_10 : decode method_2_code 10 = .ok (.if_icmp .ne 7, 3) := by decide +kernel
theorem d3_13 : decode method_2_code 13 = .ok (.getstatic 13, 3) := by decide +kernel
theorem d3_16 : decode method_2_code 16 = .ok (.areturn, 1) := by decide +kernel
def Q_rmPick1 (Z : State) (p1 : Int32) (r1 : Addr) (h0 : Heap) (n0 : Nat) (v : Option Value) (h : Heap) (L : List Loc) : Prop := v = some (.ref r1) ∧ Fr n0 L ∧ h = h0
theorem ef_rmPick1 (m : MethodId) (x0 : Int32) : entryFrame m #[(.int x0)] 1 = mkF m 0 #[.val (.int x0)] [] := by first | (simp [entryFrame, mkF, argsToLocals, Value.category]; done) | rfl
set_option maxRecDepth 65536 in
set_option maxHeartbeats 40000000 in
theorem rmPick1 (l : Launch) (Z : State) (a0 : Array Value) (hw : ∀ d ∈ tables_1, d.before a0 Z = true) (ws : List Jvm.Cond) (p1 : Int32) (r1 : Addr) (h0 : Heap) (n0 : Nat) (Z0 : n0 ≤ h0.size) (S1 : Sta Z h0 "com/example/ophion/ophion/runtime/CompareOp" "LESS_EQUAL" "Lcom/example/ophion/ophion/runtime/CompareOp;" (.ref r1)) (c0 : ¬ (p1 = (0 : Int32))) (c1 : p1 = (1 : Int32)) :
    MetFree l (⟨"com/example/ophion/ophion/runtime/CompareOpSwappedPinLaw", "pick", "(I)Lcom/example/ophion/ophion/runtime/CompareOp;"⟩ : MethodName) (head1 (Jvm.Cond.code (⟨"com/example/ophion/ophion/runtime/CompareOpSwappedPinLaw", "pick", "(I)Lcom/example/ophion/ophion/runtime/CompareOp;"⟩ : MethodName) method_2_code 1 (some (.object "com/example/ophion/ophion/runtime/CompareOp")) :: ws) ({ frames := 0, cells := 0, slots := 0, locals := 0 } : Room)) (fun a U => a = #[(.int p1)] ∧ Z.Warmed39 U.vm ∧ U.heap = h0) (fun _ _ _ _ _ => True) (fun _ U o U' => ∃ v L, o = .returned v ∧ Q_rmPick1 Z p1 r1 h0 n0 v U'.heap L ∧ FrameEnd U o U' L ({ frames := 0, cells := 0, slots := 0, locals := 0 } : Room).cells ({ frames := 0, cells := 0, slots := 0, locals := 0 } : Room).slots) := by
  refine MetFree.of_bodySF (plainFor_of_name pn_2) hisR ?_
  intro p e s m args below meth c s₁ Bd hml0 hP hK
  obtain ⟨rfl, hZ, hh⟩ := hP
  have hx := Bd.exec
  have hby := Bd.bytes
  have hml : c.maxLocals = 1 := hml0
  have hown : s.vm.findClass "com/example/ophion/ophion/runtime/CompareOpSwappedPinLaw" = some m.cls := findClass_of_methodNamed Bd.named
  have hnm := (name_of_methodNamed Bd.named Bd.method).1
  have X0 : Stand p l e ({ frames := 0, cells := 0, slots := 0, locals := 0 } : Room) s m #[(.int p1)] below meth c s₁ [] 0 0 := Stand.of_body Bd
  have e0 : s₁.heap = h0 := by rw [← hh, Bd.state]; rfl
  have N0 := Fr.nil n0
  refine own_go (own_lift (fun t k => castTop (ef_rmPick1 m p1) k) ?_)
  show own_Go p.tables e below (s₁.setTop (mkF m 0 #[iv p1] [])) _
  have sg1 : ∀ t, Steps p.tables e below (s₁.setTop (mkF m 13 #[iv p1] [])) t → Steps p.tables e below (s₁.setTop (mkF m 0 #[iv p1] [])) t := by
    intro t k
    refine XS.iloadN X0.here hx rfl (hb hby d3_0) rfl ?_
    show Steps p.tables e below (s₁.setTop (mkF m 1 #[iv p1] [(.int p1)])) _
    refine XS.ifYes X0.here hx rfl (pc0 := 1) (pc' := 8) rfl (hb hby d3_1) rfl ((if0 _ _).trans (feq c0).2) (by decide) (by decide) ?_
    show Steps p.tables e below (s₁.setTop (mkF m 8 #[iv p1] [])) _
    refine XS.iloadN X0.here hx rfl (hb hby d3_8) rfl ?_
    show Steps p.tables e below (s₁.setTop (mkF m 9 #[iv p1] [(.int p1)])) _
    refine XS.iconst X0.here hx rfl (hb hby d3_9) ?_
    show Steps p.tables e below (s₁.setTop (mkF m 10 #[iv p1] [(.int 1), (.int p1)])) _
    refine XS.icmpNo X0.here hx rfl (hb hby d3_10) rfl (teq c1).2 ?_
    show Steps p.tables e below (s₁.setTop (mkF m 13 #[iv p1] [])) _
    exact k
  refine own_lift sg1 ?_
  show own_Go p.tables e below (s₁.setTop (mkF m 13 #[iv p1] [])) _
  obtain ⟨T2, X2, e2, st2⟩ := getS X0 hx hZ hown (host := "") (wd hw 36 rfl) Via.refl e0 S1 (g := (mkF m 13 #[iv p1] [])) rfl (hb hby d3_13)
  refine own_lift st2 ?_
  show own_Go p.tables e below (T2.setTop (mkF m 16 #[iv p1] [(.ref r1)])) _
  obtain ⟨fs, hr, hrun, hended, hW, hsame⟩ := X2.leave (v := some (.ref r1)) (fun h => by rw [Bd.returns] at h; cases h)
  refine ⟨_, _, ?_, hrun, hended, _, _, rfl, ?_, ⟨_, rfl⟩, hW, hsame.mono (by decide) (by decide)⟩
  · exact retOut X2 hx Bd.returns rfl (Or.inr (Or.inr (Or.inr (Or.inr ⟨rfl, rfl, rfl⟩)))) (hb hby d3_16) hr
  · show Q_rmPick1 Z p1 r1 h0 n0 _ T2.heap _
    rw [e2]
    exact ⟨rfl, N0, rfl⟩
theorem d3_17 : decode method_2_code 17 = .ok (.iload_n 0, 1) := by decide +kernel
theorem d3_18 : decode method_2_code 18 = .ok (.iconst 2, 1) := by decide +kernel
theorem d3_19 : decode method_2_code 19 = .ok (.if_icmp .ne 7, 3) := by decide +kernel
theorem d3_22 : decode method_2_code 22 = .ok (.getstatic 16, 3) := by decide +kernel
theorem d3_25 : decode method_2_code 25 = .ok (.areturn, 1) := by decide +kernel
def Q_rmPick2 (Z : State) (p1 : Int32) (r1 : Addr) (h0 : Heap) (n0 : Nat) (v : Option Value) (h : Heap) (L : List Loc) : Prop := v = some (.ref r1) ∧ Fr n0 L ∧ h = h0
theorem ef_rmPick2 (m : MethodId) (x0 : Int32) : entryFrame m #[(.int x0)] 1 = mkF m 0 #[.val (.int x0)] [] := by first | (simp [entryFrame, mkF, argsToLocals, Value.category]; done) | rfl
set_option maxRecDepth 65536 in
set_option maxHeartbeats 40000000 in
theorem rmPick2 (l : Launch) (Z : State) (a0 : Array Value) (hw : ∀ d ∈ tables_1, d.before a0 Z = true) (ws : List Jvm.Cond) (p1 : Int32) (r1 : Addr) (h0 : Heap) (n0 : Nat) (Z0 : n0 ≤ h0.size) (S1 : Sta Z h0 "com/example/ophion/ophion/runtime/CompareOp" "EQUAL" "Lcom/example/ophion/ophion/runtime/CompareOp;" (.ref r1)) (c0 : ¬ (p1 = (0 : Int32))) (c1 : ¬ (p1 = (1 : Int32))) (c2 : p1 = (2 : Int32)) :
    MetFree l (⟨"com/example/ophion/ophion/runtime/CompareOpSwappedPinLaw", "pick", "(I)Lcom/example/ophion/ophion/runtime/CompareOp;"⟩ : MethodName) (head1 (Jvm.Cond.code (⟨"com/example/ophion/ophion/runtime/CompareOpSwappedPinLaw", "pick", "(I)Lcom/example/ophion/ophion/runtime/CompareOp;"⟩ : MethodName) method_2_code 1 (some (.object "com/example/ophion/ophion/runtime/CompareOp")) :: ws) ({ frames := 0, cells := 0, slots := 0, locals := 0 } : Room)) (fun a U => a = #[(.int p1)] ∧ Z.Warmed39 U.vm ∧ U.heap = h0) (fun _ _ _ _ _ => True) (fun _ U o U' => ∃ v L, o = .returned v ∧ Q_rmPick2 Z p1 r1 h0 n0 v U'.heap L ∧ FrameEnd U o U' L ({ frames := 0, cells := 0, slots := 0, locals := 0 } : Room).cells ({ frames := 0, cells := 0, slots := 0, locals := 0 } : Room).slots) := by
  refine MetFree.of_bodySF (plainFor_of_name pn_2) hisR ?_
  intro p e s m args below meth c s₁ Bd hml0 hP hK
  obtain ⟨rfl, hZ, hh⟩ := hP
  have hx := Bd.exec
  have hby := Bd.bytes
  have hml : c.maxLocals = 1 := hml0
  have hown : s.vm.findClass "com/example/ophion/ophion/runtime/CompareOpSwappedPinLaw" = some m.cls := findClass_of_methodNamed Bd.named
  have hnm := (name_of_methodNamed Bd.named Bd.method).1
  have X0 : Stand p l e ({ frames := 0, cells := 0, slots := 0, locals := 0 } : Room) s m #[(.int p1)] below meth c s₁ [] 0 0 := Stand.of_body Bd
  have e0 : s₁.heap = h0 := by rw [← hh, Bd.state]; rfl
  have N0 := Fr.nil n0
  refine own_go (own_lift (fun t k => castTop (ef_rmPick2 m p1) k) ?_)
  show own_Go p.tables e below (s₁.setTop (mkF m 0 #[iv p1] [])) _
  have sg1 : ∀ t, Steps p.tables e below (s₁.setTop (mkF m 22 #[iv p1] [])) t → Steps p.tables e below (s₁.setTop (mkF m 0 #[iv p1] [])) t := by
    intro t k
    refine XS.iloadN X0.here hx rfl (hb hby d3_0) rfl ?_
    show Steps p.tables e below (s₁.setTop (mkF m 1 #[iv p1] [(.int p1)])) _
    refine XS.ifYes X0.here hx rfl (pc0 := 1) (pc' := 8) rfl (hb hby d3_1) rfl ((if0 _ _).trans (feq c0).2) (by decide) (by decide) ?_
    show Steps p.tables e below (s₁.setTop (mkF m 8 #[iv p1] [])) _
    refine XS.iloadN X0.here hx rfl (hb hby d3_8) rfl ?_
    show Steps p.tables e below (s₁.setTop (mkF m 9 #[iv p1] [(.int p1)])) _
    refine XS.iconst X0.here hx rfl (hb hby d3_9) ?_
    show Steps p.tables e below (s₁.setTop (mkF m 10 #[iv p1] [(.int 1), (.int p1)])) _
    refine XS.icmpYes X0.here hx rfl (pc0 := 10) (pc' := 17) rfl (hb hby d3_10) rfl (feq c1).2 (by decide) (by decide) ?_
    show Steps p.tables e below (s₁.setTop (mkF m 17 #[iv p1] [])) _
    refine XS.iloadN X0.here hx rfl (hb hby d3_17) rfl ?_
    show Steps p.tables e below (s₁.setTop (mkF m 18 #[iv p1] [(.int p1)])) _
    refine XS.iconst X0.here hx rfl (hb hby d3_18) ?_
    show Steps p.tables e below (s₁.setTop (mkF m 19 #[iv p1] [(.int 2), (.int p1)])) _
    refine XS.icmpNo X0.here hx rfl (hb hby d3_19) rfl (teq c2).2 ?_
    show Steps p.tables e below (s₁.setTop (mkF m 22 #[iv p1] [])) _
    exact k
  refine own_lift sg1 ?_
  show own_Go p.tables e below (s₁.setTop (mkF m 22 #[iv p1] [])) _
  obtain ⟨T2, X2, e2, st2⟩ := getS X0 hx hZ hown (host := "") (wd hw 33 rfl) Via.refl e0 S1 (g := (mkF m 22 #[iv p1] [])) rfl (hb hby d3_22)
  refine own_lift st2 ?_
  show own_Go p.tables e below (T2.setTop (mkF m 25 #[iv p1] [(.ref r1)])) _
  obtain ⟨fs, hr, hrun, hended, hW, hsame⟩ := X2.leave (v := some (.ref r1)) (fun h => by rw [Bd.returns] at h; cases h)
  refine ⟨_, _, ?_, hrun, hended, _, _, rfl, ?_, ⟨_, rfl⟩, hW, hsame.mono (by decide) (by decide)⟩
  · exact retOut X2 hx Bd.returns rfl (Or.inr (Or.inr (Or.inr (Or.inr ⟨rfl, rfl, rfl⟩)))) (hb hby d3_25) hr
  · show Q_rmPick2 Z p1 r1 h0 n0 _ T2.heap _
    rw [e2]
    exact ⟨rfl, N0, rfl⟩
theorem d3_26 : decode method_2_code 26 = .ok (.iload_n 0, 1) := by decide +kernel
theorem d3_27 : decode method_2_code 27 = .ok (.iconst 3, 1) := by decide +kernel
theorem d3_28 : decode method_2_code 28 = .ok (.if_icmp .ne 7, 3) := by decide +kernel
theorem d3_31 : decode method_2_code 31 = .ok (.getstatic 19, 3) := by decide +kernel
theorem d3_34 : decode method_2_code 34 = .ok (.areturn, 1) := by decide +kernel
def Q_rmPick3 (Z : State) (p1 : Int32) (r1 : Addr) (h0 : Heap) (n0 : Nat) (v : Option Value) (h : Heap) (L : List Loc) : Prop := v = some (.ref r1) ∧ Fr n0 L ∧ h = h0
theorem ef_rmPick3 (m : MethodId) (x0 : Int32) : entryFrame m #[(.int x0)] 1 = mkF m 0 #[.val (.int x0)] [] := by first | (simp [entryFrame, mkF, argsToLocals, Value.category]; done) | rfl
set_option maxRecDepth 65536 in
set_option maxHeartbeats 40000000 in
theorem rmPick3 (l : Launch) (Z : State) (a0 : Array Value) (hw : ∀ d ∈ tables_1, d.before a0 Z = true) (ws : List Jvm.Cond) (p1 : Int32) (r1 : Addr) (h0 : Heap) (n0 : Nat) (Z0 : n0 ≤ h0.size) (S1 : Sta Z h0 "com/example/ophion/ophion/runtime/CompareOp" "NOT_EQUAL" "Lcom/example/ophion/ophion/runtime/CompareOp;" (.ref r1)) (c0 : ¬ (p1 = (0 : Int32))) (c1 : ¬ (p1 = (1 : Int32))) (c2 : ¬ (p1 = (2 : Int32))) (c3 : p1 = (3 : Int32)) :
    MetFree l (⟨"com/example/ophion/ophion/runtime/CompareOpSwappedPinLaw", "pick", "(I)Lcom/example/ophion/ophion/runtime/CompareOp;"⟩ : MethodName) (head1 (Jvm.Cond.code (⟨"com/example/ophion/ophion/runtime/CompareOpSwappedPinLaw", "pick", "(I)Lcom/example/ophion/ophion/runtime/CompareOp;"⟩ : MethodName) method_2_code 1 (some (.object "com/example/ophion/ophion/runtime/CompareOp")) :: ws) ({ frames := 0, cells := 0, slots := 0, locals := 0 } : Room)) (fun a U => a = #[(.int p1)] ∧ Z.Warmed39 U.vm ∧ U.heap = h0) (fun _ _ _ _ _ => True) (fun _ U o U' => ∃ v L, o = .returned v ∧ Q_rmPick3 Z p1 r1 h0 n0 v U'.heap L ∧ FrameEnd U o U' L ({ frames := 0, cells := 0, slots := 0, locals := 0 } : Room).cells ({ frames := 0, cells := 0, slots := 0, locals := 0 } : Room).slots) := by
  refine MetFree.of_bodySF (plainFor_of_name pn_2) hisR ?_
  intro p e s m args below meth c s₁ Bd hml0 hP hK
  obtain ⟨rfl, hZ, hh⟩ := hP
  have hx := Bd.exec
  have hby := Bd.bytes
  have hml : c.maxLocals = 1 := hml0
  have hown : s.vm.findClass "com/example/ophion/ophion/runtime/CompareOpSwappedPinLaw" = some m.cls := findClass_of_methodNamed Bd.named
  have hnm := (name_of_methodNamed Bd.named Bd.method).1
  have X0 : Stand p l e ({ frames := 0, cells := 0, slots := 0, locals := 0 } : Room) s m #[(.int p1)] below meth c s₁ [] 0 0 := Stand.of_body Bd
  have e0 : s₁.heap = h0 := by rw [← hh, Bd.state]; rfl
  have N0 := Fr.nil n0
  refine own_go (own_lift (fun t k => castTop (ef_rmPick3 m p1) k) ?_)
  show own_Go p.tables e below (s₁.setTop (mkF m 0 #[iv p1] [])) _
  have sg1 : ∀ t, Steps p.tables e below (s₁.setTop (mkF m 31 #[iv p1] [])) t → Steps p.tables e below (s₁.setTop (mkF m 0 #[iv p1] [])) t := by
    intro t k
    refine XS.iloadN X0.here hx rfl (hb hby d3_0) rfl ?_
    show Steps p.tables e below (s₁.setTop (mkF m 1 #[iv p1] [(.int p1)])) _
    refine XS.ifYes X0.here hx rfl (pc0 := 1) (pc' := 8) rfl (hb hby d3_1) rfl ((if0 _ _).trans (feq c0).2) (by decide) (by decide) ?_
    show Steps p.tables e below (s₁.setTop (mkF m 8 #[iv p1] [])) _
    refine XS.iloadN X0.here hx rfl (hb hby d3_8) rfl ?_
    show Steps p.tables e below (s₁.setTop (mkF m 9 #[iv p1] [(.int p1)])) _
    refine XS.iconst X0.here hx rfl (hb hby d3_9) ?_
    show Steps p.tables e below (s₁.setTop (mkF m 10 #[iv p1] [(.int 1), (.int p1)])) _
    refine XS.icmpYes X0.here hx rfl (pc0 := 10) (pc' := 17) rfl (hb hby d3_10) rfl (feq c1).2 (by decide) (by decide) ?_
    show Steps p.tables e below (s₁.setTop (mkF m 17 #[iv p1] [])) _
    refine XS.iloadN X0.here hx rfl (hb hby d3_17) rfl ?_
    show Steps p.tables e below (s₁.setTop (mkF m 18 #[iv p1] [(.int p1)])) _
    refine XS.iconst X0.here hx rfl (hb hby d3_18) ?_
    show Steps p.tables e below (s₁.setTop (mkF m 19 #[iv p1] [(.int 2), (.int p1)])) _
    refine XS.icmpYes X0.here hx rfl (pc0 := 19) (pc' := 26) rfl (hb hby d3_19) rfl (feq c2).2 (by decide) (by decide) ?_
    show Steps p.tables e below (s₁.setTop (mkF m 26 #[iv p1] [])) _
    refine XS.iloadN X0.here hx rfl (hb hby d3_26) rfl ?_
    show Steps p.tables e below (s₁.setTop (mkF m 27 #[iv p1] [(.int p1)])) _
    refine XS.iconst X0.here hx rfl (hb hby d3_27) ?_
    show Steps p.tables e below (s₁.setTop (mkF m 28 #[iv p1] [(.int 3), (.int p1)])) _
    refine XS.icmpNo X0.here hx rfl (hb hby d3_28) rfl (teq c3).2 ?_
    show Steps p.tables e below (s₁.setTop (mkF m 31 #[iv p1] [])) _
    exact k
  refine own_lift sg1 ?_
  show own_Go p.tables e below (s₁.setTop (mkF m 31 #[iv p1] [])) _
  obtain ⟨T2, X2, e2, st2⟩ := getS X0 hx hZ hown (host := "") (wd hw 42 rfl) Via.refl e0 S1 (g := (mkF m 31 #[iv p1] [])) rfl (hb hby d3_31)
  refine own_lift st2 ?_
  show own_Go p.tables e below (T2.setTop (mkF m 34 #[iv p1] [(.ref r1)])) _
  obtain ⟨fs, hr, hrun, hended, hW, hsame⟩ := X2.leave (v := some (.ref r1)) (fun h => by rw [Bd.returns] at h; cases h)
  refine ⟨_, _, ?_, hrun, hended, _, _, rfl, ?_, ⟨_, rfl⟩, hW, hsame.mono (by decide) (by decide)⟩
  · exact retOut X2 hx Bd.returns rfl (Or.inr (Or.inr (Or.inr (Or.inr ⟨rfl, rfl, rfl⟩)))) (hb hby d3_34) hr
  · show Q_rmPick3 Z p1 r1 h0 n0 _ T2.heap _
    rw [e2]
    exact ⟨rfl, N0, rfl⟩
theorem d3_35 : decode method_2_code 35 = .ok (.iload_n 0, 1) := by decide +kernel
theorem d3_36 : decode method_2_code 36 = .ok (.iconst 4, 1) := by decide +kernel
theorem d3_37 : decode method_2_code 37 = .ok (.if_icmp .ne 7, 3) := by decide +kernel
theorem d3_40 : decode method_2_code 40 = .ok (.getstatic 22, 3) := by decide +kernel
theorem d3_43 : decode method_2_code 43 = .ok (.areturn, 1) := by decide +kernel
def Q_rmPick4 (Z : State) (p1 : Int32) (r1 : Addr) (h0 : Heap) (n0 : Nat) (v : Option Value) (h : Heap) (L : List Loc) : Prop := v = some (.ref r1) ∧ Fr n0 L ∧ h = h0
theorem ef_rmPick4 (m : MethodId) (x0 : Int32) : entryFrame m #[(.int x0)] 1 = mkF m 0 #[.val (.int x0)] [] := by first | (simp [entryFrame, mkF, argsToLocals, Value.category]; done) | rfl
set_option maxRecDepth 65536 in
set_option maxHeartbeats 40000000 in
theorem rmPick4 (l : Launch) (Z : State) (a0 : Array Value) (hw : ∀ d ∈ tables_1, d.before a0 Z = true) (ws : List Jvm.Cond) (p1 : Int32) (r1 : Addr) (h0 : Heap) (n0 : Nat) (Z0 : n0 ≤ h0.size) (S1 : Sta Z h0 "com/example/ophion/ophion/runtime/CompareOp" "GREATER" "Lcom/example/ophion/ophion/runtime/CompareOp;" (.ref r1)) (c0 : ¬ (p1 = (0 : Int32))) (c1 : ¬ (p1 = (1 : Int32))) (c2 : ¬ (p1 = (2 : Int32))) (c3 : ¬ (p1 = (3 : Int32))) (c4 : p1 = (4 : Int32)) :
    MetFree l (⟨"com/example/ophion/ophion/runtime/CompareOpSwappedPinLaw", "pick", "(I)Lcom/example/ophion/ophion/runtime/CompareOp;"⟩ : MethodName) (head1 (Jvm.Cond.code (⟨"com/example/ophion/ophion/runtime/CompareOpSwappedPinLaw", "pick", "(I)Lcom/example/ophion/ophion/runtime/CompareOp;"⟩ : MethodName) method_2_code 1 (some (.object "com/example/ophion/ophion/runtime/CompareOp")) :: ws) ({ frames := 0, cells := 0, slots := 0, locals := 0 } : Room)) (fun a U => a = #[(.int p1)] ∧ Z.Warmed39 U.vm ∧ U.heap = h0) (fun _ _ _ _ _ => True) (fun _ U o U' => ∃ v L, o = .returned v ∧ Q_rmPick4 Z p1 r1 h0 n0 v U'.heap L ∧ FrameEnd U o U' L ({ frames := 0, cells := 0, slots := 0, locals := 0 } : Room).cells ({ frames := 0, cells := 0, slots := 0, locals := 0 } : Room).slots) := by
  refine MetFree.of_bodySF (plainFor_of_name pn_2) hisR ?_
  intro p e s m args below meth c s₁ Bd hml0 hP hK
  obtain ⟨rfl, hZ, hh⟩ := hP
  have hx := Bd.exec
  have hby := Bd.bytes
  have hml : c.maxLocals = 1 := hml0
  have hown : s.vm.findClass "com/example/ophion/ophion/runtime/CompareOpSwappedPinLaw" = some m.cls := findClass_of_methodNamed Bd.named
  have hnm := (name_of_methodNamed Bd.named Bd.method).1
  have X0 : Stand p l e ({ frames := 0, cells := 0, slots := 0, locals := 0 } : Room) s m #[(.int p1)] below meth c s₁ [] 0 0 := Stand.of_body Bd
  have e0 : s₁.heap = h0 := by rw [← hh, Bd.state]; rfl
  have N0 := Fr.nil n0
  refine own_go (own_lift (fun t k => castTop (ef_rmPick4 m p1) k) ?_)
  show own_Go p.tables e below (s₁.setTop (mkF m 0 #[iv p1] [])) _
  have sg1 : ∀ t, Steps p.tables e below (s₁.setTop (mkF m 40 #[iv p1] [])) t → Steps p.tables e below (s₁.setTop (mkF m 0 #[iv p1] [])) t := by
    intro t k
    refine XS.iloadN X0.here hx rfl (hb hby d3_0) rfl ?_
    show Steps p.tables e below (s₁.setTop (mkF m 1 #[iv p1] [(.int p1)])) _
    refine XS.ifYes X0.here hx rfl (pc0 := 1) (pc' := 8) rfl (hb hby d3_1) rfl ((if0 _ _).trans (feq c0).2) (by decide) (by decide) ?_
    show Steps p.tables e below (s₁.setTop (mkF m 8 #[iv p1] [])) _
    refine XS.iloadN X0.here hx rfl (hb hby d3_8) rfl ?_
    show Steps p.tables e below (s₁.setTop (mkF m 9 #[iv p1] [(.int p1)])) _
    refine XS.iconst X0.here hx rfl (hb hby d3_9) ?_
    show Steps p.tables e below (s₁.setTop (mkF m 10 #[iv p1] [(.int 1), (.int p1)])) _
    refine XS.icmpYes X0.here hx rfl (pc0 := 10) (pc' := 17) rfl (hb hby d3_10) rfl (feq c1).2 (by decide) (by decide) ?_
    show Steps p.tables e below (s₁.setTop (mkF m 17 #[iv p1] [])) _
    refine XS.iloadN X0.here hx rfl (hb hby d3_17) rfl ?_
    show Steps p.tables e below (s₁.setTop (mkF m 18 #[iv p1] [(.int p1)])) _
    refine XS.iconst X0.here hx rfl (hb hby d3_18) ?_
    show Steps p.tables e below (s₁.setTop (mkF m 19 #[iv p1] [(.int 2), (.int p1)])) _
    refine XS.icmpYes X0.here hx rfl (pc0 := 19) (pc' := 26) rfl (hb hby d3_19) rfl (feq c2).2 (by decide) (by decide) ?_
    show Steps p.tables e below (s₁.setTop (mkF m 26 #[iv p1] [])) _
    refine XS.iloadN X0.here hx rfl (hb hby d3_26) rfl ?_
    show Steps p.tables e below (s₁.setTop (mkF m 27 #[iv p1] [(.int p1)])) _
    refine XS.iconst X0.here hx rfl (hb hby d3_27) ?_
    show Steps p.tables e below (s₁.setTop (mkF m 28 #[iv p1] [(.int 3), (.int p1)])) _
    refine XS.icmpYes X0.here hx rfl (pc0 := 28) (pc' := 35) rfl (hb hby d3_28) rfl (feq c3).2 (by decide) (by decide) ?_
    show Steps p.tables e below (s₁.setTop (mkF m 35 #[iv p1] [])) _
    refine XS.iloadN X0.here hx rfl (hb hby d3_35) rfl ?_
    show Steps p.tables e below (s₁.setTop (mkF m 36 #[iv p1] [(.int p1)])) _
    refine XS.iconst X0.here hx rfl (hb hby d3_36) ?_
    show Steps p.tables e below (s₁.setTop (mkF m 37 #[iv p1] [(.int 4), (.int p1)])) _
    refine XS.icmpNo X0.here hx rfl (hb hby d3_37) rfl (teq c4).2 ?_
    show Steps p.tables e below (s₁.setTop (mkF m 40 #[iv p1] [])) _
    exact k
  refine own_lift sg1 ?_
  show own_Go p.tables e below (s₁.setTop (mkF m 40 #[iv p1] [])) _
  obtain ⟨T2, X2, e2, st2⟩ := getS X0 hx hZ hown (host := "") (wd hw 11 rfl) Via.refl e0 S1 (g := (mkF m 40 #[iv p1] [])) rfl (hb hby d3_40)
  refine own_lift st2 ?_
  show own_Go p.tables e below (T2.setTop (mkF m 43 #[iv p1] [(.ref r1)])) _
  obtain ⟨fs, hr, hrun, hended, hW, hsame⟩ := X2.leave (v := some (.ref r1)) (fun h => by rw [Bd.returns] at h; cases h)
  refine ⟨_, _, ?_, hrun, hended, _, _, rfl, ?_, ⟨_, rfl⟩, hW, hsame.mono (by decide) (by decide)⟩
  · exact retOut X2 hx Bd.returns rfl (Or.inr (Or.inr (Or.inr (Or.inr ⟨rfl, rfl, rfl⟩)))) (hb hby d3_43) hr
  · show Q_rmPick4 Z p1 r1 h0 n0 _ T2.heap _
    rw [e2]
    exact ⟨rfl, N0, rfl⟩
theorem d3_44 : decode method_2_code 44 = .ok (.getstatic 25, 3) := by decide +kernel
theorem d3_47 : decode method_2_code 47 = .ok (.areturn, 1) := by decide +kernel
def Q_rmPick5 (Z : State) (p1 : Int32) (r1 : Addr) (h0 : Heap) (n0 : Nat) (v : Option Value) (h : Heap) (L : List Loc) : Prop := v = some (.ref r1) ∧ Fr n0 L ∧ h = h0
theorem ef_rmPick5 (m : MethodId) (x0 : Int32) : entryFrame m #[(.int x0)] 1 = mkF m 0 #[.val (.int x0)] [] := by first | (simp [entryFrame, mkF, argsToLocals, Value.category]; done) | rfl
set_option maxRecDepth 65536 in
set_option maxHeartbeats 40000000 in
theorem rmPick5 (l : Launch) (Z : State) (a0 : Array Value) (hw : ∀ d ∈ tables_1, d.before a0 Z = true) (ws : List Jvm.Cond) (p1 : Int32) (r1 : Addr) (h0 : Heap) (n0 : Nat) (Z0 : n0 ≤ h0.size) (S1 : Sta Z h0 "com/example/ophion/ophion/runtime/CompareOp" "GREATER_EQUAL" "Lcom/example/ophion/ophion/runtime/CompareOp;" (.ref r1)) (c0 : ¬ (p1 = (0 : Int32))) (c1 : ¬ (p1 = (1 : Int32))) (c2 : ¬ (p1 = (2 : Int32))) (c3 : ¬ (p1 = (3 : Int32))) (c4 : ¬ (p1 = (4 : Int32))) :
    MetFree l (⟨"com/example/ophion/ophion/runtime/CompareOpSwappedPinLaw", "pick", "(I)Lcom/example/ophion/ophion/runtime/CompareOp;"⟩ : MethodName) (head1 (Jvm.Cond.code (⟨"com/example/ophion/ophion/runtime/CompareOpSwappedPinLaw", "pick", "(I)Lcom/example/ophion/ophion/runtime/CompareOp;"⟩ : MethodName) method_2_code 1 (some (.object "com/example/ophion/ophion/runtime/CompareOp")) :: ws) ({ frames := 0, cells := 0, slots := 0, locals := 0 } : Room)) (fun a U => a = #[(.int p1)] ∧ Z.Warmed39 U.vm ∧ U.heap = h0) (fun _ _ _ _ _ => True) (fun _ U o U' => ∃ v L, o = .returned v ∧ Q_rmPick5 Z p1 r1 h0 n0 v U'.heap L ∧ FrameEnd U o U' L ({ frames := 0, cells := 0, slots := 0, locals := 0 } : Room).cells ({ frames := 0, cells := 0, slots := 0, locals := 0 } : Room).slots) := by
  refine MetFree.of_bodySF (plainFor_of_name pn_2) hisR ?_
  intro p e s m args below meth c s₁ Bd hml0 hP hK
  obtain ⟨rfl, hZ, hh⟩ := hP
  have hx := Bd.exec
  have hby := Bd.bytes
  have hml : c.maxLocals = 1 := hml0
  have hown : s.vm.findClass "com/example/ophion/ophion/runtime/CompareOpSwappedPinLaw" = some m.cls := findClass_of_methodNamed Bd.named
  have hnm := (name_of_methodNamed Bd.named Bd.method).1
  have X0 : Stand p l e ({ frames := 0, cells := 0, slots := 0, locals := 0 } : Room) s m #[(.int p1)] below meth c s₁ [] 0 0 := Stand.of_body Bd
  have e0 : s₁.heap = h0 := by rw [← hh, Bd.state]; rfl
  have N0 := Fr.nil n0
  refine own_go (own_lift (fun t k => castTop (ef_rmPick5 m p1) k) ?_)
  show own_Go p.tables e below (s₁.setTop (mkF m 0 #[iv p1] [])) _
  have sg1 : ∀ t, Steps p.tables e below (s₁.setTop (mkF m 44 #[iv p1] [])) t → Steps p.tables e below (s₁.setTop (mkF m 0 #[iv p1] [])) t := by
    intro t k
    refine XS.iloadN X0.here hx rfl (hb hby d3_0) rfl ?_
    show Steps p.tables e below (s₁.setTop (mkF m 1 #[iv p1] [(.int p1)])) _
    refine XS.ifYes X0.here hx rfl (pc0 := 1) (pc' := 8) rfl (hb hby d3_1) rfl ((if0 _ _).trans (feq c0).2) (by decide) (by decide) ?_
    show Steps p.tables e below (s₁.setTop (mkF m 8 #[iv p1] [])) _
    refine XS.iloadN X0.here hx rfl (hb hby d3_8) rfl ?_
    show Steps p.tables e below (s₁.setTop (mkF m 9 #[iv p1] [(.int p1)])) _
    refine XS.iconst X0.here hx rfl (hb hby d3_9) ?_
    show Steps p.tables e below (s₁.setTop (mkF m 10 #[iv p1] [(.int 1), (.int p1)])) _
    refine XS.icmpYes X0.here hx rfl (pc0 := 10) (pc' := 17) rfl (hb hby d3_10) rfl (feq c1).2 (by decide) (by decide) ?_
    show Steps p.tables e below (s₁.setTop (mkF m 17 #[iv p1] [])) _
    refine XS.iloadN X0.here hx rfl (hb hby d3_17) rfl ?_
    show Steps p.tables e below (s₁.setTop (mkF m 18 #[iv p1] [(.int p1)])) _
    refine XS.iconst X0.here hx rfl (hb hby d3_18) ?_
    show Steps p.tables e below (s₁.setTop (mkF m 19 #[iv p1] [(.int 2), (.int p1)])) _
    refine XS.icmpYes X0.here hx rfl (pc0 := 19) (pc' := 26) rfl (hb hby d3_19) rfl (feq c2).2 (by decide) (by decide) ?_
    show Steps p.tables e below (s₁.setTop (mkF m 26 #[iv p1] [])) _
    refine XS.iloadN X0.here hx rfl (hb hby d3_26) rfl ?_
    show Steps p.tables e below (s₁.setTop (mkF m 27 #[iv p1] [(.int p1)])) _
    refine XS.iconst X0.here hx rfl (hb hby d3_27) ?_
    show Steps p.tables e below (s₁.setTop (mkF m 28 #[iv p1] [(.int 3), (.int p1)])) _
    refine XS.icmpYes X0.here hx rfl (pc0 := 28) (pc' := 35) rfl (hb hby d3_28) rfl (feq c3).2 (by decide) (by decide) ?_
    show Steps p.tables e below (s₁.setTop (mkF m 35 #[iv p1] [])) _
    refine XS.iloadN X0.here hx rfl (hb hby d3_35) rfl ?_
    show Steps p.tables e below (s₁.setTop (mkF m 36 #[iv p1] [(.int p1)])) _
    refine XS.iconst X0.here hx rfl (hb hby d3_36) ?_
    show Steps p.tables e below (s₁.setTop (mkF m 37 #[iv p1] [(.int 4), (.int p1)])) _
    refine XS.icmpYes X0.here hx rfl (pc0 := 37) (pc' := 44) rfl (hb hby d3_37) rfl (feq c4).2 (by decide) (by decide) ?_
    show Steps p.tables e below (s₁.setTop (mkF m 44 #[iv p1] [])) _
    exact k
  refine own_lift sg1 ?_
  show own_Go p.tables e below (s₁.setTop (mkF m 44 #[iv p1] [])) _
  obtain ⟨T2, X2, e2, st2⟩ := getS X0 hx hZ hown (host := "") (wd hw 38 rfl) Via.refl e0 S1 (g := (mkF m 44 #[iv p1] [])) rfl (hb hby d3_44)
  refine own_lift st2 ?_
  show own_Go p.tables e below (T2.setTop (mkF m 47 #[iv p1] [(.ref r1)])) _
  obtain ⟨fs, hr, hrun, hended, hW, hsame⟩ := X2.leave (v := some (.ref r1)) (fun h => by rw [Bd.returns] at h; cases h)
  refine ⟨_, _, ?_, hrun, hended, _, _, rfl, ?_, ⟨_, rfl⟩, hW, hsame.mono (by decide) (by decide)⟩
  · exact retOut X2 hx Bd.returns rfl (Or.inr (Or.inr (Or.inr (Or.inr ⟨rfl, rfl, rfl⟩)))) (hb hby d3_47) hr
  · show Q_rmPick5 Z p1 r1 h0 n0 _ T2.heap _
    rw [e2]
    exact ⟨rfl, N0, rfl⟩
theorem d4_0 : decode method_3_code 0 = .ok (.iload_n 0, 1) := by decide +kernel
theorem d4_1 : decode method_3_code 1 = .ok (.ifCond .ne 5, 3) := by decide +kernel
theorem d4_4 : decode method_3_code 4 = .ok (.iconst 4, 1) := by decide +kernel
theorem d4_5 : decode method_3_code 5 = .ok (.ireturn, 1) := by decide +kernel
def Q_rmMir0 (Z : State) (p1 : Int32) (h0 : Heap) (n0 : Nat) (v : Option Value) (h : Heap) (L : List Loc) : Prop := v = some (.int 4) ∧ Fr n0 L ∧ h = h0
theorem ef_rmMir0 (m : MethodId) (x0 : Int32) : entryFrame m #[(.int x0)] 1 = mkF m 0 #[.val (.int x0)] [] := by first | (simp [entryFrame, mkF, argsToLocals, Value.category]; done) | rfl
set_option maxRecDepth 65536 in
set_option maxHeartbeats 40000000 in
theorem rmMir0 (l : Launch) (Z : State) (a0 : Array Value) (hw : ∀ d ∈ tables_1, d.before a0 Z = true) (ws : List Jvm.Cond) (p1 : Int32) (h0 : Heap) (n0 : Nat) (Z0 : n0 ≤ h0.size)  (c0 : p1 = (0 : Int32)) :
    MetFree l (⟨"com/example/ophion/ophion/runtime/CompareOpSwappedPinLaw", "mirror", "(I)I"⟩ : MethodName) (head1 (Jvm.Cond.code (⟨"com/example/ophion/ophion/runtime/CompareOpSwappedPinLaw", "mirror", "(I)I"⟩ : MethodName) method_3_code 1 (some .int) :: ws) ({ frames := 0, cells := 0, slots := 0, locals := 0 } : Room)) (fun a U => a = #[(.int p1)] ∧ Z.Warmed39 U.vm ∧ U.heap = h0) (fun _ _ _ _ _ => True) (fun _ U o U' => ∃ v L, o = .returned v ∧ Q_rmMir0 Z p1 h0 n0 v U'.heap L ∧ FrameEnd U o U' L ({ frames := 0, cells := 0, slots := 0, locals := 0 } : Room).cells ({ frames := 0, cells := 0, slots := 0, locals := 0 } : Room).slots) := by
  refine MetFree.of_bodySF (plainFor_of_name pn_2) hisR ?_
  intro p e s m args below meth c s₁ Bd hml0 hP hK
  obtain ⟨rfl, hZ, hh⟩ := hP
  have hx := Bd.exec
  have hby := Bd.bytes
  have hml : c.maxLocals = 1 := hml0
  have hown : s.vm.findClass "com/example/ophion/ophion/runtime/CompareOpSwappedPinLaw" = some m.cls := findClass_of_methodNamed Bd.named
  have hnm := (name_of_methodNamed Bd.named Bd.method).1
  have X0 : Stand p l e ({ frames := 0, cells := 0, slots := 0, locals := 0 } : Room) s m #[(.int p1)] below meth c s₁ [] 0 0 := Stand.of_body Bd
  have e0 : s₁.heap = h0 := by rw [← hh, Bd.state]; rfl
  have N0 := Fr.nil n0
  refine own_go (own_lift (fun t k => castTop (ef_rmMir0 m p1) k) ?_)
  show own_Go p.tables e below (s₁.setTop (mkF m 0 #[iv p1] [])) _
  have sg1 : ∀ t, Steps p.tables e below (s₁.setTop (mkF m 5 #[iv p1] [(.int 4)])) t → Steps p.tables e below (s₁.setTop (mkF m 0 #[iv p1] [])) t := by
    intro t k
    refine XS.iloadN X0.here hx rfl (hb hby d4_0) rfl ?_
    show Steps p.tables e below (s₁.setTop (mkF m 1 #[iv p1] [(.int p1)])) _
    refine XS.ifNo X0.here hx rfl (hb hby d4_1) rfl ((if0 _ _).trans (teq c0).2) ?_
    show Steps p.tables e below (s₁.setTop (mkF m 4 #[iv p1] [])) _
    refine XS.iconst X0.here hx rfl (hb hby d4_4) ?_
    show Steps p.tables e below (s₁.setTop (mkF m 5 #[iv p1] [(.int 4)])) _
    exact k
  refine own_lift sg1 ?_
  show own_Go p.tables e below (s₁.setTop (mkF m 5 #[iv p1] [(.int 4)])) _
  obtain ⟨fs, hr, hrun, hended, hW, hsame⟩ := X0.leave (v := some (.int 4)) (fun h => by rw [Bd.returns] at h; cases h)
  refine ⟨_, _, ?_, hrun, hended, _, _, rfl, ?_, ⟨_, rfl⟩, hW, hsame.mono (by decide) (by decide)⟩
  · exact retI X0 hx Bd.returns (hb hby d4_5) hr
  · show Q_rmMir0 Z p1 h0 n0 _ s₁.heap _
    rw [e0]
    exact ⟨rfl, N0, rfl⟩
theorem d4_6 : decode method_3_code 6 = .ok (.iload_n 0, 1) := by decide +kernel
theorem d4_7 : decode method_3_code 7 = .ok (.iconst 1, 1) := by decide +kernel
theorem d4_8 : decode method_3_code 8 = .ok (.if_icmp .ne 5, 3) := by decide +kernel
theorem d4_11 : decode method_3_code 11 = .ok (.iconst 5, 1) := by decide +kernel
theorem d4_12 : decode method_3_code 12 = .ok (.ireturn, 1) := by decide +kernel
def Q_rmMir1 (Z : State) (p1 : Int32) (h0 : Heap) (n0 : Nat) (v : Option Value) (h : Heap) (L : List Loc) : Prop := v = some (.int 5) ∧ Fr n0 L ∧ h = h0
theorem ef_rmMir1 (m : MethodId) (x0 : Int32) : entryFrame m #[(.int x0)] 1 = mkF m 0 #[.val (.int x0)] [] := by first | (simp [entryFrame, mkF, argsToLocals, Value.category]; done) | rfl
set_option maxRecDepth 65536 in
set_option maxHeartbeats 40000000 in
theorem rmMir1 (l : Launch) (Z : State) (a0 : Array Value) (hw : ∀ d ∈ tables_1, d.before a0 Z = true) (ws : List Jvm.Cond) (p1 : Int32) (h0 : Heap) (n0 : Nat) (Z0 : n0 ≤ h0.size)  (c0 : ¬ (p1 = (0 : Int32))) (c1 : p1 = (1 : Int32)) :
    MetFree l (⟨"com/example/ophion/ophion/runtime/CompareOpSwappedPinLaw", "mirror", "(I)I"⟩ : MethodName) (head1 (Jvm.Cond.code (⟨"com/example/ophion/ophion/runtime/CompareOpSwappedPinLaw", "mirror", "(I)I"⟩ : MethodName) method_3_code 1 (some .int) :: ws) ({ frames := 0, cells := 0, slots := 0, locals := 0 } : Room)) (fun a U => a = #[(.int p1)] ∧ Z.Warmed39 U.vm ∧ U.heap = h0) (fun _ _ _ _ _ => True) (fun _ U o U' => ∃ v L, o = .returned v ∧ Q_rmMir1 Z p1 h0 n0 v U'.heap L ∧ FrameEnd U o U' L ({ frames := 0, cells := 0, slots := 0, locals := 0 } : Room).cells ({ frames := 0, cells := 0, slots := 0, locals := 0 } : Room).slots) := by
  refine MetFree.of_bodySF (plainFor_of_name pn_2) hisR ?_
  intro p e s m args below meth c s₁ Bd hml0 hP hK
  obtain ⟨rfl, hZ, hh⟩ := hP
  have hx := Bd.exec
  have hby := Bd.bytes
  have hml : c.maxLocals = 1 := hml0
  have hown : s.vm.findClass "com/example/ophion/ophion/runtime/CompareOpSwappedPinLaw" = some m.cls := findClass_of_methodNamed Bd.named
  have hnm := (name_of_methodNamed Bd.named Bd.method).1
  have X0 : Stand p l e ({ frames := 0, cells := 0, slots := 0, locals := 0 } : Room) s m #[(.int p1)] below meth c s₁ [] 0 0 := Stand.of_body Bd
  have e0 : s₁.heap = h0 := by rw [← hh, Bd.state]; rfl
  have N0 := Fr.nil n0
  refine own_go (own_lift (fun t k => castTop (ef_rmMir1 m p1) k) ?_)
  show own_Go p.tables e below (s₁.setTop (mkF m 0 #[iv p1] [])) _
  have sg1 : ∀ t, Steps p.tables e below (s₁.setTop (mkF m 12 #[iv p1] [(.int 5)])) t → Steps p.tables e below (s₁.setTop (mkF m 0 #[iv p1] [])) t := by
    intro t k
    refine XS.iloadN X0.here hx rfl (hb hby d4_0) rfl ?_
    show Steps p.tables e below (s₁.setTop (mkF m 1 #[iv p1] [(.int p1)])) _
    refine XS.ifYes X0.here hx rfl (pc0 := 1) (pc' := 6) rfl (hb hby d4_1) rfl ((if0 _ _).trans (feq c0).2) (by decide) (by decide) ?_
    show Steps p.tables e below (s₁.setTop (mkF m 6 #[iv p1] [])) _
    refine XS.iloadN X0.here hx rfl (hb hby d4_6) rfl ?_
    show Steps p.tables e below (s₁.setTop (mkF m 7 #[iv p1] [(.int p1)])) _
    refine XS.iconst X0.here hx rfl (hb hby d4_7) ?_
    show Steps p.tables e below (s₁.setTop (mkF m 8 #[iv p1] [(.int 1), (.int p1)])) _
    refine XS.icmpNo X0.here hx rfl (hb hby d4_8) rfl (teq c1).2 ?_
    show Steps p.tables e below (s₁.setTop (mkF m 11 #[iv p1] [])) _
    refine XS.iconst X0.here hx rfl (hb hby d4_11) ?_
    show Steps p.tables e below (s₁.setTop (mkF m 12 #[iv p1] [(.int 5)])) _
    exact k
  refine own_lift sg1 ?_
  show own_Go p.tables e below (s₁.setTop (mkF m 12 #[iv p1] [(.int 5)])) _
  obtain ⟨fs, hr, hrun, hended, hW, hsame⟩ := X0.leave (v := some (.int 5)) (fun h => by rw [Bd.returns] at h; cases h)
  refine ⟨_, _, ?_, hrun, hended, _, _, rfl, ?_, ⟨_, rfl⟩, hW, hsame.mono (by decide) (by decide)⟩
  · exact retI X0 hx Bd.returns (hb hby d4_12) hr
  · show Q_rmMir1 Z p1 h0 n0 _ s₁.heap _
    rw [e0]
    exact ⟨rfl, N0, rfl⟩
theorem d4_13 : decode method_3_code 13 = .ok (.iload_n 0, 1) := by decide +kernel
theorem d4_14 : decode method_3_code 14 = .ok (.iconst 4, 1) := by decide +kernel
theorem d4_15 : decode method_3_code 15 = .ok (.if_icmp .ne 5, 3) := by decide +kernel
theorem d4_18 : decode method_3_code 18 = .ok (.iconst 0, 1) := by decide +kernel
theorem d4_19 : decode method_3_code 19 = .ok (.ireturn, 1) := by decide +kernel
def Q_rmMir4 (Z : State) (p1 : Int32) (h0 : Heap) (n0 : Nat) (v : Option Value) (h : Heap) (L : List Loc) : Prop := v = some (.int 0) ∧ Fr n0 L ∧ h = h0
theorem ef_rmMir4 (m : MethodId) (x0 : Int32) : entryFrame m #[(.int x0)] 1 = mkF m 0 #[.val (.int x0)] [] := by first | (simp [entryFrame, mkF, argsToLocals, Value.category]; done) | rfl
set_option maxRecDepth 65536 in
set_option maxHeartbeats 40000000 in
theorem rmMir4 (l : Launch) (Z : State) (a0 : Array Value) (hw : ∀ d ∈ tables_1, d.before a0 Z = true) (ws : List Jvm.Cond) (p1 : Int32) (h0 : Heap) (n0 : Nat) (Z0 : n0 ≤ h0.size)  (c0 : ¬ (p1 = (0 : Int32))) (c1 : ¬ (p1 = (1 : Int32))) (c4 : p1 = (4 : Int32)) :
    MetFree l (⟨"com/example/ophion/ophion/runtime/CompareOpSwappedPinLaw", "mirror", "(I)I"⟩ : MethodName) (head1 (Jvm.Cond.code (⟨"com/example/ophion/ophion/runtime/CompareOpSwappedPinLaw", "mirror", "(I)I"⟩ : MethodName) method_3_code 1 (some .int) :: ws) ({ frames := 0, cells := 0, slots := 0, locals := 0 } : Room)) (fun a U => a = #[(.int p1)] ∧ Z.Warmed39 U.vm ∧ U.heap = h0) (fun _ _ _ _ _ => True) (fun _ U o U' => ∃ v L, o = .returned v ∧ Q_rmMir4 Z p1 h0 n0 v U'.heap L ∧ FrameEnd U o U' L ({ frames := 0, cells := 0, slots := 0, locals := 0 } : Room).cells ({ frames := 0, cells := 0, slots := 0, locals := 0 } : Room).slots) := by
  refine MetFree.of_bodySF (plainFor_of_name pn_2) hisR ?_
  intro p e s m args below meth c s₁ Bd hml0 hP hK
  obtain ⟨rfl, hZ, hh⟩ := hP
  have hx := Bd.exec
  have hby := Bd.bytes
  have hml : c.maxLocals = 1 := hml0
  have hown : s.vm.findClass "com/example/ophion/ophion/runtime/CompareOpSwappedPinLaw" = some m.cls := findClass_of_methodNamed Bd.named
  have hnm := (name_of_methodNamed Bd.named Bd.method).1
  have X0 : Stand p l e ({ frames := 0, cells := 0, slots := 0, locals := 0 } : Room) s m #[(.int p1)] below meth c s₁ [] 0 0 := Stand.of_body Bd
  have e0 : s₁.heap = h0 := by rw [← hh, Bd.state]; rfl
  have N0 := Fr.nil n0
  refine own_go (own_lift (fun t k => castTop (ef_rmMir4 m p1) k) ?_)
  show own_Go p.tables e below (s₁.setTop (mkF m 0 #[iv p1] [])) _
  have sg1 : ∀ t, Steps p.tables e below (s₁.setTop (mkF m 19 #[iv p1] [(.int 0)])) t → Steps p.tables e below (s₁.setTop (mkF m 0 #[iv p1] [])) t := by
    intro t k
    refine XS.iloadN X0.here hx rfl (hb hby d4_0) rfl ?_
    show Steps p.tables e below (s₁.setTop (mkF m 1 #[iv p1] [(.int p1)])) _
    refine XS.ifYes X0.here hx rfl (pc0 := 1) (pc' := 6) rfl (hb hby d4_1) rfl ((if0 _ _).trans (feq c0).2) (by decide) (by decide) ?_
    show Steps p.tables e below (s₁.setTop (mkF m 6 #[iv p1] [])) _
    refine XS.iloadN X0.here hx rfl (hb hby d4_6) rfl ?_
    show Steps p.tables e below (s₁.setTop (mkF m 7 #[iv p1] [(.int p1)])) _
    refine XS.iconst X0.here hx rfl (hb hby d4_7) ?_
    show Steps p.tables e below (s₁.setTop (mkF m 8 #[iv p1] [(.int 1), (.int p1)])) _
    refine XS.icmpYes X0.here hx rfl (pc0 := 8) (pc' := 13) rfl (hb hby d4_8) rfl (feq c1).2 (by decide) (by decide) ?_
    show Steps p.tables e below (s₁.setTop (mkF m 13 #[iv p1] [])) _
    refine XS.iloadN X0.here hx rfl (hb hby d4_13) rfl ?_
    show Steps p.tables e below (s₁.setTop (mkF m 14 #[iv p1] [(.int p1)])) _
    refine XS.iconst X0.here hx rfl (hb hby d4_14) ?_
    show Steps p.tables e below (s₁.setTop (mkF m 15 #[iv p1] [(.int 4), (.int p1)])) _
    refine XS.icmpNo X0.here hx rfl (hb hby d4_15) rfl (teq c4).2 ?_
    show Steps p.tables e below (s₁.setTop (mkF m 18 #[iv p1] [])) _
    refine XS.iconst X0.here hx rfl (hb hby d4_18) ?_
    show Steps p.tables e below (s₁.setTop (mkF m 19 #[iv p1] [(.int 0)])) _
    exact k
  refine own_lift sg1 ?_
  show own_Go p.tables e below (s₁.setTop (mkF m 19 #[iv p1] [(.int 0)])) _
  obtain ⟨fs, hr, hrun, hended, hW, hsame⟩ := X0.leave (v := some (.int 0)) (fun h => by rw [Bd.returns] at h; cases h)
  refine ⟨_, _, ?_, hrun, hended, _, _, rfl, ?_, ⟨_, rfl⟩, hW, hsame.mono (by decide) (by decide)⟩
  · exact retI X0 hx Bd.returns (hb hby d4_19) hr
  · show Q_rmMir4 Z p1 h0 n0 _ s₁.heap _
    rw [e0]
    exact ⟨rfl, N0, rfl⟩
theorem d4_20 : decode method_3_code 20 = .ok (.iload_n 0, 1) := by decide +kernel
theorem d4_21 : decode method_3_code 21 = .ok (.iconst 5, 1) := by decide +kernel
theorem d4_22 : decode method_3_code 22 = .ok (.if_icmp .ne 5, 3) := by decide +kernel
theorem d4_25 : decode method_3_code 25 = .ok (.iconst 1, 1) := by decide +kernel
theorem d4_26 : decode method_3_code 26 = .ok (.ireturn, 1) := by decide +kernel
def Q_rmMir5 (Z : State) (p1 : Int32) (h0 : Heap) (n0 : Nat) (v : Option Value) (h : Heap) (L : List Loc) : Prop := v = some (.int 1) ∧ Fr n0 L ∧ h = h0
theorem ef_rmMir5 (m : MethodId) (x0 : Int32) : entryFrame m #[(.int x0)] 1 = mkF m 0 #[.val (.int x0)] [] := by first | (simp [entryFrame, mkF, argsToLocals, Value.category]; done) | rfl
set_option maxRecDepth 65536 in
set_option maxHeartbeats 40000000 in
theorem rmMir5 (l : Launch) (Z : State) (a0 : Array Value) (hw : ∀ d ∈ tables_1, d.before a0 Z = true) (ws : List Jvm.Cond) (p1 : Int32) (h0 : Heap) (n0 : Nat) (Z0 : n0 ≤ h0.size)  (c0 : ¬ (p1 = (0 : Int32))) (c1 : ¬ (p1 = (1 : Int32))) (c4 : ¬ (p1 = (4 : Int32))) (c5 : p1 = (5 : Int32)) :
    MetFree l (⟨"com/example/ophion/ophion/runtime/CompareOpSwappedPinLaw", "mirror", "(I)I"⟩ : MethodName) (head1 (Jvm.Cond.code (⟨"com/example/ophion/ophion/runtime/CompareOpSwappedPinLaw", "mirror", "(I)I"⟩ : MethodName) method_3_code 1 (some .int) :: ws) ({ frames := 0, cells := 0, slots := 0, locals := 0 } : Room)) (fun a U => a = #[(.int p1)] ∧ Z.Warmed39 U.vm ∧ U.heap = h0) (fun _ _ _ _ _ => True) (fun _ U o U' => ∃ v L, o = .returned v ∧ Q_rmMir5 Z p1 h0 n0 v U'.heap L ∧ FrameEnd U o U' L ({ frames := 0, cells := 0, slots := 0, locals := 0 } : Room).cells ({ frames := 0, cells := 0, slots := 0, locals := 0 } : Room).slots) := by
  refine MetFree.of_bodySF (plainFor_of_name pn_2) hisR ?_
  intro p e s m args below meth c s₁ Bd hml0 hP hK
  obtain ⟨rfl, hZ, hh⟩ := hP
  have hx := Bd.exec
  have hby := Bd.bytes
  have hml : c.maxLocals = 1 := hml0
  have hown : s.vm.findClass "com/example/ophion/ophion/runtime/CompareOpSwappedPinLaw" = some m.cls := findClass_of_methodNamed Bd.named
  have hnm := (name_of_methodNamed Bd.named Bd.method).1
  have X0 : Stand p l e ({ frames := 0, cells := 0, slots := 0, locals := 0 } : Room) s m #[(.int p1)] below meth c s₁ [] 0 0 := Stand.of_body Bd
  have e0 : s₁.heap = h0 := by rw [← hh, Bd.state]; rfl
  have N0 := Fr.nil n0
  refine own_go (own_lift (fun t k => castTop (ef_rmMir5 m p1) k) ?_)
  show own_Go p.tables e below (s₁.setTop (mkF m 0 #[iv p1] [])) _
  have sg1 : ∀ t, Steps p.tables e below (s₁.setTop (mkF m 26 #[iv p1] [(.int 1)])) t → Steps p.tables e below (s₁.setTop (mkF m 0 #[iv p1] [])) t := by
    intro t k
    refine XS.iloadN X0.here hx rfl (hb hby d4_0) rfl ?_
    show Steps p.tables e below (s₁.setTop (mkF m 1 #[iv p1] [(.int p1)])) _
    refine XS.ifYes X0.here hx rfl (pc0 := 1) (pc' := 6) rfl (hb hby d4_1) rfl ((if0 _ _).trans (feq c0).2) (by decide) (by decide) ?_
    show Steps p.tables e below (s₁.setTop (mkF m 6 #[iv p1] [])) _
    refine XS.iloadN X0.here hx rfl (hb hby d4_6) rfl ?_
    show Steps p.tables e below (s₁.setTop (mkF m 7 #[iv p1] [(.int p1)])) _
    refine XS.iconst X0.here hx rfl (hb hby d4_7) ?_
    show Steps p.tables e below (s₁.setTop (mkF m 8 #[iv p1] [(.int 1), (.int p1)])) _
    refine XS.icmpYes X0.here hx rfl (pc0 := 8) (pc' := 13) rfl (hb hby d4_8) rfl (feq c1).2 (by decide) (by decide) ?_
    show Steps p.tables e below (s₁.setTop (mkF m 13 #[iv p1] [])) _
    refine XS.iloadN X0.here hx rfl (hb hby d4_13) rfl ?_
    show Steps p.tables e below (s₁.setTop (mkF m 14 #[iv p1] [(.int p1)])) _
    refine XS.iconst X0.here hx rfl (hb hby d4_14) ?_
    show Steps p.tables e below (s₁.setTop (mkF m 15 #[iv p1] [(.int 4), (.int p1)])) _
    refine XS.icmpYes X0.here hx rfl (pc0 := 15) (pc' := 20) rfl (hb hby d4_15) rfl (feq c4).2 (by decide) (by decide) ?_
    show Steps p.tables e below (s₁.setTop (mkF m 20 #[iv p1] [])) _
    refine XS.iloadN X0.here hx rfl (hb hby d4_20) rfl ?_
    show Steps p.tables e below (s₁.setTop (mkF m 21 #[iv p1] [(.int p1)])) _
    refine XS.iconst X0.here hx rfl (hb hby d4_21) ?_
    show Steps p.tables e below (s₁.setTop (mkF m 22 #[iv p1] [(.int 5), (.int p1)])) _
    refine XS.icmpNo X0.here hx rfl (hb hby d4_22) rfl (teq c5).2 ?_
    show Steps p.tables e below (s₁.setTop (mkF m 25 #[iv p1] [])) _
    refine XS.iconst X0.here hx rfl (hb hby d4_25) ?_
    show Steps p.tables e below (s₁.setTop (mkF m 26 #[iv p1] [(.int 1)])) _
    exact k
  refine own_lift sg1 ?_
  show own_Go p.tables e below (s₁.setTop (mkF m 26 #[iv p1] [(.int 1)])) _
  obtain ⟨fs, hr, hrun, hended, hW, hsame⟩ := X0.leave (v := some (.int 1)) (fun h => by rw [Bd.returns] at h; cases h)
  refine ⟨_, _, ?_, hrun, hended, _, _, rfl, ?_, ⟨_, rfl⟩, hW, hsame.mono (by decide) (by decide)⟩
  · exact retI X0 hx Bd.returns (hb hby d4_26) hr
  · show Q_rmMir5 Z p1 h0 n0 _ s₁.heap _
    rw [e0]
    exact ⟨rfl, N0, rfl⟩
theorem d4_27 : decode method_3_code 27 = .ok (.iload_n 0, 1) := by decide +kernel
theorem d4_28 : decode method_3_code 28 = .ok (.ireturn, 1) := by decide +kernel
def Q_rmMirD (Z : State) (p1 : Int32) (h0 : Heap) (n0 : Nat) (v : Option Value) (h : Heap) (L : List Loc) : Prop := v = some (.int p1) ∧ Fr n0 L ∧ h = h0
theorem ef_rmMirD (m : MethodId) (x0 : Int32) : entryFrame m #[(.int x0)] 1 = mkF m 0 #[.val (.int x0)] [] := by first | (simp [entryFrame, mkF, argsToLocals, Value.category]; done) | rfl
set_option maxRecDepth 65536 in
set_option maxHeartbeats 40000000 in
theorem rmMirD (l : Launch) (Z : State) (a0 : Array Value) (hw : ∀ d ∈ tables_1, d.before a0 Z = true) (ws : List Jvm.Cond) (p1 : Int32) (h0 : Heap) (n0 : Nat) (Z0 : n0 ≤ h0.size)  (c0 : ¬ (p1 = (0 : Int32))) (c1 : ¬ (p1 = (1 : Int32))) (c4 : ¬ (p1 = (4 : Int32))) (c5 : ¬ (p1 = (5 : Int32))) :
    MetFree l (⟨"com/example/ophion/ophion/runtime/CompareOpSwappedPinLaw", "mirror", "(I)I"⟩ : MethodName) (head1 (Jvm.Cond.code (⟨"com/example/ophion/ophion/runtime/CompareOpSwappedPinLaw", "mirror", "(I)I"⟩ : MethodName) method_3_code 1 (some .int) :: ws) ({ frames := 0, cells := 0, slots := 0, locals := 0 } : Room)) (fun a U => a = #[(.int p1)] ∧ Z.Warmed39 U.vm ∧ U.heap = h0) (fun _ _ _ _ _ => True) (fun _ U o U' => ∃ v L, o = .returned v ∧ Q_rmMirD Z p1 h0 n0 v U'.heap L ∧ FrameEnd U o U' L ({ frames := 0, cells := 0, slots := 0, locals := 0 } : Room).cells ({ frames := 0, cells := 0, slots := 0, locals := 0 } : Room).slots) := by
  refine MetFree.of_bodySF (plainFor_of_name pn_2) hisR ?_
  intro p e s m args below meth c s₁ Bd hml0 hP hK
  obtain ⟨rfl, hZ, hh⟩ := hP
  have hx := Bd.exec
  have hby := Bd.bytes
  have hml : c.maxLocals = 1 := hml0
  have hown : s.vm.findClass "com/example/ophion/ophion/runtime/CompareOpSwappedPinLaw" = some m.cls := findClass_of_methodNamed Bd.named
  have hnm := (name_of_methodNamed Bd.named Bd.method).1
  have X0 : Stand p l e ({ frames := 0, cells := 0, slots := 0, locals := 0 } : Room) s m #[(.int p1)] below meth c s₁ [] 0 0 := Stand.of_body Bd
  have e0 : s₁.heap = h0 := by rw [← hh, Bd.state]; rfl
  have N0 := Fr.nil n0
  refine own_go (own_lift (fun t k => castTop (ef_rmMirD m p1) k) ?_)
  show own_Go p.tables e below (s₁.setTop (mkF m 0 #[iv p1] [])) _
  have sg1 : ∀ t, Steps p.tables e below (s₁.setTop (mkF m 28 #[iv p1] [(.int p1)])) t → Steps p.tables e below (s₁.setTop (mkF m 0 #[iv p1] [])) t := by
    intro t k
    refine XS.iloadN X0.here hx rfl (hb hby d4_0) rfl ?_
    show Steps p.tables e below (s₁.setTop (mkF m 1 #[iv p1] [(.int p1)])) _
    refine XS.ifYes X0.here hx rfl (pc0 := 1) (pc' := 6) rfl (hb hby d4_1) rfl ((if0 _ _).trans (feq c0).2) (by decide) (by decide) ?_
    show Steps p.tables e below (s₁.setTop (mkF m 6 #[iv p1] [])) _
    refine XS.iloadN X0.here hx rfl (hb hby d4_6) rfl ?_
    show Steps p.tables e below (s₁.setTop (mkF m 7 #[iv p1] [(.int p1)])) _
    refine XS.iconst X0.here hx rfl (hb hby d4_7) ?_
    show Steps p.tables e below (s₁.setTop (mkF m 8 #[iv p1] [(.int 1), (.int p1)])) _
    refine XS.icmpYes X0.here hx rfl (pc0 := 8) (pc' := 13) rfl (hb hby d4_8) rfl (feq c1).2 (by decide) (by decide) ?_
    show Steps p.tables e below (s₁.setTop (mkF m 13 #[iv p1] [])) _
    refine XS.iloadN X0.here hx rfl (hb hby d4_13) rfl ?_
    show Steps p.tables e below (s₁.setTop (mkF m 14 #[iv p1] [(.int p1)])) _
    refine XS.iconst X0.here hx rfl (hb hby d4_14) ?_
    show Steps p.tables e below (s₁.setTop (mkF m 15 #[iv p1] [(.int 4), (.int p1)])) _
    refine XS.icmpYes X0.here hx rfl (pc0 := 15) (pc' := 20) rfl (hb hby d4_15) rfl (feq c4).2 (by decide) (by decide) ?_
    show Steps p.tables e below (s₁.setTop (mkF m 20 #[iv p1] [])) _
    refine XS.iloadN X0.here hx rfl (hb hby d4_20) rfl ?_
    show Steps p.tables e below (s₁.setTop (mkF m 21 #[iv p1] [(.int p1)])) _
    refine XS.iconst X0.here hx rfl (hb hby d4_21) ?_
    show Steps p.tables e below (s₁.setTop (mkF m 22 #[iv p1] [(.int 5), (.int p1)])) _
    refine XS.icmpYes X0.here hx rfl (pc0 := 22) (pc' := 27) rfl (hb hby d4_22) rfl (feq c5).2 (by decide) (by decide) ?_
    show Steps p.tables e below (s₁.setTop (mkF m 27 #[iv p1] [])) _
    refine XS.iloadN X0.here hx rfl (hb hby d4_27) rfl ?_
    show Steps p.tables e below (s₁.setTop (mkF m 28 #[iv p1] [(.int p1)])) _
    exact k
  refine own_lift sg1 ?_
  show own_Go p.tables e below (s₁.setTop (mkF m 28 #[iv p1] [(.int p1)])) _
  obtain ⟨fs, hr, hrun, hended, hW, hsame⟩ := X0.leave (v := some (.int p1)) (fun h => by rw [Bd.returns] at h; cases h)
  refine ⟨_, _, ?_, hrun, hended, _, _, rfl, ?_, ⟨_, rfl⟩, hW, hsame.mono (by decide) (by decide)⟩
  · exact retI X0 hx Bd.returns (hb hby d4_28) hr
  · show Q_rmMirD Z p1 h0 n0 _ s₁.heap _
    rw [e0]
    exact ⟨rfl, N0, rfl⟩
theorem d5_0 : decode prog_5_method_6_code 0 = .ok (.aload_n 0, 1) := by decide +kernel
theorem d5_1 : decode prog_5_method_6_code 1 = .ok (.invokevirtual 48, 3) := by decide +kernel
theorem d5_4 : decode prog_5_method_6_code 4 = .ok (.tableswitch 56 0 5 #[40, 44, 56, 56, 48, 52], 40) := by decide +kernel
theorem d5_44 : decode prog_5_method_6_code 44 = .ok (.getstatic 16, 3) := by decide +kernel
theorem d5_47 : decode prog_5_method_6_code 47 = .ok (.areturn, 1) := by decide +kernel
def Q_rmSw0 (Z : State) (a1 : Addr) (r1 : Addr) (h0 : Heap) (n0 : Nat) (v : Option Value) (h : Heap) (L : List Loc) : Prop := v = some (.ref r1) ∧ Fr n0 L ∧ h = h0
theorem ef_rmSw0 (m : MethodId) (x0 : Addr) : entryFrame m #[(.ref x0)] 1 = mkF m 0 #[.val (.ref x0)] [] := by first | (simp [entryFrame, mkF, argsToLocals, Value.category]; done) | rfl
set_option maxRecDepth 65536 in
set_option maxHeartbeats 40000000 in
theorem rmSw0 (l : Launch) (Z : State) (a0 : Array Value) (hw : ∀ d ∈ tables_1, d.before a0 Z = true) (ws : List Jvm.Cond) (a1 : Addr) (r1 : Addr) (h0 : Heap) (n0 : Nat) (Z0 : n0 ≤ h0.size) (F1 : Fld Z h0 a1 "java/lang/Enum" "ordinal" "I" (.int 0)) (E1 : Exa Z h0 a1 "com/example/ophion/ophion/runtime/CompareOp") (S1 : Sta Z h0 "com/example/ophion/ophion/runtime/CompareOp" "GREATER" "Lcom/example/ophion/ophion/runtime/CompareOp;" (.ref r1))  :
    MetFree l (⟨"com/example/ophion/ophion/runtime/CompareOp", "swapped", "()Lcom/example/ophion/ophion/runtime/CompareOp;"⟩ : MethodName) (head1 (Jvm.Cond.code (⟨"com/example/ophion/ophion/runtime/CompareOp", "swapped", "()Lcom/example/ophion/ophion/runtime/CompareOp;"⟩ : MethodName) prog_5_method_6_code 1 (some (.object "com/example/ophion/ophion/runtime/CompareOp")) :: ws) ({ frames := 1, cells := 0, slots := 0, locals := 12 } : Room)) (fun a U => a = #[(.ref a1)] ∧ Z.Warmed39 U.vm ∧ U.heap = h0) (fun _ _ _ _ _ => True) (fun _ U o U' => ∃ v L, o = .returned v ∧ Q_rmSw0 Z a1 r1 h0 n0 v U'.heap L ∧ FrameEnd U o U' L ({ frames := 1, cells := 0, slots := 0, locals := 12 } : Room).cells ({ frames := 1, cells := 0, slots := 0, locals := 12 } : Room).slots) := by
  refine MetFree.of_bodySF (plainFor_of_name pn_1) hisR ?_
  intro p e s m args below meth c s₁ Bd hml0 hP hK
  obtain ⟨rfl, hZ, hh⟩ := hP
  have hx := Bd.exec
  have hby := Bd.bytes
  have hml : c.maxLocals = 1 := hml0
  have hown : s.vm.findClass "com/example/ophion/ophion/runtime/CompareOp" = some m.cls := findClass_of_methodNamed Bd.named
  have hnm := (name_of_methodNamed Bd.named Bd.method).1
  have X0 : Stand p l e ({ frames := 1, cells := 0, slots := 0, locals := 12 } : Room) s m #[(.ref a1)] below meth c s₁ [] 0 0 := Stand.of_body Bd
  have e0 : s₁.heap = h0 := by rw [← hh, Bd.state]; rfl
  have N0 := Fr.nil n0
  refine own_go (own_lift (fun t k => castTop (ef_rmSw0 m a1) k) ?_)
  show own_Go p.tables e below (s₁.setTop (mkF m 0 #[rv a1] [])) _
  have sg1 : ∀ t, Steps p.tables e below (s₁.setTop (mkF m 1 #[rv a1] [(.ref a1)])) t → Steps p.tables e below (s₁.setTop (mkF m 0 #[rv a1] [])) t := by
    intro t k
    refine XS.aloadN X0.here hx rfl (hb hby d5_0) rfl rfl ?_
    show Steps p.tables e below (s₁.setTop (mkF m 1 #[rv a1] [(.ref a1)])) _
    exact k
  refine own_lift sg1 ?_
  show own_Go p.tables e below (s₁.setTop (mkF m 1 #[rv a1] [(.ref a1)])) _
  obtain ⟨cq2, kq2, q2a, q2b, q2c⟩ := isOf hZ e0 E1
  obtain ⟨_, _, ⟨T2, Lx2, kx2, nx2⟩, -, X2, ⟨Lc2, hQ2, lx2, yx2, zx2⟩, st2⟩ := X0.virtualBackUp hx (x := (⟨"com/example/ophion/ophion/runtime/CompareOp", "ordinal", "()I"⟩ : MethodName)) (y := (⟨"java/lang/Enum", "ordinal", "()I"⟩ : MethodName)) hown (mvT hZ (wd hw 18 rfl)) (mvT hZ (wd hw 19 rfl)) (mvT hZ (wd hw 20 rfl)) (by decide) (mvT hZ (wd hw 22 rfl)) (mvT hZ (wd hw 21 rfl)) (backOf (W := 0) (rmOrd l Z a0 hw [] a1 (0 : Int32) h0 n0 Z0 F1) hZ (wd hw 24 rfl) (wd hw 23 rfl) (by decide) (by decide)) q2a q2c (g := (mkF m 1 #[rv a1] [(.ref a1)])) rfl (by rw [hml]; rfl) (Steps.refl _) (argsL := []) (rest := []) (lenOf pd_0 rfl) rfl (by show 2 * 0 + _ ≤ _; exact Nat.le_of_eq rfl) (hb hby d5_1) (fun _ _ => ⟨rfl, e0, (by decide : 0 + 0 ≤ _), (by decide : 0 + 0 ≤ _)⟩)
  dsimp only [Pt.U, Pt.locs, Pt.cells, Pt.slots] at X2 lx2 yx2 zx2 st2 hQ2
  subst lx2 yx2 zx2
  obtain ⟨rfl, N2q, e2⟩ := hQ2
  have N2 := Fr.app N0 N2q
  refine own_lift (fun t k => st2.trans k) ?_
  show own_Go p.tables e below (T2.setTop (mkF m 4 #[rv a1] [(.int 0)])) _
  have sg3 : ∀ t, Steps p.tables e below (T2.setTop (mkF m 44 #[rv a1] [])) t → Steps p.tables e below (T2.setTop (mkF m 4 #[rv a1] [(.int 0)])) t := by
    intro t k
    refine XS.tswIn X2.here hx rfl (pc0 := 4) (pc' := 44) rfl (hb hby d5_4) rfl (by decide) (o := 40) (by decide) (by decide) (by decide) ?_
    show Steps p.tables e below (T2.setTop (mkF m 44 #[rv a1] [])) _
    exact k
  refine own_lift sg3 ?_
  show own_Go p.tables e below (T2.setTop (mkF m 44 #[rv a1] [])) _
  obtain ⟨T4, X4, e4, st4⟩ := getS X2 hx hZ hown (host := "") (wd hw 27 rfl) Via.refl e2 S1 (g := (mkF m 44 #[rv a1] [])) rfl (hb hby d5_44)
  refine own_lift st4 ?_
  show own_Go p.tables e below (T4.setTop (mkF m 47 #[rv a1] [(.ref r1)])) _
  obtain ⟨fs, hr, hrun, hended, hW, hsame⟩ := X4.leave (v := some (.ref r1)) (fun h => by rw [Bd.returns] at h; cases h)
  refine ⟨_, _, ?_, hrun, hended, _, _, rfl, ?_, ⟨_, rfl⟩, hW, hsame.mono (by decide) (by decide)⟩
  · exact retOut X4 hx Bd.returns rfl (Or.inr (Or.inr (Or.inr (Or.inr ⟨rfl, rfl, rfl⟩)))) (hb hby d5_47) hr
  · show Q_rmSw0 Z a1 r1 h0 n0 _ T4.heap _
    rw [e4]
    exact ⟨rfl, N2, rfl⟩
theorem d5_48 : decode prog_5_method_6_code 48 = .ok (.getstatic 19, 3) := by decide +kernel
theorem d5_51 : decode prog_5_method_6_code 51 = .ok (.areturn, 1) := by decide +kernel
def Q_rmSw1 (Z : State) (a1 : Addr) (r1 : Addr) (h0 : Heap) (n0 : Nat) (v : Option Value) (h : Heap) (L : List Loc) : Prop := v = some (.ref r1) ∧ Fr n0 L ∧ h = h0
theorem ef_rmSw1 (m : MethodId) (x0 : Addr) : entryFrame m #[(.ref x0)] 1 = mkF m 0 #[.val (.ref x0)] [] := by first | (simp [entryFrame, mkF, argsToLocals, Value.category]; done) | rfl
set_option maxRecDepth 65536 in
set_option maxHeartbeats 40000000 in
theorem rmSw1 (l : Launch) (Z : State) (a0 : Array Value) (hw : ∀ d ∈ tables_1, d.before a0 Z = true) (ws : List Jvm.Cond) (a1 : Addr) (r1 : Addr) (h0 : Heap) (n0 : Nat) (Z0 : n0 ≤ h0.size) (F1 : Fld Z h0 a1 "java/lang/Enum" "ordinal" "I" (.int 1)) (E1 : Exa Z h0 a1 "com/example/ophion/ophion/runtime/CompareOp") (S1 : Sta Z h0 "com/example/ophion/ophion/runtime/CompareOp" "GREATER_EQUAL" "Lcom/example/ophion/ophion/runtime/CompareOp;" (.ref r1))  :
    MetFree l (⟨"com/example/ophion/ophion/runtime/CompareOp", "swapped", "()Lcom/example/ophion/ophion/runtime/CompareOp;"⟩ : MethodName) (head1 (Jvm.Cond.code (⟨"com/example/ophion/ophion/runtime/CompareOp", "swapped", "()Lcom/example/ophion/ophion/runtime/CompareOp;"⟩ : MethodName) prog_5_method_6_code 1 (some (.object "com/example/ophion/ophion/runtime/CompareOp")) :: ws) ({ frames := 1, cells := 0, slots := 0, locals := 12 } : Room)) (fun a U => a = #[(.ref a1)] ∧ Z.Warmed39 U.vm ∧ U.heap = h0) (fun _ _ _ _ _ => True) (fun _ U o U' => ∃ v L, o = .returned v ∧ Q_rmSw1 Z a1 r1 h0 n0 v U'.heap L ∧ FrameEnd U o U' L ({ frames := 1, cells := 0, slots := 0, locals := 12 } : Room).cells ({ frames := 1, cells := 0, slots := 0, locals := 12 } : Room).slots) := by
  refine MetFree.of_bodySF (plainFor_of_name pn_1) hisR ?_
  intro p e s m args below meth c s₁ Bd hml0 hP hK
  obtain ⟨rfl, hZ, hh⟩ := hP
  have hx := Bd.exec
  have hby := Bd.bytes
  have hml : c.maxLocals = 1 := hml0
  have hown : s.vm.findClass "com/example/ophion/ophion/runtime/CompareOp" = some m.cls := findClass_of_methodNamed Bd.named
  have hnm := (name_of_methodNamed Bd.named Bd.method).1
  have X0 : Stand p l e ({ frames := 1, cells := 0, slots := 0, locals := 12 } : Room) s m #[(.ref a1)] below meth c s₁ [] 0 0 := Stand.of_body Bd
  have e0 : s₁.heap = h0 := by rw [← hh, Bd.state]; rfl
  have N0 := Fr.nil n0
  refine own_go (own_lift (fun t k => castTop (ef_rmSw1 m a1) k) ?_)
  show own_Go p.tables e below (s₁.setTop (mkF m 0 #[rv a1] [])) _
  have sg1 : ∀ t, Steps p.tables e below (s₁.setTop (mkF m 1 #[rv a1] [(.ref a1)])) t → Steps p.tables e below (s₁.setTop (mkF m 0 #[rv a1] [])) t := by
    intro t k
    refine XS.aloadN X0.here hx rfl (hb hby d5_0) rfl rfl ?_
    show Steps p.tables e below (s₁.setTop (mkF m 1 #[rv a1] [(.ref a1)])) _
    exact k
  refine own_lift sg1 ?_
  show own_Go p.tables e below (s₁.setTop (mkF m 1 #[rv a1] [(.ref a1)])) _
  obtain ⟨cq2, kq2, q2a, q2b, q2c⟩ := isOf hZ e0 E1
  obtain ⟨_, _, ⟨T2, Lx2, kx2, nx2⟩, -, X2, ⟨Lc2, hQ2, lx2, yx2, zx2⟩, st2⟩ := X0.virtualBackUp hx (x := (⟨"com/example/ophion/ophion/runtime/CompareOp", "ordinal", "()I"⟩ : MethodName)) (y := (⟨"java/lang/Enum", "ordinal", "()I"⟩ : MethodName)) hown (mvT hZ (wd hw 18 rfl)) (mvT hZ (wd hw 19 rfl)) (mvT hZ (wd hw 20 rfl)) (by decide) (mvT hZ (wd hw 22 rfl)) (mvT hZ (wd hw 21 rfl)) (backOf (W := 0) (rmOrd l Z a0 hw [] a1 (1 : Int32) h0 n0 Z0 F1) hZ (wd hw 24 rfl) (wd hw 23 rfl) (by decide) (by decide)) q2a q2c (g := (mkF m 1 #[rv a1] [(.ref a1)])) rfl (by rw [hml]; rfl) (Steps.refl _) (argsL := []) (rest := []) (lenOf pd_0 rfl) rfl (by show 2 * 0 + _ ≤ _; exact Nat.le_of_eq rfl) (hb hby d5_1) (fun _ _ => ⟨rfl, e0, (by decide : 0 + 0 ≤ _), (by decide : 0 + 0 ≤ _)⟩)
  dsimp only [Pt.U, Pt.locs, Pt.cells, Pt.slots] at X2 lx2 yx2 zx2 st2 hQ2
  subst lx2 yx2 zx2
  obtain ⟨rfl, N2q, e2⟩ := hQ2
  have N2 := Fr.app N0 N2q
  refine own_lift (fun t k => st2.trans k) ?_
  show own_Go p.tables e below (T2.setTop (mkF m 4 #[rv a1] [(.int 1)])) _
  have sg3 : ∀ t, Steps p.tables e below (T2.setTop (mkF m 48 #[rv a1] [])) t → Steps p.tables e below (T2.setTop (mkF m 4 #[rv a1] [(.int 1)])) t := by
    intro t k
    refine XS.tswIn X2.here hx rfl (pc0 := 4) (pc' := 48) rfl (hb hby d5_4) rfl (by decide) (o := 44) (by decide) (by decide) (by decide) ?_
    show Steps p.tables e below (T2.setTop (mkF m 48 #[rv a1] [])) _
    exact k
  refine own_lift sg3 ?_
  show own_Go p.tables e below (T2.setTop (mkF m 48 #[rv a1] [])) _
  obtain ⟨T4, X4, e4, st4⟩ := getS X2 hx hZ hown (host := "") (wd hw 40 rfl) Via.refl e2 S1 (g := (mkF m 48 #[rv a1] [])) rfl (hb hby d5_48)
  refine own_lift st4 ?_
  show own_Go p.tables e below (T4.setTop (mkF m 51 #[rv a1] [(.ref r1)])) _
  obtain ⟨fs, hr, hrun, hended, hW, hsame⟩ := X4.leave (v := some (.ref r1)) (fun h => by rw [Bd.returns] at h; cases h)
  refine ⟨_, _, ?_, hrun, hended, _, _, rfl, ?_, ⟨_, rfl⟩, hW, hsame.mono (by decide) (by decide)⟩
  · exact retOut X4 hx Bd.returns rfl (Or.inr (Or.inr (Or.inr (Or.inr ⟨rfl, rfl, rfl⟩)))) (hb hby d5_51) hr
  · show Q_rmSw1 Z a1 r1 h0 n0 _ T4.heap _
    rw [e4]
    exact ⟨rfl, N2, rfl⟩
theorem d5_60 : decode prog_5_method_6_code 60 = .ok (.aload_n 0, 1) := by decide +kernel
theorem d5_61 : decode prog_5_method_6_code 61 = .ok (.areturn, 1) := by decide +kernel
def Q_rmSw2 (Z : State) (a1 : Addr) (h0 : Heap) (n0 : Nat) (v : Option Value) (h : Heap) (L : List Loc) : Prop := v = some (.ref a1) ∧ Fr n0 L ∧ h = h0
theorem ef_rmSw2 (m : MethodId) (x0 : Addr) : entryFrame m #[(.ref x0)] 1 = mkF m 0 #[.val (.ref x0)] [] := by first | (simp [entryFrame, mkF, argsToLocals, Value.category]; done) | rfl
set_option maxRecDepth 65536 in
set_option maxHeartbeats 40000000 in
theorem rmSw2 (l : Launch) (Z : State) (a0 : Array Value) (hw : ∀ d ∈ tables_1, d.before a0 Z = true) (ws : List Jvm.Cond) (a1 : Addr) (h0 : Heap) (n0 : Nat) (Z0 : n0 ≤ h0.size) (F1 : Fld Z h0 a1 "java/lang/Enum" "ordinal" "I" (.int 2)) (E1 : Exa Z h0 a1 "com/example/ophion/ophion/runtime/CompareOp")  :
    MetFree l (⟨"com/example/ophion/ophion/runtime/CompareOp", "swapped", "()Lcom/example/ophion/ophion/runtime/CompareOp;"⟩ : MethodName) (head1 (Jvm.Cond.code (⟨"com/example/ophion/ophion/runtime/CompareOp", "swapped", "()Lcom/example/ophion/ophion/runtime/CompareOp;"⟩ : MethodName) prog_5_method_6_code 1 (some (.object "com/example/ophion/ophion/runtime/CompareOp")) :: ws) ({ frames := 1, cells := 0, slots := 0, locals := 12 } : Room)) (fun a U => a = #[(.ref a1)] ∧ Z.Warmed39 U.vm ∧ U.heap = h0) (fun _ _ _ _ _ => True) (fun _ U o U' => ∃ v L, o = .returned v ∧ Q_rmSw2 Z a1 h0 n0 v U'.heap L ∧ FrameEnd U o U' L ({ frames := 1, cells := 0, slots := 0, locals := 12 } : Room).cells ({ frames := 1, cells := 0, slots := 0, locals := 12 } : Room).slots) := by
  refine MetFree.of_bodySF (plainFor_of_name pn_1) hisR ?_
  intro p e s m args below meth c s₁ Bd hml0 hP hK
  obtain ⟨rfl, hZ, hh⟩ := hP
  have hx := Bd.exec
  have hby := Bd.bytes
  have hml : c.maxLocals = 1 := hml0
  have hown : s.vm.findClass "com/example/ophion/ophion/runtime/CompareOp" = some m.cls := findClass_of_methodNamed Bd.named
  have hnm := (name_of_methodNamed Bd.named Bd.method).1
  have X0 : Stand p l e ({ frames := 1, cells := 0, slots := 0, locals := 12 } : Room) s m #[(.ref a1)] below meth c s₁ [] 0 0 := Stand.of_body Bd
  have e0 : s₁.heap = h0 := by rw [← hh, Bd.state]; rfl
  have N0 := Fr.nil n0
  refine own_go (own_lift (fun t k => castTop (ef_rmSw2 m a1) k) ?_)
  show own_Go p.tables e below (s₁.setTop (mkF m 0 #[rv a1] [])) _
  have sg1 : ∀ t, Steps p.tables e below (s₁.setTop (mkF m 1 #[rv a1] [(.ref a1)])) t → Steps p.tables e below (s₁.setTop (mkF m 0 #[rv a1] [])) t := by
    intro t k
    refine XS.aloadN X0.here hx rfl (hb hby d5_0) rfl rfl ?_
    show Steps p.tables e below (s₁.setTop (mkF m 1 #[rv a1] [(.ref a1)])) _
    exact k
  refine own_lift sg1 ?_
  show own_Go p.tables e below (s₁.setTop (mkF m 1 #[rv a1] [(.ref a1)])) _
  obtain ⟨cq2, kq2, q2a, q2b, q2c⟩ := isOf hZ e0 E1
  obtain ⟨_, _, ⟨T2, Lx2, kx2, nx2⟩, -, X2, ⟨Lc2, hQ2, lx2, yx2, zx2⟩, st2⟩ := X0.virtualBackUp hx (x := (⟨"com/example/ophion/ophion/runtime/CompareOp", "ordinal", "()I"⟩ : MethodName)) (y := (⟨"java/lang/Enum", "ordinal", "()I"⟩ : MethodName)) hown (mvT hZ (wd hw 18 rfl)) (mvT hZ (wd hw 19 rfl)) (mvT hZ (wd hw 20 rfl)) (by decide) (mvT hZ (wd hw 22 rfl)) (mvT hZ (wd hw 21 rfl)) (backOf (W := 0) (rmOrd l Z a0 hw [] a1 (2 : Int32) h0 n0 Z0 F1) hZ (wd hw 24 rfl) (wd hw 23 rfl) (by decide) (by decide)) q2a q2c (g := (mkF m 1 #[rv a1] [(.ref a1)])) rfl (by rw [hml]; rfl) (Steps.refl _) (argsL := []) (rest := []) (lenOf pd_0 rfl) rfl (by show 2 * 0 + _ ≤ _; exact Nat.le_of_eq rfl) (hb hby d5_1) (fun _ _ => ⟨rfl, e0, (by decide : 0 + 0 ≤ _), (by decide : 0 + 0 ≤ _)⟩)
  dsimp only [Pt.U, Pt.locs, Pt.cells, Pt.slots] at X2 lx2 yx2 zx2 st2 hQ2
  subst lx2 yx2 zx2
  obtain ⟨rfl, N2q, e2⟩ := hQ2
  have N2 := Fr.app N0 N2q
  refine own_lift (fun t k => st2.trans k) ?_
  show own_Go p.tables e below (T2.setTop (mkF m 4 #[rv a1] [(.int 2)])) _
  have sg3 : ∀ t, Steps p.tables e below (T2.setTop (mkF m 61 #[rv a1] [(.ref a1)])) t → Steps p.tables e below (T2.setTop (mkF m 4 #[rv a1] [(.int 2)])) t := by
    intro t k
    refine XS.tswIn X2.here hx rfl (pc0 := 4) (pc' := 60) rfl (hb hby d5_4) rfl (by decide) (o := 56) (by decide) (by decide) (by decide) ?_
    show Steps p.tables e below (T2.setTop (mkF m 60 #[rv a1] [])) _
    refine XS.aloadN X2.here hx rfl (hb hby d5_60) rfl rfl ?_
    show Steps p.tables e below (T2.setTop (mkF m 61 #[rv a1] [(.ref a1)])) _
    exact k
  refine own_lift sg3 ?_
  show own_Go p.tables e below (T2.setTop (mkF m 61 #[rv a1] [(.ref a1)])) _
  obtain ⟨fs, hr, hrun, hended, hW, hsame⟩ := X2.leave (v := some (.ref a1)) (fun h => by rw [Bd.returns] at h; cases h)
  refine ⟨_, _, ?_, hrun, hended, _, _, rfl, ?_, ⟨_, rfl⟩, hW, hsame.mono (by decide) (by decide)⟩
  · exact retOut X2 hx Bd.returns rfl (Or.inr (Or.inr (Or.inr (Or.inr ⟨rfl, rfl, rfl⟩)))) (hb hby d5_61) hr
  · show Q_rmSw2 Z a1 h0 n0 _ T2.heap _
    rw [e2]
    exact ⟨rfl, N2, rfl⟩
def Q_rmSw3 (Z : State) (a1 : Addr) (h0 : Heap) (n0 : Nat) (v : Option Value) (h : Heap) (L : List Loc) : Prop := v = some (.ref a1) ∧ Fr n0 L ∧ h = h0
theorem ef_rmSw3 (m : MethodId) (x0 : Addr) : entryFrame m #[(.ref x0)] 1 = mkF m 0 #[.val (.ref x0)] [] := by first | (simp [entryFrame, mkF, argsToLocals, Value.category]; done) | rfl
set_option maxRecDepth 65536 in
set_option maxHeartbeats 40000000 in
theorem rmSw3 (l : Launch) (Z : State) (a0 : Array Value) (hw : ∀ d ∈ tables_1, d.before a0 Z = true) (ws : List Jvm.Cond) (a1 : Addr) (h0 : Heap) (n0 : Nat) (Z0 : n0 ≤ h0.size) (F1 : Fld Z h0 a1 "java/lang/Enum" "ordinal" "I" (.int 3)) (E1 : Exa Z h0 a1 "com/example/ophion/ophion/runtime/CompareOp")  :
    MetFree l (⟨"com/example/ophion/ophion/runtime/CompareOp", "swapped", "()Lcom/example/ophion/ophion/runtime/CompareOp;"⟩ : MethodName) (head1 (Jvm.Cond.code (⟨"com/example/ophion/ophion/runtime/CompareOp", "swapped", "()Lcom/example/ophion/ophion/runtime/CompareOp;"⟩ : MethodName) prog_5_method_6_code 1 (some (.object "com/example/ophion/ophion/runtime/CompareOp")) :: ws) ({ frames := 1, cells := 0, slots := 0, locals := 12 } : Room)) (fun a U => a = #[(.ref a1)] ∧ Z.Warmed39 U.vm ∧ U.heap = h0) (fun _ _ _ _ _ => True) (fun _ U o U' => ∃ v L, o = .returned v ∧ Q_rmSw3 Z a1 h0 n0 v U'.heap L ∧ FrameEnd U o U' L ({ frames := 1, cells := 0, slots := 0, locals := 12 } : Room).cells ({ frames := 1, cells := 0, slots := 0, locals := 12 } : Room).slots) := by
  refine MetFree.of_bodySF (plainFor_of_name pn_1) hisR ?_
  intro p e s m args below meth c s₁ Bd hml0 hP hK
  obtain ⟨rfl, hZ, hh⟩ := hP
  have hx := Bd.exec
  have hby := Bd.bytes
  have hml : c.maxLocals = 1 := hml0
  have hown : s.vm.findClass "com/example/ophion/ophion/runtime/CompareOp" = some m.cls := findClass_of_methodNamed Bd.named
  have hnm := (name_of_methodNamed Bd.named Bd.method).1
  have X0 : Stand p l e ({ frames := 1, cells := 0, slots := 0, locals := 12 } : Room) s m #[(.ref a1)] below meth c s₁ [] 0 0 := Stand.of_body Bd
  have e0 : s₁.heap = h0 := by rw [← hh, Bd.state]; rfl
  have N0 := Fr.nil n0
  refine own_go (own_lift (fun t k => castTop (ef_rmSw3 m a1) k) ?_)
  show own_Go p.tables e below (s₁.setTop (mkF m 0 #[rv a1] [])) _
  have sg1 : ∀ t, Steps p.tables e below (s₁.setTop (mkF m 1 #[rv a1] [(.ref a1)])) t → Steps p.tables e below (s₁.setTop (mkF m 0 #[rv a1] [])) t := by
    intro t k
    refine XS.aloadN X0.here hx rfl (hb hby d5_0) rfl rfl ?_
    show Steps p.tables e below (s₁.setTop (mkF m 1 #[rv a1] [(.ref a1)])) _
    exact k
  refine own_lift sg1 ?_
  show own_Go p.tables e below (s₁.setTop (mkF m 1 #[rv a1] [(.ref a1)])) _
  obtain ⟨cq2, kq2, q2a, q2b, q2c⟩ := isOf hZ e0 E1
  obtain ⟨_, _, ⟨T2, Lx2, kx2, nx2⟩, -, X2, ⟨Lc2, hQ2, lx2, yx2, zx2⟩, st2⟩ := X0.virtualBackUp hx (x := (⟨"com/example/ophion/ophion/runtime/CompareOp", "ordinal", "()I"⟩ : MethodName)) (y := (⟨"java/lang/Enum", "ordinal", "()I"⟩ : MethodName)) hown (mvT hZ (wd hw 18 rfl)) (mvT hZ (wd hw 19 rfl)) (mvT hZ (wd hw 20 rfl)) (by decide) (mvT hZ (wd hw 22 rfl)) (mvT hZ (wd hw 21 rfl)) (backOf (W := 0) (rmOrd l Z a0 hw [] a1 (3 : Int32) h0 n0 Z0 F1) hZ (wd hw 24 rfl) (wd hw 23 rfl) (by decide) (by decide)) q2a q2c (g := (mkF m 1 #[rv a1] [(.ref a1)])) rfl (by rw [hml]; rfl) (Steps.refl _) (argsL := []) (rest := []) (lenOf pd_0 rfl) rfl (by show 2 * 0 + _ ≤ _; exact Nat.le_of_eq rfl) (hb hby d5_1) (fun _ _ => ⟨rfl, e0, (by decide : 0 + 0 ≤ _), (by decide : 0 + 0 ≤ _)⟩)
  dsimp only [Pt.U, Pt.locs, Pt.cells, Pt.slots] at X2 lx2 yx2 zx2 st2 hQ2
  subst lx2 yx2 zx2
  obtain ⟨rfl, N2q, e2⟩ := hQ2
  have N2 := Fr.app N0 N2q
  refine own_lift (fun t k => st2.trans k) ?_
  show own_Go p.tables e below (T2.setTop (mkF m 4 #[rv a1] [(.int 3)])) _
  have sg3 : ∀ t, Steps p.tables e below (T2.setTop (mkF m 61 #[rv a1] [(.ref a1)])) t → Steps p.tables e below (T2.setTop (mkF m 4 #[rv a1] [(.int 3)])) t := by
    intro t k
    refine XS.tswIn X2.here hx rfl (pc0 := 4) (pc' := 60) rfl (hb hby d5_4) rfl (by decide) (o := 56) (by decide) (by decide) (by decide) ?_
    show Steps p.tables e below (T2.setTop (mkF m 60 #[rv a1] [])) _
    refine XS.aloadN X2.here hx rfl (hb hby d5_60) rfl rfl ?_
    show Steps p.tables e below (T2.setTop (mkF m 61 #[rv a1] [(.ref a1)])) _
    exact k
  refine own_lift sg3 ?_
  show own_Go p.tables e below (T2.setTop (mkF m 61 #[rv a1] [(.ref a1)])) _
  obtain ⟨fs, hr, hrun, hended, hW, hsame⟩ := X2.leave (v := some (.ref a1)) (fun h => by rw [Bd.returns] at h; cases h)
  refine ⟨_, _, ?_, hrun, hended, _, _, rfl, ?_, ⟨_, rfl⟩, hW, hsame.mono (by decide) (by decide)⟩
  · exact retOut X2 hx Bd.returns rfl (Or.inr (Or.inr (Or.inr (Or.inr ⟨rfl, rfl, rfl⟩)))) (hb hby d5_61) hr
  · show Q_rmSw3 Z a1 h0 n0 _ T2.heap _
    rw [e2]
    exact ⟨rfl, N2, rfl⟩
theorem d5_52 : decode prog_5_method_6_code 52 = .ok (.getstatic 3, 3) := by decide +kernel
theorem d5_55 : decode prog_5_method_6_code 55 = .ok (.areturn, 1) := by decide +kernel
def Q_rmSw4 (Z : State) (a1 : Addr) (r1 : Addr) (h0 : Heap) (n0 : Nat) (v : Option Value) (h : Heap) (L : List Loc) : Prop := v = some (.ref r1) ∧ Fr n0 L ∧ h = h0
theorem ef_rmSw4 (m : MethodId) (x0 : Addr) : entryFrame m #[(.ref x0)] 1 = mkF m 0 #[.val (.ref x0)] [] := by first | (simp [entryFrame, mkF, argsToLocals, Value.category]; done) | rfl
set_option maxRecDepth 65536 in
set_option maxHeartbeats 40000000 in
theorem rmSw4 (l : Launch) (Z : State) (a0 : Array Value) (hw : ∀ d ∈ tables_1, d.before a0 Z = true) (ws : List Jvm.Cond) (a1 : Addr) (r1 : Addr) (h0 : Heap) (n0 : Nat) (Z0 : n0 ≤ h0.size) (F1 : Fld Z h0 a1 "java/lang/Enum" "ordinal" "I" (.int 4)) (E1 : Exa Z h0 a1 "com/example/ophion/ophion/runtime/CompareOp") (S1 : Sta Z h0 "com/example/ophion/ophion/runtime/CompareOp" "LESS" "Lcom/example/ophion/ophion/runtime/CompareOp;" (.ref r1))  :
    MetFree l (⟨"com/example/ophion/ophion/runtime/CompareOp", "swapped", "()Lcom/example/ophion/ophion/runtime/CompareOp;"⟩ : MethodName) (head1 (Jvm.Cond.code (⟨"com/example/ophion/ophion/runtime/CompareOp", "swapped", "()Lcom/example/ophion/ophion/runtime/CompareOp;"⟩ : MethodName) prog_5_method_6_code 1 (some (.object "com/example/ophion/ophion/runtime/CompareOp")) :: ws) ({ frames := 1, cells := 0, slots := 0, locals := 12 } : Room)) (fun a U => a = #[(.ref a1)] ∧ Z.Warmed39 U.vm ∧ U.heap = h0) (fun _ _ _ _ _ => True) (fun _ U o U' => ∃ v L, o = .returned v ∧ Q_rmSw4 Z a1 r1 h0 n0 v U'.heap L ∧ FrameEnd U o U' L ({ frames := 1, cells := 0, slots := 0, locals := 12 } : Room).cells ({ frames := 1, cells := 0, slots := 0, locals := 12 } : Room).slots) := by
  refine MetFree.of_bodySF (plainFor_of_name pn_1) hisR ?_
  intro p e s m args below meth c s₁ Bd hml0 hP hK
  obtain ⟨rfl, hZ, hh⟩ := hP
  have hx := Bd.exec
  have hby := Bd.bytes
  have hml : c.maxLocals = 1 := hml0
  have hown : s.vm.findClass "com/example/ophion/ophion/runtime/CompareOp" = some m.cls := findClass_of_methodNamed Bd.named
  have hnm := (name_of_methodNamed Bd.named Bd.method).1
  have X0 : Stand p l e ({ frames := 1, cells := 0, slots := 0, locals := 12 } : Room) s m #[(.ref a1)] below meth c s₁ [] 0 0 := Stand.of_body Bd
  have e0 : s₁.heap = h0 := by rw [← hh, Bd.state]; rfl
  have N0 := Fr.nil n0
  refine own_go (own_lift (fun t k => castTop (ef_rmSw4 m a1) k) ?_)
  show own_Go p.tables e below (s₁.setTop (mkF m 0 #[rv a1] [])) _
  have sg1 : ∀ t, Steps p.tables e below (s₁.setTop (mkF m 1 #[rv a1] [(.ref a1)])) t → Steps p.tables e below (s₁.setTop (mkF m 0 #[rv a1] [])) t := by
    intro t k
    refine XS.aloadN X0.here hx rfl (hb hby d5_0) rfl rfl ?_
    show Steps p.tables e below (s₁.setTop (mkF m 1 #[rv a1] [(.ref a1)])) _
    exact k
  refine own_lift sg1 ?_
  show own_Go p.tables e below (s₁.setTop (mkF m 1 #[rv a1] [(.ref a1)])) _
  obtain ⟨cq2, kq2, q2a, q2b, q2c⟩ := isOf hZ e0 E1
  obtain ⟨_, _, ⟨T2, Lx2, kx2, nx2⟩, -, X2, ⟨Lc2, hQ2, lx2, yx2, zx2⟩, st2⟩ := X0.virtualBackUp hx (x := (⟨"com/example/ophion/ophion/runtime/CompareOp", "ordinal", "()I"⟩ : MethodName)) (y := (⟨"java/lang/Enum", "ordinal", "()I"⟩ : MethodName)) hown (mvT hZ (wd hw 18 rfl)) (mvT hZ (wd hw 19 rfl)) (mvT hZ (wd hw 20 rfl)) (by decide) (mvT hZ (wd hw 22 rfl)) (mvT hZ (wd hw 21 rfl)) (backOf (W := 0) (rmOrd l Z a0 hw [] a1 (4 : Int32) h0 n0 Z0 F1) hZ (wd hw 24 rfl) (wd hw 23 rfl) (by decide) (by decide)) q2a q2c (g := (mkF m 1 #[rv a1] [(.ref a1)])) rfl (by rw [hml]; rfl) (Steps.refl _) (argsL := []) (rest := []) (lenOf pd_0 rfl) rfl (by show 2 * 0 + _ ≤ _; exact Nat.le_of_eq rfl) (hb hby d5_1) (fun _ _ => ⟨rfl, e0, (by decide : 0 + 0 ≤ _), (by decide : 0 + 0 ≤ _)⟩)
  dsimp only [Pt.U, Pt.locs, Pt.cells, Pt.slots] at X2 lx2 yx2 zx2 st2 hQ2
  subst lx2 yx2 zx2
  obtain ⟨rfl, N2q, e2⟩ := hQ2
  have N2 := Fr.app N0 N2q
  refine own_lift (fun t k => st2.trans k) ?_
  show own_Go p.tables e below (T2.setTop (mkF m 4 #[rv a1] [(.int 4)])) _
  have sg3 : ∀ t, Steps p.tables e below (T2.setTop (mkF m 52 #[rv a1] [])) t → Steps p.tables e below (T2.setTop (mkF m 4 #[rv a1] [(.int 4)])) t := by
    intro t k
    refine XS.tswIn X2.here hx rfl (pc0 := 4) (pc' := 52) rfl (hb hby d5_4) rfl (by decide) (o := 48) (by decide) (by decide) (by decide) ?_
    show Steps p.tables e below (T2.setTop (mkF m 52 #[rv a1] [])) _
    exact k
  refine own_lift sg3 ?_
  show own_Go p.tables e below (T2.setTop (mkF m 52 #[rv a1] [])) _
  obtain ⟨T4, X4, e4, st4⟩ := getS X2 hx hZ hown (host := "") (wd hw 35 rfl) Via.refl e2 S1 (g := (mkF m 52 #[rv a1] [])) rfl (hb hby d5_52)
  refine own_lift st4 ?_
  show own_Go p.tables e below (T4.setTop (mkF m 55 #[rv a1] [(.ref r1)])) _
  obtain ⟨fs, hr, hrun, hended, hW, hsame⟩ := X4.leave (v := some (.ref r1)) (fun h => by rw [Bd.returns] at h; cases h)
  refine ⟨_, _, ?_, hrun, hended, _, _, rfl, ?_, ⟨_, rfl⟩, hW, hsame.mono (by decide) (by decide)⟩
  · exact retOut X4 hx Bd.returns rfl (Or.inr (Or.inr (Or.inr (Or.inr ⟨rfl, rfl, rfl⟩)))) (hb hby d5_55) hr
  · show Q_rmSw4 Z a1 r1 h0 n0 _ T4.heap _
    rw [e4]
    exact ⟨rfl, N2, rfl⟩
theorem d5_56 : decode prog_5_method_6_code 56 = .ok (.getstatic 7, 3) := by decide +kernel
theorem d5_59 : decode prog_5_method_6_code 59 = .ok (.areturn, 1) := by decide +kernel
def Q_rmSw5 (Z : State) (a1 : Addr) (r1 : Addr) (h0 : Heap) (n0 : Nat) (v : Option Value) (h : Heap) (L : List Loc) : Prop := v = some (.ref r1) ∧ Fr n0 L ∧ h = h0
theorem ef_rmSw5 (m : MethodId) (x0 : Addr) : entryFrame m #[(.ref x0)] 1 = mkF m 0 #[.val (.ref x0)] [] := by first | (simp [entryFrame, mkF, argsToLocals, Value.category]; done) | rfl
set_option maxRecDepth 65536 in
set_option maxHeartbeats 40000000 in
theorem rmSw5 (l : Launch) (Z : State) (a0 : Array Value) (hw : ∀ d ∈ tables_1, d.before a0 Z = true) (ws : List Jvm.Cond) (a1 : Addr) (r1 : Addr) (h0 : Heap) (n0 : Nat) (Z0 : n0 ≤ h0.size) (F1 : Fld Z h0 a1 "java/lang/Enum" "ordinal" "I" (.int 5)) (E1 : Exa Z h0 a1 "com/example/ophion/ophion/runtime/CompareOp") (S1 : Sta Z h0 "com/example/ophion/ophion/runtime/CompareOp" "LESS_EQUAL" "Lcom/example/ophion/ophion/runtime/CompareOp;" (.ref r1))  :
    MetFree l (⟨"com/example/ophion/ophion/runtime/CompareOp", "swapped", "()Lcom/example/ophion/ophion/runtime/CompareOp;"⟩ : MethodName) (head1 (Jvm.Cond.code (⟨"com/example/ophion/ophion/runtime/CompareOp", "swapped", "()Lcom/example/ophion/ophion/runtime/CompareOp;"⟩ : MethodName) prog_5_method_6_code 1 (some (.object "com/example/ophion/ophion/runtime/CompareOp")) :: ws) ({ frames := 1, cells := 0, slots := 0, locals := 12 } : Room)) (fun a U => a = #[(.ref a1)] ∧ Z.Warmed39 U.vm ∧ U.heap = h0) (fun _ _ _ _ _ => True) (fun _ U o U' => ∃ v L, o = .returned v ∧ Q_rmSw5 Z a1 r1 h0 n0 v U'.heap L ∧ FrameEnd U o U' L ({ frames := 1, cells := 0, slots := 0, locals := 12 } : Room).cells ({ frames := 1, cells := 0, slots := 0, locals := 12 } : Room).slots) := by
  refine MetFree.of_bodySF (plainFor_of_name pn_1) hisR ?_
  intro p e s m args below meth c s₁ Bd hml0 hP hK
  obtain ⟨rfl, hZ, hh⟩ := hP
  have hx := Bd.exec
  have hby := Bd.bytes
  have hml : c.maxLocals = 1 := hml0
  have hown : s.vm.findClass "com/example/ophion/ophion/runtime/CompareOp" = some m.cls := findClass_of_methodNamed Bd.named
  have hnm := (name_of_methodNamed Bd.named Bd.method).1
  have X0 : Stand p l e ({ frames := 1, cells := 0, slots := 0, locals := 12 } : Room) s m #[(.ref a1)] below meth c s₁ [] 0 0 := Stand.of_body Bd
  have e0 : s₁.heap = h0 := by rw [← hh, Bd.state]; rfl
  have N0 := Fr.nil n0
  refine own_go (own_lift (fun t k => castTop (ef_rmSw5 m a1) k) ?_)
  show own_Go p.tables e below (s₁.setTop (mkF m 0 #[rv a1] [])) _
  have sg1 : ∀ t, Steps p.tables e below (s₁.setTop (mkF m 1 #[rv a1] [(.ref a1)])) t → Steps p.tables e below (s₁.setTop (mkF m 0 #[rv a1] [])) t := by
    intro t k
    refine XS.aloadN X0.here hx rfl (hb hby d5_0) rfl rfl ?_
    show Steps p.tables e below (s₁.setTop (mkF m 1 #[rv a1] [(.ref a1)])) _
    exact k
  refine own_lift sg1 ?_
  show own_Go p.tables e below (s₁.setTop (mkF m 1 #[rv a1] [(.ref a1)])) _
  obtain ⟨cq2, kq2, q2a, q2b, q2c⟩ := isOf hZ e0 E1
  obtain ⟨_, _, ⟨T2, Lx2, kx2, nx2⟩, -, X2, ⟨Lc2, hQ2, lx2, yx2, zx2⟩, st2⟩ := X0.virtualBackUp hx (x := (⟨"com/example/ophion/ophion/runtime/CompareOp", "ordinal", "()I"⟩ : MethodName)) (y := (⟨"java/lang/Enum", "ordinal", "()I"⟩ : MethodName)) hown (mvT hZ (wd hw 18 rfl)) (mvT hZ (wd hw 19 rfl)) (mvT hZ (wd hw 20 rfl)) (by decide) (mvT hZ (wd hw 22 rfl)) (mvT hZ (wd hw 21 rfl)) (backOf (W := 0) (rmOrd l Z a0 hw [] a1 (5 : Int32) h0 n0 Z0 F1) hZ (wd hw 24 rfl) (wd hw 23 rfl) (by decide) (by decide)) q2a q2c (g := (mkF m 1 #[rv a1] [(.ref a1)])) rfl (by rw [hml]; rfl) (Steps.refl _) (argsL := []) (rest := []) (lenOf pd_0 rfl) rfl (by show 2 * 0 + _ ≤ _; exact Nat.le_of_eq rfl) (hb hby d5_1) (fun _ _ => ⟨rfl, e0, (by decide : 0 + 0 ≤ _), (by decide : 0 + 0 ≤ _)⟩)
  dsimp only [Pt.U, Pt.locs, Pt.cells, Pt.slots] at X2 lx2 yx2 zx2 st2 hQ2
  subst lx2 yx2 zx2
  obtain ⟨rfl, N2q, e2⟩ := hQ2
  have N2 := Fr.app N0 N2q
  refine own_lift (fun t k => st2.trans k) ?_
  show own_Go p.tables e below (T2.setTop (mkF m 4 #[rv a1] [(.int 5)])) _
  have sg3 : ∀ t, Steps p.tables e below (T2.setTop (mkF m 56 #[rv a1] [])) t → Steps p.tables e below (T2.setTop (mkF m 4 #[rv a1] [(.int 5)])) t := by
    intro t k
    refine XS.tswIn X2.here hx rfl (pc0 := 4) (pc' := 56) rfl (hb hby d5_4) rfl (by decide) (o := 52) (by decide) (by decide) (by decide) ?_
    show Steps p.tables e below (T2.setTop (mkF m 56 #[rv a1] [])) _
    exact k
  refine own_lift sg3 ?_
  show own_Go p.tables e below (T2.setTop (mkF m 56 #[rv a1] [])) _
  obtain ⟨T4, X4, e4, st4⟩ := getS X2 hx hZ hown (host := "") (wd hw 41 rfl) Via.refl e2 S1 (g := (mkF m 56 #[rv a1] [])) rfl (hb hby d5_56)
  refine own_lift st4 ?_
  show own_Go p.tables e below (T4.setTop (mkF m 59 #[rv a1] [(.ref r1)])) _
  obtain ⟨fs, hr, hrun, hended, hW, hsame⟩ := X4.leave (v := some (.ref r1)) (fun h => by rw [Bd.returns] at h; cases h)
  refine ⟨_, _, ?_, hrun, hended, _, _, rfl, ?_, ⟨_, rfl⟩, hW, hsame.mono (by decide) (by decide)⟩
  · exact retOut X4 hx Bd.returns rfl (Or.inr (Or.inr (Or.inr (Or.inr ⟨rfl, rfl, rfl⟩)))) (hb hby d5_59) hr
  · show Q_rmSw5 Z a1 r1 h0 n0 _ T4.heap _
    rw [e4]
    exact ⟨rfl, N2, rfl⟩
theorem pd_1 : parseMethodDescriptor "(I)Lcom/example/ophion/ophion/runtime/CompareOp;" = some ⟨[.int], some (.object "com/example/ophion/ophion/runtime/CompareOp")⟩ := by decide +kernel
theorem pd_2 : parseMethodDescriptor "(I)I" = some ⟨[.int], some .int⟩ := by decide +kernel
theorem pd_3 : parseMethodDescriptor "()Lcom/example/ophion/ophion/runtime/CompareOp;" = some ⟨[], some (.object "com/example/ophion/ophion/runtime/CompareOp")⟩ := by decide +kernel
theorem pd_4 : parseMethodDescriptor "(I)Z" = some ⟨[.int], some .boolean⟩ := by decide +kernel
def Q0 (Z : State)  (h0 : Heap) (n0 : Nat) (v : Option Value) (h : Heap) (L : List Loc) : Prop := v = some (.int 1) ∧ Fr n0 L
theorem ef_rm0_00 (m : MethodId) (x0 : Int32) (x1 : Int32) : entryFrame m #[(.int x0), (.int x1)] maxLocals = mkF m 0 #[.val (.int x0), .val (.int x1), .unset, .unset, .unset, .unset, .unset] [] := by first | (simp [entryFrame, mkF, argsToLocals, Value.category, maxLocals]; done) | rfl
set_option maxRecDepth 65536 in
set_option maxHeartbeats 40000000 in
theorem rm0_00 (l : Launch) (Z : State) (a0 : Array Value) (hw : ∀ d ∈ tables_1, d.before a0 Z = true) (ws : List Jvm.Cond) (p0 : Int32) (p1 : Int32) (as_LESS : Addr) (as_GREATER : Addr) (as_EQUAL : Addr) (as_LESS_EQUAL : Addr) (as_GREATER_EQUAL : Addr) (as_NOT_EQUAL : Addr) (h0 : Heap) (n0 : Nat) (Z0 : n0 ≤ h0.size) (S_LESS : Sta Z h0 "com/example/ophion/ophion/runtime/CompareOp" "LESS" "Lcom/example/ophion/ophion/runtime/CompareOp;" (.ref as_LESS)) (E_LESS : Exa Z h0 as_LESS "com/example/ophion/ophion/runtime/CompareOp") (O_LESS : Fld Z h0 as_LESS "java/lang/Enum" "ordinal" "I" (.int 0)) (S_GREATER : Sta Z h0 "com/example/ophion/ophion/runtime/CompareOp" "GREATER" "Lcom/example/ophion/ophion/runtime/CompareOp;" (.ref as_GREATER)) (E_GREATER : Exa Z h0 as_GREATER "com/example/ophion/ophion/runtime/CompareOp") (O_GREATER : Fld Z h0 as_GREATER "java/lang/Enum" "ordinal" "I" (.int 4)) (S_EQUAL : Sta Z h0 "com/example/ophion/ophion/runtime/CompareOp" "EQUAL" "Lcom/example/ophion/ophion/runtime/CompareOp;" (.ref as_EQUAL)) (E_EQUAL : Exa Z h0 as_EQUAL "com/example/ophion/ophion/runtime/CompareOp") (O_EQUAL : Fld Z h0 as_EQUAL "java/lang/Enum" "ordinal" "I" (.int 2)) (S_LESS_EQUAL : Sta Z h0 "com/example/ophion/ophion/runtime/CompareOp" "LESS_EQUAL" "Lcom/example/ophion/ophion/runtime/CompareOp;" (.ref as_LESS_EQUAL)) (E_LESS_EQUAL : Exa Z h0 as_LESS_EQUAL "com/example/ophion/ophion/runtime/CompareOp") (O_LESS_EQUAL : Fld Z h0 as_LESS_EQUAL "java/lang/Enum" "ordinal" "I" (.int 1)) (S_GREATER_EQUAL : Sta Z h0 "com/example/ophion/ophion/runtime/CompareOp" "GREATER_EQUAL" "Lcom/example/ophion/ophion/runtime/CompareOp;" (.ref as_GREATER_EQUAL)) (E_GREATER_EQUAL : Exa Z h0 as_GREATER_EQUAL "com/example/ophion/ophion/runtime/CompareOp") (O_GREATER_EQUAL : Fld Z h0 as_GREATER_EQUAL "java/lang/Enum" "ordinal" "I" (.int 5)) (S_NOT_EQUAL : Sta Z h0 "com/example/ophion/ophion/runtime/CompareOp" "NOT_EQUAL" "Lcom/example/ophion/ophion/runtime/CompareOp;" (.ref as_NOT_EQUAL)) (E_NOT_EQUAL : Exa Z h0 as_NOT_EQUAL "com/example/ophion/ophion/runtime/CompareOp") (O_NOT_EQUAL : Fld Z h0 as_NOT_EQUAL "java/lang/Enum" "ordinal" "I" (.int 3)) (hk : ((p0 &&& (2147483647 : Int32)) % (6 : Int32)) = (0 : Int32)) (hs : ((p1 &&& (2147483647 : Int32)) % (3 : Int32)) = (0 : Int32)) :
    MetFree l x (head1 (Jvm.Cond.code x code maxLocals ret :: ws) room_1) (fun a U => a = #[(.int p0), (.int p1)] ∧ Z.Warmed39 U.vm ∧ U.heap = h0) (fun _ _ _ _ _ => True) (fun _ U o U' => ∃ v L, o = .returned v ∧ Q0 Z  h0 n0 v U'.heap L ∧ FrameEnd U o U' L 0 0) := by
  refine MetFree.of_bodySF (plainFor_of_name pn_2) hisR ?_
  intro p e s m args below meth c s₁ Bd hml0 hP hK
  obtain ⟨rfl, hZ, hh⟩ := hP
  have hx := Bd.exec
  have hby := Bd.bytes
  have hml : c.maxLocals = 7 := hml0
  have hown : s.vm.findClass "com/example/ophion/ophion/runtime/CompareOpSwappedPinLaw" = some m.cls := findClass_of_methodNamed Bd.named
  have hnm := (name_of_methodNamed Bd.named Bd.method).1
  have X0 : Stand p l e room_1 s m #[(.int p0), (.int p1)] below meth c s₁ [] 0 0 := Stand.of_body Bd
  have e0 : s₁.heap = h0 := by rw [← hh, Bd.state]; rfl
  have N0 := Fr.nil n0
  refine own_go (own_lift (fun t k => castTop (ef_rm0_00 m p0 p1) k) ?_)
  show own_Go p.tables e below (s₁.setTop (mkF m 0 #[iv p0, iv p1, .unset, .unset, .unset, .unset, .unset] [])) _
  have sg1 : ∀ t, Steps p.tables e below (s₁.setTop (mkF m 7 #[iv p0, iv p1, .unset, .unset, .unset, .unset, .unset] [(.int ((p0 &&& (2147483647 : Int32)) % (6 : Int32)))])) t → Steps p.tables e below (s₁.setTop (mkF m 0 #[iv p0, iv p1, .unset, .unset, .unset, .unset, .unset] [])) t := by
    intro t k
    refine XS.iloadN X0.here hx rfl (hb hby at_0) rfl ?_
    show Steps p.tables e below (s₁.setTop (mkF m 1 #[iv p0, iv p1, .unset, .unset, .unset, .unset, .unset] [(.int p0)])) _
    refine X0.ldcInt hx hown (mvT hZ (wd hw 0 rfl)) (g := (mkF m 1 #[iv p0, iv p1, .unset, .unset, .unset, .unset, .unset] [(.int p0)])) rfl (hb hby at_1) _ ?_
    show Steps p.tables e below (s₁.setTop (mkF m 3 #[iv p0, iv p1, .unset, .unset, .unset, .unset, .unset] [(.int 2147483647), (.int p0)])) _
    refine XS.iand X0.here hx rfl (hb hby at_3) rfl ?_
    show Steps p.tables e below (s₁.setTop (mkF m 4 #[iv p0, iv p1, .unset, .unset, .unset, .unset, .unset] [(.int (p0 &&& (2147483647 : Int32)))])) _
    refine XS.bipush X0.here hx rfl (hb hby at_4) ?_
    show Steps p.tables e below (s₁.setTop (mkF m 6 #[iv p0, iv p1, .unset, .unset, .unset, .unset, .unset] [(.int 6), (.int (p0 &&& (2147483647 : Int32)))])) _
    refine iremM X0 hx rfl (hb hby at_6) rfl (by decide) ?_
    show Steps p.tables e below (s₁.setTop (mkF m 7 #[iv p0, iv p1, .unset, .unset, .unset, .unset, .unset] [(.int ((p0 &&& (2147483647 : Int32)) % (6 : Int32)))])) _
    exact k
  refine own_lift sg1 ?_
  show own_Go p.tables e below (s₁.setTop (mkF m 7 #[iv p0, iv p1, .unset, .unset, .unset, .unset, .unset] [(.int ((p0 &&& (2147483647 : Int32)) % (6 : Int32)))])) _
  rw [hk]
  show own_Go p.tables e below (s₁.setTop (mkF m 7 #[iv p0, iv p1, .unset, .unset, .unset, .unset, .unset] [(.int 0)])) _
  have sg2 : ∀ t, Steps p.tables e below (s₁.setTop (mkF m 9 #[iv p0, iv p1, iv 0, .unset, .unset, .unset, .unset] [(.int 0)])) t → Steps p.tables e below (s₁.setTop (mkF m 7 #[iv p0, iv p1, .unset, .unset, .unset, .unset, .unset] [(.int 0)])) t := by
    intro t k
    refine XS.istoreN X0.here hx rfl (hb hby at_7) rfl (l' := #[iv p0, iv p1, iv 0, .unset, .unset, .unset, .unset]) rfl ?_
    show Steps p.tables e below (s₁.setTop (mkF m 8 #[iv p0, iv p1, iv 0, .unset, .unset, .unset, .unset] [])) _
    refine XS.iloadN X0.here hx rfl (hb hby at_8) rfl ?_
    show Steps p.tables e below (s₁.setTop (mkF m 9 #[iv p0, iv p1, iv 0, .unset, .unset, .unset, .unset] [(.int 0)])) _
    exact k
  refine own_lift sg2 ?_
  show own_Go p.tables e below (s₁.setTop (mkF m 9 #[iv p0, iv p1, iv 0, .unset, .unset, .unset, .unset] [(.int 0)])) _
  obtain ⟨_, _, ⟨T3, Lx3, kx3, nx3⟩, -, X3, ⟨Lc3, hQ3, lx3, yx3, zx3⟩, st3⟩ := Jvm.LawKit.callS X0 hx (y := (⟨"com/example/ophion/ophion/runtime/CompareOpSwappedPinLaw", "pick", "(I)Lcom/example/ophion/ophion/runtime/CompareOp;"⟩ : MethodName)) hown (mvT hZ (wd hw 1 rfl)) (mvT hZ (wd hw 2 rfl)) (mvT hZ (wd hw 3 rfl)) (mvT hZ (wd hw 4 rfl)) (by decide) (backOf (W := 0) (rmPick0 l Z a0 hw [] (0 : Int32) as_LESS h0 n0 Z0 S_LESS (by decide : (0 : Int32) = (0 : Int32))) hZ (wd hw 4 rfl) (wd hw 3 rfl) (by decide) (by decide)) (g := (mkF m 9 #[iv p0, iv p1, iv 0, .unset, .unset, .unset, .unset] [(.int 0)])) rfl (by rw [hml]; rfl) (argsL := [(.int 0)]) (rest := []) (lenOf pd_1 rfl) rfl (by show 2 * 0 + _ ≤ _; exact Nat.le_of_eq rfl) (hb hby at_9) (fun _ _ => ⟨rfl, e0, (by decide : 0 + 0 ≤ _), (by decide : 0 + 0 ≤ _)⟩)
  dsimp only [Pt.U, Pt.locs, Pt.cells, Pt.slots] at X3 lx3 yx3 zx3 st3 hQ3
  subst lx3 yx3 zx3
  obtain ⟨rfl, N3q, e3⟩ := hQ3
  have N3 := Fr.app N0 N3q
  refine own_lift st3 ?_
  show own_Go p.tables e below (T3.setTop (mkF m 12 #[iv p0, iv p1, iv 0, .unset, .unset, .unset, .unset] [(.ref as_LESS)])) _
  have sg4 : ∀ t, Steps p.tables e below (T3.setTop (mkF m 14 #[iv p0, iv p1, iv 0, rv as_LESS, .unset, .unset, .unset] [(.int 0)])) t → Steps p.tables e below (T3.setTop (mkF m 12 #[iv p0, iv p1, iv 0, .unset, .unset, .unset, .unset] [(.ref as_LESS)])) t := by
    intro t k
    refine XS.astoreN X3.here hx rfl (hb hby at_12) rfl rfl (l' := #[iv p0, iv p1, iv 0, rv as_LESS, .unset, .unset, .unset]) rfl ?_
    show Steps p.tables e below (T3.setTop (mkF m 13 #[iv p0, iv p1, iv 0, rv as_LESS, .unset, .unset, .unset] [])) _
    refine XS.iloadN X3.here hx rfl (hb hby at_13) rfl ?_
    show Steps p.tables e below (T3.setTop (mkF m 14 #[iv p0, iv p1, iv 0, rv as_LESS, .unset, .unset, .unset] [(.int 0)])) _
    exact k
  refine own_lift sg4 ?_
  show own_Go p.tables e below (T3.setTop (mkF m 14 #[iv p0, iv p1, iv 0, rv as_LESS, .unset, .unset, .unset] [(.int 0)])) _
  obtain ⟨_, _, ⟨T5, Lx5, kx5, nx5⟩, -, X5, ⟨Lc5, hQ5, lx5, yx5, zx5⟩, st5⟩ := Jvm.LawKit.callS X3 hx (y := (⟨"com/example/ophion/ophion/runtime/CompareOpSwappedPinLaw", "mirror", "(I)I"⟩ : MethodName)) hown (mvT hZ (wd hw 8 rfl)) (mvT hZ (wd hw 9 rfl)) (mvT hZ (wd hw 3 rfl)) (mvT hZ (wd hw 10 rfl)) (by decide) (backOf (W := 0) (rmMir0 l Z a0 hw [] (0 : Int32) h0 n0 Z0 (by decide : (0 : Int32) = (0 : Int32))) hZ (wd hw 10 rfl) (wd hw 3 rfl) (by decide) (by decide)) (g := (mkF m 14 #[iv p0, iv p1, iv 0, rv as_LESS, .unset, .unset, .unset] [(.int 0)])) rfl (by rw [hml]; rfl) (argsL := [(.int 0)]) (rest := []) (lenOf pd_2 rfl) rfl (by show 2 * 0 + _ ≤ _; exact Nat.le_of_eq rfl) (hb hby at_14) (fun _ _ => ⟨rfl, e3, (by decide : 0 + 0 ≤ _), (by decide : 0 + 0 ≤ _)⟩)
  dsimp only [Pt.U, Pt.locs, Pt.cells, Pt.slots] at X5 lx5 yx5 zx5 st5 hQ5
  subst lx5 yx5 zx5
  obtain ⟨rfl, N5q, e5⟩ := hQ5
  have N5 := Fr.app N3 N5q
  refine own_lift st5 ?_
  show own_Go p.tables e below (T5.setTop (mkF m 17 #[iv p0, iv p1, iv 0, rv as_LESS, .unset, .unset, .unset] [(.int 4)])) _
  obtain ⟨_, _, ⟨T6, Lx6, kx6, nx6⟩, -, X6, ⟨Lc6, hQ6, lx6, yx6, zx6⟩, st6⟩ := Jvm.LawKit.callS X5 hx (y := (⟨"com/example/ophion/ophion/runtime/CompareOpSwappedPinLaw", "pick", "(I)Lcom/example/ophion/ophion/runtime/CompareOp;"⟩ : MethodName)) hown (mvT hZ (wd hw 1 rfl)) (mvT hZ (wd hw 2 rfl)) (mvT hZ (wd hw 3 rfl)) (mvT hZ (wd hw 4 rfl)) (by decide) (backOf (W := 0) (rmPick4 l Z a0 hw [] (4 : Int32) as_GREATER h0 n0 Z0 S_GREATER (by decide : ¬ ((4 : Int32) = (0 : Int32))) (by decide : ¬ ((4 : Int32) = (1 : Int32))) (by decide : ¬ ((4 : Int32) = (2 : Int32))) (by decide : ¬ ((4 : Int32) = (3 : Int32))) (by decide : (4 : Int32) = (4 : Int32))) hZ (wd hw 4 rfl) (wd hw 3 rfl) (by decide) (by decide)) (g := (mkF m 17 #[iv p0, iv p1, iv 0, rv as_LESS, .unset, .unset, .unset] [(.int 4)])) rfl (by rw [hml]; rfl) (argsL := [(.int 4)]) (rest := []) (lenOf pd_1 rfl) rfl (by show 2 * 0 + _ ≤ _; exact Nat.le_of_eq rfl) (hb hby at_17) (fun _ _ => ⟨rfl, e5, (by decide : 0 + 0 ≤ _), (by decide : 0 + 0 ≤ _)⟩)
  dsimp only [Pt.U, Pt.locs, Pt.cells, Pt.slots] at X6 lx6 yx6 zx6 st6 hQ6
  subst lx6 yx6 zx6
  obtain ⟨rfl, N6q, e6⟩ := hQ6
  have N6 := Fr.app N5 N6q
  refine own_lift st6 ?_
  show own_Go p.tables e below (T6.setTop (mkF m 20 #[iv p0, iv p1, iv 0, rv as_LESS, .unset, .unset, .unset] [(.ref as_GREATER)])) _
  have sg7 : ∀ t, Steps p.tables e below (T6.setTop (mkF m 23 #[iv p0, iv p1, iv 0, rv as_LESS, rv as_GREATER, .unset, .unset] [(.ref as_LESS)])) t → Steps p.tables e below (T6.setTop (mkF m 20 #[iv p0, iv p1, iv 0, rv as_LESS, .unset, .unset, .unset] [(.ref as_GREATER)])) t := by
    intro t k
    refine XS.astore X6.here hx rfl (hb hby at_20) rfl rfl (l' := #[iv p0, iv p1, iv 0, rv as_LESS, rv as_GREATER, .unset, .unset]) rfl ?_
    show Steps p.tables e below (T6.setTop (mkF m 22 #[iv p0, iv p1, iv 0, rv as_LESS, rv as_GREATER, .unset, .unset] [])) _
    refine XS.aloadN X6.here hx rfl (hb hby at_22) rfl rfl ?_
    show Steps p.tables e below (T6.setTop (mkF m 23 #[iv p0, iv p1, iv 0, rv as_LESS, rv as_GREATER, .unset, .unset] [(.ref as_LESS)])) _
    exact k
  refine own_lift sg7 ?_
  show own_Go p.tables e below (T6.setTop (mkF m 23 #[iv p0, iv p1, iv 0, rv as_LESS, rv as_GREATER, .unset, .unset] [(.ref as_LESS)])) _
  obtain ⟨cq8, kq8, q8a, q8b, q8c⟩ := isOf hZ e6 E_LESS
  obtain ⟨_, _, ⟨T8, Lx8, kx8, nx8⟩, -, X8, ⟨Lc8, hQ8, lx8, yx8, zx8⟩, st8⟩ := X6.virtualBack hx (y := (⟨"com/example/ophion/ophion/runtime/CompareOp", "swapped", "()Lcom/example/ophion/ophion/runtime/CompareOp;"⟩ : MethodName)) (z := (⟨"com/example/ophion/ophion/runtime/CompareOp", "swapped", "()Lcom/example/ophion/ophion/runtime/CompareOp;"⟩ : MethodName)) hown (mvT hZ (wd hw 13 rfl)) (mvT hZ (wd hw 14 rfl)) (notFace_of_selects (args := #[]) (mvT hZ (wd hw 16 rfl))) (mvT hZ (wd hw 16 rfl)) (mvT hZ (wd hw 15 rfl)) (by decide) (backOf (W := 0) (rmSw0 l Z a0 hw [] as_LESS as_GREATER h0 n0 Z0 O_LESS E_LESS S_GREATER) hZ (wd hw 17 rfl) (wd hw 6 rfl) (by decide) (by decide)) q8a q8c (g := (mkF m 23 #[iv p0, iv p1, iv 0, rv as_LESS, rv as_GREATER, .unset, .unset] [(.ref as_LESS)])) rfl (by rw [hml]; rfl) (Steps.refl _) (argsL := []) (rest := []) (lenOf pd_3 rfl) rfl (by show 2 * 0 + _ ≤ _; exact Nat.le_of_eq rfl) (hb hby at_23) (fun _ _ => ⟨rfl, e6, (by decide : 0 + 0 ≤ _), (by decide : 0 + 0 ≤ _)⟩)
  dsimp only [Pt.U, Pt.locs, Pt.cells, Pt.slots] at X8 lx8 yx8 zx8 st8 hQ8
  subst lx8 yx8 zx8
  obtain ⟨rfl, N8q, e8⟩ := hQ8
  have N8 := Fr.app N6 N8q
  refine own_lift (fun t k => st8.trans k) ?_
  show own_Go p.tables e below (T8.setTop (mkF m 26 #[iv p0, iv p1, iv 0, rv as_LESS, rv as_GREATER, .unset, .unset] [(.ref as_GREATER)])) _
  have sg9 : ∀ t, Steps p.tables e below (T8.setTop (mkF m 34 #[iv p0, iv p1, iv 0, rv as_LESS, rv as_GREATER, rv as_GREATER, .unset] [(.int ((p1 &&& (2147483647 : Int32)) % (3 : Int32)))])) t → Steps p.tables e below (T8.setTop (mkF m 26 #[iv p0, iv p1, iv 0, rv as_LESS, rv as_GREATER, .unset, .unset] [(.ref as_GREATER)])) t := by
    intro t k
    refine XS.astore X8.here hx rfl (hb hby at_26) rfl rfl (l' := #[iv p0, iv p1, iv 0, rv as_LESS, rv as_GREATER, rv as_GREATER, .unset]) rfl ?_
    show Steps p.tables e below (T8.setTop (mkF m 28 #[iv p0, iv p1, iv 0, rv as_LESS, rv as_GREATER, rv as_GREATER, .unset] [])) _
    refine XS.iloadN X8.here hx rfl (hb hby at_28) rfl ?_
    show Steps p.tables e below (T8.setTop (mkF m 29 #[iv p0, iv p1, iv 0, rv as_LESS, rv as_GREATER, rv as_GREATER, .unset] [(.int p1)])) _
    refine X8.ldcInt hx hown (mvT hZ (wd hw 0 rfl)) (g := (mkF m 29 #[iv p0, iv p1, iv 0, rv as_LESS, rv as_GREATER, rv as_GREATER, .unset] [(.int p1)])) rfl (hb hby at_29) _ ?_
    show Steps p.tables e below (T8.setTop (mkF m 31 #[iv p0, iv p1, iv 0, rv as_LESS, rv as_GREATER, rv as_GREATER, .unset] [(.int 2147483647), (.int p1)])) _
    refine XS.iand X8.here hx rfl (hb hby at_31) rfl ?_
    show Steps p.tables e below (T8.setTop (mkF m 32 #[iv p0, iv p1, iv 0, rv as_LESS, rv as_GREATER, rv as_GREATER, .unset] [(.int (p1 &&& (2147483647 : Int32)))])) _
    refine XS.iconst X8.here hx rfl (hb hby at_32) ?_
    show Steps p.tables e below (T8.setTop (mkF m 33 #[iv p0, iv p1, iv 0, rv as_LESS, rv as_GREATER, rv as_GREATER, .unset] [(.int 3), (.int (p1 &&& (2147483647 : Int32)))])) _
    refine iremM X8 hx rfl (hb hby at_33) rfl (by decide) ?_
    show Steps p.tables e below (T8.setTop (mkF m 34 #[iv p0, iv p1, iv 0, rv as_LESS, rv as_GREATER, rv as_GREATER, .unset] [(.int ((p1 &&& (2147483647 : Int32)) % (3 : Int32)))])) _
    exact k
  refine own_lift sg9 ?_
  show own_Go p.tables e below (T8.setTop (mkF m 34 #[iv p0, iv p1, iv 0, rv as_LESS, rv as_GREATER, rv as_GREATER, .unset] [(.int ((p1 &&& (2147483647 : Int32)) % (3 : Int32)))])) _
  rw [hs]
  show own_Go p.tables e below (T8.setTop (mkF m 34 #[iv p0, iv p1, iv 0, rv as_LESS, rv as_GREATER, rv as_GREATER, .unset] [(.int 0)])) _
  have sg10 : ∀ t, Steps p.tables e below (T8.setTop (mkF m 50 #[iv p0, iv p1, iv 0, rv as_LESS, rv as_GREATER, rv as_GREATER, iv (-1)] [(.int 1), (.ref as_GREATER)])) t → Steps p.tables e below (T8.setTop (mkF m 34 #[iv p0, iv p1, iv 0, rv as_LESS, rv as_GREATER, rv as_GREATER, .unset] [(.int 0)])) t := by
    intro t k
    refine XS.iconst X8.here hx rfl (hb hby at_34) ?_
    show Steps p.tables e below (T8.setTop (mkF m 35 #[iv p0, iv p1, iv 0, rv as_LESS, rv as_GREATER, rv as_GREATER, .unset] [(.int 1), (.int 0)])) _
    refine XS.isub X8.here hx rfl (hb hby at_35) rfl ?_
    show Steps p.tables e below (T8.setTop (mkF m 36 #[iv p0, iv p1, iv 0, rv as_LESS, rv as_GREATER, rv as_GREATER, .unset] [(.int (-1))])) _
    refine XS.istore X8.here hx rfl (hb hby at_36) rfl (l' := #[iv p0, iv p1, iv 0, rv as_LESS, rv as_GREATER, rv as_GREATER, iv (-1)]) rfl ?_
    show Steps p.tables e below (T8.setTop (mkF m 38 #[iv p0, iv p1, iv 0, rv as_LESS, rv as_GREATER, rv as_GREATER, iv (-1)] [])) _
    refine XS.aload X8.here hx rfl (hb hby at_38) rfl rfl ?_
    show Steps p.tables e below (T8.setTop (mkF m 40 #[iv p0, iv p1, iv 0, rv as_LESS, rv as_GREATER, rv as_GREATER, iv (-1)] [(.ref as_GREATER)])) _
    refine XS.aload X8.here hx rfl (hb hby at_40) rfl rfl ?_
    show Steps p.tables e below (T8.setTop (mkF m 42 #[iv p0, iv p1, iv 0, rv as_LESS, rv as_GREATER, rv as_GREATER, iv (-1)] [(.ref as_GREATER), (.ref as_GREATER)])) _
    refine Jvm.RoadKit.acmp (g := (mkF m 42 #[iv p0, iv p1, iv 0, rv as_LESS, rv as_GREATER, rv as_GREATER, iv (-1)] [(.ref as_GREATER), (.ref as_GREATER)])) X8 hx rfl rfl rfl (pc0 := 42) (pc' := 45) (same := true) rfl (hb hby at_42) rfl (decide_eq_true rfl) (by decide) (by decide) ?_
    show Steps p.tables e below (T8.setTop (mkF m 45 #[iv p0, iv p1, iv 0, rv as_LESS, rv as_GREATER, rv as_GREATER, iv (-1)] [])) _
    refine XS.aload X8.here hx rfl (hb hby at_45) rfl rfl ?_
    show Steps p.tables e below (T8.setTop (mkF m 47 #[iv p0, iv p1, iv 0, rv as_LESS, rv as_GREATER, rv as_GREATER, iv (-1)] [(.ref as_GREATER)])) _
    refine XS.iload X8.here hx rfl (hb hby at_47) rfl ?_
    show Steps p.tables e below (T8.setTop (mkF m 49 #[iv p0, iv p1, iv 0, rv as_LESS, rv as_GREATER, rv as_GREATER, iv (-1)] [(.int (-1)), (.ref as_GREATER)])) _
    refine XS.ineg X8.here hx rfl (hb hby at_49) rfl ?_
    show Steps p.tables e below (T8.setTop (mkF m 50 #[iv p0, iv p1, iv 0, rv as_LESS, rv as_GREATER, rv as_GREATER, iv (-1)] [(.int 1), (.ref as_GREATER)])) _
    exact k
  refine own_lift sg10 ?_
  show own_Go p.tables e below (T8.setTop (mkF m 50 #[iv p0, iv p1, iv 0, rv as_LESS, rv as_GREATER, rv as_GREATER, iv (-1)] [(.int 1), (.ref as_GREATER)])) _
  obtain ⟨cq11, kq11, q11a, q11b, q11c⟩ := isOf hZ e8 E_GREATER
  obtain ⟨_, _, ⟨T11, Lx11, kx11, nx11⟩, -, X11, ⟨Lc11, hQ11, lx11, yx11, zx11⟩, st11⟩ := X8.virtualBack hx (y := (⟨"com/example/ophion/ophion/runtime/CompareOp", "holds", "(I)Z"⟩ : MethodName)) (z := (⟨"com/example/ophion/ophion/runtime/CompareOp", "holds", "(I)Z"⟩ : MethodName)) hown (mvT hZ (wd hw 28 rfl)) (mvT hZ (wd hw 29 rfl)) (notFace_of_selects (args := #[]) (mvT hZ (wd hw 31 rfl))) (mvT hZ (wd hw 31 rfl)) (mvT hZ (wd hw 30 rfl)) (by decide) (backOf (W := 0) (rmHolds4t l Z a0 hw [] as_GREATER (1 : Int32) h0 n0 Z0 O_GREATER E_GREATER (by decide : (0 : Int32) < (1 : Int32))) hZ (wd hw 32 rfl) (wd hw 6 rfl) (by decide) (by decide)) q11a q11c (g := (mkF m 50 #[iv p0, iv p1, iv 0, rv as_LESS, rv as_GREATER, rv as_GREATER, iv (-1)] [(.int 1), (.ref as_GREATER)])) rfl (by rw [hml]; rfl) (Steps.refl _) (argsL := [(.int 1)]) (rest := []) (lenOf pd_4 rfl) rfl (by show 2 * 0 + _ ≤ _; exact Nat.le_of_eq rfl) (hb hby at_50) (fun _ _ => ⟨rfl, e8, (by decide : 0 + 0 ≤ _), (by decide : 0 + 0 ≤ _)⟩)
  dsimp only [Pt.U, Pt.locs, Pt.cells, Pt.slots] at X11 lx11 yx11 zx11 st11 hQ11
  subst lx11 yx11 zx11
  obtain ⟨rfl, N11q, e11⟩ := hQ11
  have N11 := Fr.app N8 N11q
  refine own_lift (fun t k => st11.trans k) ?_
  show own_Go p.tables e below (T11.setTop (mkF m 53 #[iv p0, iv p1, iv 0, rv as_LESS, rv as_GREATER, rv as_GREATER, iv (-1)] [(.int 1)])) _
  have sg12 : ∀ t, Steps p.tables e below (T11.setTop (mkF m 56 #[iv p0, iv p1, iv 0, rv as_LESS, rv as_GREATER, rv as_GREATER, iv (-1)] [(.int (-1)), (.ref as_LESS), (.int 1)])) t → Steps p.tables e below (T11.setTop (mkF m 53 #[iv p0, iv p1, iv 0, rv as_LESS, rv as_GREATER, rv as_GREATER, iv (-1)] [(.int 1)])) t := by
    intro t k
    refine XS.aloadN X11.here hx rfl (hb hby at_53) rfl rfl ?_
    show Steps p.tables e below (T11.setTop (mkF m 54 #[iv p0, iv p1, iv 0, rv as_LESS, rv as_GREATER, rv as_GREATER, iv (-1)] [(.ref as_LESS), (.int 1)])) _
    refine XS.iload X11.here hx rfl (hb hby at_54) rfl ?_
    show Steps p.tables e below (T11.setTop (mkF m 56 #[iv p0, iv p1, iv 0, rv as_LESS, rv as_GREATER, rv as_GREATER, iv (-1)] [(.int (-1)), (.ref as_LESS), (.int 1)])) _
    exact k
  refine own_lift sg12 ?_
  show own_Go p.tables e below (T11.setTop (mkF m 56 #[iv p0, iv p1, iv 0, rv as_LESS, rv as_GREATER, rv as_GREATER, iv (-1)] [(.int (-1)), (.ref as_LESS), (.int 1)])) _
  obtain ⟨cq13, kq13, q13a, q13b, q13c⟩ := isOf hZ e11 E_LESS
  obtain ⟨_, _, ⟨T13, Lx13, kx13, nx13⟩, -, X13, ⟨Lc13, hQ13, lx13, yx13, zx13⟩, st13⟩ := X11.virtualBack hx (y := (⟨"com/example/ophion/ophion/runtime/CompareOp", "holds", "(I)Z"⟩ : MethodName)) (z := (⟨"com/example/ophion/ophion/runtime/CompareOp", "holds", "(I)Z"⟩ : MethodName)) hown (mvT hZ (wd hw 28 rfl)) (mvT hZ (wd hw 29 rfl)) (notFace_of_selects (args := #[]) (mvT hZ (wd hw 31 rfl))) (mvT hZ (wd hw 31 rfl)) (mvT hZ (wd hw 30 rfl)) (by decide) (backOf (W := 1) (rmHolds0t l Z a0 hw [] as_LESS (-1 : Int32) h0 n0 Z0 O_LESS E_LESS (by decide : (-1 : Int32) < (0 : Int32))) hZ (wd hw 32 rfl) (wd hw 6 rfl) (by decide) (by decide)) q13a q13c (g := (mkF m 56 #[iv p0, iv p1, iv 0, rv as_LESS, rv as_GREATER, rv as_GREATER, iv (-1)] [(.int (-1)), (.ref as_LESS), (.int 1)])) rfl (by rw [hml]; rfl) (Steps.refl _) (argsL := [(.int (-1))]) (rest := [(.int 1)]) (lenOf pd_4 rfl) rfl (by show 2 * 0 + _ ≤ _; exact Nat.le_of_eq rfl) (hb hby at_56) (fun _ _ => ⟨rfl, e11, (by decide : 0 + 0 ≤ _), (by decide : 0 + 0 ≤ _)⟩)
  dsimp only [Pt.U, Pt.locs, Pt.cells, Pt.slots] at X13 lx13 yx13 zx13 st13 hQ13
  subst lx13 yx13 zx13
  obtain ⟨rfl, N13q, e13⟩ := hQ13
  have N13 := Fr.app N11 N13q
  refine own_lift (fun t k => st13.trans k) ?_
  show own_Go p.tables e below (T13.setTop (mkF m 59 #[iv p0, iv p1, iv 0, rv as_LESS, rv as_GREATER, rv as_GREATER, iv (-1)] [(.int 1), (.int 1)])) _
  have sg14 : ∀ t, Steps p.tables e below (T13.setTop (mkF m 67 #[iv p0, iv p1, iv 0, rv as_LESS, rv as_GREATER, rv as_GREATER, iv (-1)] [(.int 1)])) t → Steps p.tables e below (T13.setTop (mkF m 59 #[iv p0, iv p1, iv 0, rv as_LESS, rv as_GREATER, rv as_GREATER, iv (-1)] [(.int 1), (.int 1)])) t := by
    intro t k
    refine XS.icmpNo X13.here hx rfl (hb hby at_59) rfl (teq (by decide : (1 : Int32) = (1 : Int32))).2 ?_
    show Steps p.tables e below (T13.setTop (mkF m 62 #[iv p0, iv p1, iv 0, rv as_LESS, rv as_GREATER, rv as_GREATER, iv (-1)] [])) _
    refine XS.iconst X13.here hx rfl (hb hby at_62) ?_
    show Steps p.tables e below (T13.setTop (mkF m 63 #[iv p0, iv p1, iv 0, rv as_LESS, rv as_GREATER, rv as_GREATER, iv (-1)] [(.int 1)])) _
    refine XS.goto X13.here hx rfl (pc0 := 63) (pc' := 67) rfl (hb hby at_63) (by decide) (by decide) ?_
    show Steps p.tables e below (T13.setTop (mkF m 67 #[iv p0, iv p1, iv 0, rv as_LESS, rv as_GREATER, rv as_GREATER, iv (-1)] [(.int 1)])) _
    exact k
  refine own_lift sg14 ?_
  show own_Go p.tables e below (T13.setTop (mkF m 67 #[iv p0, iv p1, iv 0, rv as_LESS, rv as_GREATER, rv as_GREATER, iv (-1)] [(.int 1)])) _
  obtain ⟨fs, hr, hrun, hended, hW, hsame⟩ := X13.leave (v := some (.int 1)) (fun h => by rw [Bd.returns] at h; cases h)
  refine ⟨_, _, ?_, hrun, hended, _, _, rfl, ?_, ⟨_, rfl⟩, hW, hsame.mono (by decide) (by decide)⟩
  · exact retN X13 hx (t := .boolean) Bd.returns (by simp) (hb hby at_67) hr
  · show Q0 Z  h0 n0 _ T13.heap _
    rw [e13]
    exact ⟨rfl, N13⟩
theorem ef_rm0_01 (m : MethodId) (x0 : Int32) (x1 : Int32) : entryFrame m #[(.int x0), (.int x1)] maxLocals = mkF m 0 #[.val (.int x0), .val (.int x1), .unset, .unset, .unset, .unset, .unset] [] := by first | (simp [entryFrame, mkF, argsToLocals, Value.category, maxLocals]; done) | rfl
set_option maxRecDepth 65536 in
set_option maxHeartbeats 40000000 in
theorem rm0_01 (l : Launch) (Z : State) (a0 : Array Value) (hw : ∀ d ∈ tables_1, d.before a0 Z = true) (ws : List Jvm.Cond) (p0 : Int32) (p1 : Int32) (as_LESS : Addr) (as_GREATER : Addr) (as_EQUAL : Addr) (as_LESS_EQUAL : Addr) (as_GREATER_EQUAL : Addr) (as_NOT_EQUAL : Addr) (h0 : Heap) (n0 : Nat) (Z0 : n0 ≤ h0.size) (S_LESS : Sta Z h0 "com/example/ophion/ophion/runtime/CompareOp" "LESS" "Lcom/example/ophion/ophion/runtime/CompareOp;" (.ref as_LESS)) (E_LESS : Exa Z h0 as_LESS "com/example/ophion/ophion/runtime/CompareOp") (O_LESS : Fld Z h0 as_LESS "java/lang/Enum" "ordinal" "I" (.int 0)) (S_GREATER : Sta Z h0 "com/example/ophion/ophion/runtime/CompareOp" "GREATER" "Lcom/example/ophion/ophion/runtime/CompareOp;" (.ref as_GREATER)) (E_GREATER : Exa Z h0 as_GREATER "com/example/ophion/ophion/runtime/CompareOp") (O_GREATER : Fld Z h0 as_GREATER "java/lang/Enum" "ordinal" "I" (.int 4)) (S_EQUAL : Sta Z h0 "com/example/ophion/ophion/runtime/CompareOp" "EQUAL" "Lcom/example/ophion/ophion/runtime/CompareOp;" (.ref as_EQUAL)) (E_EQUAL : Exa Z h0 as_EQUAL "com/example/ophion/ophion/runtime/CompareOp") (O_EQUAL : Fld Z h0 as_EQUAL "java/lang/Enum" "ordinal" "I" (.int 2)) (S_LESS_EQUAL : Sta Z h0 "com/example/ophion/ophion/runtime/CompareOp" "LESS_EQUAL" "Lcom/example/ophion/ophion/runtime/CompareOp;" (.ref as_LESS_EQUAL)) (E_LESS_EQUAL : Exa Z h0 as_LESS_EQUAL "com/example/ophion/ophion/runtime/CompareOp") (O_LESS_EQUAL : Fld Z h0 as_LESS_EQUAL "java/lang/Enum" "ordinal" "I" (.int 1)) (S_GREATER_EQUAL : Sta Z h0 "com/example/ophion/ophion/runtime/CompareOp" "GREATER_EQUAL" "Lcom/example/ophion/ophion/runtime/CompareOp;" (.ref as_GREATER_EQUAL)) (E_GREATER_EQUAL : Exa Z h0 as_GREATER_EQUAL "com/example/ophion/ophion/runtime/CompareOp") (O_GREATER_EQUAL : Fld Z h0 as_GREATER_EQUAL "java/lang/Enum" "ordinal" "I" (.int 5)) (S_NOT_EQUAL : Sta Z h0 "com/example/ophion/ophion/runtime/CompareOp" "NOT_EQUAL" "Lcom/example/ophion/ophion/runtime/CompareOp;" (.ref as_NOT_EQUAL)) (E_NOT_EQUAL : Exa Z h0 as_NOT_EQUAL "com/example/ophion/ophion/runtime/CompareOp") (O_NOT_EQUAL : Fld Z h0 as_NOT_EQUAL "java/lang/Enum" "ordinal" "I" (.int 3)) (hk : ((p0 &&& (2147483647 : Int32)) % (6 : Int32)) = (0 : Int32)) (hs : ((p1 &&& (2147483647 : Int32)) % (3 : Int32)) = (1 : Int32)) :
    MetFree l x (head1 (Jvm.Cond.code x code maxLocals ret :: ws) room_1) (fun a U => a = #[(.int p0), (.int p1)] ∧ Z.Warmed39 U.vm ∧ U.heap = h0) (fun _ _ _ _ _ => True) (fun _ U o U' => ∃ v L, o = .returned v ∧ Q0 Z  h0 n0 v U'.heap L ∧ FrameEnd U o U' L 0 0) := by
  refine MetFree.of_bodySF (plainFor_of_name pn_2) hisR ?_
  intro p e s m args below meth c s₁ Bd hml0 hP hK
  obtain ⟨rfl, hZ, hh⟩ := hP
  have hx := Bd.exec
  have hby := Bd.bytes
  have hml : c.maxLocals = 7 := hml0
  have hown : s.vm.findClass "com/example/ophion/ophion/runtime/CompareOpSwappedPinLaw" = some m.cls := findClass_of_methodNamed Bd.named
  have hnm := (name_of_methodNamed Bd.named Bd.method).1
  have X0 : Stand p l e room_1 s m #[(.int p0), (.int p1)] below meth c s₁ [] 0 0 := Stand.of_body Bd
  have e0 : s₁.heap = h0 := by rw [← hh, Bd.state]; rfl
  have N0 := Fr.nil n0
  refine own_go (own_lift (fun t k => castTop (ef_rm0_01 m p0 p1) k) ?_)
  show own_Go p.tables e below (s₁.setTop (mkF m 0 #[iv p0, iv p1, .unset, .unset, .unset, .unset, .unset] [])) _
  have sg1 : ∀ t, Steps p.tables e below (s₁.setTop (mkF m 7 #[iv p0, iv p1, .unset, .unset, .unset, .unset, .unset] [(.int ((p0 &&& (2147483647 : Int32)) % (6 : Int32)))])) t → Steps p.tables e below (s₁.setTop (mkF m 0 #[iv p0, iv p1, .unset, .unset, .unset, .unset, .unset] [])) t := by
    intro t k
    refine XS.iloadN X0.here hx rfl (hb hby at_0) rfl ?_
    show Steps p.tables e below (s₁.setTop (mkF m 1 #[iv p0, iv p1, .unset, .unset, .unset, .unset, .unset] [(.int p0)])) _
    refine X0.ldcInt hx hown (mvT hZ (wd hw 0 rfl)) (g := (mkF m 1 #[iv p0, iv p1, .unset, .unset, .unset, .unset, .unset] [(.int p0)])) rfl (hb hby at_1) _ ?_
    show Steps p.tables e below (s₁.setTop (mkF m 3 #[iv p0, iv p1, .unset, .unset, .unset, .unset, .unset] [(.int 2147483647), (.int p0)])) _
    refine XS.iand X0.here hx rfl (hb hby at_3) rfl ?_
    show Steps p.tables e below (s₁.setTop (mkF m 4 #[iv p0, iv p1, .unset, .unset, .unset, .unset, .unset] [(.int (p0 &&& (2147483647 : Int32)))])) _
    refine XS.bipush X0.here hx rfl (hb hby at_4) ?_
    show Steps p.tables e below (s₁.setTop (mkF m 6 #[iv p0, iv p1, .unset, .unset, .unset, .unset, .unset] [(.int 6), (.int (p0 &&& (2147483647 : Int32)))])) _
    refine iremM X0 hx rfl (hb hby at_6) rfl (by decide) ?_
    show Steps p.tables e below (s₁.setTop (mkF m 7 #[iv p0, iv p1, .unset, .unset, .unset, .unset, .unset] [(.int ((p0 &&& (2147483647 : Int32)) % (6 : Int32)))])) _
    exact k
  refine own_lift sg1 ?_
  show own_Go p.tables e below (s₁.setTop (mkF m 7 #[iv p0, iv p1, .unset, .unset, .unset, .unset, .unset] [(.int ((p0 &&& (2147483647 : Int32)) % (6 : Int32)))])) _
  rw [hk]
  show own_Go p.tables e below (s₁.setTop (mkF m 7 #[iv p0, iv p1, .unset, .unset, .unset, .unset, .unset] [(.int 0)])) _
  have sg2 : ∀ t, Steps p.tables e below (s₁.setTop (mkF m 9 #[iv p0, iv p1, iv 0, .unset, .unset, .unset, .unset] [(.int 0)])) t → Steps p.tables e below (s₁.setTop (mkF m 7 #[iv p0, iv p1, .unset, .unset, .unset, .unset, .unset] [(.int 0)])) t := by
    intro t k
    refine XS.istoreN X0.here hx rfl (hb hby at_7) rfl (l' := #[iv p0, iv p1, iv 0, .unset, .unset, .unset, .unset]) rfl ?_
    show Steps p.tables e below (s₁.setTop (mkF m 8 #[iv p0, iv p1, iv 0, .unset, .unset, .unset, .unset] [])) _
    refine XS.iloadN X0.here hx rfl (hb hby at_8) rfl ?_
    show Steps p.tables e below (s₁.setTop (mkF m 9 #[iv p0, iv p1, iv 0, .unset, .unset, .unset, .unset] [(.int 0)])) _
    exact k
  refine own_lift sg2 ?_
  show own_Go p.tables e below (s₁.setTop (mkF m 9 #[iv p0, iv p1, iv 0, .unset, .unset, .unset, .unset] [(.int 0)])) _
  obtain ⟨_, _, ⟨T3, Lx3, kx3, nx3⟩, -, X3, ⟨Lc3, hQ3, lx3, yx3, zx3⟩, st3⟩ := Jvm.LawKit.callS X0 hx (y := (⟨"com/example/ophion/ophion/runtime/CompareOpSwappedPinLaw", "pick", "(I)Lcom/example/ophion/ophion/runtime/CompareOp;"⟩ : MethodName)) hown (mvT hZ (wd hw 1 rfl)) (mvT hZ (wd hw 2 rfl)) (mvT hZ (wd hw 3 rfl)) (mvT hZ (wd hw 4 rfl)) (by decide) (backOf (W := 0) (rmPick0 l Z a0 hw [] (0 : Int32) as_LESS h0 n0 Z0 S_LESS (by decide : (0 : Int32) = (0 : Int32))) hZ (wd hw 4 rfl) (wd hw 3 rfl) (by decide) (by decide)) (g := (mkF m 9 #[iv p0, iv p1, iv 0, .unset, .unset, .unset, .unset] [(.int 0)])) rfl (by rw [hml]; rfl) (argsL := [(.int 0)]) (rest := []) (lenOf pd_1 rfl) rfl (by show 2 * 0 + _ ≤ _; exact Nat.le_of_eq rfl) (hb hby at_9) (fun _ _ => ⟨rfl, e0, (by decide : 0 + 0 ≤ _), (by decide : 0 + 0 ≤ _)⟩)
  dsimp only [Pt.U, Pt.locs, Pt.cells, Pt.slots] at X3 lx3 yx3 zx3 st3 hQ3
  subst lx3 yx3 zx3
  obtain ⟨rfl, N3q, e3⟩ := hQ3
  have N3 := Fr.app N0 N3q
  refine own_lift st3 ?_
  show own_Go p.tables e below (T3.setTop (mkF m 12 #[iv p0, iv p1, iv 0, .unset, .unset, .unset, .unset] [(.ref as_LESS)])) _
  have sg4 : ∀ t, Steps p.tables e below (T3.setTop (mkF m 14 #[iv p0, iv p1, iv 0, rv as_LESS, .unset, .unset, .unset] [(.int 0)])) t → Steps p.tables e below (T3.setTop (mkF m 12 #[iv p0, iv p1, iv 0, .unset, .unset, .unset, .unset] [(.ref as_LESS)])) t := by
    intro t k
    refine XS.astoreN X3.here hx rfl (hb hby at_12) rfl rfl (l' := #[iv p0, iv p1, iv 0, rv as_LESS, .unset, .unset, .unset]) rfl ?_
    show Steps p.tables e below (T3.setTop (mkF m 13 #[iv p0, iv p1, iv 0, rv as_LESS, .unset, .unset, .unset] [])) _
    refine XS.iloadN X3.here hx rfl (hb hby at_13) rfl ?_
    show Steps p.tables e below (T3.setTop (mkF m 14 #[iv p0, iv p1, iv 0, rv as_LESS, .unset, .unset, .unset] [(.int 0)])) _
    exact k
  refine own_lift sg4 ?_
  show own_Go p.tables e below (T3.setTop (mkF m 14 #[iv p0, iv p1, iv 0, rv as_LESS, .unset, .unset, .unset] [(.int 0)])) _
  obtain ⟨_, _, ⟨T5, Lx5, kx5, nx5⟩, -, X5, ⟨Lc5, hQ5, lx5, yx5, zx5⟩, st5⟩ := Jvm.LawKit.callS X3 hx (y := (⟨"com/example/ophion/ophion/runtime/CompareOpSwappedPinLaw", "mirror", "(I)I"⟩ : MethodName)) hown (mvT hZ (wd hw 8 rfl)) (mvT hZ (wd hw 9 rfl)) (mvT hZ (wd hw 3 rfl)) (mvT hZ (wd hw 10 rfl)) (by decide) (backOf (W := 0) (rmMir0 l Z a0 hw [] (0 : Int32) h0 n0 Z0 (by decide : (0 : Int32) = (0 : Int32))) hZ (wd hw 10 rfl) (wd hw 3 rfl) (by decide) (by decide)) (g := (mkF m 14 #[iv p0, iv p1, iv 0, rv as_LESS, .unset, .unset, .unset] [(.int 0)])) rfl (by rw [hml]; rfl) (argsL := [(.int 0)]) (rest := []) (lenOf pd_2 rfl) rfl (by show 2 * 0 + _ ≤ _; exact Nat.le_of_eq rfl) (hb hby at_14) (fun _ _ => ⟨rfl, e3, (by decide : 0 + 0 ≤ _), (by decide : 0 + 0 ≤ _)⟩)
  dsimp only [Pt.U, Pt.locs, Pt.cells, Pt.slots] at X5 lx5 yx5 zx5 st5 hQ5
  subst lx5 yx5 zx5
  obtain ⟨rfl, N5q, e5⟩ := hQ5
  have N5 := Fr.app N3 N5q
  refine own_lift st5 ?_
  show own_Go p.tables e below (T5.setTop (mkF m 17 #[iv p0, iv p1, iv 0, rv as_LESS, .unset, .unset, .unset] [(.int 4)])) _
  obtain ⟨_, _, ⟨T6, Lx6, kx6, nx6⟩, -, X6, ⟨Lc6, hQ6, lx6, yx6, zx6⟩, st6⟩ := Jvm.LawKit.callS X5 hx (y := (⟨"com/example/ophion/ophion/runtime/CompareOpSwappedPinLaw", "pick", "(I)Lcom/example/ophion/ophion/runtime/CompareOp;"⟩ : MethodName)) hown (mvT hZ (wd hw 1 rfl)) (mvT hZ (wd hw 2 rfl)) (mvT hZ (wd hw 3 rfl)) (mvT hZ (wd hw 4 rfl)) (by decide) (backOf (W := 0) (rmPick4 l Z a0 hw [] (4 : Int32) as_GREATER h0 n0 Z0 S_GREATER (by decide : ¬ ((4 : Int32) = (0 : Int32))) (by decide : ¬ ((4 : Int32) = (1 : Int32))) (by decide : ¬ ((4 : Int32) = (2 : Int32))) (by decide : ¬ ((4 : Int32) = (3 : Int32))) (by decide : (4 : Int32) = (4 : Int32))) hZ (wd hw 4 rfl) (wd hw 3 rfl) (by decide) (by decide)) (g := (mkF m 17 #[iv p0, iv p1, iv 0, rv as_LESS, .unset, .unset, .unset] [(.int 4)])) rfl (by rw [hml]; rfl) (argsL := [(.int 4)]) (rest := []) (lenOf pd_1 rfl) rfl (by show 2 * 0 + _ ≤ _; exact Nat.le_of_eq rfl) (hb hby at_17) (fun _ _ => ⟨rfl, e5, (by decide : 0 + 0 ≤ _), (by decide : 0 + 0 ≤ _)⟩)
  dsimp only [Pt.U, Pt.locs, Pt.cells, Pt.slots] at X6 lx6 yx6 zx6 st6 hQ6
  subst lx6 yx6 zx6
  obtain ⟨rfl, N6q, e6⟩ := hQ6
  have N6 := Fr.app N5 N6q
  refine own_lift st6 ?_
  show own_Go p.tables e below (T6.setTop (mkF m 20 #[iv p0, iv p1, iv 0, rv as_LESS, .unset, .unset, .unset] [(.ref as_GREATER)])) _
  have sg7 : ∀ t, Steps p.tables e below (T6.setTop (mkF m 23 #[iv p0, iv p1, iv 0, rv as_LESS, rv as_GREATER, .unset, .unset] [(.ref as_LESS)])) t → Steps p.tables e below (T6.setTop (mkF m 20 #[iv p0, iv p1, iv 0, rv as_LESS, .unset, .unset, .unset] [(.ref as_GREATER)])) t := by
    intro t k
    refine XS.astore X6.here hx rfl (hb hby at_20) rfl rfl (l' := #[iv p0, iv p1, iv 0, rv as_LESS, rv as_GREATER, .unset, .unset]) rfl ?_
    show Steps p.tables e below (T6.setTop (mkF m 22 #[iv p0, iv p1, iv 0, rv as_LESS, rv as_GREATER, .unset, .unset] [])) _
    refine XS.aloadN X6.here hx rfl (hb hby at_22) rfl rfl ?_
    show Steps p.tables e below (T6.setTop (mkF m 23 #[iv p0, iv p1, iv 0, rv as_LESS, rv as_GREATER, .unset, .unset] [(.ref as_LESS)])) _
    exact k
  refine own_lift sg7 ?_
  show own_Go p.tables e below (T6.setTop (mkF m 23 #[iv p0, iv p1, iv 0, rv as_LESS, rv as_GREATER, .unset, .unset] [(.ref as_LESS)])) _
  obtain ⟨cq8, kq8, q8a, q8b, q8c⟩ := isOf hZ e6 E_LESS
  obtain ⟨_, _, ⟨T8, Lx8, kx8, nx8⟩, -, X8, ⟨Lc8, hQ8, lx8, yx8, zx8⟩, st8⟩ := X6.virtualBack hx (y := (⟨"com/example/ophion/ophion/runtime/CompareOp", "swapped", "()Lcom/example/ophion/ophion/runtime/CompareOp;"⟩ : MethodName)) (z := (⟨"com/example/ophion/ophion/runtime/CompareOp", "swapped", "()Lcom/example/ophion/ophion/runtime/CompareOp;"⟩ : MethodName)) hown (mvT hZ (wd hw 13 rfl)) (mvT hZ (wd hw 14 rfl)) (notFace_of_selects (args := #[]) (mvT hZ (wd hw 16 rfl))) (mvT hZ (wd hw 16 rfl)) (mvT hZ (wd hw 15 rfl)) (by decide) (backOf (W := 0) (rmSw0 l Z a0 hw [] as_LESS as_GREATER h0 n0 Z0 O_LESS E_LESS S_GREATER) hZ (wd hw 17 rfl) (wd hw 6 rfl) (by decide) (by decide)) q8a q8c (g := (mkF m 23 #[iv p0, iv p1, iv 0, rv as_LESS, rv as_GREATER, .unset, .unset] [(.ref as_LESS)])) rfl (by rw [hml]; rfl) (Steps.refl _) (argsL := []) (rest := []) (lenOf pd_3 rfl) rfl (by show 2 * 0 + _ ≤ _; exact Nat.le_of_eq rfl) (hb hby at_23) (fun _ _ => ⟨rfl, e6, (by decide : 0 + 0 ≤ _), (by decide : 0 + 0 ≤ _)⟩)
  dsimp only [Pt.U, Pt.locs, Pt.cells, Pt.slots] at X8 lx8 yx8 zx8 st8 hQ8
  subst lx8 yx8 zx8
  obtain ⟨rfl, N8q, e8⟩ := hQ8
  have N8 := Fr.app N6 N8q
  refine own_lift (fun t k => st8.trans k) ?_
  show own_Go p.tables e below (T8.setTop (mkF m 26 #[iv p0, iv p1, iv 0, rv as_LESS, rv as_GREATER, .unset, .unset] [(.ref as_GREATER)])) _
  have sg9 : ∀ t, Steps p.tables e below (T8.setTop (mkF m 34 #[iv p0, iv p1, iv 0, rv as_LESS, rv as_GREATER, rv as_GREATER, .unset] [(.int ((p1 &&& (2147483647 : Int32)) % (3 : Int32)))])) t → Steps p.tables e below (T8.setTop (mkF m 26 #[iv p0, iv p1, iv 0, rv as_LESS, rv as_GREATER, .unset, .unset] [(.ref as_GREATER)])) t := by
    intro t k
    refine XS.astore X8.here hx rfl (hb hby at_26) rfl rfl (l' := #[iv p0, iv p1, iv 0, rv as_LESS, rv as_GREATER, rv as_GREATER, .unset]) rfl ?_
    show Steps p.tables e below (T8.setTop (mkF m 28 #[iv p0, iv p1, iv 0, rv as_LESS, rv as_GREATER, rv as_GREATER, .unset] [])) _
    refine XS.iloadN X8.here hx rfl (hb hby at_28) rfl ?_
    show Steps p.tables e below (T8.setTop (mkF m 29 #[iv p0, iv p1, iv 0, rv as_LESS, rv as_GREATER, rv as_GREATER, .unset] [(.int p1)])) _
    refine X8.ldcInt hx hown (mvT hZ (wd hw 0 rfl)) (g := (mkF m 29 #[iv p0, iv p1, iv 0, rv as_LESS, rv as_GREATER, rv as_GREATER, .unset] [(.int p1)])) rfl (hb hby at_29) _ ?_
    show Steps p.tables e below (T8.setTop (mkF m 31 #[iv p0, iv p1, iv 0, rv as_LESS, rv as_GREATER, rv as_GREATER, .unset] [(.int 2147483647), (.int p1)])) _
    refine XS.iand X8.here hx rfl (hb hby at_31) rfl ?_
    show Steps p.tables e below (T8.setTop (mkF m 32 #[iv p0, iv p1, iv 0, rv as_LESS, rv as_GREATER, rv as_GREATER, .unset] [(.int (p1 &&& (2147483647 : Int32)))])) _
    refine XS.iconst X8.here hx rfl (hb hby at_32) ?_
    show Steps p.tables e below (T8.setTop (mkF m 33 #[iv p0, iv p1, iv 0, rv as_LESS, rv as_GREATER, rv as_GREATER, .unset] [(.int 3), (.int (p1 &&& (2147483647 : Int32)))])) _
    refine iremM X8 hx rfl (hb hby at_33) rfl (by decide) ?_
    show Steps p.tables e below (T8.setTop (mkF m 34 #[iv p0, iv p1, iv 0, rv as_LESS, rv as_GREATER, rv as_GREATER, .unset] [(.int ((p1 &&& (2147483647 : Int32)) % (3 : Int32)))])) _
    exact k
  refine own_lift sg9 ?_
  show own_Go p.tables e below (T8.setTop (mkF m 34 #[iv p0, iv p1, iv 0, rv as_LESS, rv as_GREATER, rv as_GREATER, .unset] [(.int ((p1 &&& (2147483647 : Int32)) % (3 : Int32)))])) _
  rw [hs]
  show own_Go p.tables e below (T8.setTop (mkF m 34 #[iv p0, iv p1, iv 0, rv as_LESS, rv as_GREATER, rv as_GREATER, .unset] [(.int 1)])) _
  have sg10 : ∀ t, Steps p.tables e below (T8.setTop (mkF m 50 #[iv p0, iv p1, iv 0, rv as_LESS, rv as_GREATER, rv as_GREATER, iv 0] [(.int 0), (.ref as_GREATER)])) t → Steps p.tables e below (T8.setTop (mkF m 34 #[iv p0, iv p1, iv 0, rv as_LESS, rv as_GREATER, rv as_GREATER, .unset] [(.int 1)])) t := by
    intro t k
    refine XS.iconst X8.here hx rfl (hb hby at_34) ?_
    show Steps p.tables e below (T8.setTop (mkF m 35 #[iv p0, iv p1, iv 0, rv as_LESS, rv as_GREATER, rv as_GREATER, .unset] [(.int 1), (.int 1)])) _
    refine XS.isub X8.here hx rfl (hb hby at_35) rfl ?_
    show Steps p.tables e below (T8.setTop (mkF m 36 #[iv p0, iv p1, iv 0, rv as_LESS, rv as_GREATER, rv as_GREATER, .unset] [(.int 0)])) _
    refine XS.istore X8.here hx rfl (hb hby at_36) rfl (l' := #[iv p0, iv p1, iv 0, rv as_LESS, rv as_GREATER, rv as_GREATER, iv 0]) rfl ?_
    show Steps p.tables e below (T8.setTop (mkF m 38 #[iv p0, iv p1, iv 0, rv as_LESS, rv as_GREATER, rv as_GREATER, iv 0] [])) _
    refine XS.aload X8.here hx rfl (hb hby at_38) rfl rfl ?_
    show Steps p.tables e below (T8.setTop (mkF m 40 #[iv p0, iv p1, iv 0, rv as_LESS, rv as_GREATER, rv as_GREATER, iv 0] [(.ref as_GREATER)])) _
    refine XS.aload X8.here hx rfl (hb hby at_40) rfl rfl ?_
    show Steps p.tables e below (T8.setTop (mkF m 42 #[iv p0, iv p1, iv 0, rv as_LESS, rv as_GREATER, rv as_GREATER, iv 0] [(.ref as_GREATER), (.ref as_GREATER)])) _
    refine Jvm.RoadKit.acmp (g := (mkF m 42 #[iv p0, iv p1, iv 0, rv as_LESS, rv as_GREATER, rv as_GREATER, iv 0] [(.ref as_GREATER), (.ref as_GREATER)])) X8 hx rfl rfl rfl (pc0 := 42) (pc' := 45) (same := true) rfl (hb hby at_42) rfl (decide_eq_true rfl) (by decide) (by decide) ?_
    show Steps p.tables e below (T8.setTop (mkF m 45 #[iv p0, iv p1, iv 0, rv as_LESS, rv as_GREATER, rv as_GREATER, iv 0] [])) _
    refine XS.aload X8.here hx rfl (hb hby at_45) rfl rfl ?_
    show Steps p.tables e below (T8.setTop (mkF m 47 #[iv p0, iv p1, iv 0, rv as_LESS, rv as_GREATER, rv as_GREATER, iv 0] [(.ref as_GREATER)])) _
    refine XS.iload X8.here hx rfl (hb hby at_47) rfl ?_
    show Steps p.tables e below (T8.setTop (mkF m 49 #[iv p0, iv p1, iv 0, rv as_LESS, rv as_GREATER, rv as_GREATER, iv 0] [(.int 0), (.ref as_GREATER)])) _
    refine XS.ineg X8.here hx rfl (hb hby at_49) rfl ?_
    show Steps p.tables e below (T8.setTop (mkF m 50 #[iv p0, iv p1, iv 0, rv as_LESS, rv as_GREATER, rv as_GREATER, iv 0] [(.int 0), (.ref as_GREATER)])) _
    exact k
  refine own_lift sg10 ?_
  show own_Go p.tables e below (T8.setTop (mkF m 50 #[iv p0, iv p1, iv 0, rv as_LESS, rv as_GREATER, rv as_GREATER, iv 0] [(.int 0), (.ref as_GREATER)])) _
  obtain ⟨cq11, kq11, q11a, q11b, q11c⟩ := isOf hZ e8 E_GREATER
  obtain ⟨_, _, ⟨T11, Lx11, kx11, nx11⟩, -, X11, ⟨Lc11, hQ11, lx11, yx11, zx11⟩, st11⟩ := X8.virtualBack hx (y := (⟨"com/example/ophion/ophion/runtime/CompareOp", "holds", "(I)Z"⟩ : MethodName)) (z := (⟨"com/example/ophion/ophion/runtime/CompareOp", "holds", "(I)Z"⟩ : MethodName)) hown (mvT hZ (wd hw 28 rfl)) (mvT hZ (wd hw 29 rfl)) (notFace_of_selects (args := #[]) (mvT hZ (wd hw 31 rfl))) (mvT hZ (wd hw 31 rfl)) (mvT hZ (wd hw 30 rfl)) (by decide) (backOf (W := 0) (rmHolds4f l Z a0 hw [] as_GREATER (0 : Int32) h0 n0 Z0 O_GREATER E_GREATER (by decide : ¬ ((0 : Int32) < (0 : Int32)))) hZ (wd hw 32 rfl) (wd hw 6 rfl) (by decide) (by decide)) q11a q11c (g := (mkF m 50 #[iv p0, iv p1, iv 0, rv as_LESS, rv as_GREATER, rv as_GREATER, iv 0] [(.int 0), (.ref as_GREATER)])) rfl (by rw [hml]; rfl) (Steps.refl _) (argsL := [(.int 0)]) (rest := []) (lenOf pd_4 rfl) rfl (by show 2 * 0 + _ ≤ _; exact Nat.le_of_eq rfl) (hb hby at_50) (fun _ _ => ⟨rfl, e8, (by decide : 0 + 0 ≤ _), (by decide : 0 + 0 ≤ _)⟩)
  dsimp only [Pt.U, Pt.locs, Pt.cells, Pt.slots] at X11 lx11 yx11 zx11 st11 hQ11
  subst lx11 yx11 zx11
  obtain ⟨rfl, N11q, e11⟩ := hQ11
  have N11 := Fr.app N8 N11q
  refine own_lift (fun t k => st11.trans k) ?_
  show own_Go p.tables e below (T11.setTop (mkF m 53 #[iv p0, iv p1, iv 0, rv as_LESS, rv as_GREATER, rv as_GREATER, iv 0] [(.int 0)])) _
  have sg12 : ∀ t, Steps p.tables e below (T11.setTop (mkF m 56 #[iv p0, iv p1, iv 0, rv as_LESS, rv as_GREATER, rv as_GREATER, iv 0] [(.int 0), (.ref as_LESS), (.int 0)])) t → Steps p.tables e below (T11.setTop (mkF m 53 #[iv p0, iv p1, iv 0, rv as_LESS, rv as_GREATER, rv as_GREATER, iv 0] [(.int 0)])) t := by
    intro t k
    refine XS.aloadN X11.here hx rfl (hb hby at_53) rfl rfl ?_
    show Steps p.tables e below (T11.setTop (mkF m 54 #[iv p0, iv p1, iv 0, rv as_LESS, rv as_GREATER, rv as_GREATER, iv 0] [(.ref as_LESS), (.int 0)])) _
    refine XS.iload X11.here hx rfl (hb hby at_54) rfl ?_
    show Steps p.tables e below (T11.setTop (mkF m 56 #[iv p0, iv p1, iv 0, rv as_LESS, rv as_GREATER, rv as_GREATER, iv 0] [(.int 0), (.ref as_LESS), (.int 0)])) _
    exact k
  refine own_lift sg12 ?_
  show own_Go p.tables e below (T11.setTop (mkF m 56 #[iv p0, iv p1, iv 0, rv as_LESS, rv as_GREATER, rv as_GREATER, iv 0] [(.int 0), (.ref as_LESS), (.int 0)])) _
  obtain ⟨cq13, kq13, q13a, q13b, q13c⟩ := isOf hZ e11 E_LESS
  obtain ⟨_, _, ⟨T13, Lx13, kx13, nx13⟩, -, X13, ⟨Lc13, hQ13, lx13, yx13, zx13⟩, st13⟩ := X11.virtualBack hx (y := (⟨"com/example/ophion/ophion/runtime/CompareOp", "holds", "(I)Z"⟩ : MethodName)) (z := (⟨"com/example/ophion/ophion/runtime/CompareOp", "holds", "(I)Z"⟩ : MethodName)) hown (mvT hZ (wd hw 28 rfl)) (mvT hZ (wd hw 29 rfl)) (notFace_of_selects (args := #[]) (mvT hZ (wd hw 31 rfl))) (mvT hZ (wd hw 31 rfl)) (mvT hZ (wd hw 30 rfl)) (by decide) (backOf (W := 1) (rmHolds0f l Z a0 hw [] as_LESS (0 : Int32) h0 n0 Z0 O_LESS E_LESS (by decide : ¬ ((0 : Int32) < (0 : Int32)))) hZ (wd hw 32 rfl) (wd hw 6 rfl) (by decide) (by decide)) q13a q13c (g := (mkF m 56 #[iv p0, iv p1, iv 0, rv as_LESS, rv as_GREATER, rv as_GREATER, iv 0] [(.int 0), (.ref as_LESS), (.int 0)])) rfl (by rw [hml]; rfl) (Steps.refl _) (argsL := [(.int 0)]) (rest := [(.int 0)]) (lenOf pd_4 rfl) rfl (by show 2 * 0 + _ ≤ _; exact Nat.le_of_eq rfl) (hb hby at_56) (fun _ _ => ⟨rfl, e11, (by decide : 0 + 0 ≤ _), (by decide : 0 + 0 ≤ _)⟩)
  dsimp only [Pt.U, Pt.locs, Pt.cells, Pt.slots] at X13 lx13 yx13 zx13 st13 hQ13
  subst lx13 yx13 zx13
  obtain ⟨rfl, N13q, e13⟩ := hQ13
  have N13 := Fr.app N11 N13q
  refine own_lift (fun t k => st13.trans k) ?_
  show own_Go p.tables e below (T13.setTop (mkF m 59 #[iv p0, iv p1, iv 0, rv as_LESS, rv as_GREATER, rv as_GREATER, iv 0] [(.int 0), (.int 0)])) _
  have sg14 : ∀ t, Steps p.tables e below (T13.setTop (mkF m 67 #[iv p0, iv p1, iv 0, rv as_LESS, rv as_GREATER, rv as_GREATER, iv 0] [(.int 1)])) t → Steps p.tables e below (T13.setTop (mkF m 59 #[iv p0, iv p1, iv 0, rv as_LESS, rv as_GREATER, rv as_GREATER, iv 0] [(.int 0), (.int 0)])) t := by
    intro t k
    refine XS.icmpNo X13.here hx rfl (hb hby at_59) rfl (teq (by decide : (0 : Int32) = (0 : Int32))).2 ?_
    show Steps p.tables e below (T13.setTop (mkF m 62 #[iv p0, iv p1, iv 0, rv as_LESS, rv as_GREATER, rv as_GREATER, iv 0] [])) _
    refine XS.iconst X13.here hx rfl (hb hby at_62) ?_
    show Steps p.tables e below (T13.setTop (mkF m 63 #[iv p0, iv p1, iv 0, rv as_LESS, rv as_GREATER, rv as_GREATER, iv 0] [(.int 1)])) _
    refine XS.goto X13.here hx rfl (pc0 := 63) (pc' := 67) rfl (hb hby at_63) (by decide) (by decide) ?_
    show Steps p.tables e below (T13.setTop (mkF m 67 #[iv p0, iv p1, iv 0, rv as_LESS, rv as_GREATER, rv as_GREATER, iv 0] [(.int 1)])) _
    exact k
  refine own_lift sg14 ?_
  show own_Go p.tables e below (T13.setTop (mkF m 67 #[iv p0, iv p1, iv 0, rv as_LESS, rv as_GREATER, rv as_GREATER, iv 0] [(.int 1)])) _
  obtain ⟨fs, hr, hrun, hended, hW, hsame⟩ := X13.leave (v := some (.int 1)) (fun h => by rw [Bd.returns] at h; cases h)
  refine ⟨_, _, ?_, hrun, hended, _, _, rfl, ?_, ⟨_, rfl⟩, hW, hsame.mono (by decide) (by decide)⟩
  · exact retN X13 hx (t := .boolean) Bd.returns (by simp) (hb hby at_67) hr
  · show Q0 Z  h0 n0 _ T13.heap _
    rw [e13]
    exact ⟨rfl, N13⟩
theorem ef_rm0_02 (m : MethodId) (x0 : Int32) (x1 : Int32) : entryFrame m #[(.int x0), (.int x1)] maxLocals = mkF m 0 #[.val (.int x0), .val (.int x1), .unset, .unset, .unset, .unset, .unset] [] := by first | (simp [entryFrame, mkF, argsToLocals, Value.category, maxLocals]; done) | rfl
set_option maxRecDepth 65536 in
set_option maxHeartbeats 40000000 in
theorem rm0_02 (l : Launch) (Z : State) (a0 : Array Value) (hw : ∀ d ∈ tables_1, d.before a0 Z = true) (ws : List Jvm.Cond) (p0 : Int32) (p1 : Int32) (as_LESS : Addr) (as_GREATER : Addr) (as_EQUAL : Addr) (as_LESS_EQUAL : Addr) (as_GREATER_EQUAL : Addr) (as_NOT_EQUAL : Addr) (h0 : Heap) (n0 : Nat) (Z0 : n0 ≤ h0.size) (S_LESS : Sta Z h0 "com/example/ophion/ophion/runtime/CompareOp" "LESS" "Lcom/example/ophion/ophion/runtime/CompareOp;" (.ref as_LESS)) (E_LESS : Exa Z h0 as_LESS "com/example/ophion/ophion/runtime/CompareOp") (O_LESS : Fld Z h0 as_LESS "java/lang/Enum" "ordinal" "I" (.int 0)) (S_GREATER : Sta Z h0 "com/example/ophion/ophion/runtime/CompareOp" "GREATER" "Lcom/example/ophion/ophion/runtime/CompareOp;" (.ref as_GREATER)) (E_GREATER : Exa Z h0 as_GREATER "com/example/ophion/ophion/runtime/CompareOp") (O_GREATER : Fld Z h0 as_GREATER "java/lang/Enum" "ordinal" "I" (.int 4)) (S_EQUAL : Sta Z h0 "com/example/ophion/ophion/runtime/CompareOp" "EQUAL" "Lcom/example/ophion/ophion/runtime/CompareOp;" (.ref as_EQUAL)) (E_EQUAL : Exa Z h0 as_EQUAL "com/example/ophion/ophion/runtime/CompareOp") (O_EQUAL : Fld Z h0 as_EQUAL "java/lang/Enum" "ordinal" "I" (.int 2)) (S_LESS_EQUAL : Sta Z h0 "com/example/ophion/ophion/runtime/CompareOp" "LESS_EQUAL" "Lcom/example/ophion/ophion/runtime/CompareOp;" (.ref as_LESS_EQUAL)) (E_LESS_EQUAL : Exa Z h0 as_LESS_EQUAL "com/example/ophion/ophion/runtime/CompareOp") (O_LESS_EQUAL : Fld Z h0 as_LESS_EQUAL "java/lang/Enum" "ordinal" "I" (.int 1)) (S_GREATER_EQUAL : Sta Z h0 "com/example/ophion/ophion/runtime/CompareOp" "GREATER_EQUAL" "Lcom/example/ophion/ophion/runtime/CompareOp;" (.ref as_GREATER_EQUAL)) (E_GREATER_EQUAL : Exa Z h0 as_GREATER_EQUAL "com/example/ophion/ophion/runtime/CompareOp") (O_GREATER_EQUAL : Fld Z h0 as_GREATER_EQUAL "java/lang/Enum" "ordinal" "I" (.int 5)) (S_NOT_EQUAL : Sta Z h0 "com/example/ophion/ophion/runtime/CompareOp" "NOT_EQUAL" "Lcom/example/ophion/ophion/runtime/CompareOp;" (.ref as_NOT_EQUAL)) (E_NOT_EQUAL : Exa Z h0 as_NOT_EQUAL "com/example/ophion/ophion/runtime/CompareOp") (O_NOT_EQUAL : Fld Z h0 as_NOT_EQUAL "java/lang/Enum" "ordinal" "I" (.int 3)) (hk : ((p0 &&& (2147483647 : Int32)) % (6 : Int32)) = (0 : Int32)) (hs : ((p1 &&& (2147483647 : Int32)) % (3 : Int32)) = (2 : Int32)) :
    MetFree l x (head1 (Jvm.Cond.code x code maxLocals ret :: ws) room_1) (fun a U => a = #[(.int p0), (.int p1)] ∧ Z.Warmed39 U.vm ∧ U.heap = h0) (fun _ _ _ _ _ => True) (fun _ U o U' => ∃ v L, o = .returned v ∧ Q0 Z  h0 n0 v U'.heap L ∧ FrameEnd U o U' L 0 0) := by
  refine MetFree.of_bodySF (plainFor_of_name pn_2) hisR ?_
  intro p e s m args below meth c s₁ Bd hml0 hP hK
  obtain ⟨rfl, hZ, hh⟩ := hP
  have hx := Bd.exec
  have hby := Bd.bytes
  have hml : c.maxLocals = 7 := hml0
  have hown : s.vm.findClass "com/example/ophion/ophion/runtime/CompareOpSwappedPinLaw" = some m.cls := findClass_of_methodNamed Bd.named
  have hnm := (name_of_methodNamed Bd.named Bd.method).1
  have X0 : Stand p l e room_1 s m #[(.int p0), (.int p1)] below meth c s₁ [] 0 0 := Stand.of_body Bd
  have e0 : s₁.heap = h0 := by rw [← hh, Bd.state]; rfl
  have N0 := Fr.nil n0
  refine own_go (own_lift (fun t k => castTop (ef_rm0_02 m p0 p1) k) ?_)
  show own_Go p.tables e below (s₁.setTop (mkF m 0 #[iv p0, iv p1, .unset, .unset, .unset, .unset, .unset] [])) _
  have sg1 : ∀ t, Steps p.tables e below (s₁.setTop (mkF m 7 #[iv p0, iv p1, .unset, .unset, .unset, .unset, .unset] [(.int ((p0 &&& (2147483647 : Int32)) % (6 : Int32)))])) t → Steps p.tables e below (s₁.setTop (mkF m 0 #[iv p0, iv p1, .unset, .unset, .unset, .unset, .unset] [])) t := by
    intro t k
    refine XS.iloadN X0.here hx rfl (hb hby at_0) rfl ?_
    show Steps p.tables e below (s₁.setTop (mkF m 1 #[iv p0, iv p1, .unset, .unset, .unset, .unset, .unset] [(.int p0)])) _
    refine X0.ldcInt hx hown (mvT hZ (wd hw 0 rfl)) (g := (mkF m 1 #[iv p0, iv p1, .unset, .unset, .unset, .unset, .unset] [(.int p0)])) rfl (hb hby at_1) _ ?_
    show Steps p.tables e below (s₁.setTop (mkF m 3 #[iv p0, iv p1, .unset, .unset, .unset, .unset, .unset] [(.int 2147483647), (.int p0)])) _
    refine XS.iand X0.here hx rfl (hb hby at_3) rfl ?_
    show Steps p.tables e below (s₁.setTop (mkF m 4 #[iv p0, iv p1, .unset, .unset, .unset, .unset, .unset] [(.int (p0 &&& (2147483647 : Int32)))])) _
    refine XS.bipush X0.here hx rfl (hb hby at_4) ?_
    show Steps p.tables e below (s₁.setTop (mkF m 6 #[iv p0, iv p1, .unset, .unset, .unset, .unset, .unset] [(.int 6), (.int (p0 &&& (2147483647 : Int32)))])) _
    refine iremM X0 hx rfl (hb hby at_6) rfl (by decide) ?_
    show Steps p.tables e below (s₁.setTop (mkF m 7 #[iv p0, iv p1, .unset, .unset, .unset, .unset, .unset] [(.int ((p0 &&& (2147483647 : Int32)) % (6 : Int32)))])) _
    exact k
  refine own_lift sg1 ?_
  show own_Go p.tables e below (s₁.setTop (mkF m 7 #[iv p0, iv p1, .unset, .unset, .unset, .unset, .unset] [(.int ((p0 &&& (2147483647 : Int32)) % (6 : Int32)))])) _
  rw [hk]
  show own_Go p.tables e below (s₁.setTop (mkF m 7 #[iv p0, iv p1, .unset, .unset, .unset, .unset, .unset] [(.int 0)])) _
  have sg2 : ∀ t, Steps p.tables e below (s₁.setTop (mkF m 9 #[iv p0, iv p1, iv 0, .unset, .unset, .unset, .unset] [(.int 0)])) t → Steps p.tables e below (s₁.setTop (mkF m 7 #[iv p0, iv p1, .unset, .unset, .unset, .unset, .unset] [(.int 0)])) t := by
    intro t k
    refine XS.istoreN X0.here hx rfl (hb hby at_7) rfl (l' := #[iv p0, iv p1, iv 0, .unset, .unset, .unset, .unset]) rfl ?_
    show Steps p.tables e below (s₁.setTop (mkF m 8 #[iv p0, iv p1, iv 0, .unset, .unset, .unset, .unset] [])) _
    refine XS.iloadN X0.here hx rfl (hb hby at_8) rfl ?_
    show Steps p.tables e below (s₁.setTop (mkF m 9 #[iv p0, iv p1, iv 0, .unset, .unset, .unset, .unset] [(.int 0)])) _
    exact k
  refine own_lift sg2 ?_
  show own_Go p.tables e below (s₁.setTop (mkF m 9 #[iv p0, iv p1, iv 0, .unset, .unset, .unset, .unset] [(.int 0)])) _
  obtain ⟨_, _, ⟨T3, Lx3, kx3, nx3⟩, -, X3, ⟨Lc3, hQ3, lx3, yx3, zx3⟩, st3⟩ := Jvm.LawKit.callS X0 hx (y := (⟨"com/example/ophion/ophion/runtime/CompareOpSwappedPinLaw", "pick", "(I)Lcom/example/ophion/ophion/runtime/CompareOp;"⟩ : MethodName)) hown (mvT hZ (wd hw 1 rfl)) (mvT hZ (wd hw 2 rfl)) (mvT hZ (wd hw 3 rfl)) (mvT hZ (wd hw 4 rfl)) (by decide) (backOf (W := 0) (rmPick0 l Z a0 hw [] (0 : Int32) as_LESS h0 n0 Z0 S_LESS (by decide : (0 : Int32) = (0 : Int32))) hZ (wd hw 4 rfl) (wd hw 3 rfl) (by decide) (by decide)) (g := (mkF m 9 #[iv p0, iv p1, iv 0, .unset, .unset, .unset, .unset] [(.int 0)])) rfl (by rw [hml]; rfl) (argsL := [(.int 0)]) (rest := []) (lenOf pd_1 rfl) rfl (by show 2 * 0 + _ ≤ _; exact Nat.le_of_eq rfl) (hb hby at_9) (fun _ _ => ⟨rfl, e0, (by decide : 0 + 0 ≤ _), (by decide : 0 + 0 ≤ _)⟩)
  dsimp only [Pt.U, Pt.locs, Pt.cells, Pt.slots] at X3 lx3 yx3 zx3 st3 hQ3
  subst lx3 yx3 zx3
  obtain ⟨rfl, N3q, e3⟩ := hQ3
  have N3 := Fr.app N0 N3q
  refine own_lift st3 ?_
  show own_Go p.tables e below (T3.setTop (mkF m 12 #[iv p0, iv p1, iv 0, .unset, .unset, .unset, .unset] [(.ref as_LESS)])) _
  have sg4 : ∀ t, Steps p.tables e below (T3.setTop (mkF m 14 #[iv p0, iv p1, iv 0, rv as_LESS, .unset, .unset, .unset] [(.int 0)])) t → Steps p.tables e below (T3.setTop (mkF m 12 #[iv p0, iv p1, iv 0, .unset, .unset, .unset, .unset] [(.ref as_LESS)])) t := by
    intro t k
    refine XS.astoreN X3.here hx rfl (hb hby at_12) rfl rfl (l' := #[iv p0, iv p1, iv 0, rv as_LESS, .unset, .unset, .unset]) rfl ?_
    show Steps p.tables e below (T3.setTop (mkF m 13 #[iv p0, iv p1, iv 0, rv as_LESS, .unset, .unset, .unset] [])) _
    refine XS.iloadN X3.here hx rfl (hb hby at_13) rfl ?_
    show Steps p.tables e below (T3.setTop (mkF m 14 #[iv p0, iv p1, iv 0, rv as_LESS, .unset, .unset, .unset] [(.int 0)])) _
    exact k
  refine own_lift sg4 ?_
  show own_Go p.tables e below (T3.setTop (mkF m 14 #[iv p0, iv p1, iv 0, rv as_LESS, .unset, .unset, .unset] [(.int 0)])) _
  obtain ⟨_, _, ⟨T5, Lx5, kx5, nx5⟩, -, X5, ⟨Lc5, hQ5, lx5, yx5, zx5⟩, st5⟩ := Jvm.LawKit.callS X3 hx (y := (⟨"com/example/ophion/ophion/runtime/CompareOpSwappedPinLaw", "mirror", "(I)I"⟩ : MethodName)) hown (mvT hZ (wd hw 8 rfl)) (mvT hZ (wd hw 9 rfl)) (mvT hZ (wd hw 3 rfl)) (mvT hZ (wd hw 10 rfl)) (by decide) (backOf (W := 0) (rmMir0 l Z a0 hw [] (0 : Int32) h0 n0 Z0 (by decide : (0 : Int32) = (0 : Int32))) hZ (wd hw 10 rfl) (wd hw 3 rfl) (by decide) (by decide)) (g := (mkF m 14 #[iv p0, iv p1, iv 0, rv as_LESS, .unset, .unset, .unset] [(.int 0)])) rfl (by rw [hml]; rfl) (argsL := [(.int 0)]) (rest := []) (lenOf pd_2 rfl) rfl (by show 2 * 0 + _ ≤ _; exact Nat.le_of_eq rfl) (hb hby at_14) (fun _ _ => ⟨rfl, e3, (by decide : 0 + 0 ≤ _), (by decide : 0 + 0 ≤ _)⟩)
  dsimp only [Pt.U, Pt.locs, Pt.cells, Pt.slots] at X5 lx5 yx5 zx5 st5 hQ5
  subst lx5 yx5 zx5
  obtain ⟨rfl, N5q, e5⟩ := hQ5
  have N5 := Fr.app N3 N5q
  refine own_lift st5 ?_
  show own_Go p.tables e below (T5.setTop (mkF m 17 #[iv p0, iv p1, iv 0, rv as_LESS, .unset, .unset, .unset] [(.int 4)])) _
  obtain ⟨_, _, ⟨T6, Lx6, kx6, nx6⟩, -, X6, ⟨Lc6, hQ6, lx6, yx6, zx6⟩, st6⟩ := Jvm.LawKit.callS X5 hx (y := (⟨"com/example/ophion/ophion/runtime/CompareOpSwappedPinLaw", "pick", "(I)Lcom/example/ophion/ophion/runtime/CompareOp;"⟩ : MethodName)) hown (mvT hZ (wd hw 1 rfl)) (mvT hZ (wd hw 2 rfl)) (mvT hZ (wd hw 3 rfl)) (mvT hZ (wd hw 4 rfl)) (by decide) (backOf (W := 0) (rmPick4 l Z a0 hw [] (4 : Int32) as_GREATER h0 n0 Z0 S_GREATER (by decide : ¬ ((4 : Int32) = (0 : Int32))) (by decide : ¬ ((4 : Int32) = (1 : Int32))) (by decide : ¬ ((4 : Int32) = (2 : Int32))) (by decide : ¬ ((4 : Int32) = (3 : Int32))) (by decide : (4 : Int32) = (4 : Int32))) hZ (wd hw 4 rfl) (wd hw 3 rfl) (by decide) (by decide)) (g := (mkF m 17 #[iv p0, iv p1, iv 0, rv as_LESS, .unset, .unset, .unset] [(.int 4)])) rfl (by rw [hml]; rfl) (argsL := [(.int 4)]) (rest := []) (lenOf pd_1 rfl) rfl (by show 2 * 0 + _ ≤ _; exact Nat.le_of_eq rfl) (hb hby at_17) (fun _ _ => ⟨rfl, e5, (by decide : 0 + 0 ≤ _), (by decide : 0 + 0 ≤ _)⟩)
  dsimp only [Pt.U, Pt.locs, Pt.cells, Pt.slots] at X6 lx6 yx6 zx6 st6 hQ6
  subst lx6 yx6 zx6
  obtain ⟨rfl, N6q, e6⟩ := hQ6
  have N6 := Fr.app N5 N6q
  refine own_lift st6 ?_
  show own_Go p.tables e below (T6.setTop (mkF m 20 #[iv p0, iv p1, iv 0, rv as_LESS, .unset, .unset, .unset] [(.ref as_GREATER)])) _
  have sg7 : ∀ t, Steps p.tables e below (T6.setTop (mkF m 23 #[iv p0, iv p1, iv 0, rv as_LESS, rv as_GREATER, .unset, .unset] [(.ref as_LESS)])) t → Steps p.tables e below (T6.setTop (mkF m 20 #[iv p0, iv p1, iv 0, rv as_LESS, .unset, .unset, .unset] [(.ref as_GREATER)])) t := by
    intro t k
    refine XS.astore X6.here hx rfl (hb hby at_20) rfl rfl (l' := #[iv p0, iv p1, iv 0, rv as_LESS, rv as_GREATER, .unset, .unset]) rfl ?_
    show Steps p.tables e below (T6.setTop (mkF m 22 #[iv p0, iv p1, iv 0, rv as_LESS, rv as_GREATER, .unset, .unset] [])) _
    refine XS.aloadN X6.here hx rfl (hb hby at_22) rfl rfl ?_
    show Steps p.tables e below (T6.setTop (mkF m 23 #[iv p0, iv p1, iv 0, rv as_LESS, rv as_GREATER, .unset, .unset] [(.ref as_LESS)])) _
    exact k
  refine own_lift sg7 ?_
  show own_Go p.tables e below (T6.setTop (mkF m 23 #[iv p0, iv p1, iv 0, rv as_LESS, rv as_GREATER, .unset, .unset] [(.ref as_LESS)])) _
  obtain ⟨cq8, kq8, q8a, q8b, q8c⟩ := isOf hZ e6 E_LESS
  obtain ⟨_, _, ⟨T8, Lx8, kx8, nx8⟩, -, X8, ⟨Lc8, hQ8, lx8, yx8, zx8⟩, st8⟩ := X6.virtualBack hx (y := (⟨"com/example/ophion/ophion/runtime/CompareOp", "swapped", "()Lcom/example/ophion/ophion/runtime/CompareOp;"⟩ : MethodName)) (z := (⟨"com/example/ophion/ophion/runtime/CompareOp", "swapped", "()Lcom/example/ophion/ophion/runtime/CompareOp;"⟩ : MethodName)) hown (mvT hZ (wd hw 13 rfl)) (mvT hZ (wd hw 14 rfl)) (notFace_of_selects (args := #[]) (mvT hZ (wd hw 16 rfl))) (mvT hZ (wd hw 16 rfl)) (mvT hZ (wd hw 15 rfl)) (by decide) (backOf (W := 0) (rmSw0 l Z a0 hw [] as_LESS as_GREATER h0 n0 Z0 O_LESS E_LESS S_GREATER) hZ (wd hw 17 rfl) (wd hw 6 rfl) (by decide) (by decide)) q8a q8c (g := (mkF m 23 #[iv p0, iv p1, iv 0, rv as_LESS, rv as_GREATER, .unset, .unset] [(.ref as_LESS)])) rfl (by rw [hml]; rfl) (Steps.refl _) (argsL := []) (rest := []) (lenOf pd_3 rfl) rfl (by show 2 * 0 + _ ≤ _; exact Nat.le_of_eq rfl) (hb hby at_23) (fun _ _ => ⟨rfl, e6, (by decide : 0 + 0 ≤ _), (by decide : 0 + 0 ≤ _)⟩)
  dsimp only [Pt.U, Pt.locs, Pt.cells, Pt.slots] at X8 lx8 yx8 zx8 st8 hQ8
  subst lx8 yx8 zx8
  obtain ⟨rfl, N8q, e8⟩ := hQ8
  have N8 := Fr.app N6 N8q
  refine own_lift (fun t k => st8.trans k) ?_
  show own_Go p.tables e below (T8.setTop (mkF m 26 #[iv p0, iv p1, iv 0, rv as_LESS, rv as_GREATER, .unset, .unset] [(.ref as_GREATER)])) _
  have sg9 : ∀ t, Steps p.tables e below (T8.setTop (mkF m 34 #[iv p0, iv p1, iv 0, rv as_LESS, rv as_GREATER, rv as_GREATER, .unset] [(.int ((p1 &&& (2147483647 : Int32)) % (3 : Int32)))])) t → Steps p.tables e below (T8.setTop (mkF m 26 #[iv p0, iv p1, iv 0, rv as_LESS, rv as_GREATER, .unset, .unset] [(.ref as_GREATER)])) t := by
    intro t k
    refine XS.astore X8.here hx rfl (hb hby at_26) rfl rfl (l' := #[iv p0, iv p1, iv 0, rv as_LESS, rv as_GREATER, rv as_GREATER, .unset]) rfl ?_
    show Steps p.tables e below (T8.setTop (mkF m 28 #[iv p0, iv p1, iv 0, rv as_LESS, rv as_GREATER, rv as_GREATER, .unset] [])) _
    refine XS.iloadN X8.here hx rfl (hb hby at_28) rfl ?_
    show Steps p.tables e below (T8.setTop (mkF m 29 #[iv p0, iv p1, iv 0, rv as_LESS, rv as_GREATER, rv as_GREATER, .unset] [(.int p1)])) _
    refine X8.ldcInt hx hown (mvT hZ (wd hw 0 rfl)) (g := (mkF m 29 #[iv p0, iv p1, iv 0, rv as_LESS, rv as_GREATER, rv as_GREATER, .unset] [(.int p1)])) rfl (hb hby at_29) _ ?_
    show Steps p.tables e below (T8.setTop (mkF m 31 #[iv p0, iv p1, iv 0, rv as_LESS, rv as_GREATER, rv as_GREATER, .unset] [(.int 2147483647), (.int p1)])) _
    refine XS.iand X8.here hx rfl (hb hby at_31) rfl ?_
    show Steps p.tables e below (T8.setTop (mkF m 32 #[iv p0, iv p1, iv 0, rv as_LESS, rv as_GREATER, rv as_GREATER, .unset] [(.int (p1 &&& (2147483647 : Int32)))])) _
    refine XS.iconst X8.here hx rfl (hb hby at_32) ?_
    show Steps p.tables e below (T8.setTop (mkF m 33 #[iv p0, iv p1, iv 0, rv as_LESS, rv as_GREATER, rv as_GREATER, .unset] [(.int 3), (.int (p1 &&& (2147483647 : Int32)))])) _
    refine iremM X8 hx rfl (hb hby at_33) rfl (by decide) ?_
    show Steps p.tables e below (T8.setTop (mkF m 34 #[iv p0, iv p1, iv 0, rv as_LESS, rv as_GREATER, rv as_GREATER, .unset] [(.int ((p1 &&& (2147483647 : Int32)) % (3 : Int32)))])) _
    exact k
  refine own_lift sg9 ?_
  show own_Go p.tables e below (T8.setTop (mkF m 34 #[iv p0, iv p1, iv 0, rv as_LESS, rv as_GREATER, rv as_GREATER, .unset] [(.int ((p1 &&& (2147483647 : Int32)) % (3 : Int32)))])) _
  rw [hs]
  show own_Go p.tables e below (T8.setTop (mkF m 34 #[iv p0, iv p1, iv 0, rv as_LESS, rv as_GREATER, rv as_GREATER, .unset] [(.int 2)])) _
  have sg10 : ∀ t, Steps p.tables e below (T8.setTop (mkF m 50 #[iv p0, iv p1, iv 0, rv as_LESS, rv as_GREATER, rv as_GREATER, iv 1] [(.int (-1)), (.ref as_GREATER)])) t → Steps p.tables e below (T8.setTop (mkF m 34 #[iv p0, iv p1, iv 0, rv as_LESS, rv as_GREATER, rv as_GREATER, .unset] [(.int 2)])) t := by
    intro t k
    refine XS.iconst X8.here hx rfl (hb hby at_34) ?_
    show Steps p.tables e below (T8.setTop (mkF m 35 #[iv p0, iv p1, iv 0, rv as_LESS, rv as_GREATER, rv as_GREATER, .unset] [(.int 1), (.int 2)])) _
    refine XS.isub X8.here hx rfl (hb hby at_35) rfl ?_
    show Steps p.tables e below (T8.setTop (mkF m 36 #[iv p0, iv p1, iv 0, rv as_LESS, rv as_GREATER, rv as_GREATER, .unset] [(.int 1)])) _
    refine XS.istore X8.here hx rfl (hb hby at_36) rfl (l' := #[iv p0, iv p1, iv 0, rv as_LESS, rv as_GREATER, rv as_GREATER, iv 1]) rfl ?_
    show Steps p.tables e below (T8.setTop (mkF m 38 #[iv p0, iv p1, iv 0, rv as_LESS, rv as_GREATER, rv as_GREATER, iv 1] [])) _
    refine XS.aload X8.here hx rfl (hb hby at_38) rfl rfl ?_
    show Steps p.tables e below (T8.setTop (mkF m 40 #[iv p0, iv p1, iv 0, rv as_LESS, rv as_GREATER, rv as_GREATER, iv 1] [(.ref as_GREATER)])) _
    refine XS.aload X8.here hx rfl (hb hby at_40) rfl rfl ?_
    show Steps p.tables e below (T8.setTop (mkF m 42 #[iv p0, iv p1, iv 0, rv as_LESS, rv as_GREATER, rv as_GREATER, iv 1] [(.ref as_GREATER), (.ref as_GREATER)])) _
    refine Jvm.RoadKit.acmp (g := (mkF m 42 #[iv p0, iv p1, iv 0, rv as_LESS, rv as_GREATER, rv as_GREATER, iv 1] [(.ref as_GREATER), (.ref as_GREATER)])) X8 hx rfl rfl rfl (pc0 := 42) (pc' := 45) (same := true) rfl (hb hby at_42) rfl (decide_eq_true rfl) (by decide) (by decide) ?_
    show Steps p.tables e below (T8.setTop (mkF m 45 #[iv p0, iv p1, iv 0, rv as_LESS, rv as_GREATER, rv as_GREATER, iv 1] [])) _
    refine XS.aload X8.here hx rfl (hb hby at_45) rfl rfl ?_
    show Steps p.tables e below (T8.setTop (mkF m 47 #[iv p0, iv p1, iv 0, rv as_LESS, rv as_GREATER, rv as_GREATER, iv 1] [(.ref as_GREATER)])) _
    refine XS.iload X8.here hx rfl (hb hby at_47) rfl ?_
    show Steps p.tables e below (T8.setTop (mkF m 49 #[iv p0, iv p1, iv 0, rv as_LESS, rv as_GREATER, rv as_GREATER, iv 1] [(.int 1), (.ref as_GREATER)])) _
    refine XS.ineg X8.here hx rfl (hb hby at_49) rfl ?_
    show Steps p.tables e below (T8.setTop (mkF m 50 #[iv p0, iv p1, iv 0, rv as_LESS, rv as_GREATER, rv as_GREATER, iv 1] [(.int (-1)), (.ref as_GREATER)])) _
    exact k
  refine own_lift sg10 ?_
  show own_Go p.tables e below (T8.setTop (mkF m 50 #[iv p0, iv p1, iv 0, rv as_LESS, rv as_GREATER, rv as_GREATER, iv 1] [(.int (-1)), (.ref as_GREATER)])) _
  obtain ⟨cq11, kq11, q11a, q11b, q11c⟩ := isOf hZ e8 E_GREATER
  obtain ⟨_, _, ⟨T11, Lx11, kx11, nx11⟩, -, X11, ⟨Lc11, hQ11, lx11, yx11, zx11⟩, st11⟩ := X8.virtualBack hx (y := (⟨"com/example/ophion/ophion/runtime/CompareOp", "holds", "(I)Z"⟩ : MethodName)) (z := (⟨"com/example/ophion/ophion/runtime/CompareOp", "holds", "(I)Z"⟩ : MethodName)) hown (mvT hZ (wd hw 28 rfl)) (mvT hZ (wd hw 29 rfl)) (notFace_of_selects (args := #[]) (mvT hZ (wd hw 31 rfl))) (mvT hZ (wd hw 31 rfl)) (mvT hZ (wd hw 30 rfl)) (by decide) (backOf (W := 0) (rmHolds4f l Z a0 hw [] as_GREATER (-1 : Int32) h0 n0 Z0 O_GREATER E_GREATER (by decide : ¬ ((0 : Int32) < (-1 : Int32)))) hZ (wd hw 32 rfl) (wd hw 6 rfl) (by decide) (by decide)) q11a q11c (g := (mkF m 50 #[iv p0, iv p1, iv 0, rv as_LESS, rv as_GREATER, rv as_GREATER, iv 1] [(.int (-1)), (.ref as_GREATER)])) rfl (by rw [hml]; rfl) (Steps.refl _) (argsL := [(.int (-1))]) (rest := []) (lenOf pd_4 rfl) rfl (by show 2 * 0 + _ ≤ _; exact Nat.le_of_eq rfl) (hb hby at_50) (fun _ _ => ⟨rfl, e8, (by decide : 0 + 0 ≤ _), (by decide : 0 + 0 ≤ _)⟩)
  dsimp only [Pt.U, Pt.locs, Pt.cells, Pt.slots] at X11 lx11 yx11 zx11 st11 hQ11
  subst lx11 yx11 zx11
  obtain ⟨rfl, N11q, e11⟩ := hQ11
  have N11 := Fr.app N8 N11q
  refine own_lift (fun t k => st11.trans k) ?_
  show own_Go p.tables e below (T11.setTop (mkF m 53 #[iv p0, iv p1, iv 0, rv as_LESS, rv as_GREATER, rv as_GREATER, iv 1] [(.int 0)])) _
  have sg12 : ∀ t, Steps p.tables e below (T11.setTop (mkF m 56 #[iv p0, iv p1, iv 0, rv as_LESS, rv as_GREATER, rv as_GREATER, iv 1] [(.int 1), (.ref as_LESS), (.int 0)])) t → Steps p.tables e below (T11.setTop (mkF m 53 #[iv p0, iv p1, iv 0, rv as_LESS, rv as_GREATER, rv as_GREATER, iv 1] [(.int 0)])) t := by
    intro t k
    refine XS.aloadN X11.here hx rfl (hb hby at_53) rfl rfl ?_
    show Steps p.tables e below (T11.setTop (mkF m 54 #[iv p0, iv p1, iv 0, rv as_LESS, rv as_GREATER, rv as_GREATER, iv 1] [(.ref as_LESS), (.int 0)])) _
    refine XS.iload X11.here hx rfl (hb hby at_54) rfl ?_
    show Steps p.tables e below (T11.setTop (mkF m 56 #[iv p0, iv p1, iv 0, rv as_LESS, rv as_GREATER, rv as_GREATER, iv 1] [(.int 1), (.ref as_LESS), (.int 0)])) _
    exact k
  refine own_lift sg12 ?_
  show own_Go p.tables e below (T11.setTop (mkF m 56 #[iv p0, iv p1, iv 0, rv as_LESS, rv as_GREATER, rv as_GREATER, iv 1] [(.int 1), (.ref as_LESS), (.int 0)])) _
  obtain ⟨cq13, kq13, q13a, q13b, q13c⟩ := isOf hZ e11 E_LESS
  obtain ⟨_, _, ⟨T13, Lx13, kx13, nx13⟩, -, X13, ⟨Lc13, hQ13, lx13, yx13, zx13⟩, st13⟩ := X11.virtualBack hx (y := (⟨"com/example/ophion/ophion/runtime/CompareOp", "holds", "(I)Z"⟩ : MethodName)) (z := (⟨"com/example/ophion/ophion/runtime/CompareOp", "holds", "(I)Z"⟩ : MethodName)) hown (mvT hZ (wd hw 28 rfl)) (mvT hZ (wd hw 29 rfl)) (notFace_of_selects (args := #[]) (mvT hZ (wd hw 31 rfl))) (mvT hZ (wd hw 31 rfl)) (mvT hZ (wd hw 30 rfl)) (by decide) (backOf (W := 1) (rmHolds0f l Z a0 hw [] as_LESS (1 : Int32) h0 n0 Z0 O_LESS E_LESS (by decide : ¬ ((1 : Int32) < (0 : Int32)))) hZ (wd hw 32 rfl) (wd hw 6 rfl) (by decide) (by decide)) q13a q13c (g := (mkF m 56 #[iv p0, iv p1, iv 0, rv as_LESS, rv as_GREATER, rv as_GREATER, iv 1] [(.int 1), (.ref as_LESS), (.int 0)])) rfl (by rw [hml]; rfl) (Steps.refl _) (argsL := [(.int 1)]) (rest := [(.int 0)]) (lenOf pd_4 rfl) rfl (by show 2 * 0 + _ ≤ _; exact Nat.le_of_eq rfl) (hb hby at_56) (fun _ _ => ⟨rfl, e11, (by decide : 0 + 0 ≤ _), (by decide : 0 + 0 ≤ _)⟩)
  dsimp only [Pt.U, Pt.locs, Pt.cells, Pt.slots] at X13 lx13 yx13 zx13 st13 hQ13
  subst lx13 yx13 zx13
  obtain ⟨rfl, N13q, e13⟩ := hQ13
  have N13 := Fr.app N11 N13q
  refine own_lift (fun t k => st13.trans k) ?_
  show own_Go p.tables e below (T13.setTop (mkF m 59 #[iv p0, iv p1, iv 0, rv as_LESS, rv as_GREATER, rv as_GREATER, iv 1] [(.int 0), (.int 0)])) _
  have sg14 : ∀ t, Steps p.tables e below (T13.setTop (mkF m 67 #[iv p0, iv p1, iv 0, rv as_LESS, rv as_GREATER, rv as_GREATER, iv 1] [(.int 1)])) t → Steps p.tables e below (T13.setTop (mkF m 59 #[iv p0, iv p1, iv 0, rv as_LESS, rv as_GREATER, rv as_GREATER, iv 1] [(.int 0), (.int 0)])) t := by
    intro t k
    refine XS.icmpNo X13.here hx rfl (hb hby at_59) rfl (teq (by decide : (0 : Int32) = (0 : Int32))).2 ?_
    show Steps p.tables e below (T13.setTop (mkF m 62 #[iv p0, iv p1, iv 0, rv as_LESS, rv as_GREATER, rv as_GREATER, iv 1] [])) _
    refine XS.iconst X13.here hx rfl (hb hby at_62) ?_
    show Steps p.tables e below (T13.setTop (mkF m 63 #[iv p0, iv p1, iv 0, rv as_LESS, rv as_GREATER, rv as_GREATER, iv 1] [(.int 1)])) _
    refine XS.goto X13.here hx rfl (pc0 := 63) (pc' := 67) rfl (hb hby at_63) (by decide) (by decide) ?_
    show Steps p.tables e below (T13.setTop (mkF m 67 #[iv p0, iv p1, iv 0, rv as_LESS, rv as_GREATER, rv as_GREATER, iv 1] [(.int 1)])) _
    exact k
  refine own_lift sg14 ?_
  show own_Go p.tables e below (T13.setTop (mkF m 67 #[iv p0, iv p1, iv 0, rv as_LESS, rv as_GREATER, rv as_GREATER, iv 1] [(.int 1)])) _
  obtain ⟨fs, hr, hrun, hended, hW, hsame⟩ := X13.leave (v := some (.int 1)) (fun h => by rw [Bd.returns] at h; cases h)
  refine ⟨_, _, ?_, hrun, hended, _, _, rfl, ?_, ⟨_, rfl⟩, hW, hsame.mono (by decide) (by decide)⟩
  · exact retN X13 hx (t := .boolean) Bd.returns (by simp) (hb hby at_67) hr
  · show Q0 Z  h0 n0 _ T13.heap _
    rw [e13]
    exact ⟨rfl, N13⟩
theorem ef_rm0_10 (m : MethodId) (x0 : Int32) (x1 : Int32) : entryFrame m #[(.int x0), (.int x1)] maxLocals = mkF m 0 #[.val (.int x0), .val (.int x1), .unset, .unset, .unset, .unset, .unset] [] := by first | (simp [entryFrame, mkF, argsToLocals, Value.category, maxLocals]; done) | rfl
set_option maxRecDepth 65536 in
set_option maxHeartbeats 40000000 in
theorem rm0_10 (l : Launch) (Z : State) (a0 : Array Value) (hw : ∀ d ∈ tables_1, d.before a0 Z = true) (ws : List Jvm.Cond) (p0 : Int32) (p1 : Int32) (as_LESS : Addr) (as_GREATER : Addr) (as_EQUAL : Addr) (as_LESS_EQUAL : Addr) (as_GREATER_EQUAL : Addr) (as_NOT_EQUAL : Addr) (h0 : Heap) (n0 : Nat) (Z0 : n0 ≤ h0.size) (S_LESS : Sta Z h0 "com/example/ophion/ophion/runtime/CompareOp" "LESS" "Lcom/example/ophion/ophion/runtime/CompareOp;" (.ref as_LESS)) (E_LESS : Exa Z h0 as_LESS "com/example/ophion/ophion/runtime/CompareOp") (O_LESS : Fld Z h0 as_LESS "java/lang/Enum" "ordinal" "I" (.int 0)) (S_GREATER : Sta Z h0 "com/example/ophion/ophion/runtime/CompareOp" "GREATER" "Lcom/example/ophion/ophion/runtime/CompareOp;" (.ref as_GREATER)) (E_GREATER : Exa Z h0 as_GREATER "com/example/ophion/ophion/runtime/CompareOp") (O_GREATER : Fld Z h0 as_GREATER "java/lang/Enum" "ordinal" "I" (.int 4)) (S_EQUAL : Sta Z h0 "com/example/ophion/ophion/runtime/CompareOp" "EQUAL" "Lcom/example/ophion/ophion/runtime/CompareOp;" (.ref as_EQUAL)) (E_EQUAL : Exa Z h0 as_EQUAL "com/example/ophion/ophion/runtime/CompareOp") (O_EQUAL : Fld Z h0 as_EQUAL "java/lang/Enum" "ordinal" "I" (.int 2)) (S_LESS_EQUAL : Sta Z h0 "com/example/ophion/ophion/runtime/CompareOp" "LESS_EQUAL" "Lcom/example/ophion/ophion/runtime/CompareOp;" (.ref as_LESS_EQUAL)) (E_LESS_EQUAL : Exa Z h0 as_LESS_EQUAL "com/example/ophion/ophion/runtime/CompareOp") (O_LESS_EQUAL : Fld Z h0 as_LESS_EQUAL "java/lang/Enum" "ordinal" "I" (.int 1)) (S_GREATER_EQUAL : Sta Z h0 "com/example/ophion/ophion/runtime/CompareOp" "GREATER_EQUAL" "Lcom/example/ophion/ophion/runtime/CompareOp;" (.ref as_GREATER_EQUAL)) (E_GREATER_EQUAL : Exa Z h0 as_GREATER_EQUAL "com/example/ophion/ophion/runtime/CompareOp") (O_GREATER_EQUAL : Fld Z h0 as_GREATER_EQUAL "java/lang/Enum" "ordinal" "I" (.int 5)) (S_NOT_EQUAL : Sta Z h0 "com/example/ophion/ophion/runtime/CompareOp" "NOT_EQUAL" "Lcom/example/ophion/ophion/runtime/CompareOp;" (.ref as_NOT_EQUAL)) (E_NOT_EQUAL : Exa Z h0 as_NOT_EQUAL "com/example/ophion/ophion/runtime/CompareOp") (O_NOT_EQUAL : Fld Z h0 as_NOT_EQUAL "java/lang/Enum" "ordinal" "I" (.int 3)) (hk : ((p0 &&& (2147483647 : Int32)) % (6 : Int32)) = (1 : Int32)) (hs : ((p1 &&& (2147483647 : Int32)) % (3 : Int32)) = (0 : Int32)) :
    MetFree l x (head1 (Jvm.Cond.code x code maxLocals ret :: ws) room_1) (fun a U => a = #[(.int p0), (.int p1)] ∧ Z.Warmed39 U.vm ∧ U.heap = h0) (fun _ _ _ _ _ => True) (fun _ U o U' => ∃ v L, o = .returned v ∧ Q0 Z  h0 n0 v U'.heap L ∧ FrameEnd U o U' L 0 0) := by
  refine MetFree.of_bodySF (plainFor_of_name pn_2) hisR ?_
  intro p e s m args below meth c s₁ Bd hml0 hP hK
  obtain ⟨rfl, hZ, hh⟩ := hP
  have hx := Bd.exec
  have hby := Bd.bytes
  have hml : c.maxLocals = 7 := hml0
  have hown : s.vm.findClass "com/example/ophion/ophion/runtime/CompareOpSwappedPinLaw" = some m.cls := findClass_of_methodNamed Bd.named
  have hnm := (name_of_methodNamed Bd.named Bd.method).1
  have X0 : Stand p l e room_1 s m #[(.int p0), (.int p1)] below meth c s₁ [] 0 0 := Stand.of_body Bd
  have e0 : s₁.heap = h0 := by rw [← hh, Bd.state]; rfl
  have N0 := Fr.nil n0
  refine own_go (own_lift (fun t k => castTop (ef_rm0_10 m p0 p1) k) ?_)
  show own_Go p.tables e below (s₁.setTop (mkF m 0 #[iv p0, iv p1, .unset, .unset, .unset, .unset, .unset] [])) _
  have sg1 : ∀ t, Steps p.tables e below (s₁.setTop (mkF m 7 #[iv p0, iv p1, .unset, .unset, .unset, .unset, .unset] [(.int ((p0 &&& (2147483647 : Int32)) % (6 : Int32)))])) t → Steps p.tables e below (s₁.setTop (mkF m 0 #[iv p0, iv p1, .unset, .unset, .unset, .unset, .unset] [])) t := by
    intro t k
    refine XS.iloadN X0.here hx rfl (hb hby at_0) rfl ?_
    show Steps p.tables e below (s₁.setTop (mkF m 1 #[iv p0, iv p1, .unset, .unset, .unset, .unset, .unset] [(.int p0)])) _
    refine X0.ldcInt hx hown (mvT hZ (wd hw 0 rfl)) (g := (mkF m 1 #[iv p0, iv p1, .unset, .unset, .unset, .unset, .unset] [(.int p0)])) rfl (hb hby at_1) _ ?_
    show Steps p.tables e below (s₁.setTop (mkF m 3 #[iv p0, iv p1, .unset, .unset, .unset, .unset, .unset] [(.int 2147483647), (.int p0)])) _
    refine XS.iand X0.here hx rfl (hb hby at_3) rfl ?_
    show Steps p.tables e below (s₁.setTop (mkF m 4 #[iv p0, iv p1, .unset, .unset, .unset, .unset, .unset] [(.int (p0 &&& (2147483647 : Int32)))])) _
    refine XS.bipush X0.here hx rfl (hb hby at_4) ?_
    show Steps p.tables e below (s₁.setTop (mkF m 6 #[iv p0, iv p1, .unset, .unset, .unset, .unset, .unset] [(.int 6), (.int (p0 &&& (2147483647 : Int32)))])) _
    refine iremM X0 hx rfl (hb hby at_6) rfl (by decide) ?_
    show Steps p.tables e below (s₁.setTop (mkF m 7 #[iv p0, iv p1, .unset, .unset, .unset, .unset, .unset] [(.int ((p0 &&& (2147483647 : Int32)) % (6 : Int32)))])) _
    exact k
  refine own_lift sg1 ?_
  show own_Go p.tables e below (s₁.setTop (mkF m 7 #[iv p0, iv p1, .unset, .unset, .unset, .unset, .unset] [(.int ((p0 &&& (2147483647 : Int32)) % (6 : Int32)))])) _
  rw [hk]
  show own_Go p.tables e below (s₁.setTop (mkF m 7 #[iv p0, iv p1, .unset, .unset, .unset, .unset, .unset] [(.int 1)])) _
  have sg2 : ∀ t, Steps p.tables e below (s₁.setTop (mkF m 9 #[iv p0, iv p1, iv 1, .unset, .unset, .unset, .unset] [(.int 1)])) t → Steps p.tables e below (s₁.setTop (mkF m 7 #[iv p0, iv p1, .unset, .unset, .unset, .unset, .unset] [(.int 1)])) t := by
    intro t k
    refine XS.istoreN X0.here hx rfl (hb hby at_7) rfl (l' := #[iv p0, iv p1, iv 1, .unset, .unset, .unset, .unset]) rfl ?_
    show Steps p.tables e below (s₁.setTop (mkF m 8 #[iv p0, iv p1, iv 1, .unset, .unset, .unset, .unset] [])) _
    refine XS.iloadN X0.here hx rfl (hb hby at_8) rfl ?_
    show Steps p.tables e below (s₁.setTop (mkF m 9 #[iv p0, iv p1, iv 1, .unset, .unset, .unset, .unset] [(.int 1)])) _
    exact k
  refine own_lift sg2 ?_
  show own_Go p.tables e below (s₁.setTop (mkF m 9 #[iv p0, iv p1, iv 1, .unset, .unset, .unset, .unset] [(.int 1)])) _
  obtain ⟨_, _, ⟨T3, Lx3, kx3, nx3⟩, -, X3, ⟨Lc3, hQ3, lx3, yx3, zx3⟩, st3⟩ := Jvm.LawKit.callS X0 hx (y := (⟨"com/example/ophion/ophion/runtime/CompareOpSwappedPinLaw", "pick", "(I)Lcom/example/ophion/ophion/runtime/CompareOp;"⟩ : MethodName)) hown (mvT hZ (wd hw 1 rfl)) (mvT hZ (wd hw 2 rfl)) (mvT hZ (wd hw 3 rfl)) (mvT hZ (wd hw 4 rfl)) (by decide) (backOf (W := 0) (rmPick1 l Z a0 hw [] (1 : Int32) as_LESS_EQUAL h0 n0 Z0 S_LESS_EQUAL (by decide : ¬ ((1 : Int32) = (0 : Int32))) (by decide : (1 : Int32) = (1 : Int32))) hZ (wd hw 4 rfl) (wd hw 3 rfl) (by decide) (by decide)) (g := (mkF m 9 #[iv p0, iv p1, iv 1, .unset, .unset, .unset, .unset] [(.int 1)])) rfl (by rw [hml]; rfl) (argsL := [(.int 1)]) (rest := []) (lenOf pd_1 rfl) rfl (by show 2 * 0 + _ ≤ _; exact Nat.le_of_eq rfl) (hb hby at_9) (fun _ _ => ⟨rfl, e0, (by decide : 0 + 0 ≤ _), (by decide : 0 + 0 ≤ _)⟩)
  dsimp only [Pt.U, Pt.locs, Pt.cells, Pt.slots] at X3 lx3 yx3 zx3 st3 hQ3
  subst lx3 yx3 zx3
  obtain ⟨rfl, N3q, e3⟩ := hQ3
  have N3 := Fr.app N0 N3q
  refine own_lift st3 ?_
  show own_Go p.tables e below (T3.setTop (mkF m 12 #[iv p0, iv p1, iv 1, .unset, .unset, .unset, .unset] [(.ref as_LESS_EQUAL)])) _
  have sg4 : ∀ t, Steps p.tables e below (T3.setTop (mkF m 14 #[iv p0, iv p1, iv 1, rv as_LESS_EQUAL, .unset, .unset, .unset] [(.int 1)])) t → Steps p.tables e below (T3.setTop (mkF m 12 #[iv p0, iv p1, iv 1, .unset, .unset, .unset, .unset] [(.ref as_LESS_EQUAL)])) t := by
    intro t k
    refine XS.astoreN X3.here hx rfl (hb hby at_12) rfl rfl (l' := #[iv p0, iv p1, iv 1, rv as_LESS_EQUAL, .unset, .unset, .unset]) rfl ?_
    show Steps p.tables e below (T3.setTop (mkF m 13 #[iv p0, iv p1, iv 1, rv as_LESS_EQUAL, .unset, .unset, .unset] [])) _
    refine XS.iloadN X3.here hx rfl (hb hby at_13) rfl ?_
    show Steps p.tables e below (T3.setTop (mkF m 14 #[iv p0, iv p1, iv 1, rv as_LESS_EQUAL, .unset, .unset, .unset] [(.int 1)])) _
    exact k
  refine own_lift sg4 ?_
  show own_Go p.tables e below (T3.setTop (mkF m 14 #[iv p0, iv p1, iv 1, rv as_LESS_EQUAL, .unset, .unset, .unset] [(.int 1)])) _
  obtain ⟨_, _, ⟨T5, Lx5, kx5, nx5⟩, -, X5, ⟨Lc5, hQ5, lx5, yx5, zx5⟩, st5⟩ := Jvm.LawKit.callS X3 hx (y := (⟨"com/example/ophion/ophion/runtime/CompareOpSwappedPinLaw", "mirror", "(I)I"⟩ : MethodName)) hown (mvT hZ (wd hw 8 rfl)) (mvT hZ (wd hw 9 rfl)) (mvT hZ (wd hw 3 rfl)) (mvT hZ (wd hw 10 rfl)) (by decide) (backOf (W := 0) (rmMir1 l Z a0 hw [] (1 : Int32) h0 n0 Z0 (by decide : ¬ ((1 : Int32) = (0 : Int32))) (by decide : (1 : Int32) = (1 : Int32))) hZ (wd hw 10 rfl) (wd hw 3 rfl) (by decide) (by decide)) (g := (mkF m 14 #[iv p0, iv p1, iv 1, rv as_LESS_EQUAL, .unset, .unset, .unset] [(.int 1)])) rfl (by rw [hml]; rfl) (argsL := [(.int 1)]) (rest := []) (lenOf pd_2 rfl) rfl (by show 2 * 0 + _ ≤ _; exact Nat.le_of_eq rfl) (hb hby at_14) (fun _ _ => ⟨rfl, e3, (by decide : 0 + 0 ≤ _), (by decide : 0 + 0 ≤ _)⟩)
  dsimp only [Pt.U, Pt.locs, Pt.cells, Pt.slots] at X5 lx5 yx5 zx5 st5 hQ5
  subst lx5 yx5 zx5
  obtain ⟨rfl, N5q, e5⟩ := hQ5
  have N5 := Fr.app N3 N5q
  refine own_lift st5 ?_
  show own_Go p.tables e below (T5.setTop (mkF m 17 #[iv p0, iv p1, iv 1, rv as_LESS_EQUAL, .unset, .unset, .unset] [(.int 5)])) _
  obtain ⟨_, _, ⟨T6, Lx6, kx6, nx6⟩, -, X6, ⟨Lc6, hQ6, lx6, yx6, zx6⟩, st6⟩ := Jvm.LawKit.callS X5 hx (y := (⟨"com/example/ophion/ophion/runtime/CompareOpSwappedPinLaw", "pick", "(I)Lcom/example/ophion/ophion/runtime/CompareOp;"⟩ : MethodName)) hown (mvT hZ (wd hw 1 rfl)) (mvT hZ (wd hw 2 rfl)) (mvT hZ (wd hw 3 rfl)) (mvT hZ (wd hw 4 rfl)) (by decide) (backOf (W := 0) (rmPick5 l Z a0 hw [] (5 : Int32) as_GREATER_EQUAL h0 n0 Z0 S_GREATER_EQUAL (by decide : ¬ ((5 : Int32) = (0 : Int32))) (by decide : ¬ ((5 : Int32) = (1 : Int32))) (by decide : ¬ ((5 : Int32) = (2 : Int32))) (by decide : ¬ ((5 : Int32) = (3 : Int32))) (by decide : ¬ ((5 : Int32) = (4 : Int32)))) hZ (wd hw 4 rfl) (wd hw 3 rfl) (by decide) (by decide)) (g := (mkF m 17 #[iv p0, iv p1, iv 1, rv as_LESS_EQUAL, .unset, .unset, .unset] [(.int 5)])) rfl (by rw [hml]; rfl) (argsL := [(.int 5)]) (rest := []) (lenOf pd_1 rfl) rfl (by show 2 * 0 + _ ≤ _; exact Nat.le_of_eq rfl) (hb hby at_17) (fun _ _ => ⟨rfl, e5, (by decide : 0 + 0 ≤ _), (by decide : 0 + 0 ≤ _)⟩)
  dsimp only [Pt.U, Pt.locs, Pt.cells, Pt.slots] at X6 lx6 yx6 zx6 st6 hQ6
  subst lx6 yx6 zx6
  obtain ⟨rfl, N6q, e6⟩ := hQ6
  have N6 := Fr.app N5 N6q
  refine own_lift st6 ?_
  show own_Go p.tables e below (T6.setTop (mkF m 20 #[iv p0, iv p1, iv 1, rv as_LESS_EQUAL, .unset, .unset, .unset] [(.ref as_GREATER_EQUAL)])) _
  have sg7 : ∀ t, Steps p.tables e below (T6.setTop (mkF m 23 #[iv p0, iv p1, iv 1, rv as_LESS_EQUAL, rv as_GREATER_EQUAL, .unset, .unset] [(.ref as_LESS_EQUAL)])) t → Steps p.tables e below (T6.setTop (mkF m 20 #[iv p0, iv p1, iv 1, rv as_LESS_EQUAL, .unset, .unset, .unset] [(.ref as_GREATER_EQUAL)])) t := by
    intro t k
    refine XS.astore X6.here hx rfl (hb hby at_20) rfl rfl (l' := #[iv p0, iv p1, iv 1, rv as_LESS_EQUAL, rv as_GREATER_EQUAL, .unset, .unset]) rfl ?_
    show Steps p.tables e below (T6.setTop (mkF m 22 #[iv p0, iv p1, iv 1, rv as_LESS_EQUAL, rv as_GREATER_EQUAL, .unset, .unset] [])) _
    refine XS.aloadN X6.here hx rfl (hb hby at_22) rfl rfl ?_
    show Steps p.tables e below (T6.setTop (mkF m 23 #[iv p0, iv p1, iv 1, rv as_LESS_EQUAL, rv as_GREATER_EQUAL, .unset, .unset] [(.ref as_LESS_EQUAL)])) _
    exact k
  refine own_lift sg7 ?_
  show own_Go p.tables e below (T6.setTop (mkF m 23 #[iv p0, iv p1, iv 1, rv as_LESS_EQUAL, rv as_GREATER_EQUAL, .unset, .unset] [(.ref as_LESS_EQUAL)])) _
  obtain ⟨cq8, kq8, q8a, q8b, q8c⟩ := isOf hZ e6 E_LESS_EQUAL
  obtain ⟨_, _, ⟨T8, Lx8, kx8, nx8⟩, -, X8, ⟨Lc8, hQ8, lx8, yx8, zx8⟩, st8⟩ := X6.virtualBack hx (y := (⟨"com/example/ophion/ophion/runtime/CompareOp", "swapped", "()Lcom/example/ophion/ophion/runtime/CompareOp;"⟩ : MethodName)) (z := (⟨"com/example/ophion/ophion/runtime/CompareOp", "swapped", "()Lcom/example/ophion/ophion/runtime/CompareOp;"⟩ : MethodName)) hown (mvT hZ (wd hw 13 rfl)) (mvT hZ (wd hw 14 rfl)) (notFace_of_selects (args := #[]) (mvT hZ (wd hw 16 rfl))) (mvT hZ (wd hw 16 rfl)) (mvT hZ (wd hw 15 rfl)) (by decide) (backOf (W := 0) (rmSw1 l Z a0 hw [] as_LESS_EQUAL as_GREATER_EQUAL h0 n0 Z0 O_LESS_EQUAL E_LESS_EQUAL S_GREATER_EQUAL) hZ (wd hw 17 rfl) (wd hw 6 rfl) (by decide) (by decide)) q8a q8c (g := (mkF m 23 #[iv p0, iv p1, iv 1, rv as_LESS_EQUAL, rv as_GREATER_EQUAL, .unset, .unset] [(.ref as_LESS_EQUAL)])) rfl (by rw [hml]; rfl) (Steps.refl _) (argsL := []) (rest := []) (lenOf pd_3 rfl) rfl (by show 2 * 0 + _ ≤ _; exact Nat.le_of_eq rfl) (hb hby at_23) (fun _ _ => ⟨rfl, e6, (by decide : 0 + 0 ≤ _), (by decide : 0 + 0 ≤ _)⟩)
  dsimp only [Pt.U, Pt.locs, Pt.cells, Pt.slots] at X8 lx8 yx8 zx8 st8 hQ8
  subst lx8 yx8 zx8
  obtain ⟨rfl, N8q, e8⟩ := hQ8
  have N8 := Fr.app N6 N8q
  refine own_lift (fun t k => st8.trans k) ?_
  show own_Go p.tables e below (T8.setTop (mkF m 26 #[iv p0, iv p1, iv 1, rv as_LESS_EQUAL, rv as_GREATER_EQUAL, .unset, .unset] [(.ref as_GREATER_EQUAL)])) _
  have sg9 : ∀ t, Steps p.tables e below (T8.setTop (mkF m 34 #[iv p0, iv p1, iv 1, rv as_LESS_EQUAL, rv as_GREATER_EQUAL, rv as_GREATER_EQUAL, .unset] [(.int ((p1 &&& (2147483647 : Int32)) % (3 : Int32)))])) t → Steps p.tables e below (T8.setTop (mkF m 26 #[iv p0, iv p1, iv 1, rv as_LESS_EQUAL, rv as_GREATER_EQUAL, .unset, .unset] [(.ref as_GREATER_EQUAL)])) t := by
    intro t k
    refine XS.astore X8.here hx rfl (hb hby at_26) rfl rfl (l' := #[iv p0, iv p1, iv 1, rv as_LESS_EQUAL, rv as_GREATER_EQUAL, rv as_GREATER_EQUAL, .unset]) rfl ?_
    show Steps p.tables e below (T8.setTop (mkF m 28 #[iv p0, iv p1, iv 1, rv as_LESS_EQUAL, rv as_GREATER_EQUAL, rv as_GREATER_EQUAL, .unset] [])) _
    refine XS.iloadN X8.here hx rfl (hb hby at_28) rfl ?_
    show Steps p.tables e below (T8.setTop (mkF m 29 #[iv p0, iv p1, iv 1, rv as_LESS_EQUAL, rv as_GREATER_EQUAL, rv as_GREATER_EQUAL, .unset] [(.int p1)])) _
    refine X8.ldcInt hx hown (mvT hZ (wd hw 0 rfl)) (g := (mkF m 29 #[iv p0, iv p1, iv 1, rv as_LESS_EQUAL, rv as_GREATER_EQUAL, rv as_GREATER_EQUAL, .unset] [(.int p1)])) rfl (hb hby at_29) _ ?_
    show Steps p.tables e below (T8.setTop (mkF m 31 #[iv p0, iv p1, iv 1, rv as_LESS_EQUAL, rv as_GREATER_EQUAL, rv as_GREATER_EQUAL, .unset] [(.int 2147483647), (.int p1)])) _
    refine XS.iand X8.here hx rfl (hb hby at_31) rfl ?_
    show Steps p.tables e below (T8.setTop (mkF m 32 #[iv p0, iv p1, iv 1, rv as_LESS_EQUAL, rv as_GREATER_EQUAL, rv as_GREATER_EQUAL, .unset] [(.int (p1 &&& (2147483647 : Int32)))])) _
    refine XS.iconst X8.here hx rfl (hb hby at_32) ?_
    show Steps p.tables e below (T8.setTop (mkF m 33 #[iv p0, iv p1, iv 1, rv as_LESS_EQUAL, rv as_GREATER_EQUAL, rv as_GREATER_EQUAL, .unset] [(.int 3), (.int (p1 &&& (2147483647 : Int32)))])) _
    refine iremM X8 hx rfl (hb hby at_33) rfl (by decide) ?_
    show Steps p.tables e below (T8.setTop (mkF m 34 #[iv p0, iv p1, iv 1, rv as_LESS_EQUAL, rv as_GREATER_EQUAL, rv as_GREATER_EQUAL, .unset] [(.int ((p1 &&& (2147483647 : Int32)) % (3 : Int32)))])) _
    exact k
  refine own_lift sg9 ?_
  show own_Go p.tables e below (T8.setTop (mkF m 34 #[iv p0, iv p1, iv 1, rv as_LESS_EQUAL, rv as_GREATER_EQUAL, rv as_GREATER_EQUAL, .unset] [(.int ((p1 &&& (2147483647 : Int32)) % (3 : Int32)))])) _
  rw [hs]
  show own_Go p.tables e below (T8.setTop (mkF m 34 #[iv p0, iv p1, iv 1, rv as_LESS_EQUAL, rv as_GREATER_EQUAL, rv as_GREATER_EQUAL, .unset] [(.int 0)])) _
  have sg10 : ∀ t, Steps p.tables e below (T8.setTop (mkF m 50 #[iv p0, iv p1, iv 1, rv as_LESS_EQUAL, rv as_GREATER_EQUAL, rv as_GREATER_EQUAL, iv (-1)] [(.int 1), (.ref as_GREATER_EQUAL)])) t → Steps p.tables e below (T8.setTop (mkF m 34 #[iv p0, iv p1, iv 1, rv as_LESS_EQUAL, rv as_GREATER_EQUAL, rv as_GREATER_EQUAL, .unset] [(.int 0)])) t := by
    intro t k
    refine XS.iconst X8.here hx rfl (hb hby at_34) ?_
    show Steps p.tables e below (T8.setTop (mkF m 35 #[iv p0, iv p1, iv 1, rv as_LESS_EQUAL, rv as_GREATER_EQUAL, rv as_GREATER_EQUAL, .unset] [(.int 1), (.int 0)])) _
    refine XS.isub X8.here hx rfl (hb hby at_35) rfl ?_
    show Steps p.tables e below (T8.setTop (mkF m 36 #[iv p0, iv p1, iv 1, rv as_LESS_EQUAL, rv as_GREATER_EQUAL, rv as_GREATER_EQUAL, .unset] [(.int (-1))])) _
    refine XS.istore X8.here hx rfl (hb hby at_36) rfl (l' := #[iv p0, iv p1, iv 1, rv as_LESS_EQUAL, rv as_GREATER_EQUAL, rv as_GREATER_EQUAL, iv (-1)]) rfl ?_
    show Steps p.tables e below (T8.setTop (mkF m 38 #[iv p0, iv p1, iv 1, rv as_LESS_EQUAL, rv as_GREATER_EQUAL, rv as_GREATER_EQUAL, iv (-1)] [])) _
    refine XS.aload X8.here hx rfl (hb hby at_38) rfl rfl ?_
    show Steps p.tables e below (T8.setTop (mkF m 40 #[iv p0, iv p1, iv 1, rv as_LESS_EQUAL, rv as_GREATER_EQUAL, rv as_GREATER_EQUAL, iv (-1)] [(.ref as_GREATER_EQUAL)])) _
    refine XS.aload X8.here hx rfl (hb hby at_40) rfl rfl ?_
    show Steps p.tables e below (T8.setTop (mkF m 42 #[iv p0, iv p1, iv 1, rv as_LESS_EQUAL, rv as_GREATER_EQUAL, rv as_GREATER_EQUAL, iv (-1)] [(.ref as_GREATER_EQUAL), (.ref as_GREATER_EQUAL)])) _
    refine Jvm.RoadKit.acmp (g := (mkF m 42 #[iv p0, iv p1, iv 1, rv as_LESS_EQUAL, rv as_GREATER_EQUAL, rv as_GREATER_EQUAL, iv (-1)] [(.ref as_GREATER_EQUAL), (.ref as_GREATER_EQUAL)])) X8 hx rfl rfl rfl (pc0 := 42) (pc' := 45) (same := true) rfl (hb hby at_42) rfl (decide_eq_true rfl) (by decide) (by decide) ?_
    show Steps p.tables e below (T8.setTop (mkF m 45 #[iv p0, iv p1, iv 1, rv as_LESS_EQUAL, rv as_GREATER_EQUAL, rv as_GREATER_EQUAL, iv (-1)] [])) _
    refine XS.aload X8.here hx rfl (hb hby at_45) rfl rfl ?_
    show Steps p.tables e below (T8.setTop (mkF m 47 #[iv p0, iv p1, iv 1, rv as_LESS_EQUAL, rv as_GREATER_EQUAL, rv as_GREATER_EQUAL, iv (-1)] [(.ref as_GREATER_EQUAL)])) _
    refine XS.iload X8.here hx rfl (hb hby at_47) rfl ?_
    show Steps p.tables e below (T8.setTop (mkF m 49 #[iv p0, iv p1, iv 1, rv as_LESS_EQUAL, rv as_GREATER_EQUAL, rv as_GREATER_EQUAL, iv (-1)] [(.int (-1)), (.ref as_GREATER_EQUAL)])) _
    refine XS.ineg X8.here hx rfl (hb hby at_49) rfl ?_
    show Steps p.tables e below (T8.setTop (mkF m 50 #[iv p0, iv p1, iv 1, rv as_LESS_EQUAL, rv as_GREATER_EQUAL, rv as_GREATER_EQUAL, iv (-1)] [(.int 1), (.ref as_GREATER_EQUAL)])) _
    exact k
  refine own_lift sg10 ?_
  show own_Go p.tables e below (T8.setTop (mkF m 50 #[iv p0, iv p1, iv 1, rv as_LESS_EQUAL, rv as_GREATER_EQUAL, rv as_GREATER_EQUAL, iv (-1)] [(.int 1), (.ref as_GREATER_EQUAL)])) _
  obtain ⟨cq11, kq11, q11a, q11b, q11c⟩ := isOf hZ e8 E_GREATER_EQUAL
  obtain ⟨_, _, ⟨T11, Lx11, kx11, nx11⟩, -, X11, ⟨Lc11, hQ11, lx11, yx11, zx11⟩, st11⟩ := X8.virtualBack hx (y := (⟨"com/example/ophion/ophion/runtime/CompareOp", "holds", "(I)Z"⟩ : MethodName)) (z := (⟨"com/example/ophion/ophion/runtime/CompareOp", "holds", "(I)Z"⟩ : MethodName)) hown (mvT hZ (wd hw 28 rfl)) (mvT hZ (wd hw 29 rfl)) (notFace_of_selects (args := #[]) (mvT hZ (wd hw 31 rfl))) (mvT hZ (wd hw 31 rfl)) (mvT hZ (wd hw 30 rfl)) (by decide) (backOf (W := 0) (rmHolds5f l Z a0 hw [] as_GREATER_EQUAL (1 : Int32) h0 n0 Z0 O_GREATER_EQUAL E_GREATER_EQUAL (by decide : ¬ ((1 : Int32) < (0 : Int32)))) hZ (wd hw 32 rfl) (wd hw 6 rfl) (by decide) (by decide)) q11a q11c (g := (mkF m 50 #[iv p0, iv p1, iv 1, rv as_LESS_EQUAL, rv as_GREATER_EQUAL, rv as_GREATER_EQUAL, iv (-1)] [(.int 1), (.ref as_GREATER_EQUAL)])) rfl (by rw [hml]; rfl) (Steps.refl _) (argsL := [(.int 1)]) (rest := []) (lenOf pd_4 rfl) rfl (by show 2 * 0 + _ ≤ _; exact Nat.le_of_eq rfl) (hb hby at_50) (fun _ _ => ⟨rfl, e8, (by decide : 0 + 0 ≤ _), (by decide : 0 + 0 ≤ _)⟩)
  dsimp only [Pt.U, Pt.locs, Pt.cells, Pt.slots] at X11 lx11 yx11 zx11 st11 hQ11
  subst lx11 yx11 zx11
  obtain ⟨rfl, N11q, e11⟩ := hQ11
  have N11 := Fr.app N8 N11q
  refine own_lift (fun t k => st11.trans k) ?_
  show own_Go p.tables e below (T11.setTop (mkF m 53 #[iv p0, iv p1, iv 1, rv as_LESS_EQUAL, rv as_GREATER_EQUAL, rv as_GREATER_EQUAL, iv (-1)] [(.int 1)])) _
  have sg12 : ∀ t, Steps p.tables e below (T11.setTop (mkF m 56 #[iv p0, iv p1, iv 1, rv as_LESS_EQUAL, rv as_GREATER_EQUAL, rv as_GREATER_EQUAL, iv (-1)] [(.int (-1)), (.ref as_LESS_EQUAL), (.int 1)])) t → Steps p.tables e below (T11.setTop (mkF m 53 #[iv p0, iv p1, iv 1, rv as_LESS_EQUAL, rv as_GREATER_EQUAL, rv as_GREATER_EQUAL, iv (-1)] [(.int 1)])) t := by
    intro t k
    refine XS.aloadN X11.here hx rfl (hb hby at_53) rfl rfl ?_
    show Steps p.tables e below (T11.setTop (mkF m 54 #[iv p0, iv p1, iv 1, rv as_LESS_EQUAL, rv as_GREATER_EQUAL, rv as_GREATER_EQUAL, iv (-1)] [(.ref as_LESS_EQUAL), (.int 1)])) _
    refine XS.iload X11.here hx rfl (hb hby at_54) rfl ?_
    show Steps p.tables e below (T11.setTop (mkF m 56 #[iv p0, iv p1, iv 1, rv as_LESS_EQUAL, rv as_GREATER_EQUAL, rv as_GREATER_EQUAL, iv (-1)] [(.int (-1)), (.ref as_LESS_EQUAL), (.int 1)])) _
    exact k
  refine own_lift sg12 ?_
  show own_Go p.tables e below (T11.setTop (mkF m 56 #[iv p0, iv p1, iv 1, rv as_LESS_EQUAL, rv as_GREATER_EQUAL, rv as_GREATER_EQUAL, iv (-1)] [(.int (-1)), (.ref as_LESS_EQUAL), (.int 1)])) _
  obtain ⟨cq13, kq13, q13a, q13b, q13c⟩ := isOf hZ e11 E_LESS_EQUAL
  obtain ⟨_, _, ⟨T13, Lx13, kx13, nx13⟩, -, X13, ⟨Lc13, hQ13, lx13, yx13, zx13⟩, st13⟩ := X11.virtualBack hx (y := (⟨"com/example/ophion/ophion/runtime/CompareOp", "holds", "(I)Z"⟩ : MethodName)) (z := (⟨"com/example/ophion/ophion/runtime/CompareOp", "holds", "(I)Z"⟩ : MethodName)) hown (mvT hZ (wd hw 28 rfl)) (mvT hZ (wd hw 29 rfl)) (notFace_of_selects (args := #[]) (mvT hZ (wd hw 31 rfl))) (mvT hZ (wd hw 31 rfl)) (mvT hZ (wd hw 30 rfl)) (by decide) (backOf (W := 1) (rmHolds1f l Z a0 hw [] as_LESS_EQUAL (-1 : Int32) h0 n0 Z0 O_LESS_EQUAL E_LESS_EQUAL (by decide : ¬ ((0 : Int32) < (-1 : Int32)))) hZ (wd hw 32 rfl) (wd hw 6 rfl) (by decide) (by decide)) q13a q13c (g := (mkF m 56 #[iv p0, iv p1, iv 1, rv as_LESS_EQUAL, rv as_GREATER_EQUAL, rv as_GREATER_EQUAL, iv (-1)] [(.int (-1)), (.ref as_LESS_EQUAL), (.int 1)])) rfl (by rw [hml]; rfl) (Steps.refl _) (argsL := [(.int (-1))]) (rest := [(.int 1)]) (lenOf pd_4 rfl) rfl (by show 2 * 0 + _ ≤ _; exact Nat.le_of_eq rfl) (hb hby at_56) (fun _ _ => ⟨rfl, e11, (by decide : 0 + 0 ≤ _), (by decide : 0 + 0 ≤ _)⟩)
  dsimp only [Pt.U, Pt.locs, Pt.cells, Pt.slots] at X13 lx13 yx13 zx13 st13 hQ13
  subst lx13 yx13 zx13
  obtain ⟨rfl, N13q, e13⟩ := hQ13
  have N13 := Fr.app N11 N13q
  refine own_lift (fun t k => st13.trans k) ?_
  show own_Go p.tables e below (T13.setTop (mkF m 59 #[iv p0, iv p1, iv 1, rv as_LESS_EQUAL, rv as_GREATER_EQUAL, rv as_GREATER_EQUAL, iv (-1)] [(.int 1), (.int 1)])) _
  have sg14 : ∀ t, Steps p.tables e below (T13.setTop (mkF m 67 #[iv p0, iv p1, iv 1, rv as_LESS_EQUAL, rv as_GREATER_EQUAL, rv as_GREATER_EQUAL, iv (-1)] [(.int 1)])) t → Steps p.tables e below (T13.setTop (mkF m 59 #[iv p0, iv p1, iv 1, rv as_LESS_EQUAL, rv as_GREATER_EQUAL, rv as_GREATER_EQUAL, iv (-1)] [(.int 1), (.int 1)])) t := by
    intro t k
    refine XS.icmpNo X13.here hx rfl (hb hby at_59) rfl (teq (by decide : (1 : Int32) = (1 : Int32))).2 ?_
    show Steps p.tables e below (T13.setTop (mkF m 62 #[iv p0, iv p1, iv 1, rv as_LESS_EQUAL, rv as_GREATER_EQUAL, rv as_GREATER_EQUAL, iv (-1)] [])) _
    refine XS.iconst X13.here hx rfl (hb hby at_62) ?_
    show Steps p.tables e below (T13.setTop (mkF m 63 #[iv p0, iv p1, iv 1, rv as_LESS_EQUAL, rv as_GREATER_EQUAL, rv as_GREATER_EQUAL, iv (-1)] [(.int 1)])) _
    refine XS.goto X13.here hx rfl (pc0 := 63) (pc' := 67) rfl (hb hby at_63) (by decide) (by decide) ?_
    show Steps p.tables e below (T13.setTop (mkF m 67 #[iv p0, iv p1, iv 1, rv as_LESS_EQUAL, rv as_GREATER_EQUAL, rv as_GREATER_EQUAL, iv (-1)] [(.int 1)])) _
    exact k
  refine own_lift sg14 ?_
  show own_Go p.tables e below (T13.setTop (mkF m 67 #[iv p0, iv p1, iv 1, rv as_LESS_EQUAL, rv as_GREATER_EQUAL, rv as_GREATER_EQUAL, iv (-1)] [(.int 1)])) _
  obtain ⟨fs, hr, hrun, hended, hW, hsame⟩ := X13.leave (v := some (.int 1)) (fun h => by rw [Bd.returns] at h; cases h)
  refine ⟨_, _, ?_, hrun, hended, _, _, rfl, ?_, ⟨_, rfl⟩, hW, hsame.mono (by decide) (by decide)⟩
  · exact retN X13 hx (t := .boolean) Bd.returns (by simp) (hb hby at_67) hr
  · show Q0 Z  h0 n0 _ T13.heap _
    rw [e13]
    exact ⟨rfl, N13⟩
theorem ef_rm0_11 (m : MethodId) (x0 : Int32) (x1 : Int32) : entryFrame m #[(.int x0), (.int x1)] maxLocals = mkF m 0 #[.val (.int x0), .val (.int x1), .unset, .unset, .unset, .unset, .unset] [] := by first | (simp [entryFrame, mkF, argsToLocals, Value.category, maxLocals]; done) | rfl
set_option maxRecDepth 65536 in
set_option maxHeartbeats 40000000 in
theorem rm0_11 (l : Launch) (Z : State) (a0 : Array Value) (hw : ∀ d ∈ tables_1, d.before a0 Z = true) (ws : List Jvm.Cond) (p0 : Int32) (p1 : Int32) (as_LESS : Addr) (as_GREATER : Addr) (as_EQUAL : Addr) (as_LESS_EQUAL : Addr) (as_GREATER_EQUAL : Addr) (as_NOT_EQUAL : Addr) (h0 : Heap) (n0 : Nat) (Z0 : n0 ≤ h0.size) (S_LESS : Sta Z h0 "com/example/ophion/ophion/runtime/CompareOp" "LESS" "Lcom/example/ophion/ophion/runtime/CompareOp;" (.ref as_LESS)) (E_LESS : Exa Z h0 as_LESS "com/example/ophion/ophion/runtime/CompareOp") (O_LESS : Fld Z h0 as_LESS "java/lang/Enum" "ordinal" "I" (.int 0)) (S_GREATER : Sta Z h0 "com/example/ophion/ophion/runtime/CompareOp" "GREATER" "Lcom/example/ophion/ophion/runtime/CompareOp;" (.ref as_GREATER)) (E_GREATER : Exa Z h0 as_GREATER "com/example/ophion/ophion/runtime/CompareOp") (O_GREATER : Fld Z h0 as_GREATER "java/lang/Enum" "ordinal" "I" (.int 4)) (S_EQUAL : Sta Z h0 "com/example/ophion/ophion/runtime/CompareOp" "EQUAL" "Lcom/example/ophion/ophion/runtime/CompareOp;" (.ref as_EQUAL)) (E_EQUAL : Exa Z h0 as_EQUAL "com/example/ophion/ophion/runtime/CompareOp") (O_EQUAL : Fld Z h0 as_EQUAL "java/lang/Enum" "ordinal" "I" (.int 2)) (S_LESS_EQUAL : Sta Z h0 "com/example/ophion/ophion/runtime/CompareOp" "LESS_EQUAL" "Lcom/example/ophion/ophion/runtime/CompareOp;" (.ref as_LESS_EQUAL)) (E_LESS_EQUAL : Exa Z h0 as_LESS_EQUAL "com/example/ophion/ophion/runtime/CompareOp") (O_LESS_EQUAL : Fld Z h0 as_LESS_EQUAL "java/lang/Enum" "ordinal" "I" (.int 1)) (S_GREATER_EQUAL : Sta Z h0 "com/example/ophion/ophion/runtime/CompareOp" "GREATER_EQUAL" "Lcom/example/ophion/ophion/runtime/CompareOp;" (.ref as_GREATER_EQUAL)) (E_GREATER_EQUAL : Exa Z h0 as_GREATER_EQUAL "com/example/ophion/ophion/runtime/CompareOp") (O_GREATER_EQUAL : Fld Z h0 as_GREATER_EQUAL "java/lang/Enum" "ordinal" "I" (.int 5)) (S_NOT_EQUAL : Sta Z h0 "com/example/ophion/ophion/runtime/CompareOp" "NOT_EQUAL" "Lcom/example/ophion/ophion/runtime/CompareOp;" (.ref as_NOT_EQUAL)) (E_NOT_EQUAL : Exa Z h0 as_NOT_EQUAL "com/example/ophion/ophion/runtime/CompareOp") (O_NOT_EQUAL : Fld Z h0 as_NOT_EQUAL "java/lang/Enum" "ordinal" "I" (.int 3)) (hk : ((p0 &&& (2147483647 : Int32)) % (6 : Int32)) = (1 : Int32)) (hs : ((p1 &&& (2147483647 : Int32)) % (3 : Int32)) = (1 : Int32)) :
    MetFree l x (head1 (Jvm.Cond.code x code maxLocals ret :: ws) room_1) (fun a U => a = #[(.int p0), (.int p1)] ∧ Z.Warmed39 U.vm ∧ U.heap = h0) (fun _ _ _ _ _ => True) (fun _ U o U' => ∃ v L, o = .returned v ∧ Q0 Z  h0 n0 v U'.heap L ∧ FrameEnd U o U' L 0 0) := by
  refine MetFree.of_bodySF (plainFor_of_name pn_2) hisR ?_
  intro p e s m args below meth c s₁ Bd hml0 hP hK
  obtain ⟨rfl, hZ, hh⟩ := hP
  have hx := Bd.exec
  have hby := Bd.bytes
  have hml : c.maxLocals = 7 := hml0
  have hown : s.vm.findClass "com/example/ophion/ophion/runtime/CompareOpSwappedPinLaw" = some m.cls := findClass_of_methodNamed Bd.named
  have hnm := (name_of_methodNamed Bd.named Bd.method).1
  have X0 : Stand p l e room_1 s m #[(.int p0), (.int p1)] below meth c s₁ [] 0 0 := Stand.of_body Bd
  have e0 : s₁.heap = h0 := by rw [← hh, Bd.state]; rfl
  have N0 := Fr.nil n0
  refine own_go (own_lift (fun t k => castTop (ef_rm0_11 m p0 p1) k) ?_)
  show own_Go p.tables e below (s₁.setTop (mkF m 0 #[iv p0, iv p1, .unset, .unset, .unset, .unset, .unset] [])) _
  have sg1 : ∀ t, Steps p.tables e below (s₁.setTop (mkF m 7 #[iv p0, iv p1, .unset, .unset, .unset, .unset, .unset] [(.int ((p0 &&& (2147483647 : Int32)) % (6 : Int32)))])) t → Steps p.tables e below (s₁.setTop (mkF m 0 #[iv p0, iv p1, .unset, .unset, .unset, .unset, .unset] [])) t := by
    intro t k
    refine XS.iloadN X0.here hx rfl (hb hby at_0) rfl ?_
    show Steps p.tables e below (s₁.setTop (mkF m 1 #[iv p0, iv p1, .unset, .unset, .unset, .unset, .unset] [(.int p0)])) _
    refine X0.ldcInt hx hown (mvT hZ (wd hw 0 rfl)) (g := (mkF m 1 #[iv p0, iv p1, .unset, .unset, .unset, .unset, .unset] [(.int p0)])) rfl (hb hby at_1) _ ?_
    show Steps p.tables e below (s₁.setTop (mkF m 3 #[iv p0, iv p1, .unset, .unset, .unset, .unset, .unset] [(.int 2147483647), (.int p0)])) _
    refine XS.iand X0.here hx rfl (hb hby at_3) rfl ?_
    show Steps p.tables e below (s₁.setTop (mkF m 4 #[iv p0, iv p1, .unset, .unset, .unset, .unset, .unset] [(.int (p0 &&& (2147483647 : Int32)))])) _
    refine XS.bipush X0.here hx rfl (hb hby at_4) ?_
    show Steps p.tables e below (s₁.setTop (mkF m 6 #[iv p0, iv p1, .unset, .unset, .unset, .unset, .unset] [(.int 6), (.int (p0 &&& (2147483647 : Int32)))])) _
    refine iremM X0 hx rfl (hb hby at_6) rfl (by decide) ?_
    show Steps p.tables e below (s₁.setTop (mkF m 7 #[iv p0, iv p1, .unset, .unset, .unset, .unset, .unset] [(.int ((p0 &&& (2147483647 : Int32)) % (6 : Int32)))])) _
    exact k
  refine own_lift sg1 ?_
  show own_Go p.tables e below (s₁.setTop (mkF m 7 #[iv p0, iv p1, .unset, .unset, .unset, .unset, .unset] [(.int ((p0 &&& (2147483647 : Int32)) % (6 : Int32)))])) _
  rw [hk]
  show own_Go p.tables e below (s₁.setTop (mkF m 7 #[iv p0, iv p1, .unset, .unset, .unset, .unset, .unset] [(.int 1)])) _
  have sg2 : ∀ t, Steps p.tables e below (s₁.setTop (mkF m 9 #[iv p0, iv p1, iv 1, .unset, .unset, .unset, .unset] [(.int 1)])) t → Steps p.tables e below (s₁.setTop (mkF m 7 #[iv p0, iv p1, .unset, .unset, .unset, .unset, .unset] [(.int 1)])) t := by
    intro t k
    refine XS.istoreN X0.here hx rfl (hb hby at_7) rfl (l' := #[iv p0, iv p1, iv 1, .unset, .unset, .unset, .unset]) rfl ?_
    show Steps p.tables e below (s₁.setTop (mkF m 8 #[iv p0, iv p1, iv 1, .unset, .unset, .unset, .unset] [])) _
    refine XS.iloadN X0.here hx rfl (hb hby at_8) rfl ?_
    show Steps p.tables e below (s₁.setTop (mkF m 9 #[iv p0, iv p1, iv 1, .unset, .unset, .unset, .unset] [(.int 1)])) _
    exact k
  refine own_lift sg2 ?_
  show own_Go p.tables e below (s₁.setTop (mkF m 9 #[iv p0, iv p1, iv 1, .unset, .unset, .unset, .unset] [(.int 1)])) _
  obtain ⟨_, _, ⟨T3, Lx3, kx3, nx3⟩, -, X3, ⟨Lc3, hQ3, lx3, yx3, zx3⟩, st3⟩ := Jvm.LawKit.callS X0 hx (y := (⟨"com/example/ophion/ophion/runtime/CompareOpSwappedPinLaw", "pick", "(I)Lcom/example/ophion/ophion/runtime/CompareOp;"⟩ : MethodName)) hown (mvT hZ (wd hw 1 rfl)) (mvT hZ (wd hw 2 rfl)) (mvT hZ (wd hw 3 rfl)) (mvT hZ (wd hw 4 rfl)) (by decide) (backOf (W := 0) (rmPick1 l Z a0 hw [] (1 : Int32) as_LESS_EQUAL h0 n0 Z0 S_LESS_EQUAL (by decide : ¬ ((1 : Int32) = (0 : Int32))) (by decide : (1 : Int32) = (1 : Int32))) hZ (wd hw 4 rfl) (wd hw 3 rfl) (by decide) (by decide)) (g := (mkF m 9 #[iv p0, iv p1, iv 1, .unset, .unset, .unset, .unset] [(.int 1)])) rfl (by rw [hml]; rfl) (argsL := [(.int 1)]) (rest := []) (lenOf pd_1 rfl) rfl (by show 2 * 0 + _ ≤ _; exact Nat.le_of_eq rfl) (hb hby at_9) (fun _ _ => ⟨rfl, e0, (by decide : 0 + 0 ≤ _), (by decide : 0 + 0 ≤ _)⟩)
  dsimp only [Pt.U, Pt.locs, Pt.cells, Pt.slots] at X3 lx3 yx3 zx3 st3 hQ3
  subst lx3 yx3 zx3
  obtain ⟨rfl, N3q, e3⟩ := hQ3
  have N3 := Fr.app N0 N3q
  refine own_lift st3 ?_
  show own_Go p.tables e below (T3.setTop (mkF m 12 #[iv p0, iv p1, iv 1, .unset, .unset, .unset, .unset] [(.ref as_LESS_EQUAL)])) _
  have sg4 : ∀ t, Steps p.tables e below (T3.setTop (mkF m 14 #[iv p0, iv p1, iv 1, rv as_LESS_EQUAL, .unset, .unset, .unset] [(.int 1)])) t → Steps p.tables e below (T3.setTop (mkF m 12 #[iv p0, iv p1, iv 1, .unset, .unset, .unset, .unset] [(.ref as_LESS_EQUAL)])) t := by
    intro t k
    refine XS.astoreN X3.here hx rfl (hb hby at_12) rfl rfl (l' := #[iv p0, iv p1, iv 1, rv as_LESS_EQUAL, .unset, .unset, .unset]) rfl ?_
    show Steps p.tables e below (T3.setTop (mkF m 13 #[iv p0, iv p1, iv 1, rv as_LESS_EQUAL, .unset, .unset, .unset] [])) _
    refine XS.iloadN X3.here hx rfl (hb hby at_13) rfl ?_
    show Steps p.tables e below (T3.setTop (mkF m 14 #[iv p0, iv p1, iv 1, rv as_LESS_EQUAL, .unset, .unset, .unset] [(.int 1)])) _
    exact k
  refine own_lift sg4 ?_
  show own_Go p.tables e below (T3.setTop (mkF m 14 #[iv p0, iv p1, iv 1, rv as_LESS_EQUAL, .unset, .unset, .unset] [(.int 1)])) _
  obtain ⟨_, _, ⟨T5, Lx5, kx5, nx5⟩, -, X5, ⟨Lc5, hQ5, lx5, yx5, zx5⟩, st5⟩ := Jvm.LawKit.callS X3 hx (y := (⟨"com/example/ophion/ophion/runtime/CompareOpSwappedPinLaw", "mirror", "(I)I"⟩ : MethodName)) hown (mvT hZ (wd hw 8 rfl)) (mvT hZ (wd hw 9 rfl)) (mvT hZ (wd hw 3 rfl)) (mvT hZ (wd hw 10 rfl)) (by decide) (backOf (W := 0) (rmMir1 l Z a0 hw [] (1 : Int32) h0 n0 Z0 (by decide : ¬ ((1 : Int32) = (0 : Int32))) (by decide : (1 : Int32) = (1 : Int32))) hZ (wd hw 10 rfl) (wd hw 3 rfl) (by decide) (by decide)) (g := (mkF m 14 #[iv p0, iv p1, iv 1, rv as_LESS_EQUAL, .unset, .unset, .unset] [(.int 1)])) rfl (by rw [hml]; rfl) (argsL := [(.int 1)]) (rest := []) (lenOf pd_2 rfl) rfl (by show 2 * 0 + _ ≤ _; exact Nat.le_of_eq rfl) (hb hby at_14) (fun _ _ => ⟨rfl, e3, (by decide : 0 + 0 ≤ _), (by decide : 0 + 0 ≤ _)⟩)
  dsimp only [Pt.U, Pt.locs, Pt.cells, Pt.slots] at X5 lx5 yx5 zx5 st5 hQ5
  subst lx5 yx5 zx5
  obtain ⟨rfl, N5q, e5⟩ := hQ5
  have N5 := Fr.app N3 N5q
  refine own_lift st5 ?_
  show own_Go p.tables e below (T5.setTop (mkF m 17 #[iv p0, iv p1, iv 1, rv as_LESS_EQUAL, .unset, .unset, .unset] [(.int 5)])) _
  obtain ⟨_, _, ⟨T6, Lx6, kx6, nx6⟩, -, X6, ⟨Lc6, hQ6, lx6, yx6, zx6⟩, st6⟩ := Jvm.LawKit.callS X5 hx (y := (⟨"com/example/ophion/ophion/runtime/CompareOpSwappedPinLaw", "pick", "(I)Lcom/example/ophion/ophion/runtime/CompareOp;"⟩ : MethodName)) hown (mvT hZ (wd hw 1 rfl)) (mvT hZ (wd hw 2 rfl)) (mvT hZ (wd hw 3 rfl)) (mvT hZ (wd hw 4 rfl)) (by decide) (backOf (W := 0) (rmPick5 l Z a0 hw [] (5 : Int32) as_GREATER_EQUAL h0 n0 Z0 S_GREATER_EQUAL (by decide : ¬ ((5 : Int32) = (0 : Int32))) (by decide : ¬ ((5 : Int32) = (1 : Int32))) (by decide : ¬ ((5 : Int32) = (2 : Int32))) (by decide : ¬ ((5 : Int32) = (3 : Int32))) (by decide : ¬ ((5 : Int32) = (4 : Int32)))) hZ (wd hw 4 rfl) (wd hw 3 rfl) (by decide) (by decide)) (g := (mkF m 17 #[iv p0, iv p1, iv 1, rv as_LESS_EQUAL, .unset, .unset, .unset] [(.int 5)])) rfl (by rw [hml]; rfl) (argsL := [(.int 5)]) (rest := []) (lenOf pd_1 rfl) rfl (by show 2 * 0 + _ ≤ _; exact Nat.le_of_eq rfl) (hb hby at_17) (fun _ _ => ⟨rfl, e5, (by decide : 0 + 0 ≤ _), (by decide : 0 + 0 ≤ _)⟩)
  dsimp only [Pt.U, Pt.locs, Pt.cells, Pt.slots] at X6 lx6 yx6 zx6 st6 hQ6
  subst lx6 yx6 zx6
  obtain ⟨rfl, N6q, e6⟩ := hQ6
  have N6 := Fr.app N5 N6q
  refine own_lift st6 ?_
  show own_Go p.tables e below (T6.setTop (mkF m 20 #[iv p0, iv p1, iv 1, rv as_LESS_EQUAL, .unset, .unset, .unset] [(.ref as_GREATER_EQUAL)])) _
  have sg7 : ∀ t, Steps p.tables e below (T6.setTop (mkF m 23 #[iv p0, iv p1, iv 1, rv as_LESS_EQUAL, rv as_GREATER_EQUAL, .unset, .unset] [(.ref as_LESS_EQUAL)])) t → Steps p.tables e below (T6.setTop (mkF m 20 #[iv p0, iv p1, iv 1, rv as_LESS_EQUAL, .unset, .unset, .unset] [(.ref as_GREATER_EQUAL)])) t := by
    intro t k
    refine XS.astore X6.here hx rfl (hb hby at_20) rfl rfl (l' := #[iv p0, iv p1, iv 1, rv as_LESS_EQUAL, rv as_GREATER_EQUAL, .unset, .unset]) rfl ?_
    show Steps p.tables e below (T6.setTop (mkF m 22 #[iv p0, iv p1, iv 1, rv as_LESS_EQUAL, rv as_GREATER_EQUAL, .unset, .unset] [])) _
    refine XS.aloadN X6.here hx rfl (hb hby at_22) rfl rfl ?_
    show Steps p.tables e below (T6.setTop (mkF m 23 #[iv p0, iv p1, iv 1, rv as_LESS_EQUAL, rv as_GREATER_EQUAL, .unset, .unset] [(.ref as_LESS_EQUAL)])) _
    exact k
  refine own_lift sg7 ?_
  show own_Go p.tables e below (T6.setTop (mkF m 23 #[iv p0, iv p1, iv 1, rv as_LESS_EQUAL, rv as_GREATER_EQUAL, .unset, .unset] [(.ref as_LESS_EQUAL)])) _
  obtain ⟨cq8, kq8, q8a, q8b, q8c⟩ := isOf hZ e6 E_LESS_EQUAL
  obtain ⟨_, _, ⟨T8, Lx8, kx8, nx8⟩, -, X8, ⟨Lc8, hQ8, lx8, yx8, zx8⟩, st8⟩ := X6.virtualBack hx (y := (⟨"com/example/ophion/ophion/runtime/CompareOp", "swapped", "()Lcom/example/ophion/ophion/runtime/CompareOp;"⟩ : MethodName)) (z := (⟨"com/example/ophion/ophion/runtime/CompareOp", "swapped", "()Lcom/example/ophion/ophion/runtime/CompareOp;"⟩ : MethodName)) hown (mvT hZ (wd hw 13 rfl)) (mvT hZ (wd hw 14 rfl)) (notFace_of_selects (args := #[]) (mvT hZ (wd hw 16 rfl))) (mvT hZ (wd hw 16 rfl)) (mvT hZ (wd hw 15 rfl)) (by decide) (backOf (W := 0) (rmSw1 l Z a0 hw [] as_LESS_EQUAL as_GREATER_EQUAL h0 n0 Z0 O_LESS_EQUAL E_LESS_EQUAL S_GREATER_EQUAL) hZ (wd hw 17 rfl) (wd hw 6 rfl) (by decide) (by decide)) q8a q8c (g := (mkF m 23 #[iv p0, iv p1, iv 1, rv as_LESS_EQUAL, rv as_GREATER_EQUAL, .unset, .unset] [(.ref as_LESS_EQUAL)])) rfl (by rw [hml]; rfl) (Steps.refl _) (argsL := []) (rest := []) (lenOf pd_3 rfl) rfl (by show 2 * 0 + _ ≤ _; exact Nat.le_of_eq rfl) (hb hby at_23) (fun _ _ => ⟨rfl, e6, (by decide : 0 + 0 ≤ _), (by decide : 0 + 0 ≤ _)⟩)
  dsimp only [Pt.U, Pt.locs, Pt.cells, Pt.slots] at X8 lx8 yx8 zx8 st8 hQ8
  subst lx8 yx8 zx8
  obtain ⟨rfl, N8q, e8⟩ := hQ8
  have N8 := Fr.app N6 N8q
  refine own_lift (fun t k => st8.trans k) ?_
  show own_Go p.tables e below (T8.setTop (mkF m 26 #[iv p0, iv p1, iv 1, rv as_LESS_EQUAL, rv as_GREATER_EQUAL, .unset, .unset] [(.ref as_GREATER_EQUAL)])) _
  have sg9 : ∀ t, Steps p.tables e below (T8.setTop (mkF m 34 #[iv p0, iv p1, iv 1, rv as_LESS_EQUAL, rv as_GREATER_EQUAL, rv as_GREATER_EQUAL, .unset] [(.int ((p1 &&& (2147483647 : Int32)) % (3 : Int32)))])) t → Steps p.tables e below (T8.setTop (mkF m 26 #[iv p0, iv p1, iv 1, rv as_LESS_EQUAL, rv as_GREATER_EQUAL, .unset, .unset] [(.ref as_GREATER_EQUAL)])) t := by
    intro t k
    refine XS.astore X8.here hx rfl (hb hby at_26) rfl rfl (l' := #[iv p0, iv p1, iv 1, rv as_LESS_EQUAL, rv as_GREATER_EQUAL, rv as_GREATER_EQUAL, .unset]) rfl ?_
    show Steps p.tables e below (T8.setTop (mkF m 28 #[iv p0, iv p1, iv 1, rv as_LESS_EQUAL, rv as_GREATER_EQUAL, rv as_GREATER_EQUAL, .unset] [])) _
    refine XS.iloadN X8.here hx rfl (hb hby at_28) rfl ?_
    show Steps p.tables e below (T8.setTop (mkF m 29 #[iv p0, iv p1, iv 1, rv as_LESS_EQUAL, rv as_GREATER_EQUAL, rv as_GREATER_EQUAL, .unset] [(.int p1)])) _
    refine X8.ldcInt hx hown (mvT hZ (wd hw 0 rfl)) (g := (mkF m 29 #[iv p0, iv p1, iv 1, rv as_LESS_EQUAL, rv as_GREATER_EQUAL, rv as_GREATER_EQUAL, .unset] [(.int p1)])) rfl (hb hby at_29) _ ?_
    show Steps p.tables e below (T8.setTop (mkF m 31 #[iv p0, iv p1, iv 1, rv as_LESS_EQUAL, rv as_GREATER_EQUAL, rv as_GREATER_EQUAL, .unset] [(.int 2147483647), (.int p1)])) _
    refine XS.iand X8.here hx rfl (hb hby at_31) rfl ?_
    show Steps p.tables e below (T8.setTop (mkF m 32 #[iv p0, iv p1, iv 1, rv as_LESS_EQUAL, rv as_GREATER_EQUAL, rv as_GREATER_EQUAL, .unset] [(.int (p1 &&& (2147483647 : Int32)))])) _
    refine XS.iconst X8.here hx rfl (hb hby at_32) ?_
    show Steps p.tables e below (T8.setTop (mkF m 33 #[iv p0, iv p1, iv 1, rv as_LESS_EQUAL, rv as_GREATER_EQUAL, rv as_GREATER_EQUAL, .unset] [(.int 3), (.int (p1 &&& (2147483647 : Int32)))])) _
    refine iremM X8 hx rfl (hb hby at_33) rfl (by decide) ?_
    show Steps p.tables e below (T8.setTop (mkF m 34 #[iv p0, iv p1, iv 1, rv as_LESS_EQUAL, rv as_GREATER_EQUAL, rv as_GREATER_EQUAL, .unset] [(.int ((p1 &&& (2147483647 : Int32)) % (3 : Int32)))])) _
    exact k
  refine own_lift sg9 ?_
  show own_Go p.tables e below (T8.setTop (mkF m 34 #[iv p0, iv p1, iv 1, rv as_LESS_EQUAL, rv as_GREATER_EQUAL, rv as_GREATER_EQUAL, .unset] [(.int ((p1 &&& (2147483647 : Int32)) % (3 : Int32)))])) _
  rw [hs]
  show own_Go p.tables e below (T8.setTop (mkF m 34 #[iv p0, iv p1, iv 1, rv as_LESS_EQUAL, rv as_GREATER_EQUAL, rv as_GREATER_EQUAL, .unset] [(.int 1)])) _
  have sg10 : ∀ t, Steps p.tables e below (T8.setTop (mkF m 50 #[iv p0, iv p1, iv 1, rv as_LESS_EQUAL, rv as_GREATER_EQUAL, rv as_GREATER_EQUAL, iv 0] [(.int 0), (.ref as_GREATER_EQUAL)])) t → Steps p.tables e below (T8.setTop (mkF m 34 #[iv p0, iv p1, iv 1, rv as_LESS_EQUAL, rv as_GREATER_EQUAL, rv as_GREATER_EQUAL, .unset] [(.int 1)])) t := by
    intro t k
    refine XS.iconst X8.here hx rfl (hb hby at_34) ?_
    show Steps p.tables e below (T8.setTop (mkF m 35 #[iv p0, iv p1, iv 1, rv as_LESS_EQUAL, rv as_GREATER_EQUAL, rv as_GREATER_EQUAL, .unset] [(.int 1), (.int 1)])) _
    refine XS.isub X8.here hx rfl (hb hby at_35) rfl ?_
    show Steps p.tables e below (T8.setTop (mkF m 36 #[iv p0, iv p1, iv 1, rv as_LESS_EQUAL, rv as_GREATER_EQUAL, rv as_GREATER_EQUAL, .unset] [(.int 0)])) _
    refine XS.istore X8.here hx rfl (hb hby at_36) rfl (l' := #[iv p0, iv p1, iv 1, rv as_LESS_EQUAL, rv as_GREATER_EQUAL, rv as_GREATER_EQUAL, iv 0]) rfl ?_
    show Steps p.tables e below (T8.setTop (mkF m 38 #[iv p0, iv p1, iv 1, rv as_LESS_EQUAL, rv as_GREATER_EQUAL, rv as_GREATER_EQUAL, iv 0] [])) _
    refine XS.aload X8.here hx rfl (hb hby at_38) rfl rfl ?_
    show Steps p.tables e below (T8.setTop (mkF m 40 #[iv p0, iv p1, iv 1, rv as_LESS_EQUAL, rv as_GREATER_EQUAL, rv as_GREATER_EQUAL, iv 0] [(.ref as_GREATER_EQUAL)])) _
    refine XS.aload X8.here hx rfl (hb hby at_40) rfl rfl ?_
    show Steps p.tables e below (T8.setTop (mkF m 42 #[iv p0, iv p1, iv 1, rv as_LESS_EQUAL, rv as_GREATER_EQUAL, rv as_GREATER_EQUAL, iv 0] [(.ref as_GREATER_EQUAL), (.ref as_GREATER_EQUAL)])) _
    refine Jvm.RoadKit.acmp (g := (mkF m 42 #[iv p0, iv p1, iv 1, rv as_LESS_EQUAL, rv as_GREATER_EQUAL, rv as_GREATER_EQUAL, iv 0] [(.ref as_GREATER_EQUAL), (.ref as_GREATER_EQUAL)])) X8 hx rfl rfl rfl (pc0 := 42) (pc' := 45) (same := true) rfl (hb hby at_42) rfl (decide_eq_true rfl) (by decide) (by decide) ?_
    show Steps p.tables e below (T8.setTop (mkF m 45 #[iv p0, iv p1, iv 1, rv as_LESS_EQUAL, rv as_GREATER_EQUAL, rv as_GREATER_EQUAL, iv 0] [])) _
    refine XS.aload X8.here hx rfl (hb hby at_45) rfl rfl ?_
    show Steps p.tables e below (T8.setTop (mkF m 47 #[iv p0, iv p1, iv 1, rv as_LESS_EQUAL, rv as_GREATER_EQUAL, rv as_GREATER_EQUAL, iv 0] [(.ref as_GREATER_EQUAL)])) _
    refine XS.iload X8.here hx rfl (hb hby at_47) rfl ?_
    show Steps p.tables e below (T8.setTop (mkF m 49 #[iv p0, iv p1, iv 1, rv as_LESS_EQUAL, rv as_GREATER_EQUAL, rv as_GREATER_EQUAL, iv 0] [(.int 0), (.ref as_GREATER_EQUAL)])) _
    refine XS.ineg X8.here hx rfl (hb hby at_49) rfl ?_
    show Steps p.tables e below (T8.setTop (mkF m 50 #[iv p0, iv p1, iv 1, rv as_LESS_EQUAL, rv as_GREATER_EQUAL, rv as_GREATER_EQUAL, iv 0] [(.int 0), (.ref as_GREATER_EQUAL)])) _
    exact k
  refine own_lift sg10 ?_
  show own_Go p.tables e below (T8.setTop (mkF m 50 #[iv p0, iv p1, iv 1, rv as_LESS_EQUAL, rv as_GREATER_EQUAL, rv as_GREATER_EQUAL, iv 0] [(.int 0), (.ref as_GREATER_EQUAL)])) _
  obtain ⟨cq11, kq11, q11a, q11b, q11c⟩ := isOf hZ e8 E_GREATER_EQUAL
  obtain ⟨_, _, ⟨T11, Lx11, kx11, nx11⟩, -, X11, ⟨Lc11, hQ11, lx11, yx11, zx11⟩, st11⟩ := X8.virtualBack hx (y := (⟨"com/example/ophion/ophion/runtime/CompareOp", "holds", "(I)Z"⟩ : MethodName)) (z := (⟨"com/example/ophion/ophion/runtime/CompareOp", "holds", "(I)Z"⟩ : MethodName)) hown (mvT hZ (wd hw 28 rfl)) (mvT hZ (wd hw 29 rfl)) (notFace_of_selects (args := #[]) (mvT hZ (wd hw 31 rfl))) (mvT hZ (wd hw 31 rfl)) (mvT hZ (wd hw 30 rfl)) (by decide) (backOf (W := 0) (rmHolds5f l Z a0 hw [] as_GREATER_EQUAL (0 : Int32) h0 n0 Z0 O_GREATER_EQUAL E_GREATER_EQUAL (by decide : ¬ ((0 : Int32) < (0 : Int32)))) hZ (wd hw 32 rfl) (wd hw 6 rfl) (by decide) (by decide)) q11a q11c (g := (mkF m 50 #[iv p0, iv p1, iv 1, rv as_LESS_EQUAL, rv as_GREATER_EQUAL, rv as_GREATER_EQUAL, iv 0] [(.int 0), (.ref as_GREATER_EQUAL)])) rfl (by rw [hml]; rfl) (Steps.refl _) (argsL := [(.int 0)]) (rest := []) (lenOf pd_4 rfl) rfl (by show 2 * 0 + _ ≤ _; exact Nat.le_of_eq rfl) (hb hby at_50) (fun _ _ => ⟨rfl, e8, (by decide : 0 + 0 ≤ _), (by decide : 0 + 0 ≤ _)⟩)
  dsimp only [Pt.U, Pt.locs, Pt.cells, Pt.slots] at X11 lx11 yx11 zx11 st11 hQ11
  subst lx11 yx11 zx11
  obtain ⟨rfl, N11q, e11⟩ := hQ11
  have N11 := Fr.app N8 N11q
  refine own_lift (fun t k => st11.trans k) ?_
  show own_Go p.tables e below (T11.setTop (mkF m 53 #[iv p0, iv p1, iv 1, rv as_LESS_EQUAL, rv as_GREATER_EQUAL, rv as_GREATER_EQUAL, iv 0] [(.int 1)])) _
  have sg12 : ∀ t, Steps p.tables e below (T11.setTop (mkF m 56 #[iv p0, iv p1, iv 1, rv as_LESS_EQUAL, rv as_GREATER_EQUAL, rv as_GREATER_EQUAL, iv 0] [(.int 0), (.ref as_LESS_EQUAL), (.int 1)])) t → Steps p.tables e below (T11.setTop (mkF m 53 #[iv p0, iv p1, iv 1, rv as_LESS_EQUAL, rv as_GREATER_EQUAL, rv as_GREATER_EQUAL, iv 0] [(.int 1)])) t := by
    intro t k
    refine XS.aloadN X11.here hx rfl (hb hby at_53) rfl rfl ?_
    show Steps p.tables e below (T11.setTop (mkF m 54 #[iv p0, iv p1, iv 1, rv as_LESS_EQUAL, rv as_GREATER_EQUAL, rv as_GREATER_EQUAL, iv 0] [(.ref as_LESS_EQUAL), (.int 1)])) _
    refine XS.iload X11.here hx rfl (hb hby at_54) rfl ?_
    show Steps p.tables e below (T11.setTop (mkF m 56 #[iv p0, iv p1, iv 1, rv as_LESS_EQUAL, rv as_GREATER_EQUAL, rv as_GREATER_EQUAL, iv 0] [(.int 0), (.ref as_LESS_EQUAL), (.int 1)])) _
    exact k
  refine own_lift sg12 ?_
  show own_Go p.tables e below (T11.setTop (mkF m 56 #[iv p0, iv p1, iv 1, rv as_LESS_EQUAL, rv as_GREATER_EQUAL, rv as_GREATER_EQUAL, iv 0] [(.int 0), (.ref as_LESS_EQUAL), (.int 1)])) _
  obtain ⟨cq13, kq13, q13a, q13b, q13c⟩ := isOf hZ e11 E_LESS_EQUAL
  obtain ⟨_, _, ⟨T13, Lx13, kx13, nx13⟩, -, X13, ⟨Lc13, hQ13, lx13, yx13, zx13⟩, st13⟩ := X11.virtualBack hx (y := (⟨"com/example/ophion/ophion/runtime/CompareOp", "holds", "(I)Z"⟩ : MethodName)) (z := (⟨"com/example/ophion/ophion/runtime/CompareOp", "holds", "(I)Z"⟩ : MethodName)) hown (mvT hZ (wd hw 28 rfl)) (mvT hZ (wd hw 29 rfl)) (notFace_of_selects (args := #[]) (mvT hZ (wd hw 31 rfl))) (mvT hZ (wd hw 31 rfl)) (mvT hZ (wd hw 30 rfl)) (by decide) (backOf (W := 1) (rmHolds1f l Z a0 hw [] as_LESS_EQUAL (0 : Int32) h0 n0 Z0 O_LESS_EQUAL E_LESS_EQUAL (by decide : ¬ ((0 : Int32) < (0 : Int32)))) hZ (wd hw 32 rfl) (wd hw 6 rfl) (by decide) (by decide)) q13a q13c (g := (mkF m 56 #[iv p0, iv p1, iv 1, rv as_LESS_EQUAL, rv as_GREATER_EQUAL, rv as_GREATER_EQUAL, iv 0] [(.int 0), (.ref as_LESS_EQUAL), (.int 1)])) rfl (by rw [hml]; rfl) (Steps.refl _) (argsL := [(.int 0)]) (rest := [(.int 1)]) (lenOf pd_4 rfl) rfl (by show 2 * 0 + _ ≤ _; exact Nat.le_of_eq rfl) (hb hby at_56) (fun _ _ => ⟨rfl, e11, (by decide : 0 + 0 ≤ _), (by decide : 0 + 0 ≤ _)⟩)
  dsimp only [Pt.U, Pt.locs, Pt.cells, Pt.slots] at X13 lx13 yx13 zx13 st13 hQ13
  subst lx13 yx13 zx13
  obtain ⟨rfl, N13q, e13⟩ := hQ13
  have N13 := Fr.app N11 N13q
  refine own_lift (fun t k => st13.trans k) ?_
  show own_Go p.tables e below (T13.setTop (mkF m 59 #[iv p0, iv p1, iv 1, rv as_LESS_EQUAL, rv as_GREATER_EQUAL, rv as_GREATER_EQUAL, iv 0] [(.int 1), (.int 1)])) _
  have sg14 : ∀ t, Steps p.tables e below (T13.setTop (mkF m 67 #[iv p0, iv p1, iv 1, rv as_LESS_EQUAL, rv as_GREATER_EQUAL, rv as_GREATER_EQUAL, iv 0] [(.int 1)])) t → Steps p.tables e below (T13.setTop (mkF m 59 #[iv p0, iv p1, iv 1, rv as_LESS_EQUAL, rv as_GREATER_EQUAL, rv as_GREATER_EQUAL, iv 0] [(.int 1), (.int 1)])) t := by
    intro t k
    refine XS.icmpNo X13.here hx rfl (hb hby at_59) rfl (teq (by decide : (1 : Int32) = (1 : Int32))).2 ?_
    show Steps p.tables e below (T13.setTop (mkF m 62 #[iv p0, iv p1, iv 1, rv as_LESS_EQUAL, rv as_GREATER_EQUAL, rv as_GREATER_EQUAL, iv 0] [])) _
    refine XS.iconst X13.here hx rfl (hb hby at_62) ?_
    show Steps p.tables e below (T13.setTop (mkF m 63 #[iv p0, iv p1, iv 1, rv as_LESS_EQUAL, rv as_GREATER_EQUAL, rv as_GREATER_EQUAL, iv 0] [(.int 1)])) _
    refine XS.goto X13.here hx rfl (pc0 := 63) (pc' := 67) rfl (hb hby at_63) (by decide) (by decide) ?_
    show Steps p.tables e below (T13.setTop (mkF m 67 #[iv p0, iv p1, iv 1, rv as_LESS_EQUAL, rv as_GREATER_EQUAL, rv as_GREATER_EQUAL, iv 0] [(.int 1)])) _
    exact k
  refine own_lift sg14 ?_
  show own_Go p.tables e below (T13.setTop (mkF m 67 #[iv p0, iv p1, iv 1, rv as_LESS_EQUAL, rv as_GREATER_EQUAL, rv as_GREATER_EQUAL, iv 0] [(.int 1)])) _
  obtain ⟨fs, hr, hrun, hended, hW, hsame⟩ := X13.leave (v := some (.int 1)) (fun h => by rw [Bd.returns] at h; cases h)
  refine ⟨_, _, ?_, hrun, hended, _, _, rfl, ?_, ⟨_, rfl⟩, hW, hsame.mono (by decide) (by decide)⟩
  · exact retN X13 hx (t := .boolean) Bd.returns (by simp) (hb hby at_67) hr
  · show Q0 Z  h0 n0 _ T13.heap _
    rw [e13]
    exact ⟨rfl, N13⟩
theorem ef_rm0_12 (m : MethodId) (x0 : Int32) (x1 : Int32) : entryFrame m #[(.int x0), (.int x1)] maxLocals = mkF m 0 #[.val (.int x0), .val (.int x1), .unset, .unset, .unset, .unset, .unset] [] := by first | (simp [entryFrame, mkF, argsToLocals, Value.category, maxLocals]; done) | rfl
set_option maxRecDepth 65536 in
set_option maxHeartbeats 40000000 in
theorem rm0_12 (l : Launch) (Z : State) (a0 : Array Value) (hw : ∀ d ∈ tables_1, d.before a0 Z = true) (ws : List Jvm.Cond) (p0 : Int32) (p1 : Int32) (as_LESS : Addr) (as_GREATER : Addr) (as_EQUAL : Addr) (as_LESS_EQUAL : Addr) (as_GREATER_EQUAL : Addr) (as_NOT_EQUAL : Addr) (h0 : Heap) (n0 : Nat) (Z0 : n0 ≤ h0.size) (S_LESS : Sta Z h0 "com/example/ophion/ophion/runtime/CompareOp" "LESS" "Lcom/example/ophion/ophion/runtime/CompareOp;" (.ref as_LESS)) (E_LESS : Exa Z h0 as_LESS "com/example/ophion/ophion/runtime/CompareOp") (O_LESS : Fld Z h0 as_LESS "java/lang/Enum" "ordinal" "I" (.int 0)) (S_GREATER : Sta Z h0 "com/example/ophion/ophion/runtime/CompareOp" "GREATER" "Lcom/example/ophion/ophion/runtime/CompareOp;" (.ref as_GREATER)) (E_GREATER : Exa Z h0 as_GREATER "com/example/ophion/ophion/runtime/CompareOp") (O_GREATER : Fld Z h0 as_GREATER "java/lang/Enum" "ordinal" "I" (.int 4)) (S_EQUAL : Sta Z h0 "com/example/ophion/ophion/runtime/CompareOp" "EQUAL" "Lcom/example/ophion/ophion/runtime/CompareOp;" (.ref as_EQUAL)) (E_EQUAL : Exa Z h0 as_EQUAL "com/example/ophion/ophion/runtime/CompareOp") (O_EQUAL : Fld Z h0 as_EQUAL "java/lang/Enum" "ordinal" "I" (.int 2)) (S_LESS_EQUAL : Sta Z h0 "com/example/ophion/ophion/runtime/CompareOp" "LESS_EQUAL" "Lcom/example/ophion/ophion/runtime/CompareOp;" (.ref as_LESS_EQUAL)) (E_LESS_EQUAL : Exa Z h0 as_LESS_EQUAL "com/example/ophion/ophion/runtime/CompareOp") (O_LESS_EQUAL : Fld Z h0 as_LESS_EQUAL "java/lang/Enum" "ordinal" "I" (.int 1)) (S_GREATER_EQUAL : Sta Z h0 "com/example/ophion/ophion/runtime/CompareOp" "GREATER_EQUAL" "Lcom/example/ophion/ophion/runtime/CompareOp;" (.ref as_GREATER_EQUAL)) (E_GREATER_EQUAL : Exa Z h0 as_GREATER_EQUAL "com/example/ophion/ophion/runtime/CompareOp") (O_GREATER_EQUAL : Fld Z h0 as_GREATER_EQUAL "java/lang/Enum" "ordinal" "I" (.int 5)) (S_NOT_EQUAL : Sta Z h0 "com/example/ophion/ophion/runtime/CompareOp" "NOT_EQUAL" "Lcom/example/ophion/ophion/runtime/CompareOp;" (.ref as_NOT_EQUAL)) (E_NOT_EQUAL : Exa Z h0 as_NOT_EQUAL "com/example/ophion/ophion/runtime/CompareOp") (O_NOT_EQUAL : Fld Z h0 as_NOT_EQUAL "java/lang/Enum" "ordinal" "I" (.int 3)) (hk : ((p0 &&& (2147483647 : Int32)) % (6 : Int32)) = (1 : Int32)) (hs : ((p1 &&& (2147483647 : Int32)) % (3 : Int32)) = (2 : Int32)) :
    MetFree l x (head1 (Jvm.Cond.code x code maxLocals ret :: ws) room_1) (fun a U => a = #[(.int p0), (.int p1)] ∧ Z.Warmed39 U.vm ∧ U.heap = h0) (fun _ _ _ _ _ => True) (fun _ U o U' => ∃ v L, o = .returned v ∧ Q0 Z  h0 n0 v U'.heap L ∧ FrameEnd U o U' L 0 0) := by
  refine MetFree.of_bodySF (plainFor_of_name pn_2) hisR ?_
  intro p e s m args below meth c s₁ Bd hml0 hP hK
  obtain ⟨rfl, hZ, hh⟩ := hP
  have hx := Bd.exec
  have hby := Bd.bytes
  have hml : c.maxLocals = 7 := hml0
  have hown : s.vm.findClass "com/example/ophion/ophion/runtime/CompareOpSwappedPinLaw" = some m.cls := findClass_of_methodNamed Bd.named
  have hnm := (name_of_methodNamed Bd.named Bd.method).1
  have X0 : Stand p l e room_1 s m #[(.int p0), (.int p1)] below meth c s₁ [] 0 0 := Stand.of_body Bd
  have e0 : s₁.heap = h0 := by rw [← hh, Bd.state]; rfl
  have N0 := Fr.nil n0
  refine own_go (own_lift (fun t k => castTop (ef_rm0_12 m p0 p1) k) ?_)
  show own_Go p.tables e below (s₁.setTop (mkF m 0 #[iv p0, iv p1, .unset, .unset, .unset, .unset, .unset] [])) _
  have sg1 : ∀ t, Steps p.tables e below (s₁.setTop (mkF m 7 #[iv p0, iv p1, .unset, .unset, .unset, .unset, .unset] [(.int ((p0 &&& (2147483647 : Int32)) % (6 : Int32)))])) t → Steps p.tables e below (s₁.setTop (mkF m 0 #[iv p0, iv p1, .unset, .unset, .unset, .unset, .unset] [])) t := by
    intro t k
    refine XS.iloadN X0.here hx rfl (hb hby at_0) rfl ?_
    show Steps p.tables e below (s₁.setTop (mkF m 1 #[iv p0, iv p1, .unset, .unset, .unset, .unset, .unset] [(.int p0)])) _
    refine X0.ldcInt hx hown (mvT hZ (wd hw 0 rfl)) (g := (mkF m 1 #[iv p0, iv p1, .unset, .unset, .unset, .unset, .unset] [(.int p0)])) rfl (hb hby at_1) _ ?_
    show Steps p.tables e below (s₁.setTop (mkF m 3 #[iv p0, iv p1, .unset, .unset, .unset, .unset, .unset] [(.int 2147483647), (.int p0)])) _
    refine XS.iand X0.here hx rfl (hb hby at_3) rfl ?_
    show Steps p.tables e below (s₁.setTop (mkF m 4 #[iv p0, iv p1, .unset, .unset, .unset, .unset, .unset] [(.int (p0 &&& (2147483647 : Int32)))])) _
    refine XS.bipush X0.here hx rfl (hb hby at_4) ?_
    show Steps p.tables e below (s₁.setTop (mkF m 6 #[iv p0, iv p1, .unset, .unset, .unset, .unset, .unset] [(.int 6), (.int (p0 &&& (2147483647 : Int32)))])) _
    refine iremM X0 hx rfl (hb hby at_6) rfl (by decide) ?_
    show Steps p.tables e below (s₁.setTop (mkF m 7 #[iv p0, iv p1, .unset, .unset, .unset, .unset, .unset] [(.int ((p0 &&& (2147483647 : Int32)) % (6 : Int32)))])) _
    exact k
  refine own_lift sg1 ?_
  show own_Go p.tables e below (s₁.setTop (mkF m 7 #[iv p0, iv p1, .unset, .unset, .unset, .unset, .unset] [(.int ((p0 &&& (2147483647 : Int32)) % (6 : Int32)))])) _
  rw [hk]
  show own_Go p.tables e below (s₁.setTop (mkF m 7 #[iv p0, iv p1, .unset, .unset, .unset, .unset, .unset] [(.int 1)])) _
  have sg2 : ∀ t, Steps p.tables e below (s₁.setTop (mkF m 9 #[iv p0, iv p1, iv 1, .unset, .unset, .unset, .unset] [(.int 1)])) t → Steps p.tables e below (s₁.setTop (mkF m 7 #[iv p0, iv p1, .unset, .unset, .unset, .unset, .unset] [(.int 1)])) t := by
    intro t k
    refine XS.istoreN X0.here hx rfl (hb hby at_7) rfl (l' := #[iv p0, iv p1, iv 1, .unset, .unset, .unset, .unset]) rfl ?_
    show Steps p.tables e below (s₁.setTop (mkF m 8 #[iv p0, iv p1, iv 1, .unset, .unset, .unset, .unset] [])) _
    refine XS.iloadN X0.here hx rfl (hb hby at_8) rfl ?_
    show Steps p.tables e below (s₁.setTop (mkF m 9 #[iv p0, iv p1, iv 1, .unset, .unset, .unset, .unset] [(.int 1)])) _
    exact k
  refine own_lift sg2 ?_
  show own_Go p.tables e below (s₁.setTop (mkF m 9 #[iv p0, iv p1, iv 1, .unset, .unset, .unset, .unset] [(.int 1)])) _
  obtain ⟨_, _, ⟨T3, Lx3, kx3, nx3⟩, -, X3, ⟨Lc3, hQ3, lx3, yx3, zx3⟩, st3⟩ := Jvm.LawKit.callS X0 hx (y := (⟨"com/example/ophion/ophion/runtime/CompareOpSwappedPinLaw", "pick", "(I)Lcom/example/ophion/ophion/runtime/CompareOp;"⟩ : MethodName)) hown (mvT hZ (wd hw 1 rfl)) (mvT hZ (wd hw 2 rfl)) (mvT hZ (wd hw 3 rfl)) (mvT hZ (wd hw 4 rfl)) (by decide) (backOf (W := 0) (rmPick1 l Z a0 hw [] (1 : Int32) as_LESS_EQUAL h0 n0 Z0 S_LESS_EQUAL (by decide : ¬ ((1 : Int32) = (0 : Int32))) (by decide : (1 : Int32) = (1 : Int32))) hZ (wd hw 4 rfl) (wd hw 3 rfl) (by decide) (by decide)) (g := (mkF m 9 #[iv p0, iv p1, iv 1, .unset, .unset, .unset, .unset] [(.int 1)])) rfl (by rw [hml]; rfl) (argsL := [(.int 1)]) (rest := []) (lenOf pd_1 rfl) rfl (by show 2 * 0 + _ ≤ _; exact Nat.le_of_eq rfl) (hb hby at_9) (fun _ _ => ⟨rfl, e0, (by decide : 0 + 0 ≤ _), (by decide : 0 + 0 ≤ _)⟩)
  dsimp only [Pt.U, Pt.locs, Pt.cells, Pt.slots] at X3 lx3 yx3 zx3 st3 hQ3
  subst lx3 yx3 zx3
  obtain ⟨rfl, N3q, e3⟩ := hQ3
  have N3 := Fr.app N0 N3q
  refine own_lift st3 ?_
  show own_Go p.tables e below (T3.setTop (mkF m 12 #[iv p0, iv p1, iv 1, .unset, .unset, .unset, .unset] [(.ref as_LESS_EQUAL)])) _
  have sg4 : ∀ t, Steps p.tables e below (T3.setTop (mkF m 14 #[iv p0, iv p1, iv 1, rv as_LESS_EQUAL, .unset, .unset, .unset] [(.int 1)])) t → Steps p.tables e below (T3.setTop (mkF m 12 #[iv p0, iv p1, iv 1, .unset, .unset, .unset, .unset] [(.ref as_LESS_EQUAL)])) t := by
    intro t k
    refine XS.astoreN X3.here hx rfl (hb hby at_12) rfl rfl (l' := #[iv p0, iv p1, iv 1, rv as_LESS_EQUAL, .unset, .unset, .unset]) rfl ?_
    show Steps p.tables e below (T3.setTop (mkF m 13 #[iv p0, iv p1, iv 1, rv as_LESS_EQUAL, .unset, .unset, .unset] [])) _
    refine XS.iloadN X3.here hx rfl (hb hby at_13) rfl ?_
    show Steps p.tables e below (T3.setTop (mkF m 14 #[iv p0, iv p1, iv 1, rv as_LESS_EQUAL, .unset, .unset, .unset] [(.int 1)])) _
    exact k
  refine own_lift sg4 ?_
  show own_Go p.tables e below (T3.setTop (mkF m 14 #[iv p0, iv p1, iv 1, rv as_LESS_EQUAL, .unset, .unset, .unset] [(.int 1)])) _
  obtain ⟨_, _, ⟨T5, Lx5, kx5, nx5⟩, -, X5, ⟨Lc5, hQ5, lx5, yx5, zx5⟩, st5⟩ := Jvm.LawKit.callS X3 hx (y := (⟨"com/example/ophion/ophion/runtime/CompareOpSwappedPinLaw", "mirror", "(I)I"⟩ : MethodName)) hown (mvT hZ (wd hw 8 rfl)) (mvT hZ (wd hw 9 rfl)) (mvT hZ (wd hw 3 rfl)) (mvT hZ (wd hw 10 rfl)) (by decide) (backOf (W := 0) (rmMir1 l Z a0 hw [] (1 : Int32) h0 n0 Z0 (by decide : ¬ ((1 : Int32) = (0 : Int32))) (by decide : (1 : Int32) = (1 : Int32))) hZ (wd hw 10 rfl) (wd hw 3 rfl) (by decide) (by decide)) (g := (mkF m 14 #[iv p0, iv p1, iv 1, rv as_LESS_EQUAL, .unset, .unset, .unset] [(.int 1)])) rfl (by rw [hml]; rfl) (argsL := [(.int 1)]) (rest := []) (lenOf pd_2 rfl) rfl (by show 2 * 0 + _ ≤ _; exact Nat.le_of_eq rfl) (hb hby at_14) (fun _ _ => ⟨rfl, e3, (by decide : 0 + 0 ≤ _), (by decide : 0 + 0 ≤ _)⟩)
  dsimp only [Pt.U, Pt.locs, Pt.cells, Pt.slots] at X5 lx5 yx5 zx5 st5 hQ5
  subst lx5 yx5 zx5
  obtain ⟨rfl, N5q, e5⟩ := hQ5
  have N5 := Fr.app N3 N5q
  refine own_lift st5 ?_
  show own_Go p.tables e below (T5.setTop (mkF m 17 #[iv p0, iv p1, iv 1, rv as_LESS_EQUAL, .unset, .unset, .unset] [(.int 5)])) _
  obtain ⟨_, _, ⟨T6, Lx6, kx6, nx6⟩, -, X6, ⟨Lc6, hQ6, lx6, yx6, zx6⟩, st6⟩ := Jvm.LawKit.callS X5 hx (y := (⟨"com/example/ophion/ophion/runtime/CompareOpSwappedPinLaw", "pick", "(I)Lcom/example/ophion/ophion/runtime/CompareOp;"⟩ : MethodName)) hown (mvT hZ (wd hw 1 rfl)) (mvT hZ (wd hw 2 rfl)) (mvT hZ (wd hw 3 rfl)) (mvT hZ (wd hw 4 rfl)) (by decide) (backOf (W := 0) (rmPick5 l Z a0 hw [] (5 : Int32) as_GREATER_EQUAL h0 n0 Z0 S_GREATER_EQUAL (by decide : ¬ ((5 : Int32) = (0 : Int32))) (by decide : ¬ ((5 : Int32) = (1 : Int32))) (by decide : ¬ ((5 : Int32) = (2 : Int32))) (by decide : ¬ ((5 : Int32) = (3 : Int32))) (by decide : ¬ ((5 : Int32) = (4 : Int32)))) hZ (wd hw 4 rfl) (wd hw 3 rfl) (by decide) (by decide)) (g := (mkF m 17 #[iv p0, iv p1, iv 1, rv as_LESS_EQUAL, .unset, .unset, .unset] [(.int 5)])) rfl (by rw [hml]; rfl) (argsL := [(.int 5)]) (rest := []) (lenOf pd_1 rfl) rfl (by show 2 * 0 + _ ≤ _; exact Nat.le_of_eq rfl) (hb hby at_17) (fun _ _ => ⟨rfl, e5, (by decide : 0 + 0 ≤ _), (by decide : 0 + 0 ≤ _)⟩)
  dsimp only [Pt.U, Pt.locs, Pt.cells, Pt.slots] at X6 lx6 yx6 zx6 st6 hQ6
  subst lx6 yx6 zx6
  obtain ⟨rfl, N6q, e6⟩ := hQ6
  have N6 := Fr.app N5 N6q
  refine own_lift st6 ?_
  show own_Go p.tables e below (T6.setTop (mkF m 20 #[iv p0, iv p1, iv 1, rv as_LESS_EQUAL, .unset, .unset, .unset] [(.ref as_GREATER_EQUAL)])) _
  have sg7 : ∀ t, Steps p.tables e below (T6.setTop (mkF m 23 #[iv p0, iv p1, iv 1, rv as_LESS_EQUAL, rv as_GREATER_EQUAL, .unset, .unset] [(.ref as_LESS_EQUAL)])) t → Steps p.tables e below (T6.setTop (mkF m 20 #[iv p0, iv p1, iv 1, rv as_LESS_EQUAL, .unset, .unset, .unset] [(.ref as_GREATER_EQUAL)])) t := by
    intro t k
    refine XS.astore X6.here hx rfl (hb hby at_20) rfl rfl (l' := #[iv p0, iv p1, iv 1, rv as_LESS_EQUAL, rv as_GREATER_EQUAL, .unset, .unset]) rfl ?_
    show Steps p.tables e below (T6.setTop (mkF m 22 #[iv p0, iv p1, iv 1, rv as_LESS_EQUAL, rv as_GREATER_EQUAL, .unset, .unset] [])) _
    refine XS.aloadN X6.here hx rfl (hb hby at_22) rfl rfl ?_
    show Steps p.tables e below (T6.setTop (mkF m 23 #[iv p0, iv p1, iv 1, rv as_LESS_EQUAL, rv as_GREATER_EQUAL, .unset, .unset] [(.ref as_LESS_EQUAL)])) _
    exact k
  refine own_lift sg7 ?_
  show own_Go p.tables e below (T6.setTop (mkF m 23 #[iv p0, iv p1, iv 1, rv as_LESS_EQUAL, rv as_GREATER_EQUAL, .unset, .unset] [(.ref as_LESS_EQUAL)])) _
  obtain ⟨cq8, kq8, q8a, q8b, q8c⟩ := isOf hZ e6 E_LESS_EQUAL
  obtain ⟨_, _, ⟨T8, Lx8, kx8, nx8⟩, -, X8, ⟨Lc8, hQ8, lx8, yx8, zx8⟩, st8⟩ := X6.virtualBack hx (y := (⟨"com/example/ophion/ophion/runtime/CompareOp", "swapped", "()Lcom/example/ophion/ophion/runtime/CompareOp;"⟩ : MethodName)) (z := (⟨"com/example/ophion/ophion/runtime/CompareOp", "swapped", "()Lcom/example/ophion/ophion/runtime/CompareOp;"⟩ : MethodName)) hown (mvT hZ (wd hw 13 rfl)) (mvT hZ (wd hw 14 rfl)) (notFace_of_selects (args := #[]) (mvT hZ (wd hw 16 rfl))) (mvT hZ (wd hw 16 rfl)) (mvT hZ (wd hw 15 rfl)) (by decide) (backOf (W := 0) (rmSw1 l Z a0 hw [] as_LESS_EQUAL as_GREATER_EQUAL h0 n0 Z0 O_LESS_EQUAL E_LESS_EQUAL S_GREATER_EQUAL) hZ (wd hw 17 rfl) (wd hw 6 rfl) (by decide) (by decide)) q8a q8c (g := (mkF m 23 #[iv p0, iv p1, iv 1, rv as_LESS_EQUAL, rv as_GREATER_EQUAL, .unset, .unset] [(.ref as_LESS_EQUAL)])) rfl (by rw [hml]; rfl) (Steps.refl _) (argsL := []) (rest := []) (lenOf pd_3 rfl) rfl (by show 2 * 0 + _ ≤ _; exact Nat.le_of_eq rfl) (hb hby at_23) (fun _ _ => ⟨rfl, e6, (by decide : 0 + 0 ≤ _), (by decide : 0 + 0 ≤ _)⟩)
  dsimp only [Pt.U, Pt.locs, Pt.cells, Pt.slots] at X8 lx8 yx8 zx8 st8 hQ8
  subst lx8 yx8 zx8
  obtain ⟨rfl, N8q, e8⟩ := hQ8
  have N8 := Fr.app N6 N8q
  refine own_lift (fun t k => st8.trans k) ?_
  show own_Go p.tables e below (T8.setTop (mkF m 26 #[iv p0, iv p1, iv 1, rv as_LESS_EQUAL, rv as_GREATER_EQUAL, .unset, .unset] [(.ref as_GREATER_EQUAL)])) _
  have sg9 : ∀ t, Steps p.tables e below (T8.setTop (mkF m 34 #[iv p0, iv p1, iv 1, rv as_LESS_EQUAL, rv as_GREATER_EQUAL, rv as_GREATER_EQUAL, .unset] [(.int ((p1 &&& (2147483647 : Int32)) % (3 : Int32)))])) t → Steps p.tables e below (T8.setTop (mkF m 26 #[iv p0, iv p1, iv 1, rv as_LESS_EQUAL, rv as_GREATER_EQUAL, .unset, .unset] [(.ref as_GREATER_EQUAL)])) t := by
    intro t k
    refine XS.astore X8.here hx rfl (hb hby at_26) rfl rfl (l' := #[iv p0, iv p1, iv 1, rv as_LESS_EQUAL, rv as_GREATER_EQUAL, rv as_GREATER_EQUAL, .unset]) rfl ?_
    show Steps p.tables e below (T8.setTop (mkF m 28 #[iv p0, iv p1, iv 1, rv as_LESS_EQUAL, rv as_GREATER_EQUAL, rv as_GREATER_EQUAL, .unset] [])) _
    refine XS.iloadN X8.here hx rfl (hb hby at_28) rfl ?_
    show Steps p.tables e below (T8.setTop (mkF m 29 #[iv p0, iv p1, iv 1, rv as_LESS_EQUAL, rv as_GREATER_EQUAL, rv as_GREATER_EQUAL, .unset] [(.int p1)])) _
    refine X8.ldcInt hx hown (mvT hZ (wd hw 0 rfl)) (g := (mkF m 29 #[iv p0, iv p1, iv 1, rv as_LESS_EQUAL, rv as_GREATER_EQUAL, rv as_GREATER_EQUAL, .unset] [(.int p1)])) rfl (hb hby at_29) _ ?_
    show Steps p.tables e below (T8.setTop (mkF m 31 #[iv p0, iv p1, iv 1, rv as_LESS_EQUAL, rv as_GREATER_EQUAL, rv as_GREATER_EQUAL, .unset] [(.int 2147483647), (.int p1)])) _
    refine XS.iand X8.here hx rfl (hb hby at_31) rfl ?_
    show Steps p.tables e below (T8.setTop (mkF m 32 #[iv p0, iv p1, iv 1, rv as_LESS_EQUAL, rv as_GREATER_EQUAL, rv as_GREATER_EQUAL, .unset] [(.int (p1 &&& (2147483647 : Int32)))])) _
    refine XS.iconst X8.here hx rfl (hb hby at_32) ?_
    show Steps p.tables e below (T8.setTop (mkF m 33 #[iv p0, iv p1, iv 1, rv as_LESS_EQUAL, rv as_GREATER_EQUAL, rv as_GREATER_EQUAL, .unset] [(.int 3), (.int (p1 &&& (2147483647 : Int32)))])) _
    refine iremM X8 hx rfl (hb hby at_33) rfl (by decide) ?_
    show Steps p.tables e below (T8.setTop (mkF m 34 #[iv p0, iv p1, iv 1, rv as_LESS_EQUAL, rv as_GREATER_EQUAL, rv as_GREATER_EQUAL, .unset] [(.int ((p1 &&& (2147483647 : Int32)) % (3 : Int32)))])) _
    exact k
  refine own_lift sg9 ?_
  show own_Go p.tables e below (T8.setTop (mkF m 34 #[iv p0, iv p1, iv 1, rv as_LESS_EQUAL, rv as_GREATER_EQUAL, rv as_GREATER_EQUAL, .unset] [(.int ((p1 &&& (2147483647 : Int32)) % (3 : Int32)))])) _
  rw [hs]
  show own_Go p.tables e below (T8.setTop (mkF m 34 #[iv p0, iv p1, iv 1, rv as_LESS_EQUAL, rv as_GREATER_EQUAL, rv as_GREATER_EQUAL, .unset] [(.int 2)])) _
  have sg10 : ∀ t, Steps p.tables e below (T8.setTop (mkF m 50 #[iv p0, iv p1, iv 1, rv as_LESS_EQUAL, rv as_GREATER_EQUAL, rv as_GREATER_EQUAL, iv 1] [(.int (-1)), (.ref as_GREATER_EQUAL)])) t → Steps p.tables e below (T8.setTop (mkF m 34 #[iv p0, iv p1, iv 1, rv as_LESS_EQUAL, rv as_GREATER_EQUAL, rv as_GREATER_EQUAL, .unset] [(.int 2)])) t := by
    intro t k
    refine XS.iconst X8.here hx rfl (hb hby at_34) ?_
    show Steps p.tables e below (T8.setTop (mkF m 35 #[iv p0, iv p1, iv 1, rv as_LESS_EQUAL, rv as_GREATER_EQUAL, rv as_GREATER_EQUAL, .unset] [(.int 1), (.int 2)])) _
    refine XS.isub X8.here hx rfl (hb hby at_35) rfl ?_
    show Steps p.tables e below (T8.setTop (mkF m 36 #[iv p0, iv p1, iv 1, rv as_LESS_EQUAL, rv as_GREATER_EQUAL, rv as_GREATER_EQUAL, .unset] [(.int 1)])) _
    refine XS.istore X8.here hx rfl (hb hby at_36) rfl (l' := #[iv p0, iv p1, iv 1, rv as_LESS_EQUAL, rv as_GREATER_EQUAL, rv as_GREATER_EQUAL, iv 1]) rfl ?_
    show Steps p.tables e below (T8.setTop (mkF m 38 #[iv p0, iv p1, iv 1, rv as_LESS_EQUAL, rv as_GREATER_EQUAL, rv as_GREATER_EQUAL, iv 1] [])) _
    refine XS.aload X8.here hx rfl (hb hby at_38) rfl rfl ?_
    show Steps p.tables e below (T8.setTop (mkF m 40 #[iv p0, iv p1, iv 1, rv as_LESS_EQUAL, rv as_GREATER_EQUAL, rv as_GREATER_EQUAL, iv 1] [(.ref as_GREATER_EQUAL)])) _
    refine XS.aload X8.here hx rfl (hb hby at_40) rfl rfl ?_
    show Steps p.tables e below (T8.setTop (mkF m 42 #[iv p0, iv p1, iv 1, rv as_LESS_EQUAL, rv as_GREATER_EQUAL, rv as_GREATER_EQUAL, iv 1] [(.ref as_GREATER_EQUAL), (.ref as_GREATER_EQUAL)])) _
    refine Jvm.RoadKit.acmp (g := (mkF m 42 #[iv p0, iv p1, iv 1, rv as_LESS_EQUAL, rv as_GREATER_EQUAL, rv as_GREATER_EQUAL, iv 1] [(.ref as_GREATER_EQUAL), (.ref as_GREATER_EQUAL)])) X8 hx rfl rfl rfl (pc0 := 42) (pc' := 45) (same := true) rfl (hb hby at_42) rfl (decide_eq_true rfl) (by decide) (by decide) ?_
    show Steps p.tables e below (T8.setTop (mkF m 45 #[iv p0, iv p1, iv 1, rv as_LESS_EQUAL, rv as_GREATER_EQUAL, rv as_GREATER_EQUAL, iv 1] [])) _
    refine XS.aload X8.here hx rfl (hb hby at_45) rfl rfl ?_
    show Steps p.tables e below (T8.setTop (mkF m 47 #[iv p0, iv p1, iv 1, rv as_LESS_EQUAL, rv as_GREATER_EQUAL, rv as_GREATER_EQUAL, iv 1] [(.ref as_GREATER_EQUAL)])) _
    refine XS.iload X8.here hx rfl (hb hby at_47) rfl ?_
    show Steps p.tables e below (T8.setTop (mkF m 49 #[iv p0, iv p1, iv 1, rv as_LESS_EQUAL, rv as_GREATER_EQUAL, rv as_GREATER_EQUAL, iv 1] [(.int 1), (.ref as_GREATER_EQUAL)])) _
    refine XS.ineg X8.here hx rfl (hb hby at_49) rfl ?_
    show Steps p.tables e below (T8.setTop (mkF m 50 #[iv p0, iv p1, iv 1, rv as_LESS_EQUAL, rv as_GREATER_EQUAL, rv as_GREATER_EQUAL, iv 1] [(.int (-1)), (.ref as_GREATER_EQUAL)])) _
    exact k
  refine own_lift sg10 ?_
  show own_Go p.tables e below (T8.setTop (mkF m 50 #[iv p0, iv p1, iv 1, rv as_LESS_EQUAL, rv as_GREATER_EQUAL, rv as_GREATER_EQUAL, iv 1] [(.int (-1)), (.ref as_GREATER_EQUAL)])) _
  obtain ⟨cq11, kq11, q11a, q11b, q11c⟩ := isOf hZ e8 E_GREATER_EQUAL
  obtain ⟨_, _, ⟨T11, Lx11, kx11, nx11⟩, -, X11, ⟨Lc11, hQ11, lx11, yx11, zx11⟩, st11⟩ := X8.virtualBack hx (y := (⟨"com/example/ophion/ophion/runtime/CompareOp", "holds", "(I)Z"⟩ : MethodName)) (z := (⟨"com/example/ophion/ophion/runtime/CompareOp", "holds", "(I)Z"⟩ : MethodName)) hown (mvT hZ (wd hw 28 rfl)) (mvT hZ (wd hw 29 rfl)) (notFace_of_selects (args := #[]) (mvT hZ (wd hw 31 rfl))) (mvT hZ (wd hw 31 rfl)) (mvT hZ (wd hw 30 rfl)) (by decide) (backOf (W := 0) (rmHolds5t l Z a0 hw [] as_GREATER_EQUAL (-1 : Int32) h0 n0 Z0 O_GREATER_EQUAL E_GREATER_EQUAL (by decide : (-1 : Int32) < (0 : Int32))) hZ (wd hw 32 rfl) (wd hw 6 rfl) (by decide) (by decide)) q11a q11c (g := (mkF m 50 #[iv p0, iv p1, iv 1, rv as_LESS_EQUAL, rv as_GREATER_EQUAL, rv as_GREATER_EQUAL, iv 1] [(.int (-1)), (.ref as_GREATER_EQUAL)])) rfl (by rw [hml]; rfl) (Steps.refl _) (argsL := [(.int (-1))]) (rest := []) (lenOf pd_4 rfl) rfl (by show 2 * 0 + _ ≤ _; exact Nat.le_of_eq rfl) (hb hby at_50) (fun _ _ => ⟨rfl, e8, (by decide : 0 + 0 ≤ _), (by decide : 0 + 0 ≤ _)⟩)
  dsimp only [Pt.U, Pt.locs, Pt.cells, Pt.slots] at X11 lx11 yx11 zx11 st11 hQ11
  subst lx11 yx11 zx11
  obtain ⟨rfl, N11q, e11⟩ := hQ11
  have N11 := Fr.app N8 N11q
  refine own_lift (fun t k => st11.trans k) ?_
  show own_Go p.tables e below (T11.setTop (mkF m 53 #[iv p0, iv p1, iv 1, rv as_LESS_EQUAL, rv as_GREATER_EQUAL, rv as_GREATER_EQUAL, iv 1] [(.int 0)])) _
  have sg12 : ∀ t, Steps p.tables e below (T11.setTop (mkF m 56 #[iv p0, iv p1, iv 1, rv as_LESS_EQUAL, rv as_GREATER_EQUAL, rv as_GREATER_EQUAL, iv 1] [(.int 1), (.ref as_LESS_EQUAL), (.int 0)])) t → Steps p.tables e below (T11.setTop (mkF m 53 #[iv p0, iv p1, iv 1, rv as_LESS_EQUAL, rv as_GREATER_EQUAL, rv as_GREATER_EQUAL, iv 1] [(.int 0)])) t := by
    intro t k
    refine XS.aloadN X11.here hx rfl (hb hby at_53) rfl rfl ?_
    show Steps p.tables e below (T11.setTop (mkF m 54 #[iv p0, iv p1, iv 1, rv as_LESS_EQUAL, rv as_GREATER_EQUAL, rv as_GREATER_EQUAL, iv 1] [(.ref as_LESS_EQUAL), (.int 0)])) _
    refine XS.iload X11.here hx rfl (hb hby at_54) rfl ?_
    show Steps p.tables e below (T11.setTop (mkF m 56 #[iv p0, iv p1, iv 1, rv as_LESS_EQUAL, rv as_GREATER_EQUAL, rv as_GREATER_EQUAL, iv 1] [(.int 1), (.ref as_LESS_EQUAL), (.int 0)])) _
    exact k
  refine own_lift sg12 ?_
  show own_Go p.tables e below (T11.setTop (mkF m 56 #[iv p0, iv p1, iv 1, rv as_LESS_EQUAL, rv as_GREATER_EQUAL, rv as_GREATER_EQUAL, iv 1] [(.int 1), (.ref as_LESS_EQUAL), (.int 0)])) _
  obtain ⟨cq13, kq13, q13a, q13b, q13c⟩ := isOf hZ e11 E_LESS_EQUAL
  obtain ⟨_, _, ⟨T13, Lx13, kx13, nx13⟩, -, X13, ⟨Lc13, hQ13, lx13, yx13, zx13⟩, st13⟩ := X11.virtualBack hx (y := (⟨"com/example/ophion/ophion/runtime/CompareOp", "holds", "(I)Z"⟩ : MethodName)) (z := (⟨"com/example/ophion/ophion/runtime/CompareOp", "holds", "(I)Z"⟩ : MethodName)) hown (mvT hZ (wd hw 28 rfl)) (mvT hZ (wd hw 29 rfl)) (notFace_of_selects (args := #[]) (mvT hZ (wd hw 31 rfl))) (mvT hZ (wd hw 31 rfl)) (mvT hZ (wd hw 30 rfl)) (by decide) (backOf (W := 1) (rmHolds1t l Z a0 hw [] as_LESS_EQUAL (1 : Int32) h0 n0 Z0 O_LESS_EQUAL E_LESS_EQUAL (by decide : (0 : Int32) < (1 : Int32))) hZ (wd hw 32 rfl) (wd hw 6 rfl) (by decide) (by decide)) q13a q13c (g := (mkF m 56 #[iv p0, iv p1, iv 1, rv as_LESS_EQUAL, rv as_GREATER_EQUAL, rv as_GREATER_EQUAL, iv 1] [(.int 1), (.ref as_LESS_EQUAL), (.int 0)])) rfl (by rw [hml]; rfl) (Steps.refl _) (argsL := [(.int 1)]) (rest := [(.int 0)]) (lenOf pd_4 rfl) rfl (by show 2 * 0 + _ ≤ _; exact Nat.le_of_eq rfl) (hb hby at_56) (fun _ _ => ⟨rfl, e11, (by decide : 0 + 0 ≤ _), (by decide : 0 + 0 ≤ _)⟩)
  dsimp only [Pt.U, Pt.locs, Pt.cells, Pt.slots] at X13 lx13 yx13 zx13 st13 hQ13
  subst lx13 yx13 zx13
  obtain ⟨rfl, N13q, e13⟩ := hQ13
  have N13 := Fr.app N11 N13q
  refine own_lift (fun t k => st13.trans k) ?_
  show own_Go p.tables e below (T13.setTop (mkF m 59 #[iv p0, iv p1, iv 1, rv as_LESS_EQUAL, rv as_GREATER_EQUAL, rv as_GREATER_EQUAL, iv 1] [(.int 0), (.int 0)])) _
  have sg14 : ∀ t, Steps p.tables e below (T13.setTop (mkF m 67 #[iv p0, iv p1, iv 1, rv as_LESS_EQUAL, rv as_GREATER_EQUAL, rv as_GREATER_EQUAL, iv 1] [(.int 1)])) t → Steps p.tables e below (T13.setTop (mkF m 59 #[iv p0, iv p1, iv 1, rv as_LESS_EQUAL, rv as_GREATER_EQUAL, rv as_GREATER_EQUAL, iv 1] [(.int 0), (.int 0)])) t := by
    intro t k
    refine XS.icmpNo X13.here hx rfl (hb hby at_59) rfl (teq (by decide : (0 : Int32) = (0 : Int32))).2 ?_
    show Steps p.tables e below (T13.setTop (mkF m 62 #[iv p0, iv p1, iv 1, rv as_LESS_EQUAL, rv as_GREATER_EQUAL, rv as_GREATER_EQUAL, iv 1] [])) _
    refine XS.iconst X13.here hx rfl (hb hby at_62) ?_
    show Steps p.tables e below (T13.setTop (mkF m 63 #[iv p0, iv p1, iv 1, rv as_LESS_EQUAL, rv as_GREATER_EQUAL, rv as_GREATER_EQUAL, iv 1] [(.int 1)])) _
    refine XS.goto X13.here hx rfl (pc0 := 63) (pc' := 67) rfl (hb hby at_63) (by decide) (by decide) ?_
    show Steps p.tables e below (T13.setTop (mkF m 67 #[iv p0, iv p1, iv 1, rv as_LESS_EQUAL, rv as_GREATER_EQUAL, rv as_GREATER_EQUAL, iv 1] [(.int 1)])) _
    exact k
  refine own_lift sg14 ?_
  show own_Go p.tables e below (T13.setTop (mkF m 67 #[iv p0, iv p1, iv 1, rv as_LESS_EQUAL, rv as_GREATER_EQUAL, rv as_GREATER_EQUAL, iv 1] [(.int 1)])) _
  obtain ⟨fs, hr, hrun, hended, hW, hsame⟩ := X13.leave (v := some (.int 1)) (fun h => by rw [Bd.returns] at h; cases h)
  refine ⟨_, _, ?_, hrun, hended, _, _, rfl, ?_, ⟨_, rfl⟩, hW, hsame.mono (by decide) (by decide)⟩
  · exact retN X13 hx (t := .boolean) Bd.returns (by simp) (hb hby at_67) hr
  · show Q0 Z  h0 n0 _ T13.heap _
    rw [e13]
    exact ⟨rfl, N13⟩
theorem ef_rm0_20 (m : MethodId) (x0 : Int32) (x1 : Int32) : entryFrame m #[(.int x0), (.int x1)] maxLocals = mkF m 0 #[.val (.int x0), .val (.int x1), .unset, .unset, .unset, .unset, .unset] [] := by first | (simp [entryFrame, mkF, argsToLocals, Value.category, maxLocals]; done) | rfl
set_option maxRecDepth 65536 in
set_option maxHeartbeats 40000000 in
theorem rm0_20 (l : Launch) (Z : State) (a0 : Array Value) (hw : ∀ d ∈ tables_1, d.before a0 Z = true) (ws : List Jvm.Cond) (p0 : Int32) (p1 : Int32) (as_LESS : Addr) (as_GREATER : Addr) (as_EQUAL : Addr) (as_LESS_EQUAL : Addr) (as_GREATER_EQUAL : Addr) (as_NOT_EQUAL : Addr) (h0 : Heap) (n0 : Nat) (Z0 : n0 ≤ h0.size) (S_LESS : Sta Z h0 "com/example/ophion/ophion/runtime/CompareOp" "LESS" "Lcom/example/ophion/ophion/runtime/CompareOp;" (.ref as_LESS)) (E_LESS : Exa Z h0 as_LESS "com/example/ophion/ophion/runtime/CompareOp") (O_LESS : Fld Z h0 as_LESS "java/lang/Enum" "ordinal" "I" (.int 0)) (S_GREATER : Sta Z h0 "com/example/ophion/ophion/runtime/CompareOp" "GREATER" "Lcom/example/ophion/ophion/runtime/CompareOp;" (.ref as_GREATER)) (E_GREATER : Exa Z h0 as_GREATER "com/example/ophion/ophion/runtime/CompareOp") (O_GREATER : Fld Z h0 as_GREATER "java/lang/Enum" "ordinal" "I" (.int 4)) (S_EQUAL : Sta Z h0 "com/example/ophion/ophion/runtime/CompareOp" "EQUAL" "Lcom/example/ophion/ophion/runtime/CompareOp;" (.ref as_EQUAL)) (E_EQUAL : Exa Z h0 as_EQUAL "com/example/ophion/ophion/runtime/CompareOp") (O_EQUAL : Fld Z h0 as_EQUAL "java/lang/Enum" "ordinal" "I" (.int 2)) (S_LESS_EQUAL : Sta Z h0 "com/example/ophion/ophion/runtime/CompareOp" "LESS_EQUAL" "Lcom/example/ophion/ophion/runtime/CompareOp;" (.ref as_LESS_EQUAL)) (E_LESS_EQUAL : Exa Z h0 as_LESS_EQUAL "com/example/ophion/ophion/runtime/CompareOp") (O_LESS_EQUAL : Fld Z h0 as_LESS_EQUAL "java/lang/Enum" "ordinal" "I" (.int 1)) (S_GREATER_EQUAL : Sta Z h0 "com/example/ophion/ophion/runtime/CompareOp" "GREATER_EQUAL" "Lcom/example/ophion/ophion/runtime/CompareOp;" (.ref as_GREATER_EQUAL)) (E_GREATER_EQUAL : Exa Z h0 as_GREATER_EQUAL "com/example/ophion/ophion/runtime/CompareOp") (O_GREATER_EQUAL : Fld Z h0 as_GREATER_EQUAL "java/lang/Enum" "ordinal" "I" (.int 5)) (S_NOT_EQUAL : Sta Z h0 "com/example/ophion/ophion/runtime/CompareOp" "NOT_EQUAL" "Lcom/example/ophion/ophion/runtime/CompareOp;" (.ref as_NOT_EQUAL)) (E_NOT_EQUAL : Exa Z h0 as_NOT_EQUAL "com/example/ophion/ophion/runtime/CompareOp") (O_NOT_EQUAL : Fld Z h0 as_NOT_EQUAL "java/lang/Enum" "ordinal" "I" (.int 3)) (hk : ((p0 &&& (2147483647 : Int32)) % (6 : Int32)) = (2 : Int32)) (hs : ((p1 &&& (2147483647 : Int32)) % (3 : Int32)) = (0 : Int32)) :
    MetFree l x (head1 (Jvm.Cond.code x code maxLocals ret :: ws) room_1) (fun a U => a = #[(.int p0), (.int p1)] ∧ Z.Warmed39 U.vm ∧ U.heap = h0) (fun _ _ _ _ _ => True) (fun _ U o U' => ∃ v L, o = .returned v ∧ Q0 Z  h0 n0 v U'.heap L ∧ FrameEnd U o U' L 0 0) := by
  refine MetFree.of_bodySF (plainFor_of_name pn_2) hisR ?_
  intro p e s m args below meth c s₁ Bd hml0 hP hK
  obtain ⟨rfl, hZ, hh⟩ := hP
  have hx := Bd.exec
  have hby := Bd.bytes
  have hml : c.maxLocals = 7 := hml0
  have hown : s.vm.findClass "com/example/ophion/ophion/runtime/CompareOpSwappedPinLaw" = some m.cls := findClass_of_methodNamed Bd.named
  have hnm := (name_of_methodNamed Bd.named Bd.method).1
  have X0 : Stand p l e room_1 s m #[(.int p0), (.int p1)] below meth c s₁ [] 0 0 := Stand.of_body Bd
  have e0 : s₁.heap = h0 := by rw [← hh, Bd.state]; rfl
  have N0 := Fr.nil n0
  refine own_go (own_lift (fun t k => castTop (ef_rm0_20 m p0 p1) k) ?_)
  show own_Go p.tables e below (s₁.setTop (mkF m 0 #[iv p0, iv p1, .unset, .unset, .unset, .unset, .unset] [])) _
  have sg1 : ∀ t, Steps p.tables e below (s₁.setTop (mkF m 7 #[iv p0, iv p1, .unset, .unset, .unset, .unset, .unset] [(.int ((p0 &&& (2147483647 : Int32)) % (6 : Int32)))])) t → Steps p.tables e below (s₁.setTop (mkF m 0 #[iv p0, iv p1, .unset, .unset, .unset, .unset, .unset] [])) t := by
    intro t k
    refine XS.iloadN X0.here hx rfl (hb hby at_0) rfl ?_
    show Steps p.tables e below (s₁.setTop (mkF m 1 #[iv p0, iv p1, .unset, .unset, .unset, .unset, .unset] [(.int p0)])) _
    refine X0.ldcInt hx hown (mvT hZ (wd hw 0 rfl)) (g := (mkF m 1 #[iv p0, iv p1, .unset, .unset, .unset, .unset, .unset] [(.int p0)])) rfl (hb hby at_1) _ ?_
    show Steps p.tables e below (s₁.setTop (mkF m 3 #[iv p0, iv p1, .unset, .unset, .unset, .unset, .unset] [(.int 2147483647), (.int p0)])) _
    refine XS.iand X0.here hx rfl (hb hby at_3) rfl ?_
    show Steps p.tables e below (s₁.setTop (mkF m 4 #[iv p0, iv p1, .unset, .unset, .unset, .unset, .unset] [(.int (p0 &&& (2147483647 : Int32)))])) _
    refine XS.bipush X0.here hx rfl (hb hby at_4) ?_
    show Steps p.tables e below (s₁.setTop (mkF m 6 #[iv p0, iv p1, .unset, .unset, .unset, .unset, .unset] [(.int 6), (.int (p0 &&& (2147483647 : Int32)))])) _
    refine iremM X0 hx rfl (hb hby at_6) rfl (by decide) ?_
    show Steps p.tables e below (s₁.setTop (mkF m 7 #[iv p0, iv p1, .unset, .unset, .unset, .unset, .unset] [(.int ((p0 &&& (2147483647 : Int32)) % (6 : Int32)))])) _
    exact k
  refine own_lift sg1 ?_
  show own_Go p.tables e below (s₁.setTop (mkF m 7 #[iv p0, iv p1, .unset, .unset, .unset, .unset, .unset] [(.int ((p0 &&& (2147483647 : Int32)) % (6 : Int32)))])) _
  rw [hk]
  show own_Go p.tables e below (s₁.setTop (mkF m 7 #[iv p0, iv p1, .unset, .unset, .unset, .unset, .unset] [(.int 2)])) _
  have sg2 : ∀ t, Steps p.tables e below (s₁.setTop (mkF m 9 #[iv p0, iv p1, iv 2, .unset, .unset, .unset, .unset] [(.int 2)])) t → Steps p.tables e below (s₁.setTop (mkF m 7 #[iv p0, iv p1, .unset, .unset, .unset, .unset, .unset] [(.int 2)])) t := by
    intro t k
    refine XS.istoreN X0.here hx rfl (hb hby at_7) rfl (l' := #[iv p0, iv p1, iv 2, .unset, .unset, .unset, .unset]) rfl ?_
    show Steps p.tables e below (s₁.setTop (mkF m 8 #[iv p0, iv p1, iv 2, .unset, .unset, .unset, .unset] [])) _
    refine XS.iloadN X0.here hx rfl (hb hby at_8) rfl ?_
    show Steps p.tables e below (s₁.setTop (mkF m 9 #[iv p0, iv p1, iv 2, .unset, .unset, .unset, .unset] [(.int 2)])) _
    exact k
  refine own_lift sg2 ?_
  show own_Go p.tables e below (s₁.setTop (mkF m 9 #[iv p0, iv p1, iv 2, .unset, .unset, .unset, .unset] [(.int 2)])) _
  obtain ⟨_, _, ⟨T3, Lx3, kx3, nx3⟩, -, X3, ⟨Lc3, hQ3, lx3, yx3, zx3⟩, st3⟩ := Jvm.LawKit.callS X0 hx (y := (⟨"com/example/ophion/ophion/runtime/CompareOpSwappedPinLaw", "pick", "(I)Lcom/example/ophion/ophion/runtime/CompareOp;"⟩ : MethodName)) hown (mvT hZ (wd hw 1 rfl)) (mvT hZ (wd hw 2 rfl)) (mvT hZ (wd hw 3 rfl)) (mvT hZ (wd hw 4 rfl)) (by decide) (backOf (W := 0) (rmPick2 l Z a0 hw [] (2 : Int32) as_EQUAL h0 n0 Z0 S_EQUAL (by decide : ¬ ((2 : Int32) = (0 : Int32))) (by decide : ¬ ((2 : Int32) = (1 : Int32))) (by decide : (2 : Int32) = (2 : Int32))) hZ (wd hw 4 rfl) (wd hw 3 rfl) (by decide) (by decide)) (g := (mkF m 9 #[iv p0, iv p1, iv 2, .unset, .unset, .unset, .unset] [(.int 2)])) rfl (by rw [hml]; rfl) (argsL := [(.int 2)]) (rest := []) (lenOf pd_1 rfl) rfl (by show 2 * 0 + _ ≤ _; exact Nat.le_of_eq rfl) (hb hby at_9) (fun _ _ => ⟨rfl, e0, (by decide : 0 + 0 ≤ _), (by decide : 0 + 0 ≤ _)⟩)
  dsimp only [Pt.U, Pt.locs, Pt.cells, Pt.slots] at X3 lx3 yx3 zx3 st3 hQ3
  subst lx3 yx3 zx3
  obtain ⟨rfl, N3q, e3⟩ := hQ3
  have N3 := Fr.app N0 N3q
  refine own_lift st3 ?_
  show own_Go p.tables e below (T3.setTop (mkF m 12 #[iv p0, iv p1, iv 2, .unset, .unset, .unset, .unset] [(.ref as_EQUAL)])) _
  have sg4 : ∀ t, Steps p.tables e below (T3.setTop (mkF m 14 #[iv p0, iv p1, iv 2, rv as_EQUAL, .unset, .unset, .unset] [(.int 2)])) t → Steps p.tables e below (T3.setTop (mkF m 12 #[iv p0, iv p1, iv 2, .unset, .unset, .unset, .unset] [(.ref as_EQUAL)])) t := by
    intro t k
    refine XS.astoreN X3.here hx rfl (hb hby at_12) rfl rfl (l' := #[iv p0, iv p1, iv 2, rv as_EQUAL, .unset, .unset, .unset]) rfl ?_
    show Steps p.tables e below (T3.setTop (mkF m 13 #[iv p0, iv p1, iv 2, rv as_EQUAL, .unset, .unset, .unset] [])) _
    refine XS.iloadN X3.here hx rfl (hb hby at_13) rfl ?_
    show Steps p.tables e below (T3.setTop (mkF m 14 #[iv p0, iv p1, iv 2, rv as_EQUAL, .unset, .unset, .unset] [(.int 2)])) _
    exact k
  refine own_lift sg4 ?_
  show own_Go p.tables e below (T3.setTop (mkF m 14 #[iv p0, iv p1, iv 2, rv as_EQUAL, .unset, .unset, .unset] [(.int 2)])) _
  obtain ⟨_, _, ⟨T5, Lx5, kx5, nx5⟩, -, X5, ⟨Lc5, hQ5, lx5, yx5, zx5⟩, st5⟩ := Jvm.LawKit.callS X3 hx (y := (⟨"com/example/ophion/ophion/runtime/CompareOpSwappedPinLaw", "mirror", "(I)I"⟩ : MethodName)) hown (mvT hZ (wd hw 8 rfl)) (mvT hZ (wd hw 9 rfl)) (mvT hZ (wd hw 3 rfl)) (mvT hZ (wd hw 10 rfl)) (by decide) (backOf (W := 0) (rmMirD l Z a0 hw [] (2 : Int32) h0 n0 Z0 (by decide : ¬ ((2 : Int32) = (0 : Int32))) (by decide : ¬ ((2 : Int32) = (1 : Int32))) (by decide : ¬ ((2 : Int32) = (4 : Int32))) (by decide : ¬ ((2 : Int32) = (5 : Int32)))) hZ (wd hw 10 rfl) (wd hw 3 rfl) (by decide) (by decide)) (g := (mkF m 14 #[iv p0, iv p1, iv 2, rv as_EQUAL, .unset, .unset, .unset] [(.int 2)])) rfl (by rw [hml]; rfl) (argsL := [(.int 2)]) (rest := []) (lenOf pd_2 rfl) rfl (by show 2 * 0 + _ ≤ _; exact Nat.le_of_eq rfl) (hb hby at_14) (fun _ _ => ⟨rfl, e3, (by decide : 0 + 0 ≤ _), (by decide : 0 + 0 ≤ _)⟩)
  dsimp only [Pt.U, Pt.locs, Pt.cells, Pt.slots] at X5 lx5 yx5 zx5 st5 hQ5
  subst lx5 yx5 zx5
  obtain ⟨rfl, N5q, e5⟩ := hQ5
  have N5 := Fr.app N3 N5q
  refine own_lift st5 ?_
  show own_Go p.tables e below (T5.setTop (mkF m 17 #[iv p0, iv p1, iv 2, rv as_EQUAL, .unset, .unset, .unset] [(.int 2)])) _
  obtain ⟨_, _, ⟨T6, Lx6, kx6, nx6⟩, -, X6, ⟨Lc6, hQ6, lx6, yx6, zx6⟩, st6⟩ := Jvm.LawKit.callS X5 hx (y := (⟨"com/example/ophion/ophion/runtime/CompareOpSwappedPinLaw", "pick", "(I)Lcom/example/ophion/ophion/runtime/CompareOp;"⟩ : MethodName)) hown (mvT hZ (wd hw 1 rfl)) (mvT hZ (wd hw 2 rfl)) (mvT hZ (wd hw 3 rfl)) (mvT hZ (wd hw 4 rfl)) (by decide) (backOf (W := 0) (rmPick2 l Z a0 hw [] (2 : Int32) as_EQUAL h0 n0 Z0 S_EQUAL (by decide : ¬ ((2 : Int32) = (0 : Int32))) (by decide : ¬ ((2 : Int32) = (1 : Int32))) (by decide : (2 : Int32) = (2 : Int32))) hZ (wd hw 4 rfl) (wd hw 3 rfl) (by decide) (by decide)) (g := (mkF m 17 #[iv p0, iv p1, iv 2, rv as_EQUAL, .unset, .unset, .unset] [(.int 2)])) rfl (by rw [hml]; rfl) (argsL := [(.int 2)]) (rest := []) (lenOf pd_1 rfl) rfl (by show 2 * 0 + _ ≤ _; exact Nat.le_of_eq rfl) (hb hby at_17) (fun _ _ => ⟨rfl, e5, (by decide : 0 + 0 ≤ _), (by decide : 0 + 0 ≤ _)⟩)
  dsimp only [Pt.U, Pt.locs, Pt.cells, Pt.slots] at X6 lx6 yx6 zx6 st6 hQ6
  subst lx6 yx6 zx6
  obtain ⟨rfl, N6q, e6⟩ := hQ6
  have N6 := Fr.app N5 N6q
  refine own_lift st6 ?_
  show own_Go p.tables e below (T6.setTop (mkF m 20 #[iv p0, iv p1, iv 2, rv as_EQUAL, .unset, .unset, .unset] [(.ref as_EQUAL)])) _
  have sg7 : ∀ t, Steps p.tables e below (T6.setTop (mkF m 23 #[iv p0, iv p1, iv 2, rv as_EQUAL, rv as_EQUAL, .unset, .unset] [(.ref as_EQUAL)])) t → Steps p.tables e below (T6.setTop (mkF m 20 #[iv p0, iv p1, iv 2, rv as_EQUAL, .unset, .unset, .unset] [(.ref as_EQUAL)])) t := by
    intro t k
    refine XS.astore X6.here hx rfl (hb hby at_20) rfl rfl (l' := #[iv p0, iv p1, iv 2, rv as_EQUAL, rv as_EQUAL, .unset, .unset]) rfl ?_
    show Steps p.tables e below (T6.setTop (mkF m 22 #[iv p0, iv p1, iv 2, rv as_EQUAL, rv as_EQUAL, .unset, .unset] [])) _
    refine XS.aloadN X6.here hx rfl (hb hby at_22) rfl rfl ?_
    show Steps p.tables e below (T6.setTop (mkF m 23 #[iv p0, iv p1, iv 2, rv as_EQUAL, rv as_EQUAL, .unset, .unset] [(.ref as_EQUAL)])) _
    exact k
  refine own_lift sg7 ?_
  show own_Go p.tables e below (T6.setTop (mkF m 23 #[iv p0, iv p1, iv 2, rv as_EQUAL, rv as_EQUAL, .unset, .unset] [(.ref as_EQUAL)])) _
  obtain ⟨cq8, kq8, q8a, q8b, q8c⟩ := isOf hZ e6 E_EQUAL
  obtain ⟨_, _, ⟨T8, Lx8, kx8, nx8⟩, -, X8, ⟨Lc8, hQ8, lx8, yx8, zx8⟩, st8⟩ := X6.virtualBack hx (y := (⟨"com/example/ophion/ophion/runtime/CompareOp", "swapped", "()Lcom/example/ophion/ophion/runtime/CompareOp;"⟩ : MethodName)) (z := (⟨"com/example/ophion/ophion/runtime/CompareOp", "swapped", "()Lcom/example/ophion/ophion/runtime/CompareOp;"⟩ : MethodName)) hown (mvT hZ (wd hw 13 rfl)) (mvT hZ (wd hw 14 rfl)) (notFace_of_selects (args := #[]) (mvT hZ (wd hw 16 rfl))) (mvT hZ (wd hw 16 rfl)) (mvT hZ (wd hw 15 rfl)) (by decide) (backOf (W := 0) (rmSw2 l Z a0 hw [] as_EQUAL h0 n0 Z0 O_EQUAL E_EQUAL) hZ (wd hw 17 rfl) (wd hw 6 rfl) (by decide) (by decide)) q8a q8c (g := (mkF m 23 #[iv p0, iv p1, iv 2, rv as_EQUAL, rv as_EQUAL, .unset, .unset] [(.ref as_EQUAL)])) rfl (by rw [hml]; rfl) (Steps.refl _) (argsL := []) (rest := []) (lenOf pd_3 rfl) rfl (by show 2 * 0 + _ ≤ _; exact Nat.le_of_eq rfl) (hb hby at_23) (fun _ _ => ⟨rfl, e6, (by decide : 0 + 0 ≤ _), (by decide : 0 + 0 ≤ _)⟩)
  dsimp only [Pt.U, Pt.locs, Pt.cells, Pt.slots] at X8 lx8 yx8 zx8 st8 hQ8
  subst lx8 yx8 zx8
  obtain ⟨rfl, N8q, e8⟩ := hQ8
  have N8 := Fr.app N6 N8q
  refine own_lift (fun t k => st8.trans k) ?_
  show own_Go p.tables e below (T8.setTop (mkF m 26 #[iv p0, iv p1, iv 2, rv as_EQUAL, rv as_EQUAL, .unset, .unset] [(.ref as_EQUAL)])) _
  have sg9 : ∀ t, Steps p.tables e below (T8.setTop (mkF m 34 #[iv p0, iv p1, iv 2, rv as_EQUAL, rv as_EQUAL, rv as_EQUAL, .unset] [(.int ((p1 &&& (2147483647 : Int32)) % (3 : Int32)))])) t → Steps p.tables e below (T8.setTop (mkF m 26 #[iv p0, iv p1, iv 2, rv as_EQUAL, rv as_EQUAL, .unset, .unset] [(.ref as_EQUAL)])) t := by
    intro t k
    refine XS.astore X8.here hx rfl (hb hby at_26) rfl rfl (l' := #[iv p0, iv p1, iv 2, rv as_EQUAL, rv as_EQUAL, rv as_EQUAL, .unset]) rfl ?_
    show Steps p.tables e below (T8.setTop (mkF m 28 #[iv p0, iv p1, iv 2, rv as_EQUAL, rv as_EQUAL, rv as_EQUAL, .unset] [])) _
    refine XS.iloadN X8.here hx rfl (hb hby at_28) rfl ?_
    show Steps p.tables e below (T8.setTop (mkF m 29 #[iv p0, iv p1, iv 2, rv as_EQUAL, rv as_EQUAL, rv as_EQUAL, .unset] [(.int p1)])) _
    refine X8.ldcInt hx hown (mvT hZ (wd hw 0 rfl)) (g := (mkF m 29 #[iv p0, iv p1, iv 2, rv as_EQUAL, rv as_EQUAL, rv as_EQUAL, .unset] [(.int p1)])) rfl (hb hby at_29) _ ?_
    show Steps p.tables e below (T8.setTop (mkF m 31 #[iv p0, iv p1, iv 2, rv as_EQUAL, rv as_EQUAL, rv as_EQUAL, .unset] [(.int 2147483647), (.int p1)])) _
    refine XS.iand X8.here hx rfl (hb hby at_31) rfl ?_
    show Steps p.tables e below (T8.setTop (mkF m 32 #[iv p0, iv p1, iv 2, rv as_EQUAL, rv as_EQUAL, rv as_EQUAL, .unset] [(.int (p1 &&& (2147483647 : Int32)))])) _
    refine XS.iconst X8.here hx rfl (hb hby at_32) ?_
    show Steps p.tables e below (T8.setTop (mkF m 33 #[iv p0, iv p1, iv 2, rv as_EQUAL, rv as_EQUAL, rv as_EQUAL, .unset] [(.int 3), (.int (p1 &&& (2147483647 : Int32)))])) _
    refine iremM X8 hx rfl (hb hby at_33) rfl (by decide) ?_
    show Steps p.tables e below (T8.setTop (mkF m 34 #[iv p0, iv p1, iv 2, rv as_EQUAL, rv as_EQUAL, rv as_EQUAL, .unset] [(.int ((p1 &&& (2147483647 : Int32)) % (3 : Int32)))])) _
    exact k
  refine own_lift sg9 ?_
  show own_Go p.tables e below (T8.setTop (mkF m 34 #[iv p0, iv p1, iv 2, rv as_EQUAL, rv as_EQUAL, rv as_EQUAL, .unset] [(.int ((p1 &&& (2147483647 : Int32)) % (3 : Int32)))])) _
  rw [hs]
  show own_Go p.tables e below (T8.setTop (mkF m 34 #[iv p0, iv p1, iv 2, rv as_EQUAL, rv as_EQUAL, rv as_EQUAL, .unset] [(.int 0)])) _
  have sg10 : ∀ t, Steps p.tables e below (T8.setTop (mkF m 50 #[iv p0, iv p1, iv 2, rv as_EQUAL, rv as_EQUAL, rv as_EQUAL, iv (-1)] [(.int 1), (.ref as_EQUAL)])) t → Steps p.tables e below (T8.setTop (mkF m 34 #[iv p0, iv p1, iv 2, rv as_EQUAL, rv as_EQUAL, rv as_EQUAL, .unset] [(.int 0)])) t := by
    intro t k
    refine XS.iconst X8.here hx rfl (hb hby at_34) ?_
    show Steps p.tables e below (T8.setTop (mkF m 35 #[iv p0, iv p1, iv 2, rv as_EQUAL, rv as_EQUAL, rv as_EQUAL, .unset] [(.int 1), (.int 0)])) _
    refine XS.isub X8.here hx rfl (hb hby at_35) rfl ?_
    show Steps p.tables e below (T8.setTop (mkF m 36 #[iv p0, iv p1, iv 2, rv as_EQUAL, rv as_EQUAL, rv as_EQUAL, .unset] [(.int (-1))])) _
    refine XS.istore X8.here hx rfl (hb hby at_36) rfl (l' := #[iv p0, iv p1, iv 2, rv as_EQUAL, rv as_EQUAL, rv as_EQUAL, iv (-1)]) rfl ?_
    show Steps p.tables e below (T8.setTop (mkF m 38 #[iv p0, iv p1, iv 2, rv as_EQUAL, rv as_EQUAL, rv as_EQUAL, iv (-1)] [])) _
    refine XS.aload X8.here hx rfl (hb hby at_38) rfl rfl ?_
    show Steps p.tables e below (T8.setTop (mkF m 40 #[iv p0, iv p1, iv 2, rv as_EQUAL, rv as_EQUAL, rv as_EQUAL, iv (-1)] [(.ref as_EQUAL)])) _
    refine XS.aload X8.here hx rfl (hb hby at_40) rfl rfl ?_
    show Steps p.tables e below (T8.setTop (mkF m 42 #[iv p0, iv p1, iv 2, rv as_EQUAL, rv as_EQUAL, rv as_EQUAL, iv (-1)] [(.ref as_EQUAL), (.ref as_EQUAL)])) _
    refine Jvm.RoadKit.acmp (g := (mkF m 42 #[iv p0, iv p1, iv 2, rv as_EQUAL, rv as_EQUAL, rv as_EQUAL, iv (-1)] [(.ref as_EQUAL), (.ref as_EQUAL)])) X8 hx rfl rfl rfl (pc0 := 42) (pc' := 45) (same := true) rfl (hb hby at_42) rfl (decide_eq_true rfl) (by decide) (by decide) ?_
    show Steps p.tables e below (T8.setTop (mkF m 45 #[iv p0, iv p1, iv 2, rv as_EQUAL, rv as_EQUAL, rv as_EQUAL, iv (-1)] [])) _
    refine XS.aload X8.here hx rfl (hb hby at_45) rfl rfl ?_
    show Steps p.tables e below (T8.setTop (mkF m 47 #[iv p0, iv p1, iv 2, rv as_EQUAL, rv as_EQUAL, rv as_EQUAL, iv (-1)] [(.ref as_EQUAL)])) _
    refine XS.iload X8.here hx rfl (hb hby at_47) rfl ?_
    show Steps p.tables e below (T8.setTop (mkF m 49 #[iv p0, iv p1, iv 2, rv as_EQUAL, rv as_EQUAL, rv as_EQUAL, iv (-1)] [(.int (-1)), (.ref as_EQUAL)])) _
    refine XS.ineg X8.here hx rfl (hb hby at_49) rfl ?_
    show Steps p.tables e below (T8.setTop (mkF m 50 #[iv p0, iv p1, iv 2, rv as_EQUAL, rv as_EQUAL, rv as_EQUAL, iv (-1)] [(.int 1), (.ref as_EQUAL)])) _
    exact k
  refine own_lift sg10 ?_
  show own_Go p.tables e below (T8.setTop (mkF m 50 #[iv p0, iv p1, iv 2, rv as_EQUAL, rv as_EQUAL, rv as_EQUAL, iv (-1)] [(.int 1), (.ref as_EQUAL)])) _
  obtain ⟨cq11, kq11, q11a, q11b, q11c⟩ := isOf hZ e8 E_EQUAL
  obtain ⟨_, _, ⟨T11, Lx11, kx11, nx11⟩, -, X11, ⟨Lc11, hQ11, lx11, yx11, zx11⟩, st11⟩ := X8.virtualBack hx (y := (⟨"com/example/ophion/ophion/runtime/CompareOp", "holds", "(I)Z"⟩ : MethodName)) (z := (⟨"com/example/ophion/ophion/runtime/CompareOp", "holds", "(I)Z"⟩ : MethodName)) hown (mvT hZ (wd hw 28 rfl)) (mvT hZ (wd hw 29 rfl)) (notFace_of_selects (args := #[]) (mvT hZ (wd hw 31 rfl))) (mvT hZ (wd hw 31 rfl)) (mvT hZ (wd hw 30 rfl)) (by decide) (backOf (W := 0) (rmHolds2f l Z a0 hw [] as_EQUAL (1 : Int32) h0 n0 Z0 O_EQUAL E_EQUAL (by decide : ¬ ((1 : Int32) = (0 : Int32)))) hZ (wd hw 32 rfl) (wd hw 6 rfl) (by decide) (by decide)) q11a q11c (g := (mkF m 50 #[iv p0, iv p1, iv 2, rv as_EQUAL, rv as_EQUAL, rv as_EQUAL, iv (-1)] [(.int 1), (.ref as_EQUAL)])) rfl (by rw [hml]; rfl) (Steps.refl _) (argsL := [(.int 1)]) (rest := []) (lenOf pd_4 rfl) rfl (by show 2 * 0 + _ ≤ _; exact Nat.le_of_eq rfl) (hb hby at_50) (fun _ _ => ⟨rfl, e8, (by decide : 0 + 0 ≤ _), (by decide : 0 + 0 ≤ _)⟩)
  dsimp only [Pt.U, Pt.locs, Pt.cells, Pt.slots] at X11 lx11 yx11 zx11 st11 hQ11
  subst lx11 yx11 zx11
  obtain ⟨rfl, N11q, e11⟩ := hQ11
  have N11 := Fr.app N8 N11q
  refine own_lift (fun t k => st11.trans k) ?_
  show own_Go p.tables e below (T11.setTop (mkF m 53 #[iv p0, iv p1, iv 2, rv as_EQUAL, rv as_EQUAL, rv as_EQUAL, iv (-1)] [(.int 0)])) _
  have sg12 : ∀ t, Steps p.tables e below (T11.setTop (mkF m 56 #[iv p0, iv p1, iv 2, rv as_EQUAL, rv as_EQUAL, rv as_EQUAL, iv (-1)] [(.int (-1)), (.ref as_EQUAL), (.int 0)])) t → Steps p.tables e below (T11.setTop (mkF m 53 #[iv p0, iv p1, iv 2, rv as_EQUAL, rv as_EQUAL, rv as_EQUAL, iv (-1)] [(.int 0)])) t := by
    intro t k
    refine XS.aloadN X11.here hx rfl (hb hby at_53) rfl rfl ?_
    show Steps p.tables e below (T11.setTop (mkF m 54 #[iv p0, iv p1, iv 2, rv as_EQUAL, rv as_EQUAL, rv as_EQUAL, iv (-1)] [(.ref as_EQUAL), (.int 0)])) _
    refine XS.iload X11.here hx rfl (hb hby at_54) rfl ?_
    show Steps p.tables e below (T11.setTop (mkF m 56 #[iv p0, iv p1, iv 2, rv as_EQUAL, rv as_EQUAL, rv as_EQUAL, iv (-1)] [(.int (-1)), (.ref as_EQUAL), (.int 0)])) _
    exact k
  refine own_lift sg12 ?_
  show own_Go p.tables e below (T11.setTop (mkF m 56 #[iv p0, iv p1, iv 2, rv as_EQUAL, rv as_EQUAL, rv as_EQUAL, iv (-1)] [(.int (-1)), (.ref as_EQUAL), (.int 0)])) _
  obtain ⟨cq13, kq13, q13a, q13b, q13c⟩ := isOf hZ e11 E_EQUAL
  obtain ⟨_, _, ⟨T13, Lx13, kx13, nx13⟩, -, X13, ⟨Lc13, hQ13, lx13, yx13, zx13⟩, st13⟩ := X11.virtualBack hx (y := (⟨"com/example/ophion/ophion/runtime/CompareOp", "holds", "(I)Z"⟩ : MethodName)) (z := (⟨"com/example/ophion/ophion/runtime/CompareOp", "holds", "(I)Z"⟩ : MethodName)) hown (mvT hZ (wd hw 28 rfl)) (mvT hZ (wd hw 29 rfl)) (notFace_of_selects (args := #[]) (mvT hZ (wd hw 31 rfl))) (mvT hZ (wd hw 31 rfl)) (mvT hZ (wd hw 30 rfl)) (by decide) (backOf (W := 1) (rmHolds2f l Z a0 hw [] as_EQUAL (-1 : Int32) h0 n0 Z0 O_EQUAL E_EQUAL (by decide : ¬ ((-1 : Int32) = (0 : Int32)))) hZ (wd hw 32 rfl) (wd hw 6 rfl) (by decide) (by decide)) q13a q13c (g := (mkF m 56 #[iv p0, iv p1, iv 2, rv as_EQUAL, rv as_EQUAL, rv as_EQUAL, iv (-1)] [(.int (-1)), (.ref as_EQUAL), (.int 0)])) rfl (by rw [hml]; rfl) (Steps.refl _) (argsL := [(.int (-1))]) (rest := [(.int 0)]) (lenOf pd_4 rfl) rfl (by show 2 * 0 + _ ≤ _; exact Nat.le_of_eq rfl) (hb hby at_56) (fun _ _ => ⟨rfl, e11, (by decide : 0 + 0 ≤ _), (by decide : 0 + 0 ≤ _)⟩)
  dsimp only [Pt.U, Pt.locs, Pt.cells, Pt.slots] at X13 lx13 yx13 zx13 st13 hQ13
  subst lx13 yx13 zx13
  obtain ⟨rfl, N13q, e13⟩ := hQ13
  have N13 := Fr.app N11 N13q
  refine own_lift (fun t k => st13.trans k) ?_
  show own_Go p.tables e below (T13.setTop (mkF m 59 #[iv p0, iv p1, iv 2, rv as_EQUAL, rv as_EQUAL, rv as_EQUAL, iv (-1)] [(.int 0), (.int 0)])) _
  have sg14 : ∀ t, Steps p.tables e below (T13.setTop (mkF m 67 #[iv p0, iv p1, iv 2, rv as_EQUAL, rv as_EQUAL, rv as_EQUAL, iv (-1)] [(.int 1)])) t → Steps p.tables e below (T13.setTop (mkF m 59 #[iv p0, iv p1, iv 2, rv as_EQUAL, rv as_EQUAL, rv as_EQUAL, iv (-1)] [(.int 0), (.int 0)])) t := by
    intro t k
    refine XS.icmpNo X13.here hx rfl (hb hby at_59) rfl (teq (by decide : (0 : Int32) = (0 : Int32))).2 ?_
    show Steps p.tables e below (T13.setTop (mkF m 62 #[iv p0, iv p1, iv 2, rv as_EQUAL, rv as_EQUAL, rv as_EQUAL, iv (-1)] [])) _
    refine XS.iconst X13.here hx rfl (hb hby at_62) ?_
    show Steps p.tables e below (T13.setTop (mkF m 63 #[iv p0, iv p1, iv 2, rv as_EQUAL, rv as_EQUAL, rv as_EQUAL, iv (-1)] [(.int 1)])) _
    refine XS.goto X13.here hx rfl (pc0 := 63) (pc' := 67) rfl (hb hby at_63) (by decide) (by decide) ?_
    show Steps p.tables e below (T13.setTop (mkF m 67 #[iv p0, iv p1, iv 2, rv as_EQUAL, rv as_EQUAL, rv as_EQUAL, iv (-1)] [(.int 1)])) _
    exact k
  refine own_lift sg14 ?_
  show own_Go p.tables e below (T13.setTop (mkF m 67 #[iv p0, iv p1, iv 2, rv as_EQUAL, rv as_EQUAL, rv as_EQUAL, iv (-1)] [(.int 1)])) _
  obtain ⟨fs, hr, hrun, hended, hW, hsame⟩ := X13.leave (v := some (.int 1)) (fun h => by rw [Bd.returns] at h; cases h)
  refine ⟨_, _, ?_, hrun, hended, _, _, rfl, ?_, ⟨_, rfl⟩, hW, hsame.mono (by decide) (by decide)⟩
  · exact retN X13 hx (t := .boolean) Bd.returns (by simp) (hb hby at_67) hr
  · show Q0 Z  h0 n0 _ T13.heap _
    rw [e13]
    exact ⟨rfl, N13⟩
theorem ef_rm0_21 (m : MethodId) (x0 : Int32) (x1 : Int32) : entryFrame m #[(.int x0), (.int x1)] maxLocals = mkF m 0 #[.val (.int x0), .val (.int x1), .unset, .unset, .unset, .unset, .unset] [] := by first | (simp [entryFrame, mkF, argsToLocals, Value.category, maxLocals]; done) | rfl
set_option maxRecDepth 65536 in
set_option maxHeartbeats 40000000 in
theorem rm0_21 (l : Launch) (Z : State) (a0 : Array Value) (hw : ∀ d ∈ tables_1, d.before a0 Z = true) (ws : List Jvm.Cond) (p0 : Int32) (p1 : Int32) (as_LESS : Addr) (as_GREATER : Addr) (as_EQUAL : Addr) (as_LESS_EQUAL : Addr) (as_GREATER_EQUAL : Addr) (as_NOT_EQUAL : Addr) (h0 : Heap) (n0 : Nat) (Z0 : n0 ≤ h0.size) (S_LESS : Sta Z h0 "com/example/ophion/ophion/runtime/CompareOp" "LESS" "Lcom/example/ophion/ophion/runtime/CompareOp;" (.ref as_LESS)) (E_LESS : Exa Z h0 as_LESS "com/example/ophion/ophion/runtime/CompareOp") (O_LESS : Fld Z h0 as_LESS "java/lang/Enum" "ordinal" "I" (.int 0)) (S_GREATER : Sta Z h0 "com/example/ophion/ophion/runtime/CompareOp" "GREATER" "Lcom/example/ophion/ophion/runtime/CompareOp;" (.ref as_GREATER)) (E_GREATER : Exa Z h0 as_GREATER "com/example/ophion/ophion/runtime/CompareOp") (O_GREATER : Fld Z h0 as_GREATER "java/lang/Enum" "ordinal" "I" (.int 4)) (S_EQUAL : Sta Z h0 "com/example/ophion/ophion/runtime/CompareOp" "EQUAL" "Lcom/example/ophion/ophion/runtime/CompareOp;" (.ref as_EQUAL)) (E_EQUAL : Exa Z h0 as_EQUAL "com/example/ophion/ophion/runtime/CompareOp") (O_EQUAL : Fld Z h0 as_EQUAL "java/lang/Enum" "ordinal" "I" (.int 2)) (S_LESS_EQUAL : Sta Z h0 "com/example/ophion/ophion/runtime/CompareOp" "LESS_EQUAL" "Lcom/example/ophion/ophion/runtime/CompareOp;" (.ref as_LESS_EQUAL)) (E_LESS_EQUAL : Exa Z h0 as_LESS_EQUAL "com/example/ophion/ophion/runtime/CompareOp") (O_LESS_EQUAL : Fld Z h0 as_LESS_EQUAL "java/lang/Enum" "ordinal" "I" (.int 1)) (S_GREATER_EQUAL : Sta Z h0 "com/example/ophion/ophion/runtime/CompareOp" "GREATER_EQUAL" "Lcom/example/ophion/ophion/runtime/CompareOp;" (.ref as_GREATER_EQUAL)) (E_GREATER_EQUAL : Exa Z h0 as_GREATER_EQUAL "com/example/ophion/ophion/runtime/CompareOp") (O_GREATER_EQUAL : Fld Z h0 as_GREATER_EQUAL "java/lang/Enum" "ordinal" "I" (.int 5)) (S_NOT_EQUAL : Sta Z h0 "com/example/ophion/ophion/runtime/CompareOp" "NOT_EQUAL" "Lcom/example/ophion/ophion/runtime/CompareOp;" (.ref as_NOT_EQUAL)) (E_NOT_EQUAL : Exa Z h0 as_NOT_EQUAL "com/example/ophion/ophion/runtime/CompareOp") (O_NOT_EQUAL : Fld Z h0 as_NOT_EQUAL "java/lang/Enum" "ordinal" "I" (.int 3)) (hk : ((p0 &&& (2147483647 : Int32)) % (6 : Int32)) = (2 : Int32)) (hs : ((p1 &&& (2147483647 : Int32)) % (3 : Int32)) = (1 : Int32)) :
    MetFree l x (head1 (Jvm.Cond.code x code maxLocals ret :: ws) room_1) (fun a U => a = #[(.int p0), (.int p1)] ∧ Z.Warmed39 U.vm ∧ U.heap = h0) (fun _ _ _ _ _ => True) (fun _ U o U' => ∃ v L, o = .returned v ∧ Q0 Z  h0 n0 v U'.heap L ∧ FrameEnd U o U' L 0 0) := by
  refine MetFree.of_bodySF (plainFor_of_name pn_2) hisR ?_
  intro p e s m args below meth c s₁ Bd hml0 hP hK
  obtain ⟨rfl, hZ, hh⟩ := hP
  have hx := Bd.exec
  have hby := Bd.bytes
  have hml : c.maxLocals = 7 := hml0
  have hown : s.vm.findClass "com/example/ophion/ophion/runtime/CompareOpSwappedPinLaw" = some m.cls := findClass_of_methodNamed Bd.named
  have hnm := (name_of_methodNamed Bd.named Bd.method).1
  have X0 : Stand p l e room_1 s m #[(.int p0), (.int p1)] below meth c s₁ [] 0 0 := Stand.of_body Bd
  have e0 : s₁.heap = h0 := by rw [← hh, Bd.state]; rfl
  have N0 := Fr.nil n0
  refine own_go (own_lift (fun t k => castTop (ef_rm0_21 m p0 p1) k) ?_)
  show own_Go p.tables e below (s₁.setTop (mkF m 0 #[iv p0, iv p1, .unset, .unset, .unset, .unset, .unset] [])) _
  have sg1 : ∀ t, Steps p.tables e below (s₁.setTop (mkF m 7 #[iv p0, iv p1, .unset, .unset, .unset, .unset, .unset] [(.int ((p0 &&& (2147483647 : Int32)) % (6 : Int32)))])) t → Steps p.tables e below (s₁.setTop (mkF m 0 #[iv p0, iv p1, .unset, .unset, .unset, .unset, .unset] [])) t := by
    intro t k
    refine XS.iloadN X0.here hx rfl (hb hby at_0) rfl ?_
    show Steps p.tables e below (s₁.setTop (mkF m 1 #[iv p0, iv p1, .unset, .unset, .unset, .unset, .unset] [(.int p0)])) _
    refine X0.ldcInt hx hown (mvT hZ (wd hw 0 rfl)) (g := (mkF m 1 #[iv p0, iv p1, .unset, .unset, .unset, .unset, .unset] [(.int p0)])) rfl (hb hby at_1) _ ?_
    show Steps p.tables e below (s₁.setTop (mkF m 3 #[iv p0, iv p1, .unset, .unset, .unset, .unset, .unset] [(.int 2147483647), (.int p0)])) _
    refine XS.iand X0.here hx rfl (hb hby at_3) rfl ?_
    show Steps p.tables e below (s₁.setTop (mkF m 4 #[iv p0, iv p1, .unset, .unset, .unset, .unset, .unset] [(.int (p0 &&& (2147483647 : Int32)))])) _
    refine XS.bipush X0.here hx rfl (hb hby at_4) ?_
    show Steps p.tables e below (s₁.setTop (mkF m 6 #[iv p0, iv p1, .unset, .unset, .unset, .unset, .unset] [(.int 6), (.int (p0 &&& (2147483647 : Int32)))])) _
    refine iremM X0 hx rfl (hb hby at_6) rfl (by decide) ?_
    show Steps p.tables e below (s₁.setTop (mkF m 7 #[iv p0, iv p1, .unset, .unset, .unset, .unset, .unset] [(.int ((p0 &&& (2147483647 : Int32)) % (6 : Int32)))])) _
    exact k
  refine own_lift sg1 ?_
  show own_Go p.tables e below (s₁.setTop (mkF m 7 #[iv p0, iv p1, .unset, .unset, .unset, .unset, .unset] [(.int ((p0 &&& (2147483647 : Int32)) % (6 : Int32)))])) _
  rw [hk]
  show own_Go p.tables e below (s₁.setTop (mkF m 7 #[iv p0, iv p1, .unset, .unset, .unset, .unset, .unset] [(.int 2)])) _
  have sg2 : ∀ t, Steps p.tables e below (s₁.setTop (mkF m 9 #[iv p0, iv p1, iv 2, .unset, .unset, .unset, .unset] [(.int 2)])) t → Steps p.tables e below (s₁.setTop (mkF m 7 #[iv p0, iv p1, .unset, .unset, .unset, .unset, .unset] [(.int 2)])) t := by
    intro t k
    refine XS.istoreN X0.here hx rfl (hb hby at_7) rfl (l' := #[iv p0, iv p1, iv 2, .unset, .unset, .unset, .unset]) rfl ?_
    show Steps p.tables e below (s₁.setTop (mkF m 8 #[iv p0, iv p1, iv 2, .unset, .unset, .unset, .unset] [])) _
    refine XS.iloadN X0.here hx rfl (hb hby at_8) rfl ?_
    show Steps p.tables e below (s₁.setTop (mkF m 9 #[iv p0, iv p1, iv 2, .unset, .unset, .unset, .unset] [(.int 2)])) _
    exact k
  refine own_lift sg2 ?_
  show own_Go p.tables e below (s₁.setTop (mkF m 9 #[iv p0, iv p1, iv 2, .unset, .unset, .unset, .unset] [(.int 2)])) _
  obtain ⟨_, _, ⟨T3, Lx3, kx3, nx3⟩, -, X3, ⟨Lc3, hQ3, lx3, yx3, zx3⟩, st3⟩ := Jvm.LawKit.callS X0 hx (y := (⟨"com/example/ophion/ophion/runtime/CompareOpSwappedPinLaw", "pick", "(I)Lcom/example/ophion/ophion/runtime/CompareOp;"⟩ : MethodName)) hown (mvT hZ (wd hw 1 rfl)) (mvT hZ (wd hw 2 rfl)) (mvT hZ (wd hw 3 rfl)) (mvT hZ (wd hw 4 rfl)) (by decide) (backOf (W := 0) (rmPick2 l Z a0 hw [] (2 : Int32) as_EQUAL h0 n0 Z0 S_EQUAL (by decide : ¬ ((2 : Int32) = (0 : Int32))) (by decide : ¬ ((2 : Int32) = (1 : Int32))) (by decide : (2 : Int32) = (2 : Int32))) hZ (wd hw 4 rfl) (wd hw 3 rfl) (by decide) (by decide)) (g := (mkF m 9 #[iv p0, iv p1, iv 2, .unset, .unset, .unset, .unset] [(.int 2)])) rfl (by rw [hml]; rfl) (argsL := [(.int 2)]) (rest := []) (lenOf pd_1 rfl) rfl (by show 2 * 0 + _ ≤ _; exact Nat.le_of_eq rfl) (hb hby at_9) (fun _ _ => ⟨rfl, e0, (by decide : 0 + 0 ≤ _), (by decide : 0 + 0 ≤ _)⟩)
  dsimp only [Pt.U, Pt.locs, Pt.cells, Pt.slots] at X3 lx3 yx3 zx3 st3 hQ3
  subst lx3 yx3 zx3
  obtain ⟨rfl, N3q, e3⟩ := hQ3
  have N3 := Fr.app N0 N3q
  refine own_lift st3 ?_
  show own_Go p.tables e below (T3.setTop (mkF m 12 #[iv p0, iv p1, iv 2, .unset, .unset, .unset, .unset] [(.ref as_EQUAL)])) _
  have sg4 : ∀ t, Steps p.tables e below (T3.setTop (mkF m 14 #[iv p0, iv p1, iv 2, rv as_EQUAL, .unset, .unset, .unset] [(.int 2)])) t → Steps p.tables e below (T3.setTop (mkF m 12 #[iv p0, iv p1, iv 2, .unset, .unset, .unset, .unset] [(.ref as_EQUAL)])) t := by
    intro t k
    refine XS.astoreN X3.here hx rfl (hb hby at_12) rfl rfl (l' := #[iv p0, iv p1, iv 2, rv as_EQUAL, .unset, .unset, .unset]) rfl ?_
    show Steps p.tables e below (T3.setTop (mkF m 13 #[iv p0, iv p1, iv 2, rv as_EQUAL, .unset, .unset, .unset] [])) _
    refine XS.iloadN X3.here hx rfl (hb hby at_13) rfl ?_
    show Steps p.tables e below (T3.setTop (mkF m 14 #[iv p0, iv p1, iv 2, rv as_EQUAL, .unset, .unset, .unset] [(.int 2)])) _
    exact k
  refine own_lift sg4 ?_
  show own_Go p.tables e below (T3.setTop (mkF m 14 #[iv p0, iv p1, iv 2, rv as_EQUAL, .unset, .unset, .unset] [(.int 2)])) _
  obtain ⟨_, _, ⟨T5, Lx5, kx5, nx5⟩, -, X5, ⟨Lc5, hQ5, lx5, yx5, zx5⟩, st5⟩ := Jvm.LawKit.callS X3 hx (y := (⟨"com/example/ophion/ophion/runtime/CompareOpSwappedPinLaw", "mirror", "(I)I"⟩ : MethodName)) hown (mvT hZ (wd hw 8 rfl)) (mvT hZ (wd hw 9 rfl)) (mvT hZ (wd hw 3 rfl)) (mvT hZ (wd hw 10 rfl)) (by decide) (backOf (W := 0) (rmMirD l Z a0 hw [] (2 : Int32) h0 n0 Z0 (by decide : ¬ ((2 : Int32) = (0 : Int32))) (by decide : ¬ ((2 : Int32) = (1 : Int32))) (by decide : ¬ ((2 : Int32) = (4 : Int32))) (by decide : ¬ ((2 : Int32) = (5 : Int32)))) hZ (wd hw 10 rfl) (wd hw 3 rfl) (by decide) (by decide)) (g := (mkF m 14 #[iv p0, iv p1, iv 2, rv as_EQUAL, .unset, .unset, .unset] [(.int 2)])) rfl (by rw [hml]; rfl) (argsL := [(.int 2)]) (rest := []) (lenOf pd_2 rfl) rfl (by show 2 * 0 + _ ≤ _; exact Nat.le_of_eq rfl) (hb hby at_14) (fun _ _ => ⟨rfl, e3, (by decide : 0 + 0 ≤ _), (by decide : 0 + 0 ≤ _)⟩)
  dsimp only [Pt.U, Pt.locs, Pt.cells, Pt.slots] at X5 lx5 yx5 zx5 st5 hQ5
  subst lx5 yx5 zx5
  obtain ⟨rfl, N5q, e5⟩ := hQ5
  have N5 := Fr.app N3 N5q
  refine own_lift st5 ?_
  show own_Go p.tables e below (T5.setTop (mkF m 17 #[iv p0, iv p1, iv 2, rv as_EQUAL, .unset, .unset, .unset] [(.int 2)])) _
  obtain ⟨_, _, ⟨T6, Lx6, kx6, nx6⟩, -, X6, ⟨Lc6, hQ6, lx6, yx6, zx6⟩, st6⟩ := Jvm.LawKit.callS X5 hx (y := (⟨"com/example/ophion/ophion/runtime/CompareOpSwappedPinLaw", "pick", "(I)Lcom/example/ophion/ophion/runtime/CompareOp;"⟩ : MethodName)) hown (mvT hZ (wd hw 1 rfl)) (mvT hZ (wd hw 2 rfl)) (mvT hZ (wd hw 3 rfl)) (mvT hZ (wd hw 4 rfl)) (by decide) (backOf (W := 0) (rmPick2 l Z a0 hw [] (2 : Int32) as_EQUAL h0 n0 Z0 S_EQUAL (by decide : ¬ ((2 : Int32) = (0 : Int32))) (by decide : ¬ ((2 : Int32) = (1 : Int32))) (by decide : (2 : Int32) = (2 : Int32))) hZ (wd hw 4 rfl) (wd hw 3 rfl) (by decide) (by decide)) (g := (mkF m 17 #[iv p0, iv p1, iv 2, rv as_EQUAL, .unset, .unset, .unset] [(.int 2)])) rfl (by rw [hml]; rfl) (argsL := [(.int 2)]) (rest := []) (lenOf pd_1 rfl) rfl (by show 2 * 0 + _ ≤ _; exact Nat.le_of_eq rfl) (hb hby at_17) (fun _ _ => ⟨rfl, e5, (by decide : 0 + 0 ≤ _), (by decide : 0 + 0 ≤ _)⟩)
  dsimp only [Pt.U, Pt.locs, Pt.cells, Pt.slots] at X6 lx6 yx6 zx6 st6 hQ6
  subst lx6 yx6 zx6
  obtain ⟨rfl, N6q, e6⟩ := hQ6
  have N6 := Fr.app N5 N6q
  refine own_lift st6 ?_
  show own_Go p.tables e below (T6.setTop (mkF m 20 #[iv p0, iv p1, iv 2, rv as_EQUAL, .unset, .unset, .unset] [(.ref as_EQUAL)])) _
  have sg7 : ∀ t, Steps p.tables e below (T6.setTop (mkF m 23 #[iv p0, iv p1, iv 2, rv as_EQUAL, rv as_EQUAL, .unset, .unset] [(.ref as_EQUAL)])) t → Steps p.tables e below (T6.setTop (mkF m 20 #[iv p0, iv p1, iv 2, rv as_EQUAL, .unset, .unset, .unset] [(.ref as_EQUAL)])) t := by
    intro t k
    refine XS.astore X6.here hx rfl (hb hby at_20) rfl rfl (l' := #[iv p0, iv p1, iv 2, rv as_EQUAL, rv as_EQUAL, .unset, .unset]) rfl ?_
    show Steps p.tables e below (T6.setTop (mkF m 22 #[iv p0, iv p1, iv 2, rv as_EQUAL, rv as_EQUAL, .unset, .unset] [])) _
    refine XS.aloadN X6.here hx rfl (hb hby at_22) rfl rfl ?_
    show Steps p.tables e below (T6.setTop (mkF m 23 #[iv p0, iv p1, iv 2, rv as_EQUAL, rv as_EQUAL, .unset, .unset] [(.ref as_EQUAL)])) _
    exact k
  refine own_lift sg7 ?_
  show own_Go p.tables e below (T6.setTop (mkF m 23 #[iv p0, iv p1, iv 2, rv as_EQUAL, rv as_EQUAL, .unset, .unset] [(.ref as_EQUAL)])) _
  obtain ⟨cq8, kq8, q8a, q8b, q8c⟩ := isOf hZ e6 E_EQUAL
  obtain ⟨_, _, ⟨T8, Lx8, kx8, nx8⟩, -, X8, ⟨Lc8, hQ8, lx8, yx8, zx8⟩, st8⟩ := X6.virtualBack hx (y := (⟨"com/example/ophion/ophion/runtime/CompareOp", "swapped", "()Lcom/example/ophion/ophion/runtime/CompareOp;"⟩ : MethodName)) (z := (⟨"com/example/ophion/ophion/runtime/CompareOp", "swapped", "()Lcom/example/ophion/ophion/runtime/CompareOp;"⟩ : MethodName)) hown (mvT hZ (wd hw 13 rfl)) (mvT hZ (wd hw 14 rfl)) (notFace_of_selects (args := #[]) (mvT hZ (wd hw 16 rfl))) (mvT hZ (wd hw 16 rfl)) (mvT hZ (wd hw 15 rfl)) (by decide) (backOf (W := 0) (rmSw2 l Z a0 hw [] as_EQUAL h0 n0 Z0 O_EQUAL E_EQUAL) hZ (wd hw 17 rfl) (wd hw 6 rfl) (by decide) (by decide)) q8a q8c (g := (mkF m 23 #[iv p0, iv p1, iv 2, rv as_EQUAL, rv as_EQUAL, .unset, .unset] [(.ref as_EQUAL)])) rfl (by rw [hml]; rfl) (Steps.refl _) (argsL := []) (rest := []) (lenOf pd_3 rfl) rfl (by show 2 * 0 + _ ≤ _; exact Nat.le_of_eq rfl) (hb hby at_23) (fun _ _ => ⟨rfl, e6, (by decide : 0 + 0 ≤ _), (by decide : 0 + 0 ≤ _)⟩)
  dsimp only [Pt.U, Pt.locs, Pt.cells, Pt.slots] at X8 lx8 yx8 zx8 st8 hQ8
  subst lx8 yx8 zx8
  obtain ⟨rfl, N8q, e8⟩ := hQ8
  have N8 := Fr.app N6 N8q
  refine own_lift (fun t k => st8.trans k) ?_
  show own_Go p.tables e below (T8.setTop (mkF m 26 #[iv p0, iv p1, iv 2, rv as_EQUAL, rv as_EQUAL, .unset, .unset] [(.ref as_EQUAL)])) _
  have sg9 : ∀ t, Steps p.tables e below (T8.setTop (mkF m 34 #[iv p0, iv p1, iv 2, rv as_EQUAL, rv as_EQUAL, rv as_EQUAL, .unset] [(.int ((p1 &&& (2147483647 : Int32)) % (3 : Int32)))])) t → Steps p.tables e below (T8.setTop (mkF m 26 #[iv p0, iv p1, iv 2, rv as_EQUAL, rv as_EQUAL, .unset, .unset] [(.ref as_EQUAL)])) t := by
    intro t k
    refine XS.astore X8.here hx rfl (hb hby at_26) rfl rfl (l' := #[iv p0, iv p1, iv 2, rv as_EQUAL, rv as_EQUAL, rv as_EQUAL, .unset]) rfl ?_
    show Steps p.tables e below (T8.setTop (mkF m 28 #[iv p0, iv p1, iv 2, rv as_EQUAL, rv as_EQUAL, rv as_EQUAL, .unset] [])) _
    refine XS.iloadN X8.here hx rfl (hb hby at_28) rfl ?_
    show Steps p.tables e below (T8.setTop (mkF m 29 #[iv p0, iv p1, iv 2, rv as_EQUAL, rv as_EQUAL, rv as_EQUAL, .unset] [(.int p1)])) _
    refine X8.ldcInt hx hown (mvT hZ (wd hw 0 rfl)) (g := (mkF m 29 #[iv p0, iv p1, iv 2, rv as_EQUAL, rv as_EQUAL, rv as_EQUAL, .unset] [(.int p1)])) rfl (hb hby at_29) _ ?_
    show Steps p.tables e below (T8.setTop (mkF m 31 #[iv p0, iv p1, iv 2, rv as_EQUAL, rv as_EQUAL, rv as_EQUAL, .unset] [(.int 2147483647), (.int p1)])) _
    refine XS.iand X8.here hx rfl (hb hby at_31) rfl ?_
    show Steps p.tables e below (T8.setTop (mkF m 32 #[iv p0, iv p1, iv 2, rv as_EQUAL, rv as_EQUAL, rv as_EQUAL, .unset] [(.int (p1 &&& (2147483647 : Int32)))])) _
    refine XS.iconst X8.here hx rfl (hb hby at_32) ?_
    show Steps p.tables e below (T8.setTop (mkF m 33 #[iv p0, iv p1, iv 2, rv as_EQUAL, rv as_EQUAL, rv as_EQUAL, .unset] [(.int 3), (.int (p1 &&& (2147483647 : Int32)))])) _
    refine iremM X8 hx rfl (hb hby at_33) rfl (by decide) ?_
    show Steps p.tables e below (T8.setTop (mkF m 34 #[iv p0, iv p1, iv 2, rv as_EQUAL, rv as_EQUAL, rv as_EQUAL, .unset] [(.int ((p1 &&& (2147483647 : Int32)) % (3 : Int32)))])) _
    exact k
  refine own_lift sg9 ?_
  show own_Go p.tables e below (T8.setTop (mkF m 34 #[iv p0, iv p1, iv 2, rv as_EQUAL, rv as_EQUAL, rv as_EQUAL, .unset] [(.int ((p1 &&& (2147483647 : Int32)) % (3 : Int32)))])) _
  rw [hs]
  show own_Go p.tables e below (T8.setTop (mkF m 34 #[iv p0, iv p1, iv 2, rv as_EQUAL, rv as_EQUAL, rv as_EQUAL, .unset] [(.int 1)])) _
  have sg10 : ∀ t, Steps p.tables e below (T8.setTop (mkF m 50 #[iv p0, iv p1, iv 2, rv as_EQUAL, rv as_EQUAL, rv as_EQUAL, iv 0] [(.int 0), (.ref as_EQUAL)])) t → Steps p.tables e below (T8.setTop (mkF m 34 #[iv p0, iv p1, iv 2, rv as_EQUAL, rv as_EQUAL, rv as_EQUAL, .unset] [(.int 1)])) t := by
    intro t k
    refine XS.iconst X8.here hx rfl (hb hby at_34) ?_
    show Steps p.tables e below (T8.setTop (mkF m 35 #[iv p0, iv p1, iv 2, rv as_EQUAL, rv as_EQUAL, rv as_EQUAL, .unset] [(.int 1), (.int 1)])) _
    refine XS.isub X8.here hx rfl (hb hby at_35) rfl ?_
    show Steps p.tables e below (T8.setTop (mkF m 36 #[iv p0, iv p1, iv 2, rv as_EQUAL, rv as_EQUAL, rv as_EQUAL, .unset] [(.int 0)])) _
    refine XS.istore X8.here hx rfl (hb hby at_36) rfl (l' := #[iv p0, iv p1, iv 2, rv as_EQUAL, rv as_EQUAL, rv as_EQUAL, iv 0]) rfl ?_
    show Steps p.tables e below (T8.setTop (mkF m 38 #[iv p0, iv p1, iv 2, rv as_EQUAL, rv as_EQUAL, rv as_EQUAL, iv 0] [])) _
    refine XS.aload X8.here hx rfl (hb hby at_38) rfl rfl ?_
    show Steps p.tables e below (T8.setTop (mkF m 40 #[iv p0, iv p1, iv 2, rv as_EQUAL, rv as_EQUAL, rv as_EQUAL, iv 0] [(.ref as_EQUAL)])) _
    refine XS.aload X8.here hx rfl (hb hby at_40) rfl rfl ?_
    show Steps p.tables e below (T8.setTop (mkF m 42 #[iv p0, iv p1, iv 2, rv as_EQUAL, rv as_EQUAL, rv as_EQUAL, iv 0] [(.ref as_EQUAL), (.ref as_EQUAL)])) _
    refine Jvm.RoadKit.acmp (g := (mkF m 42 #[iv p0, iv p1, iv 2, rv as_EQUAL, rv as_EQUAL, rv as_EQUAL, iv 0] [(.ref as_EQUAL), (.ref as_EQUAL)])) X8 hx rfl rfl rfl (pc0 := 42) (pc' := 45) (same := true) rfl (hb hby at_42) rfl (decide_eq_true rfl) (by decide) (by decide) ?_
    show Steps p.tables e below (T8.setTop (mkF m 45 #[iv p0, iv p1, iv 2, rv as_EQUAL, rv as_EQUAL, rv as_EQUAL, iv 0] [])) _
    refine XS.aload X8.here hx rfl (hb hby at_45) rfl rfl ?_
    show Steps p.tables e below (T8.setTop (mkF m 47 #[iv p0, iv p1, iv 2, rv as_EQUAL, rv as_EQUAL, rv as_EQUAL, iv 0] [(.ref as_EQUAL)])) _
    refine XS.iload X8.here hx rfl (hb hby at_47) rfl ?_
    show Steps p.tables e below (T8.setTop (mkF m 49 #[iv p0, iv p1, iv 2, rv as_EQUAL, rv as_EQUAL, rv as_EQUAL, iv 0] [(.int 0), (.ref as_EQUAL)])) _
    refine XS.ineg X8.here hx rfl (hb hby at_49) rfl ?_
    show Steps p.tables e below (T8.setTop (mkF m 50 #[iv p0, iv p1, iv 2, rv as_EQUAL, rv as_EQUAL, rv as_EQUAL, iv 0] [(.int 0), (.ref as_EQUAL)])) _
    exact k
  refine own_lift sg10 ?_
  show own_Go p.tables e below (T8.setTop (mkF m 50 #[iv p0, iv p1, iv 2, rv as_EQUAL, rv as_EQUAL, rv as_EQUAL, iv 0] [(.int 0), (.ref as_EQUAL)])) _
  obtain ⟨cq11, kq11, q11a, q11b, q11c⟩ := isOf hZ e8 E_EQUAL
  obtain ⟨_, _, ⟨T11, Lx11, kx11, nx11⟩, -, X11, ⟨Lc11, hQ11, lx11, yx11, zx11⟩, st11⟩ := X8.virtualBack hx (y := (⟨"com/example/ophion/ophion/runtime/CompareOp", "holds", "(I)Z"⟩ : MethodName)) (z := (⟨"com/example/ophion/ophion/runtime/CompareOp", "holds", "(I)Z"⟩ : MethodName)) hown (mvT hZ (wd hw 28 rfl)) (mvT hZ (wd hw 29 rfl)) (notFace_of_selects (args := #[]) (mvT hZ (wd hw 31 rfl))) (mvT hZ (wd hw 31 rfl)) (mvT hZ (wd hw 30 rfl)) (by decide) (backOf (W := 0) (rmHolds2t l Z a0 hw [] as_EQUAL (0 : Int32) h0 n0 Z0 O_EQUAL E_EQUAL (by decide : (0 : Int32) = (0 : Int32))) hZ (wd hw 32 rfl) (wd hw 6 rfl) (by decide) (by decide)) q11a q11c (g := (mkF m 50 #[iv p0, iv p1, iv 2, rv as_EQUAL, rv as_EQUAL, rv as_EQUAL, iv 0] [(.int 0), (.ref as_EQUAL)])) rfl (by rw [hml]; rfl) (Steps.refl _) (argsL := [(.int 0)]) (rest := []) (lenOf pd_4 rfl) rfl (by show 2 * 0 + _ ≤ _; exact Nat.le_of_eq rfl) (hb hby at_50) (fun _ _ => ⟨rfl, e8, (by decide : 0 + 0 ≤ _), (by decide : 0 + 0 ≤ _)⟩)
  dsimp only [Pt.U, Pt.locs, Pt.cells, Pt.slots] at X11 lx11 yx11 zx11 st11 hQ11
  subst lx11 yx11 zx11
  obtain ⟨rfl, N11q, e11⟩ := hQ11
  have N11 := Fr.app N8 N11q
  refine own_lift (fun t k => st11.trans k) ?_
  show own_Go p.tables e below (T11.setTop (mkF m 53 #[iv p0, iv p1, iv 2, rv as_EQUAL, rv as_EQUAL, rv as_EQUAL, iv 0] [(.int 1)])) _
  have sg12 : ∀ t, Steps p.tables e below (T11.setTop (mkF m 56 #[iv p0, iv p1, iv 2, rv as_EQUAL, rv as_EQUAL, rv as_EQUAL, iv 0] [(.int 0), (.ref as_EQUAL), (.int 1)])) t → Steps p.tables e below (T11.setTop (mkF m 53 #[iv p0, iv p1, iv 2, rv as_EQUAL, rv as_EQUAL, rv as_EQUAL, iv 0] [(.int 1)])) t := by
    intro t k
    refine XS.aloadN X11.here hx rfl (hb hby at_53) rfl rfl ?_
    show Steps p.tables e below (T11.setTop (mkF m 54 #[iv p0, iv p1, iv 2, rv as_EQUAL, rv as_EQUAL, rv as_EQUAL, iv 0] [(.ref as_EQUAL), (.int 1)])) _
    refine XS.iload X11.here hx rfl (hb hby at_54) rfl ?_
    show Steps p.tables e below (T11.setTop (mkF m 56 #[iv p0, iv p1, iv 2, rv as_EQUAL, rv as_EQUAL, rv as_EQUAL, iv 0] [(.int 0), (.ref as_EQUAL), (.int 1)])) _
    exact k
  refine own_lift sg12 ?_
  show own_Go p.tables e below (T11.setTop (mkF m 56 #[iv p0, iv p1, iv 2, rv as_EQUAL, rv as_EQUAL, rv as_EQUAL, iv 0] [(.int 0), (.ref as_EQUAL), (.int 1)])) _
  obtain ⟨cq13, kq13, q13a, q13b, q13c⟩ := isOf hZ e11 E_EQUAL
  obtain ⟨_, _, ⟨T13, Lx13, kx13, nx13⟩, -, X13, ⟨Lc13, hQ13, lx13, yx13, zx13⟩, st13⟩ := X11.virtualBack hx (y := (⟨"com/example/ophion/ophion/runtime/CompareOp", "holds", "(I)Z"⟩ : MethodName)) (z := (⟨"com/example/ophion/ophion/runtime/CompareOp", "holds", "(I)Z"⟩ : MethodName)) hown (mvT hZ (wd hw 28 rfl)) (mvT hZ (wd hw 29 rfl)) (notFace_of_selects (args := #[]) (mvT hZ (wd hw 31 rfl))) (mvT hZ (wd hw 31 rfl)) (mvT hZ (wd hw 30 rfl)) (by decide) (backOf (W := 1) (rmHolds2t l Z a0 hw [] as_EQUAL (0 : Int32) h0 n0 Z0 O_EQUAL E_EQUAL (by decide : (0 : Int32) = (0 : Int32))) hZ (wd hw 32 rfl) (wd hw 6 rfl) (by decide) (by decide)) q13a q13c (g := (mkF m 56 #[iv p0, iv p1, iv 2, rv as_EQUAL, rv as_EQUAL, rv as_EQUAL, iv 0] [(.int 0), (.ref as_EQUAL), (.int 1)])) rfl (by rw [hml]; rfl) (Steps.refl _) (argsL := [(.int 0)]) (rest := [(.int 1)]) (lenOf pd_4 rfl) rfl (by show 2 * 0 + _ ≤ _; exact Nat.le_of_eq rfl) (hb hby at_56) (fun _ _ => ⟨rfl, e11, (by decide : 0 + 0 ≤ _), (by decide : 0 + 0 ≤ _)⟩)
  dsimp only [Pt.U, Pt.locs, Pt.cells, Pt.slots] at X13 lx13 yx13 zx13 st13 hQ13
  subst lx13 yx13 zx13
  obtain ⟨rfl, N13q, e13⟩ := hQ13
  have N13 := Fr.app N11 N13q
  refine own_lift (fun t k => st13.trans k) ?_
  show own_Go p.tables e below (T13.setTop (mkF m 59 #[iv p0, iv p1, iv 2, rv as_EQUAL, rv as_EQUAL, rv as_EQUAL, iv 0] [(.int 1), (.int 1)])) _
  have sg14 : ∀ t, Steps p.tables e below (T13.setTop (mkF m 67 #[iv p0, iv p1, iv 2, rv as_EQUAL, rv as_EQUAL, rv as_EQUAL, iv 0] [(.int 1)])) t → Steps p.tables e below (T13.setTop (mkF m 59 #[iv p0, iv p1, iv 2, rv as_EQUAL, rv as_EQUAL, rv as_EQUAL, iv 0] [(.int 1), (.int 1)])) t := by
    intro t k
    refine XS.icmpNo X13.here hx rfl (hb hby at_59) rfl (teq (by decide : (1 : Int32) = (1 : Int32))).2 ?_
    show Steps p.tables e below (T13.setTop (mkF m 62 #[iv p0, iv p1, iv 2, rv as_EQUAL, rv as_EQUAL, rv as_EQUAL, iv 0] [])) _
    refine XS.iconst X13.here hx rfl (hb hby at_62) ?_
    show Steps p.tables e below (T13.setTop (mkF m 63 #[iv p0, iv p1, iv 2, rv as_EQUAL, rv as_EQUAL, rv as_EQUAL, iv 0] [(.int 1)])) _
    refine XS.goto X13.here hx rfl (pc0 := 63) (pc' := 67) rfl (hb hby at_63) (by decide) (by decide) ?_
    show Steps p.tables e below (T13.setTop (mkF m 67 #[iv p0, iv p1, iv 2, rv as_EQUAL, rv as_EQUAL, rv as_EQUAL, iv 0] [(.int 1)])) _
    exact k
  refine own_lift sg14 ?_
  show own_Go p.tables e below (T13.setTop (mkF m 67 #[iv p0, iv p1, iv 2, rv as_EQUAL, rv as_EQUAL, rv as_EQUAL, iv 0] [(.int 1)])) _
  obtain ⟨fs, hr, hrun, hended, hW, hsame⟩ := X13.leave (v := some (.int 1)) (fun h => by rw [Bd.returns] at h; cases h)
  refine ⟨_, _, ?_, hrun, hended, _, _, rfl, ?_, ⟨_, rfl⟩, hW, hsame.mono (by decide) (by decide)⟩
  · exact retN X13 hx (t := .boolean) Bd.returns (by simp) (hb hby at_67) hr
  · show Q0 Z  h0 n0 _ T13.heap _
    rw [e13]
    exact ⟨rfl, N13⟩
theorem ef_rm0_22 (m : MethodId) (x0 : Int32) (x1 : Int32) : entryFrame m #[(.int x0), (.int x1)] maxLocals = mkF m 0 #[.val (.int x0), .val (.int x1), .unset, .unset, .unset, .unset, .unset] [] := by first | (simp [entryFrame, mkF, argsToLocals, Value.category, maxLocals]; done) | rfl
set_option maxRecDepth 65536 in
set_option maxHeartbeats 40000000 in
theorem rm0_22 (l : Launch) (Z : State) (a0 : Array Value) (hw : ∀ d ∈ tables_1, d.before a0 Z = true) (ws : List Jvm.Cond) (p0 : Int32) (p1 : Int32) (as_LESS : Addr) (as_GREATER : Addr) (as_EQUAL : Addr) (as_LESS_EQUAL : Addr) (as_GREATER_EQUAL : Addr) (as_NOT_EQUAL : Addr) (h0 : Heap) (n0 : Nat) (Z0 : n0 ≤ h0.size) (S_LESS : Sta Z h0 "com/example/ophion/ophion/runtime/CompareOp" "LESS" "Lcom/example/ophion/ophion/runtime/CompareOp;" (.ref as_LESS)) (E_LESS : Exa Z h0 as_LESS "com/example/ophion/ophion/runtime/CompareOp") (O_LESS : Fld Z h0 as_LESS "java/lang/Enum" "ordinal" "I" (.int 0)) (S_GREATER : Sta Z h0 "com/example/ophion/ophion/runtime/CompareOp" "GREATER" "Lcom/example/ophion/ophion/runtime/CompareOp;" (.ref as_GREATER)) (E_GREATER : Exa Z h0 as_GREATER "com/example/ophion/ophion/runtime/CompareOp") (O_GREATER : Fld Z h0 as_GREATER "java/lang/Enum" "ordinal" "I" (.int 4)) (S_EQUAL : Sta Z h0 "com/example/ophion/ophion/runtime/CompareOp" "EQUAL" "Lcom/example/ophion/ophion/runtime/CompareOp;" (.ref as_EQUAL)) (E_EQUAL : Exa Z h0 as_EQUAL "com/example/ophion/ophion/runtime/CompareOp") (O_EQUAL : Fld Z h0 as_EQUAL "java/lang/Enum" "ordinal" "I" (.int 2)) (S_LESS_EQUAL : Sta Z h0 "com/example/ophion/ophion/runtime/CompareOp" "LESS_EQUAL" "Lcom/example/ophion/ophion/runtime/CompareOp;" (.ref as_LESS_EQUAL)) (E_LESS_EQUAL : Exa Z h0 as_LESS_EQUAL "com/example/ophion/ophion/runtime/CompareOp") (O_LESS_EQUAL : Fld Z h0 as_LESS_EQUAL "java/lang/Enum" "ordinal" "I" (.int 1)) (S_GREATER_EQUAL : Sta Z h0 "com/example/ophion/ophion/runtime/CompareOp" "GREATER_EQUAL" "Lcom/example/ophion/ophion/runtime/CompareOp;" (.ref as_GREATER_EQUAL)) (E_GREATER_EQUAL : Exa Z h0 as_GREATER_EQUAL "com/example/ophion/ophion/runtime/CompareOp") (O_GREATER_EQUAL : Fld Z h0 as_GREATER_EQUAL "java/lang/Enum" "ordinal" "I" (.int 5)) (S_NOT_EQUAL : Sta Z h0 "com/example/ophion/ophion/runtime/CompareOp" "NOT_EQUAL" "Lcom/example/ophion/ophion/runtime/CompareOp;" (.ref as_NOT_EQUAL)) (E_NOT_EQUAL : Exa Z h0 as_NOT_EQUAL "com/example/ophion/ophion/runtime/CompareOp") (O_NOT_EQUAL : Fld Z h0 as_NOT_EQUAL "java/lang/Enum" "ordinal" "I" (.int 3)) (hk : ((p0 &&& (2147483647 : Int32)) % (6 : Int32)) = (2 : Int32)) (hs : ((p1 &&& (2147483647 : Int32)) % (3 : Int32)) = (2 : Int32)) :
    MetFree l x (head1 (Jvm.Cond.code x code maxLocals ret :: ws) room_1) (fun a U => a = #[(.int p0), (.int p1)] ∧ Z.Warmed39 U.vm ∧ U.heap = h0) (fun _ _ _ _ _ => True) (fun _ U o U' => ∃ v L, o = .returned v ∧ Q0 Z  h0 n0 v U'.heap L ∧ FrameEnd U o U' L 0 0) := by
  refine MetFree.of_bodySF (plainFor_of_name pn_2) hisR ?_
  intro p e s m args below meth c s₁ Bd hml0 hP hK
  obtain ⟨rfl, hZ, hh⟩ := hP
  have hx := Bd.exec
  have hby := Bd.bytes
  have hml : c.maxLocals = 7 := hml0
  have hown : s.vm.findClass "com/example/ophion/ophion/runtime/CompareOpSwappedPinLaw" = some m.cls := findClass_of_methodNamed Bd.named
  have hnm := (name_of_methodNamed Bd.named Bd.method).1
  have X0 : Stand p l e room_1 s m #[(.int p0), (.int p1)] below meth c s₁ [] 0 0 := Stand.of_body Bd
  have e0 : s₁.heap = h0 := by rw [← hh, Bd.state]; rfl
  have N0 := Fr.nil n0
  refine own_go (own_lift (fun t k => castTop (ef_rm0_22 m p0 p1) k) ?_)
  show own_Go p.tables e below (s₁.setTop (mkF m 0 #[iv p0, iv p1, .unset, .unset, .unset, .unset, .unset] [])) _
  have sg1 : ∀ t, Steps p.tables e below (s₁.setTop (mkF m 7 #[iv p0, iv p1, .unset, .unset, .unset, .unset, .unset] [(.int ((p0 &&& (2147483647 : Int32)) % (6 : Int32)))])) t → Steps p.tables e below (s₁.setTop (mkF m 0 #[iv p0, iv p1, .unset, .unset, .unset, .unset, .unset] [])) t := by
    intro t k
    refine XS.iloadN X0.here hx rfl (hb hby at_0) rfl ?_
    show Steps p.tables e below (s₁.setTop (mkF m 1 #[iv p0, iv p1, .unset, .unset, .unset, .unset, .unset] [(.int p0)])) _
    refine X0.ldcInt hx hown (mvT hZ (wd hw 0 rfl)) (g := (mkF m 1 #[iv p0, iv p1, .unset, .unset, .unset, .unset, .unset] [(.int p0)])) rfl (hb hby at_1) _ ?_
    show Steps p.tables e below (s₁.setTop (mkF m 3 #[iv p0, iv p1, .unset, .unset, .unset, .unset, .unset] [(.int 2147483647), (.int p0)])) _
    refine XS.iand X0.here hx rfl (hb hby at_3) rfl ?_
    show Steps p.tables e below (s₁.setTop (mkF m 4 #[iv p0, iv p1, .unset, .unset, .unset, .unset, .unset] [(.int (p0 &&& (2147483647 : Int32)))])) _
    refine XS.bipush X0.here hx rfl (hb hby at_4) ?_
    show Steps p.tables e below (s₁.setTop (mkF m 6 #[iv p0, iv p1, .unset, .unset, .unset, .unset, .unset] [(.int 6), (.int (p0 &&& (2147483647 : Int32)))])) _
    refine iremM X0 hx rfl (hb hby at_6) rfl (by decide) ?_
    show Steps p.tables e below (s₁.setTop (mkF m 7 #[iv p0, iv p1, .unset, .unset, .unset, .unset, .unset] [(.int ((p0 &&& (2147483647 : Int32)) % (6 : Int32)))])) _
    exact k
  refine own_lift sg1 ?_
  show own_Go p.tables e below (s₁.setTop (mkF m 7 #[iv p0, iv p1, .unset, .unset, .unset, .unset, .unset] [(.int ((p0 &&& (2147483647 : Int32)) % (6 : Int32)))])) _
  rw [hk]
  show own_Go p.tables e below (s₁.setTop (mkF m 7 #[iv p0, iv p1, .unset, .unset, .unset, .unset, .unset] [(.int 2)])) _
  have sg2 : ∀ t, Steps p.tables e below (s₁.setTop (mkF m 9 #[iv p0, iv p1, iv 2, .unset, .unset, .unset, .unset] [(.int 2)])) t → Steps p.tables e below (s₁.setTop (mkF m 7 #[iv p0, iv p1, .unset, .unset, .unset, .unset, .unset] [(.int 2)])) t := by
    intro t k
    refine XS.istoreN X0.here hx rfl (hb hby at_7) rfl (l' := #[iv p0, iv p1, iv 2, .unset, .unset, .unset, .unset]) rfl ?_
    show Steps p.tables e below (s₁.setTop (mkF m 8 #[iv p0, iv p1, iv 2, .unset, .unset, .unset, .unset] [])) _
    refine XS.iloadN X0.here hx rfl (hb hby at_8) rfl ?_
    show Steps p.tables e below (s₁.setTop (mkF m 9 #[iv p0, iv p1, iv 2, .unset, .unset, .unset, .unset] [(.int 2)])) _
    exact k
  refine own_lift sg2 ?_
  show own_Go p.tables e below (s₁.setTop (mkF m 9 #[iv p0, iv p1, iv 2, .unset, .unset, .unset, .unset] [(.int 2)])) _
  obtain ⟨_, _, ⟨T3, Lx3, kx3, nx3⟩, -, X3, ⟨Lc3, hQ3, lx3, yx3, zx3⟩, st3⟩ := Jvm.LawKit.callS X0 hx (y := (⟨"com/example/ophion/ophion/runtime/CompareOpSwappedPinLaw", "pick", "(I)Lcom/example/ophion/ophion/runtime/CompareOp;"⟩ : MethodName)) hown (mvT hZ (wd hw 1 rfl)) (mvT hZ (wd hw 2 rfl)) (mvT hZ (wd hw 3 rfl)) (mvT hZ (wd hw 4 rfl)) (by decide) (backOf (W := 0) (rmPick2 l Z a0 hw [] (2 : Int32) as_EQUAL h0 n0 Z0 S_EQUAL (by decide : ¬ ((2 : Int32) = (0 : Int32))) (by decide : ¬ ((2 : Int32) = (1 : Int32))) (by decide : (2 : Int32) = (2 : Int32))) hZ (wd hw 4 rfl) (wd hw 3 rfl) (by decide) (by decide)) (g := (mkF m 9 #[iv p0, iv p1, iv 2, .unset, .unset, .unset, .unset] [(.int 2)])) rfl (by rw [hml]; rfl) (argsL := [(.int 2)]) (rest := []) (lenOf pd_1 rfl) rfl (by show 2 * 0 + _ ≤ _; exact Nat.le_of_eq rfl) (hb hby at_9) (fun _ _ => ⟨rfl, e0, (by decide : 0 + 0 ≤ _), (by decide : 0 + 0 ≤ _)⟩)
  dsimp only [Pt.U, Pt.locs, Pt.cells, Pt.slots] at X3 lx3 yx3 zx3 st3 hQ3
  subst lx3 yx3 zx3
  obtain ⟨rfl, N3q, e3⟩ := hQ3
  have N3 := Fr.app N0 N3q
  refine own_lift st3 ?_
  show own_Go p.tables e below (T3.setTop (mkF m 12 #[iv p0, iv p1, iv 2, .unset, .unset, .unset, .unset] [(.ref as_EQUAL)])) _
  have sg4 : ∀ t, Steps p.tables e below (T3.setTop (mkF m 14 #[iv p0, iv p1, iv 2, rv as_EQUAL, .unset, .unset, .unset] [(.int 2)])) t → Steps p.tables e below (T3.setTop (mkF m 12 #[iv p0, iv p1, iv 2, .unset, .unset, .unset, .unset] [(.ref as_EQUAL)])) t := by
    intro t k
    refine XS.astoreN X3.here hx rfl (hb hby at_12) rfl rfl (l' := #[iv p0, iv p1, iv 2, rv as_EQUAL, .unset, .unset, .unset]) rfl ?_
    show Steps p.tables e below (T3.setTop (mkF m 13 #[iv p0, iv p1, iv 2, rv as_EQUAL, .unset, .unset, .unset] [])) _
    refine XS.iloadN X3.here hx rfl (hb hby at_13) rfl ?_
    show Steps p.tables e below (T3.setTop (mkF m 14 #[iv p0, iv p1, iv 2, rv as_EQUAL, .unset, .unset, .unset] [(.int 2)])) _
    exact k
  refine own_lift sg4 ?_
  show own_Go p.tables e below (T3.setTop (mkF m 14 #[iv p0, iv p1, iv 2, rv as_EQUAL, .unset, .unset, .unset] [(.int 2)])) _
  obtain ⟨_, _, ⟨T5, Lx5, kx5, nx5⟩, -, X5, ⟨Lc5, hQ5, lx5, yx5, zx5⟩, st5⟩ := Jvm.LawKit.callS X3 hx (y := (⟨"com/example/ophion/ophion/runtime/CompareOpSwappedPinLaw", "mirror", "(I)I"⟩ : MethodName)) hown (mvT hZ (wd hw 8 rfl)) (mvT hZ (wd hw 9 rfl)) (mvT hZ (wd hw 3 rfl)) (mvT hZ (wd hw 10 rfl)) (by decide) (backOf (W := 0) (rmMirD l Z a0 hw [] (2 : Int32) h0 n0 Z0 (by decide : ¬ ((2 : Int32) = (0 : Int32))) (by decide : ¬ ((2 : Int32) = (1 : Int32))) (by decide : ¬ ((2 : Int32) = (4 : Int32))) (by decide : ¬ ((2 : Int32) = (5 : Int32)))) hZ (wd hw 10 rfl) (wd hw 3 rfl) (by decide) (by decide)) (g := (mkF m 14 #[iv p0, iv p1, iv 2, rv as_EQUAL, .unset, .unset, .unset] [(.int 2)])) rfl (by rw [hml]; rfl) (argsL := [(.int 2)]) (rest := []) (lenOf pd_2 rfl) rfl (by show 2 * 0 + _ ≤ _; exact Nat.le_of_eq rfl) (hb hby at_14) (fun _ _ => ⟨rfl, e3, (by decide : 0 + 0 ≤ _), (by decide : 0 + 0 ≤ _)⟩)
  dsimp only [Pt.U, Pt.locs, Pt.cells, Pt.slots] at X5 lx5 yx5 zx5 st5 hQ5
  subst lx5 yx5 zx5
  obtain ⟨rfl, N5q, e5⟩ := hQ5
  have N5 := Fr.app N3 N5q
  refine own_lift st5 ?_
  show own_Go p.tables e below (T5.setTop (mkF m 17 #[iv p0, iv p1, iv 2, rv as_EQUAL, .unset, .unset, .unset] [(.int 2)])) _
  obtain ⟨_, _, ⟨T6, Lx6, kx6, nx6⟩, -, X6, ⟨Lc6, hQ6, lx6, yx6, zx6⟩, st6⟩ := Jvm.LawKit.callS X5 hx (y := (⟨"com/example/ophion/ophion/runtime/CompareOpSwappedPinLaw", "pick", "(I)Lcom/example/ophion/ophion/runtime/CompareOp;"⟩ : MethodName)) hown (mvT hZ (wd hw 1 rfl)) (mvT hZ (wd hw 2 rfl)) (mvT hZ (wd hw 3 rfl)) (mvT hZ (wd hw 4 rfl)) (by decide) (backOf (W := 0) (rmPick2 l Z a0 hw [] (2 : Int32) as_EQUAL h0 n0 Z0 S_EQUAL (by decide : ¬ ((2 : Int32) = (0 : Int32))) (by decide : ¬ ((2 : Int32) = (1 : Int32))) (by decide : (2 : Int32) = (2 : Int32))) hZ (wd hw 4 rfl) (wd hw 3 rfl) (by decide) (by decide)) (g := (mkF m 17 #[iv p0, iv p1, iv 2, rv as_EQUAL, .unset, .unset, .unset] [(.int 2)])) rfl (by rw [hml]; rfl) (argsL := [(.int 2)]) (rest := []) (lenOf pd_1 rfl) rfl (by show 2 * 0 + _ ≤ _; exact Nat.le_of_eq rfl) (hb hby at_17) (fun _ _ => ⟨rfl, e5, (by decide : 0 + 0 ≤ _), (by decide : 0 + 0 ≤ _)⟩)
  dsimp only [Pt.U, Pt.locs, Pt.cells, Pt.slots] at X6 lx6 yx6 zx6 st6 hQ6
  subst lx6 yx6 zx6
  obtain ⟨rfl, N6q, e6⟩ := hQ6
  have N6 := Fr.app N5 N6q
  refine own_lift st6 ?_
  show own_Go p.tables e below (T6.setTop (mkF m 20 #[iv p0, iv p1, iv 2, rv as_EQUAL, .unset, .unset, .unset] [(.ref as_EQUAL)])) _
  have sg7 : ∀ t, Steps p.tables e below (T6.setTop (mkF m 23 #[iv p0, iv p1, iv 2, rv as_EQUAL, rv as_EQUAL, .unset, .unset] [(.ref as_EQUAL)])) t → Steps p.tables e below (T6.setTop (mkF m 20 #[iv p0, iv p1, iv 2, rv as_EQUAL, .unset, .unset, .unset] [(.ref as_EQUAL)])) t := by
    intro t k
    refine XS.astore X6.here hx rfl (hb hby at_20) rfl rfl (l' := #[iv p0, iv p1, iv 2, rv as_EQUAL, rv as_EQUAL, .unset, .unset]) rfl ?_
    show Steps p.tables e below (T6.setTop (mkF m 22 #[iv p0, iv p1, iv 2, rv as_EQUAL, rv as_EQUAL, .unset, .unset] [])) _
    refine XS.aloadN X6.here hx rfl (hb hby at_22) rfl rfl ?_
    show Steps p.tables e below (T6.setTop (mkF m 23 #[iv p0, iv p1, iv 2, rv as_EQUAL, rv as_EQUAL, .unset, .unset] [(.ref as_EQUAL)])) _
    exact k
  refine own_lift sg7 ?_
  show own_Go p.tables e below (T6.setTop (mkF m 23 #[iv p0, iv p1, iv 2, rv as_EQUAL, rv as_EQUAL, .unset, .unset] [(.ref as_EQUAL)])) _
  obtain ⟨cq8, kq8, q8a, q8b, q8c⟩ := isOf hZ e6 E_EQUAL
  obtain ⟨_, _, ⟨T8, Lx8, kx8, nx8⟩, -, X8, ⟨Lc8, hQ8, lx8, yx8, zx8⟩, st8⟩ := X6.virtualBack hx (y := (⟨"com/example/ophion/ophion/runtime/CompareOp", "swapped", "()Lcom/example/ophion/ophion/runtime/CompareOp;"⟩ : MethodName)) (z := (⟨"com/example/ophion/ophion/runtime/CompareOp", "swapped", "()Lcom/example/ophion/ophion/runtime/CompareOp;"⟩ : MethodName)) hown (mvT hZ (wd hw 13 rfl)) (mvT hZ (wd hw 14 rfl)) (notFace_of_selects (args := #[]) (mvT hZ (wd hw 16 rfl))) (mvT hZ (wd hw 16 rfl)) (mvT hZ (wd hw 15 rfl)) (by decide) (backOf (W := 0) (rmSw2 l Z a0 hw [] as_EQUAL h0 n0 Z0 O_EQUAL E_EQUAL) hZ (wd hw 17 rfl) (wd hw 6 rfl) (by decide) (by decide)) q8a q8c (g := (mkF m 23 #[iv p0, iv p1, iv 2, rv as_EQUAL, rv as_EQUAL, .unset, .unset] [(.ref as_EQUAL)])) rfl (by rw [hml]; rfl) (Steps.refl _) (argsL := []) (rest := []) (lenOf pd_3 rfl) rfl (by show 2 * 0 + _ ≤ _; exact Nat.le_of_eq rfl) (hb hby at_23) (fun _ _ => ⟨rfl, e6, (by decide : 0 + 0 ≤ _), (by decide : 0 + 0 ≤ _)⟩)
  dsimp only [Pt.U, Pt.locs, Pt.cells, Pt.slots] at X8 lx8 yx8 zx8 st8 hQ8
  subst lx8 yx8 zx8
  obtain ⟨rfl, N8q, e8⟩ := hQ8
  have N8 := Fr.app N6 N8q
  refine own_lift (fun t k => st8.trans k) ?_
  show own_Go p.tables e below (T8.setTop (mkF m 26 #[iv p0, iv p1, iv 2, rv as_EQUAL, rv as_EQUAL, .unset, .unset] [(.ref as_EQUAL)])) _
  have sg9 : ∀ t, Steps p.tables e below (T8.setTop (mkF m 34 #[iv p0, iv p1, iv 2, rv as_EQUAL, rv as_EQUAL, rv as_EQUAL, .unset] [(.int ((p1 &&& (2147483647 : Int32)) % (3 : Int32)))])) t → Steps p.tables e below (T8.setTop (mkF m 26 #[iv p0, iv p1, iv 2, rv as_EQUAL, rv as_EQUAL, .unset, .unset] [(.ref as_EQUAL)])) t := by
    intro t k
    refine XS.astore X8.here hx rfl (hb hby at_26) rfl rfl (l' := #[iv p0, iv p1, iv 2, rv as_EQUAL, rv as_EQUAL, rv as_EQUAL, .unset]) rfl ?_
    show Steps p.tables e below (T8.setTop (mkF m 28 #[iv p0, iv p1, iv 2, rv as_EQUAL, rv as_EQUAL, rv as_EQUAL, .unset] [])) _
    refine XS.iloadN X8.here hx rfl (hb hby at_28) rfl ?_
    show Steps p.tables e below (T8.setTop (mkF m 29 #[iv p0, iv p1, iv 2, rv as_EQUAL, rv as_EQUAL, rv as_EQUAL, .unset] [(.int p1)])) _
    refine X8.ldcInt hx hown (mvT hZ (wd hw 0 rfl)) (g := (mkF m 29 #[iv p0, iv p1, iv 2, rv as_EQUAL, rv as_EQUAL, rv as_EQUAL, .unset] [(.int p1)])) rfl (hb hby at_29) _ ?_
    show Steps p.tables e below (T8.setTop (mkF m 31 #[iv p0, iv p1, iv 2, rv as_EQUAL, rv as_EQUAL, rv as_EQUAL, .unset] [(.int 2147483647), (.int p1)])) _
    refine XS.iand X8.here hx rfl (hb hby at_31) rfl ?_
    show Steps p.tables e below (T8.setTop (mkF m 32 #[iv p0, iv p1, iv 2, rv as_EQUAL, rv as_EQUAL, rv as_EQUAL, .unset] [(.int (p1 &&& (2147483647 : Int32)))])) _
    refine XS.iconst X8.here hx rfl (hb hby at_32) ?_
    show Steps p.tables e below (T8.setTop (mkF m 33 #[iv p0, iv p1, iv 2, rv as_EQUAL, rv as_EQUAL, rv as_EQUAL, .unset] [(.int 3), (.int (p1 &&& (2147483647 : Int32)))])) _
    refine iremM X8 hx rfl (hb hby at_33) rfl (by decide) ?_
    show Steps p.tables e below (T8.setTop (mkF m 34 #[iv p0, iv p1, iv 2, rv as_EQUAL, rv as_EQUAL, rv as_EQUAL, .unset] [(.int ((p1 &&& (2147483647 : Int32)) % (3 : Int32)))])) _
    exact k
  refine own_lift sg9 ?_
  show own_Go p.tables e below (T8.setTop (mkF m 34 #[iv p0, iv p1, iv 2, rv as_EQUAL, rv as_EQUAL, rv as_EQUAL, .unset] [(.int ((p1 &&& (2147483647 : Int32)) % (3 : Int32)))])) _
  rw [hs]
  show own_Go p.tables e below (T8.setTop (mkF m 34 #[iv p0, iv p1, iv 2, rv as_EQUAL, rv as_EQUAL, rv as_EQUAL, .unset] [(.int 2)])) _
  have sg10 : ∀ t, Steps p.tables e below (T8.setTop (mkF m 50 #[iv p0, iv p1, iv 2, rv as_EQUAL, rv as_EQUAL, rv as_EQUAL, iv 1] [(.int (-1)), (.ref as_EQUAL)])) t → Steps p.tables e below (T8.setTop (mkF m 34 #[iv p0, iv p1, iv 2, rv as_EQUAL, rv as_EQUAL, rv as_EQUAL, .unset] [(.int 2)])) t := by
    intro t k
    refine XS.iconst X8.here hx rfl (hb hby at_34) ?_
    show Steps p.tables e below (T8.setTop (mkF m 35 #[iv p0, iv p1, iv 2, rv as_EQUAL, rv as_EQUAL, rv as_EQUAL, .unset] [(.int 1), (.int 2)])) _
    refine XS.isub X8.here hx rfl (hb hby at_35) rfl ?_
    show Steps p.tables e below (T8.setTop (mkF m 36 #[iv p0, iv p1, iv 2, rv as_EQUAL, rv as_EQUAL, rv as_EQUAL, .unset] [(.int 1)])) _
    refine XS.istore X8.here hx rfl (hb hby at_36) rfl (l' := #[iv p0, iv p1, iv 2, rv as_EQUAL, rv as_EQUAL, rv as_EQUAL, iv 1]) rfl ?_
    show Steps p.tables e below (T8.setTop (mkF m 38 #[iv p0, iv p1, iv 2, rv as_EQUAL, rv as_EQUAL, rv as_EQUAL, iv 1] [])) _
    refine XS.aload X8.here hx rfl (hb hby at_38) rfl rfl ?_
    show Steps p.tables e below (T8.setTop (mkF m 40 #[iv p0, iv p1, iv 2, rv as_EQUAL, rv as_EQUAL, rv as_EQUAL, iv 1] [(.ref as_EQUAL)])) _
    refine XS.aload X8.here hx rfl (hb hby at_40) rfl rfl ?_
    show Steps p.tables e below (T8.setTop (mkF m 42 #[iv p0, iv p1, iv 2, rv as_EQUAL, rv as_EQUAL, rv as_EQUAL, iv 1] [(.ref as_EQUAL), (.ref as_EQUAL)])) _
    refine Jvm.RoadKit.acmp (g := (mkF m 42 #[iv p0, iv p1, iv 2, rv as_EQUAL, rv as_EQUAL, rv as_EQUAL, iv 1] [(.ref as_EQUAL), (.ref as_EQUAL)])) X8 hx rfl rfl rfl (pc0 := 42) (pc' := 45) (same := true) rfl (hb hby at_42) rfl (decide_eq_true rfl) (by decide) (by decide) ?_
    show Steps p.tables e below (T8.setTop (mkF m 45 #[iv p0, iv p1, iv 2, rv as_EQUAL, rv as_EQUAL, rv as_EQUAL, iv 1] [])) _
    refine XS.aload X8.here hx rfl (hb hby at_45) rfl rfl ?_
    show Steps p.tables e below (T8.setTop (mkF m 47 #[iv p0, iv p1, iv 2, rv as_EQUAL, rv as_EQUAL, rv as_EQUAL, iv 1] [(.ref as_EQUAL)])) _
    refine XS.iload X8.here hx rfl (hb hby at_47) rfl ?_
    show Steps p.tables e below (T8.setTop (mkF m 49 #[iv p0, iv p1, iv 2, rv as_EQUAL, rv as_EQUAL, rv as_EQUAL, iv 1] [(.int 1), (.ref as_EQUAL)])) _
    refine XS.ineg X8.here hx rfl (hb hby at_49) rfl ?_
    show Steps p.tables e below (T8.setTop (mkF m 50 #[iv p0, iv p1, iv 2, rv as_EQUAL, rv as_EQUAL, rv as_EQUAL, iv 1] [(.int (-1)), (.ref as_EQUAL)])) _
    exact k
  refine own_lift sg10 ?_
  show own_Go p.tables e below (T8.setTop (mkF m 50 #[iv p0, iv p1, iv 2, rv as_EQUAL, rv as_EQUAL, rv as_EQUAL, iv 1] [(.int (-1)), (.ref as_EQUAL)])) _
  obtain ⟨cq11, kq11, q11a, q11b, q11c⟩ := isOf hZ e8 E_EQUAL
  obtain ⟨_, _, ⟨T11, Lx11, kx11, nx11⟩, -, X11, ⟨Lc11, hQ11, lx11, yx11, zx11⟩, st11⟩ := X8.virtualBack hx (y := (⟨"com/example/ophion/ophion/runtime/CompareOp", "holds", "(I)Z"⟩ : MethodName)) (z := (⟨"com/example/ophion/ophion/runtime/CompareOp", "holds", "(I)Z"⟩ : MethodName)) hown (mvT hZ (wd hw 28 rfl)) (mvT hZ (wd hw 29 rfl)) (notFace_of_selects (args := #[]) (mvT hZ (wd hw 31 rfl))) (mvT hZ (wd hw 31 rfl)) (mvT hZ (wd hw 30 rfl)) (by decide) (backOf (W := 0) (rmHolds2f l Z a0 hw [] as_EQUAL (-1 : Int32) h0 n0 Z0 O_EQUAL E_EQUAL (by decide : ¬ ((-1 : Int32) = (0 : Int32)))) hZ (wd hw 32 rfl) (wd hw 6 rfl) (by decide) (by decide)) q11a q11c (g := (mkF m 50 #[iv p0, iv p1, iv 2, rv as_EQUAL, rv as_EQUAL, rv as_EQUAL, iv 1] [(.int (-1)), (.ref as_EQUAL)])) rfl (by rw [hml]; rfl) (Steps.refl _) (argsL := [(.int (-1))]) (rest := []) (lenOf pd_4 rfl) rfl (by show 2 * 0 + _ ≤ _; exact Nat.le_of_eq rfl) (hb hby at_50) (fun _ _ => ⟨rfl, e8, (by decide : 0 + 0 ≤ _), (by decide : 0 + 0 ≤ _)⟩)
  dsimp only [Pt.U, Pt.locs, Pt.cells, Pt.slots] at X11 lx11 yx11 zx11 st11 hQ11
  subst lx11 yx11 zx11
  obtain ⟨rfl, N11q, e11⟩ := hQ11
  have N11 := Fr.app N8 N11q
  refine own_lift (fun t k => st11.trans k) ?_
  show own_Go p.tables e below (T11.setTop (mkF m 53 #[iv p0, iv p1, iv 2, rv as_EQUAL, rv as_EQUAL, rv as_EQUAL, iv 1] [(.int 0)])) _
  have sg12 : ∀ t, Steps p.tables e below (T11.setTop (mkF m 56 #[iv p0, iv p1, iv 2, rv as_EQUAL, rv as_EQUAL, rv as_EQUAL, iv 1] [(.int 1), (.ref as_EQUAL), (.int 0)])) t → Steps p.tables e below (T11.setTop (mkF m 53 #[iv p0, iv p1, iv 2, rv as_EQUAL, rv as_EQUAL, rv as_EQUAL, iv 1] [(.int 0)])) t := by
    intro t k
    refine XS.aloadN X11.here hx rfl (hb hby at_53) rfl rfl ?_
    show Steps p.tables e below (T11.setTop (mkF m 54 #[iv p0, iv p1, iv 2, rv as_EQUAL, rv as_EQUAL, rv as_EQUAL, iv 1] [(.ref as_EQUAL), (.int 0)])) _
    refine XS.iload X11.here hx rfl (hb hby at_54) rfl ?_
    show Steps p.tables e below (T11.setTop (mkF m 56 #[iv p0, iv p1, iv 2, rv as_EQUAL, rv as_EQUAL, rv as_EQUAL, iv 1] [(.int 1), (.ref as_EQUAL), (.int 0)])) _
    exact k
  refine own_lift sg12 ?_
  show own_Go p.tables e below (T11.setTop (mkF m 56 #[iv p0, iv p1, iv 2, rv as_EQUAL, rv as_EQUAL, rv as_EQUAL, iv 1] [(.int 1), (.ref as_EQUAL), (.int 0)])) _
  obtain ⟨cq13, kq13, q13a, q13b, q13c⟩ := isOf hZ e11 E_EQUAL
  obtain ⟨_, _, ⟨T13, Lx13, kx13, nx13⟩, -, X13, ⟨Lc13, hQ13, lx13, yx13, zx13⟩, st13⟩ := X11.virtualBack hx (y := (⟨"com/example/ophion/ophion/runtime/CompareOp", "holds", "(I)Z"⟩ : MethodName)) (z := (⟨"com/example/ophion/ophion/runtime/CompareOp", "holds", "(I)Z"⟩ : MethodName)) hown (mvT hZ (wd hw 28 rfl)) (mvT hZ (wd hw 29 rfl)) (notFace_of_selects (args := #[]) (mvT hZ (wd hw 31 rfl))) (mvT hZ (wd hw 31 rfl)) (mvT hZ (wd hw 30 rfl)) (by decide) (backOf (W := 1) (rmHolds2f l Z a0 hw [] as_EQUAL (1 : Int32) h0 n0 Z0 O_EQUAL E_EQUAL (by decide : ¬ ((1 : Int32) = (0 : Int32)))) hZ (wd hw 32 rfl) (wd hw 6 rfl) (by decide) (by decide)) q13a q13c (g := (mkF m 56 #[iv p0, iv p1, iv 2, rv as_EQUAL, rv as_EQUAL, rv as_EQUAL, iv 1] [(.int 1), (.ref as_EQUAL), (.int 0)])) rfl (by rw [hml]; rfl) (Steps.refl _) (argsL := [(.int 1)]) (rest := [(.int 0)]) (lenOf pd_4 rfl) rfl (by show 2 * 0 + _ ≤ _; exact Nat.le_of_eq rfl) (hb hby at_56) (fun _ _ => ⟨rfl, e11, (by decide : 0 + 0 ≤ _), (by decide : 0 + 0 ≤ _)⟩)
  dsimp only [Pt.U, Pt.locs, Pt.cells, Pt.slots] at X13 lx13 yx13 zx13 st13 hQ13
  subst lx13 yx13 zx13
  obtain ⟨rfl, N13q, e13⟩ := hQ13
  have N13 := Fr.app N11 N13q
  refine own_lift (fun t k => st13.trans k) ?_
  show own_Go p.tables e below (T13.setTop (mkF m 59 #[iv p0, iv p1, iv 2, rv as_EQUAL, rv as_EQUAL, rv as_EQUAL, iv 1] [(.int 0), (.int 0)])) _
  have sg14 : ∀ t, Steps p.tables e below (T13.setTop (mkF m 67 #[iv p0, iv p1, iv 2, rv as_EQUAL, rv as_EQUAL, rv as_EQUAL, iv 1] [(.int 1)])) t → Steps p.tables e below (T13.setTop (mkF m 59 #[iv p0, iv p1, iv 2, rv as_EQUAL, rv as_EQUAL, rv as_EQUAL, iv 1] [(.int 0), (.int 0)])) t := by
    intro t k
    refine XS.icmpNo X13.here hx rfl (hb hby at_59) rfl (teq (by decide : (0 : Int32) = (0 : Int32))).2 ?_
    show Steps p.tables e below (T13.setTop (mkF m 62 #[iv p0, iv p1, iv 2, rv as_EQUAL, rv as_EQUAL, rv as_EQUAL, iv 1] [])) _
    refine XS.iconst X13.here hx rfl (hb hby at_62) ?_
    show Steps p.tables e below (T13.setTop (mkF m 63 #[iv p0, iv p1, iv 2, rv as_EQUAL, rv as_EQUAL, rv as_EQUAL, iv 1] [(.int 1)])) _
    refine XS.goto X13.here hx rfl (pc0 := 63) (pc' := 67) rfl (hb hby at_63) (by decide) (by decide) ?_
    show Steps p.tables e below (T13.setTop (mkF m 67 #[iv p0, iv p1, iv 2, rv as_EQUAL, rv as_EQUAL, rv as_EQUAL, iv 1] [(.int 1)])) _
    exact k
  refine own_lift sg14 ?_
  show own_Go p.tables e below (T13.setTop (mkF m 67 #[iv p0, iv p1, iv 2, rv as_EQUAL, rv as_EQUAL, rv as_EQUAL, iv 1] [(.int 1)])) _
  obtain ⟨fs, hr, hrun, hended, hW, hsame⟩ := X13.leave (v := some (.int 1)) (fun h => by rw [Bd.returns] at h; cases h)
  refine ⟨_, _, ?_, hrun, hended, _, _, rfl, ?_, ⟨_, rfl⟩, hW, hsame.mono (by decide) (by decide)⟩
  · exact retN X13 hx (t := .boolean) Bd.returns (by simp) (hb hby at_67) hr
  · show Q0 Z  h0 n0 _ T13.heap _
    rw [e13]
    exact ⟨rfl, N13⟩
theorem ef_rm0_30 (m : MethodId) (x0 : Int32) (x1 : Int32) : entryFrame m #[(.int x0), (.int x1)] maxLocals = mkF m 0 #[.val (.int x0), .val (.int x1), .unset, .unset, .unset, .unset, .unset] [] := by first | (simp [entryFrame, mkF, argsToLocals, Value.category, maxLocals]; done) | rfl
set_option maxRecDepth 65536 in
set_option maxHeartbeats 40000000 in
theorem rm0_30 (l : Launch) (Z : State) (a0 : Array Value) (hw : ∀ d ∈ tables_1, d.before a0 Z = true) (ws : List Jvm.Cond) (p0 : Int32) (p1 : Int32) (as_LESS : Addr) (as_GREATER : Addr) (as_EQUAL : Addr) (as_LESS_EQUAL : Addr) (as_GREATER_EQUAL : Addr) (as_NOT_EQUAL : Addr) (h0 : Heap) (n0 : Nat) (Z0 : n0 ≤ h0.size) (S_LESS : Sta Z h0 "com/example/ophion/ophion/runtime/CompareOp" "LESS" "Lcom/example/ophion/ophion/runtime/CompareOp;" (.ref as_LESS)) (E_LESS : Exa Z h0 as_LESS "com/example/ophion/ophion/runtime/CompareOp") (O_LESS : Fld Z h0 as_LESS "java/lang/Enum" "ordinal" "I" (.int 0)) (S_GREATER : Sta Z h0 "com/example/ophion/ophion/runtime/CompareOp" "GREATER" "Lcom/example/ophion/ophion/runtime/CompareOp;" (.ref as_GREATER)) (E_GREATER : Exa Z h0 as_GREATER "com/example/ophion/ophion/runtime/CompareOp") (O_GREATER : Fld Z h0 as_GREATER "java/lang/Enum" "ordinal" "I" (.int 4)) (S_EQUAL : Sta Z h0 "com/example/ophion/ophion/runtime/CompareOp" "EQUAL" "Lcom/example/ophion/ophion/runtime/CompareOp;" (.ref as_EQUAL)) (E_EQUAL : Exa Z h0 as_EQUAL "com/example/ophion/ophion/runtime/CompareOp") (O_EQUAL : Fld Z h0 as_EQUAL "java/lang/Enum" "ordinal" "I" (.int 2)) (S_LESS_EQUAL : Sta Z h0 "com/example/ophion/ophion/runtime/CompareOp" "LESS_EQUAL" "Lcom/example/ophion/ophion/runtime/CompareOp;" (.ref as_LESS_EQUAL)) (E_LESS_EQUAL : Exa Z h0 as_LESS_EQUAL "com/example/ophion/ophion/runtime/CompareOp") (O_LESS_EQUAL : Fld Z h0 as_LESS_EQUAL "java/lang/Enum" "ordinal" "I" (.int 1)) (S_GREATER_EQUAL : Sta Z h0 "com/example/ophion/ophion/runtime/CompareOp" "GREATER_EQUAL" "Lcom/example/ophion/ophion/runtime/CompareOp;" (.ref as_GREATER_EQUAL)) (E_GREATER_EQUAL : Exa Z h0 as_GREATER_EQUAL "com/example/ophion/ophion/runtime/CompareOp") (O_GREATER_EQUAL : Fld Z h0 as_GREATER_EQUAL "java/lang/Enum" "ordinal" "I" (.int 5)) (S_NOT_EQUAL : Sta Z h0 "com/example/ophion/ophion/runtime/CompareOp" "NOT_EQUAL" "Lcom/example/ophion/ophion/runtime/CompareOp;" (.ref as_NOT_EQUAL)) (E_NOT_EQUAL : Exa Z h0 as_NOT_EQUAL "com/example/ophion/ophion/runtime/CompareOp") (O_NOT_EQUAL : Fld Z h0 as_NOT_EQUAL "java/lang/Enum" "ordinal" "I" (.int 3)) (hk : ((p0 &&& (2147483647 : Int32)) % (6 : Int32)) = (3 : Int32)) (hs : ((p1 &&& (2147483647 : Int32)) % (3 : Int32)) = (0 : Int32)) :
    MetFree l x (head1 (Jvm.Cond.code x code maxLocals ret :: ws) room_1) (fun a U => a = #[(.int p0), (.int p1)] ∧ Z.Warmed39 U.vm ∧ U.heap = h0) (fun _ _ _ _ _ => True) (fun _ U o U' => ∃ v L, o = .returned v ∧ Q0 Z  h0 n0 v U'.heap L ∧ FrameEnd U o U' L 0 0) := by
  refine MetFree.of_bodySF (plainFor_of_name pn_2) hisR ?_
  intro p e s m args below meth c s₁ Bd hml0 hP hK
  obtain ⟨rfl, hZ, hh⟩ := hP
  have hx := Bd.exec
  have hby := Bd.bytes
  have hml : c.maxLocals = 7 := hml0
  have hown : s.vm.findClass "com/example/ophion/ophion/runtime/CompareOpSwappedPinLaw" = some m.cls := findClass_of_methodNamed Bd.named
  have hnm := (name_of_methodNamed Bd.named Bd.method).1
  have X0 : Stand p l e room_1 s m #[(.int p0), (.int p1)] below meth c s₁ [] 0 0 := Stand.of_body Bd
  have e0 : s₁.heap = h0 := by rw [← hh, Bd.state]; rfl
  have N0 := Fr.nil n0
  refine own_go (own_lift (fun t k => castTop (ef_rm0_30 m p0 p1) k) ?_)
  show own_Go p.tables e below (s₁.setTop (mkF m 0 #[iv p0, iv p1, .unset, .unset, .unset, .unset, .unset] [])) _
  have sg1 : ∀ t, Steps p.tables e below (s₁.setTop (mkF m 7 #[iv p0, iv p1, .unset, .unset, .unset, .unset, .unset] [(.int ((p0 &&& (2147483647 : Int32)) % (6 : Int32)))])) t → Steps p.tables e below (s₁.setTop (mkF m 0 #[iv p0, iv p1, .unset, .unset, .unset, .unset, .unset] [])) t := by
    intro t k
    refine XS.iloadN X0.here hx rfl (hb hby at_0) rfl ?_
    show Steps p.tables e below (s₁.setTop (mkF m 1 #[iv p0, iv p1, .unset, .unset, .unset, .unset, .unset] [(.int p0)])) _
    refine X0.ldcInt hx hown (mvT hZ (wd hw 0 rfl)) (g := (mkF m 1 #[iv p0, iv p1, .unset, .unset, .unset, .unset, .unset] [(.int p0)])) rfl (hb hby at_1) _ ?_
    show Steps p.tables e below (s₁.setTop (mkF m 3 #[iv p0, iv p1, .unset, .unset, .unset, .unset, .unset] [(.int 2147483647), (.int p0)])) _
    refine XS.iand X0.here hx rfl (hb hby at_3) rfl ?_
    show Steps p.tables e below (s₁.setTop (mkF m 4 #[iv p0, iv p1, .unset, .unset, .unset, .unset, .unset] [(.int (p0 &&& (2147483647 : Int32)))])) _
    refine XS.bipush X0.here hx rfl (hb hby at_4) ?_
    show Steps p.tables e below (s₁.setTop (mkF m 6 #[iv p0, iv p1, .unset, .unset, .unset, .unset, .unset] [(.int 6), (.int (p0 &&& (2147483647 : Int32)))])) _
    refine iremM X0 hx rfl (hb hby at_6) rfl (by decide) ?_
    show Steps p.tables e below (s₁.setTop (mkF m 7 #[iv p0, iv p1, .unset, .unset, .unset, .unset, .unset] [(.int ((p0 &&& (2147483647 : Int32)) % (6 : Int32)))])) _
    exact k
  refine own_lift sg1 ?_
  show own_Go p.tables e below (s₁.setTop (mkF m 7 #[iv p0, iv p1, .unset, .unset, .unset, .unset, .unset] [(.int ((p0 &&& (2147483647 : Int32)) % (6 : Int32)))])) _
  rw [hk]
  show own_Go p.tables e below (s₁.setTop (mkF m 7 #[iv p0, iv p1, .unset, .unset, .unset, .unset, .unset] [(.int 3)])) _
  have sg2 : ∀ t, Steps p.tables e below (s₁.setTop (mkF m 9 #[iv p0, iv p1, iv 3, .unset, .unset, .unset, .unset] [(.int 3)])) t → Steps p.tables e below (s₁.setTop (mkF m 7 #[iv p0, iv p1, .unset, .unset, .unset, .unset, .unset] [(.int 3)])) t := by
    intro t k
    refine XS.istoreN X0.here hx rfl (hb hby at_7) rfl (l' := #[iv p0, iv p1, iv 3, .unset, .unset, .unset, .unset]) rfl ?_
    show Steps p.tables e below (s₁.setTop (mkF m 8 #[iv p0, iv p1, iv 3, .unset, .unset, .unset, .unset] [])) _
    refine XS.iloadN X0.here hx rfl (hb hby at_8) rfl ?_
    show Steps p.tables e below (s₁.setTop (mkF m 9 #[iv p0, iv p1, iv 3, .unset, .unset, .unset, .unset] [(.int 3)])) _
    exact k
  refine own_lift sg2 ?_
  show own_Go p.tables e below (s₁.setTop (mkF m 9 #[iv p0, iv p1, iv 3, .unset, .unset, .unset, .unset] [(.int 3)])) _
  obtain ⟨_, _, ⟨T3, Lx3, kx3, nx3⟩, -, X3, ⟨Lc3, hQ3, lx3, yx3, zx3⟩, st3⟩ := Jvm.LawKit.callS X0 hx (y := (⟨"com/example/ophion/ophion/runtime/CompareOpSwappedPinLaw", "pick", "(I)Lcom/example/ophion/ophion/runtime/CompareOp;"⟩ : MethodName)) hown (mvT hZ (wd hw 1 rfl)) (mvT hZ (wd hw 2 rfl)) (mvT hZ (wd hw 3 rfl)) (mvT hZ (wd hw 4 rfl)) (by decide) (backOf (W := 0) (rmPick3 l Z a0 hw [] (3 : Int32) as_NOT_EQUAL h0 n0 Z0 S_NOT_EQUAL (by decide : ¬ ((3 : Int32) = (0 : Int32))) (by decide : ¬ ((3 : Int32) = (1 : Int32))) (by decide : ¬ ((3 : Int32) = (2 : Int32))) (by decide : (3 : Int32) = (3 : Int32))) hZ (wd hw 4 rfl) (wd hw 3 rfl) (by decide) (by decide)) (g := (mkF m 9 #[iv p0, iv p1, iv 3, .unset, .unset, .unset, .unset] [(.int 3)])) rfl (by rw [hml]; rfl) (argsL := [(.int 3)]) (rest := []) (lenOf pd_1 rfl) rfl (by show 2 * 0 + _ ≤ _; exact Nat.le_of_eq rfl) (hb hby at_9) (fun _ _ => ⟨rfl, e0, (by decide : 0 + 0 ≤ _), (by decide : 0 + 0 ≤ _)⟩)
  dsimp only [Pt.U, Pt.locs, Pt.cells, Pt.slots] at X3 lx3 yx3 zx3 st3 hQ3
  subst lx3 yx3 zx3
  obtain ⟨rfl, N3q, e3⟩ := hQ3
  have N3 := Fr.app N0 N3q
  refine own_lift st3 ?_
  show own_Go p.tables e below (T3.setTop (mkF m 12 #[iv p0, iv p1, iv 3, .unset, .unset, .unset, .unset] [(.ref as_NOT_EQUAL)])) _
  have sg4 : ∀ t, Steps p.tables e below (T3.setTop (mkF m 14 #[iv p0, iv p1, iv 3, rv as_NOT_EQUAL, .unset, .unset, .unset] [(.int 3)])) t → Steps p.tables e below (T3.setTop (mkF m 12 #[iv p0, iv p1, iv 3, .unset, .unset, .unset, .unset] [(.ref as_NOT_EQUAL)])) t := by
    intro t k
    refine XS.astoreN X3.here hx rfl (hb hby at_12) rfl rfl (l' := #[iv p0, iv p1, iv 3, rv as_NOT_EQUAL, .unset, .unset, .unset]) rfl ?_
    show Steps p.tables e below (T3.setTop (mkF m 13 #[iv p0, iv p1, iv 3, rv as_NOT_EQUAL, .unset, .unset, .unset] [])) _
    refine XS.iloadN X3.here hx rfl (hb hby at_13) rfl ?_
    show Steps p.tables e below (T3.setTop (mkF m 14 #[iv p0, iv p1, iv 3, rv as_NOT_EQUAL, .unset, .unset, .unset] [(.int 3)])) _
    exact k
  refine own_lift sg4 ?_
  show own_Go p.tables e below (T3.setTop (mkF m 14 #[iv p0, iv p1, iv 3, rv as_NOT_EQUAL, .unset, .unset, .unset] [(.int 3)])) _
  obtain ⟨_, _, ⟨T5, Lx5, kx5, nx5⟩, -, X5, ⟨Lc5, hQ5, lx5, yx5, zx5⟩, st5⟩ := Jvm.LawKit.callS X3 hx (y := (⟨"com/example/ophion/ophion/runtime/CompareOpSwappedPinLaw", "mirror", "(I)I"⟩ : MethodName)) hown (mvT hZ (wd hw 8 rfl)) (mvT hZ (wd hw 9 rfl)) (mvT hZ (wd hw 3 rfl)) (mvT hZ (wd hw 10 rfl)) (by decide) (backOf (W := 0) (rmMirD l Z a0 hw [] (3 : Int32) h0 n0 Z0 (by decide : ¬ ((3 : Int32) = (0 : Int32))) (by decide : ¬ ((3 : Int32) = (1 : Int32))) (by decide : ¬ ((3 : Int32) = (4 : Int32))) (by decide : ¬ ((3 : Int32) = (5 : Int32)))) hZ (wd hw 10 rfl) (wd hw 3 rfl) (by decide) (by decide)) (g := (mkF m 14 #[iv p0, iv p1, iv 3, rv as_NOT_EQUAL, .unset, .unset, .unset] [(.int 3)])) rfl (by rw [hml]; rfl) (argsL := [(.int 3)]) (rest := []) (lenOf pd_2 rfl) rfl (by show 2 * 0 + _ ≤ _; exact Nat.le_of_eq rfl) (hb hby at_14) (fun _ _ => ⟨rfl, e3, (by decide : 0 + 0 ≤ _), (by decide : 0 + 0 ≤ _)⟩)
  dsimp only [Pt.U, Pt.locs, Pt.cells, Pt.slots] at X5 lx5 yx5 zx5 st5 hQ5
  subst lx5 yx5 zx5
  obtain ⟨rfl, N5q, e5⟩ := hQ5
  have N5 := Fr.app N3 N5q
  refine own_lift st5 ?_
  show own_Go p.tables e below (T5.setTop (mkF m 17 #[iv p0, iv p1, iv 3, rv as_NOT_EQUAL, .unset, .unset, .unset] [(.int 3)])) _
  obtain ⟨_, _, ⟨T6, Lx6, kx6, nx6⟩, -, X6, ⟨Lc6, hQ6, lx6, yx6, zx6⟩, st6⟩ := Jvm.LawKit.callS X5 hx (y := (⟨"com/example/ophion/ophion/runtime/CompareOpSwappedPinLaw", "pick", "(I)Lcom/example/ophion/ophion/runtime/CompareOp;"⟩ : MethodName)) hown (mvT hZ (wd hw 1 rfl)) (mvT hZ (wd hw 2 rfl)) (mvT hZ (wd hw 3 rfl)) (mvT hZ (wd hw 4 rfl)) (by decide) (backOf (W := 0) (rmPick3 l Z a0 hw [] (3 : Int32) as_NOT_EQUAL h0 n0 Z0 S_NOT_EQUAL (by decide : ¬ ((3 : Int32) = (0 : Int32))) (by decide : ¬ ((3 : Int32) = (1 : Int32))) (by decide : ¬ ((3 : Int32) = (2 : Int32))) (by decide : (3 : Int32) = (3 : Int32))) hZ (wd hw 4 rfl) (wd hw 3 rfl) (by decide) (by decide)) (g := (mkF m 17 #[iv p0, iv p1, iv 3, rv as_NOT_EQUAL, .unset, .unset, .unset] [(.int 3)])) rfl (by rw [hml]; rfl) (argsL := [(.int 3)]) (rest := []) (lenOf pd_1 rfl) rfl (by show 2 * 0 + _ ≤ _; exact Nat.le_of_eq rfl) (hb hby at_17) (fun _ _ => ⟨rfl, e5, (by decide : 0 + 0 ≤ _), (by decide : 0 + 0 ≤ _)⟩)
  dsimp only [Pt.U, Pt.locs, Pt.cells, Pt.slots] at X6 lx6 yx6 zx6 st6 hQ6
  subst lx6 yx6 zx6
  obtain ⟨rfl, N6q, e6⟩ := hQ6
  have N6 := Fr.app N5 N6q
  refine own_lift st6 ?_
  show own_Go p.tables e below (T6.setTop (mkF m 20 #[iv p0, iv p1, iv 3, rv as_NOT_EQUAL, .unset, .unset, .unset] [(.ref as_NOT_EQUAL)])) _
  have sg7 : ∀ t, Steps p.tables e below (T6.setTop (mkF m 23 #[iv p0, iv p1, iv 3, rv as_NOT_EQUAL, rv as_NOT_EQUAL, .unset, .unset] [(.ref as_NOT_EQUAL)])) t → Steps p.tables e below (T6.setTop (mkF m 20 #[iv p0, iv p1, iv 3, rv as_NOT_EQUAL, .unset, .unset, .unset] [(.ref as_NOT_EQUAL)])) t := by
    intro t k
    refine XS.astore X6.here hx rfl (hb hby at_20) rfl rfl (l' := #[iv p0, iv p1, iv 3, rv as_NOT_EQUAL, rv as_NOT_EQUAL, .unset, .unset]) rfl ?_
    show Steps p.tables e below (T6.setTop (mkF m 22 #[iv p0, iv p1, iv 3, rv as_NOT_EQUAL, rv as_NOT_EQUAL, .unset, .unset] [])) _
    refine XS.aloadN X6.here hx rfl (hb hby at_22) rfl rfl ?_
    show Steps p.tables e below (T6.setTop (mkF m 23 #[iv p0, iv p1, iv 3, rv as_NOT_EQUAL, rv as_NOT_EQUAL, .unset, .unset] [(.ref as_NOT_EQUAL)])) _
    exact k
  refine own_lift sg7 ?_
  show own_Go p.tables e below (T6.setTop (mkF m 23 #[iv p0, iv p1, iv 3, rv as_NOT_EQUAL, rv as_NOT_EQUAL, .unset, .unset] [(.ref as_NOT_EQUAL)])) _
  obtain ⟨cq8, kq8, q8a, q8b, q8c⟩ := isOf hZ e6 E_NOT_EQUAL
  obtain ⟨_, _, ⟨T8, Lx8, kx8, nx8⟩, -, X8, ⟨Lc8, hQ8, lx8, yx8, zx8⟩, st8⟩ := X6.virtualBack hx (y := (⟨"com/example/ophion/ophion/runtime/CompareOp", "swapped", "()Lcom/example/ophion/ophion/runtime/CompareOp;"⟩ : MethodName)) (z := (⟨"com/example/ophion/ophion/runtime/CompareOp", "swapped", "()Lcom/example/ophion/ophion/runtime/CompareOp;"⟩ : MethodName)) hown (mvT hZ (wd hw 13 rfl)) (mvT hZ (wd hw 14 rfl)) (notFace_of_selects (args := #[]) (mvT hZ (wd hw 16 rfl))) (mvT hZ (wd hw 16 rfl)) (mvT hZ (wd hw 15 rfl)) (by decide) (backOf (W := 0) (rmSw3 l Z a0 hw [] as_NOT_EQUAL h0 n0 Z0 O_NOT_EQUAL E_NOT_EQUAL) hZ (wd hw 17 rfl) (wd hw 6 rfl) (by decide) (by decide)) q8a q8c (g := (mkF m 23 #[iv p0, iv p1, iv 3, rv as_NOT_EQUAL, rv as_NOT_EQUAL, .unset, .unset] [(.ref as_NOT_EQUAL)])) rfl (by rw [hml]; rfl) (Steps.refl _) (argsL := []) (rest := []) (lenOf pd_3 rfl) rfl (by show 2 * 0 + _ ≤ _; exact Nat.le_of_eq rfl) (hb hby at_23) (fun _ _ => ⟨rfl, e6, (by decide : 0 + 0 ≤ _), (by decide : 0 + 0 ≤ _)⟩)
  dsimp only [Pt.U, Pt.locs, Pt.cells, Pt.slots] at X8 lx8 yx8 zx8 st8 hQ8
  subst lx8 yx8 zx8
  obtain ⟨rfl, N8q, e8⟩ := hQ8
  have N8 := Fr.app N6 N8q
  refine own_lift (fun t k => st8.trans k) ?_
  show own_Go p.tables e below (T8.setTop (mkF m 26 #[iv p0, iv p1, iv 3, rv as_NOT_EQUAL, rv as_NOT_EQUAL, .unset, .unset] [(.ref as_NOT_EQUAL)])) _
  have sg9 : ∀ t, Steps p.tables e below (T8.setTop (mkF m 34 #[iv p0, iv p1, iv 3, rv as_NOT_EQUAL, rv as_NOT_EQUAL, rv as_NOT_EQUAL, .unset] [(.int ((p1 &&& (2147483647 : Int32)) % (3 : Int32)))])) t → Steps p.tables e below (T8.setTop (mkF m 26 #[iv p0, iv p1, iv 3, rv as_NOT_EQUAL, rv as_NOT_EQUAL, .unset, .unset] [(.ref as_NOT_EQUAL)])) t := by
    intro t k
    refine XS.astore X8.here hx rfl (hb hby at_26) rfl rfl (l' := #[iv p0, iv p1, iv 3, rv as_NOT_EQUAL, rv as_NOT_EQUAL, rv as_NOT_EQUAL, .unset]) rfl ?_
    show Steps p.tables e below (T8.setTop (mkF m 28 #[iv p0, iv p1, iv 3, rv as_NOT_EQUAL, rv as_NOT_EQUAL, rv as_NOT_EQUAL, .unset] [])) _
    refine XS.iloadN X8.here hx rfl (hb hby at_28) rfl ?_
    show Steps p.tables e below (T8.setTop (mkF m 29 #[iv p0, iv p1, iv 3, rv as_NOT_EQUAL, rv as_NOT_EQUAL, rv as_NOT_EQUAL, .unset] [(.int p1)])) _
    refine X8.ldcInt hx hown (mvT hZ (wd hw 0 rfl)) (g := (mkF m 29 #[iv p0, iv p1, iv 3, rv as_NOT_EQUAL, rv as_NOT_EQUAL, rv as_NOT_EQUAL, .unset] [(.int p1)])) rfl (hb hby at_29) _ ?_
    show Steps p.tables e below (T8.setTop (mkF m 31 #[iv p0, iv p1, iv 3, rv as_NOT_EQUAL, rv as_NOT_EQUAL, rv as_NOT_EQUAL, .unset] [(.int 2147483647), (.int p1)])) _
    refine XS.iand X8.here hx rfl (hb hby at_31) rfl ?_
    show Steps p.tables e below (T8.setTop (mkF m 32 #[iv p0, iv p1, iv 3, rv as_NOT_EQUAL, rv as_NOT_EQUAL, rv as_NOT_EQUAL, .unset] [(.int (p1 &&& (2147483647 : Int32)))])) _
    refine XS.iconst X8.here hx rfl (hb hby at_32) ?_
    show Steps p.tables e below (T8.setTop (mkF m 33 #[iv p0, iv p1, iv 3, rv as_NOT_EQUAL, rv as_NOT_EQUAL, rv as_NOT_EQUAL, .unset] [(.int 3), (.int (p1 &&& (2147483647 : Int32)))])) _
    refine iremM X8 hx rfl (hb hby at_33) rfl (by decide) ?_
    show Steps p.tables e below (T8.setTop (mkF m 34 #[iv p0, iv p1, iv 3, rv as_NOT_EQUAL, rv as_NOT_EQUAL, rv as_NOT_EQUAL, .unset] [(.int ((p1 &&& (2147483647 : Int32)) % (3 : Int32)))])) _
    exact k
  refine own_lift sg9 ?_
  show own_Go p.tables e below (T8.setTop (mkF m 34 #[iv p0, iv p1, iv 3, rv as_NOT_EQUAL, rv as_NOT_EQUAL, rv as_NOT_EQUAL, .unset] [(.int ((p1 &&& (2147483647 : Int32)) % (3 : Int32)))])) _
  rw [hs]
  show own_Go p.tables e below (T8.setTop (mkF m 34 #[iv p0, iv p1, iv 3, rv as_NOT_EQUAL, rv as_NOT_EQUAL, rv as_NOT_EQUAL, .unset] [(.int 0)])) _
  have sg10 : ∀ t, Steps p.tables e below (T8.setTop (mkF m 50 #[iv p0, iv p1, iv 3, rv as_NOT_EQUAL, rv as_NOT_EQUAL, rv as_NOT_EQUAL, iv (-1)] [(.int 1), (.ref as_NOT_EQUAL)])) t → Steps p.tables e below (T8.setTop (mkF m 34 #[iv p0, iv p1, iv 3, rv as_NOT_EQUAL, rv as_NOT_EQUAL, rv as_NOT_EQUAL, .unset] [(.int 0)])) t := by
    intro t k
    refine XS.iconst X8.here hx rfl (hb hby at_34) ?_
    show Steps p.tables e below (T8.setTop (mkF m 35 #[iv p0, iv p1, iv 3, rv as_NOT_EQUAL, rv as_NOT_EQUAL, rv as_NOT_EQUAL, .unset] [(.int 1), (.int 0)])) _
    refine XS.isub X8.here hx rfl (hb hby at_35) rfl ?_
    show Steps p.tables e below (T8.setTop (mkF m 36 #[iv p0, iv p1, iv 3, rv as_NOT_EQUAL, rv as_NOT_EQUAL, rv as_NOT_EQUAL, .unset] [(.int (-1))])) _
    refine XS.istore X8.here hx rfl (hb hby at_36) rfl (l' := #[iv p0, iv p1, iv 3, rv as_NOT_EQUAL, rv as_NOT_EQUAL, rv as_NOT_EQUAL, iv (-1)]) rfl ?_
    show Steps p.tables e below (T8.setTop (mkF m 38 #[iv p0, iv p1, iv 3, rv as_NOT_EQUAL, rv as_NOT_EQUAL, rv as_NOT_EQUAL, iv (-1)] [])) _
    refine XS.aload X8.here hx rfl (hb hby at_38) rfl rfl ?_
    show Steps p.tables e below (T8.setTop (mkF m 40 #[iv p0, iv p1, iv 3, rv as_NOT_EQUAL, rv as_NOT_EQUAL, rv as_NOT_EQUAL, iv (-1)] [(.ref as_NOT_EQUAL)])) _
    refine XS.aload X8.here hx rfl (hb hby at_40) rfl rfl ?_
    show Steps p.tables e below (T8.setTop (mkF m 42 #[iv p0, iv p1, iv 3, rv as_NOT_EQUAL, rv as_NOT_EQUAL, rv as_NOT_EQUAL, iv (-1)] [(.ref as_NOT_EQUAL), (.ref as_NOT_EQUAL)])) _
    refine Jvm.RoadKit.acmp (g := (mkF m 42 #[iv p0, iv p1, iv 3, rv as_NOT_EQUAL, rv as_NOT_EQUAL, rv as_NOT_EQUAL, iv (-1)] [(.ref as_NOT_EQUAL), (.ref as_NOT_EQUAL)])) X8 hx rfl rfl rfl (pc0 := 42) (pc' := 45) (same := true) rfl (hb hby at_42) rfl (decide_eq_true rfl) (by decide) (by decide) ?_
    show Steps p.tables e below (T8.setTop (mkF m 45 #[iv p0, iv p1, iv 3, rv as_NOT_EQUAL, rv as_NOT_EQUAL, rv as_NOT_EQUAL, iv (-1)] [])) _
    refine XS.aload X8.here hx rfl (hb hby at_45) rfl rfl ?_
    show Steps p.tables e below (T8.setTop (mkF m 47 #[iv p0, iv p1, iv 3, rv as_NOT_EQUAL, rv as_NOT_EQUAL, rv as_NOT_EQUAL, iv (-1)] [(.ref as_NOT_EQUAL)])) _
    refine XS.iload X8.here hx rfl (hb hby at_47) rfl ?_
    show Steps p.tables e below (T8.setTop (mkF m 49 #[iv p0, iv p1, iv 3, rv as_NOT_EQUAL, rv as_NOT_EQUAL, rv as_NOT_EQUAL, iv (-1)] [(.int (-1)), (.ref as_NOT_EQUAL)])) _
    refine XS.ineg X8.here hx rfl (hb hby at_49) rfl ?_
    show Steps p.tables e below (T8.setTop (mkF m 50 #[iv p0, iv p1, iv 3, rv as_NOT_EQUAL, rv as_NOT_EQUAL, rv as_NOT_EQUAL, iv (-1)] [(.int 1), (.ref as_NOT_EQUAL)])) _
    exact k
  refine own_lift sg10 ?_
  show own_Go p.tables e below (T8.setTop (mkF m 50 #[iv p0, iv p1, iv 3, rv as_NOT_EQUAL, rv as_NOT_EQUAL, rv as_NOT_EQUAL, iv (-1)] [(.int 1), (.ref as_NOT_EQUAL)])) _
  obtain ⟨cq11, kq11, q11a, q11b, q11c⟩ := isOf hZ e8 E_NOT_EQUAL
  obtain ⟨_, _, ⟨T11, Lx11, kx11, nx11⟩, -, X11, ⟨Lc11, hQ11, lx11, yx11, zx11⟩, st11⟩ := X8.virtualBack hx (y := (⟨"com/example/ophion/ophion/runtime/CompareOp", "holds", "(I)Z"⟩ : MethodName)) (z := (⟨"com/example/ophion/ophion/runtime/CompareOp", "holds", "(I)Z"⟩ : MethodName)) hown (mvT hZ (wd hw 28 rfl)) (mvT hZ (wd hw 29 rfl)) (notFace_of_selects (args := #[]) (mvT hZ (wd hw 31 rfl))) (mvT hZ (wd hw 31 rfl)) (mvT hZ (wd hw 30 rfl)) (by decide) (backOf (W := 0) (rmHolds3f l Z a0 hw [] as_NOT_EQUAL (1 : Int32) h0 n0 Z0 O_NOT_EQUAL E_NOT_EQUAL (by decide : ¬ ((1 : Int32) = (0 : Int32)))) hZ (wd hw 32 rfl) (wd hw 6 rfl) (by decide) (by decide)) q11a q11c (g := (mkF m 50 #[iv p0, iv p1, iv 3, rv as_NOT_EQUAL, rv as_NOT_EQUAL, rv as_NOT_EQUAL, iv (-1)] [(.int 1), (.ref as_NOT_EQUAL)])) rfl (by rw [hml]; rfl) (Steps.refl _) (argsL := [(.int 1)]) (rest := []) (lenOf pd_4 rfl) rfl (by show 2 * 0 + _ ≤ _; exact Nat.le_of_eq rfl) (hb hby at_50) (fun _ _ => ⟨rfl, e8, (by decide : 0 + 0 ≤ _), (by decide : 0 + 0 ≤ _)⟩)
  dsimp only [Pt.U, Pt.locs, Pt.cells, Pt.slots] at X11 lx11 yx11 zx11 st11 hQ11
  subst lx11 yx11 zx11
  obtain ⟨rfl, N11q, e11⟩ := hQ11
  have N11 := Fr.app N8 N11q
  refine own_lift (fun t k => st11.trans k) ?_
  show own_Go p.tables e below (T11.setTop (mkF m 53 #[iv p0, iv p1, iv 3, rv as_NOT_EQUAL, rv as_NOT_EQUAL, rv as_NOT_EQUAL, iv (-1)] [(.int 1)])) _
  have sg12 : ∀ t, Steps p.tables e below (T11.setTop (mkF m 56 #[iv p0, iv p1, iv 3, rv as_NOT_EQUAL, rv as_NOT_EQUAL, rv as_NOT_EQUAL, iv (-1)] [(.int (-1)), (.ref as_NOT_EQUAL), (.int 1)])) t → Steps p.tables e below (T11.setTop (mkF m 53 #[iv p0, iv p1, iv 3, rv as_NOT_EQUAL, rv as_NOT_EQUAL, rv as_NOT_EQUAL, iv (-1)] [(.int 1)])) t := by
    intro t k
    refine XS.aloadN X11.here hx rfl (hb hby at_53) rfl rfl ?_
    show Steps p.tables e below (T11.setTop (mkF m 54 #[iv p0, iv p1, iv 3, rv as_NOT_EQUAL, rv as_NOT_EQUAL, rv as_NOT_EQUAL, iv (-1)] [(.ref as_NOT_EQUAL), (.int 1)])) _
    refine XS.iload X11.here hx rfl (hb hby at_54) rfl ?_
    show Steps p.tables e below (T11.setTop (mkF m 56 #[iv p0, iv p1, iv 3, rv as_NOT_EQUAL, rv as_NOT_EQUAL, rv as_NOT_EQUAL, iv (-1)] [(.int (-1)), (.ref as_NOT_EQUAL), (.int 1)])) _
    exact k
  refine own_lift sg12 ?_
  show own_Go p.tables e below (T11.setTop (mkF m 56 #[iv p0, iv p1, iv 3, rv as_NOT_EQUAL, rv as_NOT_EQUAL, rv as_NOT_EQUAL, iv (-1)] [(.int (-1)), (.ref as_NOT_EQUAL), (.int 1)])) _
  obtain ⟨cq13, kq13, q13a, q13b, q13c⟩ := isOf hZ e11 E_NOT_EQUAL
  obtain ⟨_, _, ⟨T13, Lx13, kx13, nx13⟩, -, X13, ⟨Lc13, hQ13, lx13, yx13, zx13⟩, st13⟩ := X11.virtualBack hx (y := (⟨"com/example/ophion/ophion/runtime/CompareOp", "holds", "(I)Z"⟩ : MethodName)) (z := (⟨"com/example/ophion/ophion/runtime/CompareOp", "holds", "(I)Z"⟩ : MethodName)) hown (mvT hZ (wd hw 28 rfl)) (mvT hZ (wd hw 29 rfl)) (notFace_of_selects (args := #[]) (mvT hZ (wd hw 31 rfl))) (mvT hZ (wd hw 31 rfl)) (mvT hZ (wd hw 30 rfl)) (by decide) (backOf (W := 1) (rmHolds3f l Z a0 hw [] as_NOT_EQUAL (-1 : Int32) h0 n0 Z0 O_NOT_EQUAL E_NOT_EQUAL (by decide : ¬ ((-1 : Int32) = (0 : Int32)))) hZ (wd hw 32 rfl) (wd hw 6 rfl) (by decide) (by decide)) q13a q13c (g := (mkF m 56 #[iv p0, iv p1, iv 3, rv as_NOT_EQUAL, rv as_NOT_EQUAL, rv as_NOT_EQUAL, iv (-1)] [(.int (-1)), (.ref as_NOT_EQUAL), (.int 1)])) rfl (by rw [hml]; rfl) (Steps.refl _) (argsL := [(.int (-1))]) (rest := [(.int 1)]) (lenOf pd_4 rfl) rfl (by show 2 * 0 + _ ≤ _; exact Nat.le_of_eq rfl) (hb hby at_56) (fun _ _ => ⟨rfl, e11, (by decide : 0 + 0 ≤ _), (by decide : 0 + 0 ≤ _)⟩)
  dsimp only [Pt.U, Pt.locs, Pt.cells, Pt.slots] at X13 lx13 yx13 zx13 st13 hQ13
  subst lx13 yx13 zx13
  obtain ⟨rfl, N13q, e13⟩ := hQ13
  have N13 := Fr.app N11 N13q
  refine own_lift (fun t k => st13.trans k) ?_
  show own_Go p.tables e below (T13.setTop (mkF m 59 #[iv p0, iv p1, iv 3, rv as_NOT_EQUAL, rv as_NOT_EQUAL, rv as_NOT_EQUAL, iv (-1)] [(.int 1), (.int 1)])) _
  have sg14 : ∀ t, Steps p.tables e below (T13.setTop (mkF m 67 #[iv p0, iv p1, iv 3, rv as_NOT_EQUAL, rv as_NOT_EQUAL, rv as_NOT_EQUAL, iv (-1)] [(.int 1)])) t → Steps p.tables e below (T13.setTop (mkF m 59 #[iv p0, iv p1, iv 3, rv as_NOT_EQUAL, rv as_NOT_EQUAL, rv as_NOT_EQUAL, iv (-1)] [(.int 1), (.int 1)])) t := by
    intro t k
    refine XS.icmpNo X13.here hx rfl (hb hby at_59) rfl (teq (by decide : (1 : Int32) = (1 : Int32))).2 ?_
    show Steps p.tables e below (T13.setTop (mkF m 62 #[iv p0, iv p1, iv 3, rv as_NOT_EQUAL, rv as_NOT_EQUAL, rv as_NOT_EQUAL, iv (-1)] [])) _
    refine XS.iconst X13.here hx rfl (hb hby at_62) ?_
    show Steps p.tables e below (T13.setTop (mkF m 63 #[iv p0, iv p1, iv 3, rv as_NOT_EQUAL, rv as_NOT_EQUAL, rv as_NOT_EQUAL, iv (-1)] [(.int 1)])) _
    refine XS.goto X13.here hx rfl (pc0 := 63) (pc' := 67) rfl (hb hby at_63) (by decide) (by decide) ?_
    show Steps p.tables e below (T13.setTop (mkF m 67 #[iv p0, iv p1, iv 3, rv as_NOT_EQUAL, rv as_NOT_EQUAL, rv as_NOT_EQUAL, iv (-1)] [(.int 1)])) _
    exact k
  refine own_lift sg14 ?_
  show own_Go p.tables e below (T13.setTop (mkF m 67 #[iv p0, iv p1, iv 3, rv as_NOT_EQUAL, rv as_NOT_EQUAL, rv as_NOT_EQUAL, iv (-1)] [(.int 1)])) _
  obtain ⟨fs, hr, hrun, hended, hW, hsame⟩ := X13.leave (v := some (.int 1)) (fun h => by rw [Bd.returns] at h; cases h)
  refine ⟨_, _, ?_, hrun, hended, _, _, rfl, ?_, ⟨_, rfl⟩, hW, hsame.mono (by decide) (by decide)⟩
  · exact retN X13 hx (t := .boolean) Bd.returns (by simp) (hb hby at_67) hr
  · show Q0 Z  h0 n0 _ T13.heap _
    rw [e13]
    exact ⟨rfl, N13⟩
theorem ef_rm0_31 (m : MethodId) (x0 : Int32) (x1 : Int32) : entryFrame m #[(.int x0), (.int x1)] maxLocals = mkF m 0 #[.val (.int x0), .val (.int x1), .unset, .unset, .unset, .unset, .unset] [] := by first | (simp [entryFrame, mkF, argsToLocals, Value.category, maxLocals]; done) | rfl
set_option maxRecDepth 65536 in
set_option maxHeartbeats 40000000 in
theorem rm0_31 (l : Launch) (Z : State) (a0 : Array Value) (hw : ∀ d ∈ tables_1, d.before a0 Z = true) (ws : List Jvm.Cond) (p0 : Int32) (p1 : Int32) (as_LESS : Addr) (as_GREATER : Addr) (as_EQUAL : Addr) (as_LESS_EQUAL : Addr) (as_GREATER_EQUAL : Addr) (as_NOT_EQUAL : Addr) (h0 : Heap) (n0 : Nat) (Z0 : n0 ≤ h0.size) (S_LESS : Sta Z h0 "com/example/ophion/ophion/runtime/CompareOp" "LESS" "Lcom/example/ophion/ophion/runtime/CompareOp;" (.ref as_LESS)) (E_LESS : Exa Z h0 as_LESS "com/example/ophion/ophion/runtime/CompareOp") (O_LESS : Fld Z h0 as_LESS "java/lang/Enum" "ordinal" "I" (.int 0)) (S_GREATER : Sta Z h0 "com/example/ophion/ophion/runtime/CompareOp" "GREATER" "Lcom/example/ophion/ophion/runtime/CompareOp;" (.ref as_GREATER)) (E_GREATER : Exa Z h0 as_GREATER "com/example/ophion/ophion/runtime/CompareOp") (O_GREATER : Fld Z h0 as_GREATER "java/lang/Enum" "ordinal" "I" (.int 4)) (S_EQUAL : Sta Z h0 "com/example/ophion/ophion/runtime/CompareOp" "EQUAL" "Lcom/example/ophion/ophion/runtime/CompareOp;" (.ref as_EQUAL)) (E_EQUAL : Exa Z h0 as_EQUAL "com/example/ophion/ophion/runtime/CompareOp") (O_EQUAL : Fld Z h0 as_EQUAL "java/lang/Enum" "ordinal" "I" (.int 2)) (S_LESS_EQUAL : Sta Z h0 "com/example/ophion/ophion/runtime/CompareOp" "LESS_EQUAL" "Lcom/example/ophion/ophion/runtime/CompareOp;" (.ref as_LESS_EQUAL)) (E_LESS_EQUAL : Exa Z h0 as_LESS_EQUAL "com/example/ophion/ophion/runtime/CompareOp") (O_LESS_EQUAL : Fld Z h0 as_LESS_EQUAL "java/lang/Enum" "ordinal" "I" (.int 1)) (S_GREATER_EQUAL : Sta Z h0 "com/example/ophion/ophion/runtime/CompareOp" "GREATER_EQUAL" "Lcom/example/ophion/ophion/runtime/CompareOp;" (.ref as_GREATER_EQUAL)) (E_GREATER_EQUAL : Exa Z h0 as_GREATER_EQUAL "com/example/ophion/ophion/runtime/CompareOp") (O_GREATER_EQUAL : Fld Z h0 as_GREATER_EQUAL "java/lang/Enum" "ordinal" "I" (.int 5)) (S_NOT_EQUAL : Sta Z h0 "com/example/ophion/ophion/runtime/CompareOp" "NOT_EQUAL" "Lcom/example/ophion/ophion/runtime/CompareOp;" (.ref as_NOT_EQUAL)) (E_NOT_EQUAL : Exa Z h0 as_NOT_EQUAL "com/example/ophion/ophion/runtime/CompareOp") (O_NOT_EQUAL : Fld Z h0 as_NOT_EQUAL "java/lang/Enum" "ordinal" "I" (.int 3)) (hk : ((p0 &&& (2147483647 : Int32)) % (6 : Int32)) = (3 : Int32)) (hs : ((p1 &&& (2147483647 : Int32)) % (3 : Int32)) = (1 : Int32)) :
    MetFree l x (head1 (Jvm.Cond.code x code maxLocals ret :: ws) room_1) (fun a U => a = #[(.int p0), (.int p1)] ∧ Z.Warmed39 U.vm ∧ U.heap = h0) (fun _ _ _ _ _ => True) (fun _ U o U' => ∃ v L, o = .returned v ∧ Q0 Z  h0 n0 v U'.heap L ∧ FrameEnd U o U' L 0 0) := by
  refine MetFree.of_bodySF (plainFor_of_name pn_2) hisR ?_
  intro p e s m args below meth c s₁ Bd hml0 hP hK
  obtain ⟨rfl, hZ, hh⟩ := hP
  have hx := Bd.exec
  have hby := Bd.bytes
  have hml : c.maxLocals = 7 := hml0
  have hown : s.vm.findClass "com/example/ophion/ophion/runtime/CompareOpSwappedPinLaw" = some m.cls := findClass_of_methodNamed Bd.named
  have hnm := (name_of_methodNamed Bd.named Bd.method).1
  have X0 : Stand p l e room_1 s m #[(.int p0), (.int p1)] below meth c s₁ [] 0 0 := Stand.of_body Bd
  have e0 : s₁.heap = h0 := by rw [← hh, Bd.state]; rfl
  have N0 := Fr.nil n0
  refine own_go (own_lift (fun t k => castTop (ef_rm0_31 m p0 p1) k) ?_)
  show own_Go p.tables e below (s₁.setTop (mkF m 0 #[iv p0, iv p1, .unset, .unset, .unset, .unset, .unset] [])) _
  have sg1 : ∀ t, Steps p.tables e below (s₁.setTop (mkF m 7 #[iv p0, iv p1, .unset, .unset, .unset, .unset, .unset] [(.int ((p0 &&& (2147483647 : Int32)) % (6 : Int32)))])) t → Steps p.tables e below (s₁.setTop (mkF m 0 #[iv p0, iv p1, .unset, .unset, .unset, .unset, .unset] [])) t := by
    intro t k
    refine XS.iloadN X0.here hx rfl (hb hby at_0) rfl ?_
    show Steps p.tables e below (s₁.setTop (mkF m 1 #[iv p0, iv p1, .unset, .unset, .unset, .unset, .unset] [(.int p0)])) _
    refine X0.ldcInt hx hown (mvT hZ (wd hw 0 rfl)) (g := (mkF m 1 #[iv p0, iv p1, .unset, .unset, .unset, .unset, .unset] [(.int p0)])) rfl (hb hby at_1) _ ?_
    show Steps p.tables e below (s₁.setTop (mkF m 3 #[iv p0, iv p1, .unset, .unset, .unset, .unset, .unset] [(.int 2147483647), (.int p0)])) _
    refine XS.iand X0.here hx rfl (hb hby at_3) rfl ?_
    show Steps p.tables e below (s₁.setTop (mkF m 4 #[iv p0, iv p1, .unset, .unset, .unset, .unset, .unset] [(.int (p0 &&& (2147483647 : Int32)))])) _
    refine XS.bipush X0.here hx rfl (hb hby at_4) ?_
    show Steps p.tables e below (s₁.setTop (mkF m 6 #[iv p0, iv p1, .unset, .unset, .unset, .unset, .unset] [(.int 6), (.int (p0 &&& (2147483647 : Int32)))])) _
    refine iremM X0 hx rfl (hb hby at_6) rfl (by decide) ?_
    show Steps p.tables e below (s₁.setTop (mkF m 7 #[iv p0, iv p1, .unset, .unset, .unset, .unset, .unset] [(.int ((p0 &&& (2147483647 : Int32)) % (6 : Int32)))])) _
    exact k
  refine own_lift sg1 ?_
  show own_Go p.tables e below (s₁.setTop (mkF m 7 #[iv p0, iv p1, .unset, .unset, .unset, .unset, .unset] [(.int ((p0 &&& (2147483647 : Int32)) % (6 : Int32)))])) _
  rw [hk]
  show own_Go p.tables e below (s₁.setTop (mkF m 7 #[iv p0, iv p1, .unset, .unset, .unset, .unset, .unset] [(.int 3)])) _
  have sg2 : ∀ t, Steps p.tables e below (s₁.setTop (mkF m 9 #[iv p0, iv p1, iv 3, .unset, .unset, .unset, .unset] [(.int 3)])) t → Steps p.tables e below (s₁.setTop (mkF m 7 #[iv p0, iv p1, .unset, .unset, .unset, .unset, .unset] [(.int 3)])) t := by
    intro t k
    refine XS.istoreN X0.here hx rfl (hb hby at_7) rfl (l' := #[iv p0, iv p1, iv 3, .unset, .unset, .unset, .unset]) rfl ?_
    show Steps p.tables e below (s₁.setTop (mkF m 8 #[iv p0, iv p1, iv 3, .unset, .unset, .unset, .unset] [])) _
    refine XS.iloadN X0.here hx rfl (hb hby at_8) rfl ?_
    show Steps p.tables e below (s₁.setTop (mkF m 9 #[iv p0, iv p1, iv 3, .unset, .unset, .unset, .unset] [(.int 3)])) _
    exact k
  refine own_lift sg2 ?_
  show own_Go p.tables e below (s₁.setTop (mkF m 9 #[iv p0, iv p1, iv 3, .unset, .unset, .unset, .unset] [(.int 3)])) _
  obtain ⟨_, _, ⟨T3, Lx3, kx3, nx3⟩, -, X3, ⟨Lc3, hQ3, lx3, yx3, zx3⟩, st3⟩ := Jvm.LawKit.callS X0 hx (y := (⟨"com/example/ophion/ophion/runtime/CompareOpSwappedPinLaw", "pick", "(I)Lcom/example/ophion/ophion/runtime/CompareOp;"⟩ : MethodName)) hown (mvT hZ (wd hw 1 rfl)) (mvT hZ (wd hw 2 rfl)) (mvT hZ (wd hw 3 rfl)) (mvT hZ (wd hw 4 rfl)) (by decide) (backOf (W := 0) (rmPick3 l Z a0 hw [] (3 : Int32) as_NOT_EQUAL h0 n0 Z0 S_NOT_EQUAL (by decide : ¬ ((3 : Int32) = (0 : Int32))) (by decide : ¬ ((3 : Int32) = (1 : Int32))) (by decide : ¬ ((3 : Int32) = (2 : Int32))) (by decide : (3 : Int32) = (3 : Int32))) hZ (wd hw 4 rfl) (wd hw 3 rfl) (by decide) (by decide)) (g := (mkF m 9 #[iv p0, iv p1, iv 3, .unset, .unset, .unset, .unset] [(.int 3)])) rfl (by rw [hml]; rfl) (argsL := [(.int 3)]) (rest := []) (lenOf pd_1 rfl) rfl (by show 2 * 0 + _ ≤ _; exact Nat.le_of_eq rfl) (hb hby at_9) (fun _ _ => ⟨rfl, e0, (by decide : 0 + 0 ≤ _), (by decide : 0 + 0 ≤ _)⟩)
  dsimp only [Pt.U, Pt.locs, Pt.cells, Pt.slots] at X3 lx3 yx3 zx3 st3 hQ3
  subst lx3 yx3 zx3
  obtain ⟨rfl, N3q, e3⟩ := hQ3
  have N3 := Fr.app N0 N3q
  refine own_lift st3 ?_
  show own_Go p.tables e below (T3.setTop (mkF m 12 #[iv p0, iv p1, iv 3, .unset, .unset, .unset, .unset] [(.ref as_NOT_EQUAL)])) _
  have sg4 : ∀ t, Steps p.tables e below (T3.setTop (mkF m 14 #[iv p0, iv p1, iv 3, rv as_NOT_EQUAL, .unset, .unset, .unset] [(.int 3)])) t → Steps p.tables e below (T3.setTop (mkF m 12 #[iv p0, iv p1, iv 3, .unset, .unset, .unset, .unset] [(.ref as_NOT_EQUAL)])) t := by
    intro t k
    refine XS.astoreN X3.here hx rfl (hb hby at_12) rfl rfl (l' := #[iv p0, iv p1, iv 3, rv as_NOT_EQUAL, .unset, .unset, .unset]) rfl ?_
    show Steps p.tables e below (T3.setTop (mkF m 13 #[iv p0, iv p1, iv 3, rv as_NOT_EQUAL, .unset, .unset, .unset] [])) _
    refine XS.iloadN X3.here hx rfl (hb hby at_13) rfl ?_
    show Steps p.tables e below (T3.setTop (mkF m 14 #[iv p0, iv p1, iv 3, rv as_NOT_EQUAL, .unset, .unset, .unset] [(.int 3)])) _
    exact k
  refine own_lift sg4 ?_
  show own_Go p.tables e below (T3.setTop (mkF m 14 #[iv p0, iv p1, iv 3, rv as_NOT_EQUAL, .unset, .unset, .unset] [(.int 3)])) _
  obtain ⟨_, _, ⟨T5, Lx5, kx5, nx5⟩, -, X5, ⟨Lc5, hQ5, lx5, yx5, zx5⟩, st5⟩ := Jvm.LawKit.callS X3 hx (y := (⟨"com/example/ophion/ophion/runtime/CompareOpSwappedPinLaw", "mirror", "(I)I"⟩ : MethodName)) hown (mvT hZ (wd hw 8 rfl)) (mvT hZ (wd hw 9 rfl)) (mvT hZ (wd hw 3 rfl)) (mvT hZ (wd hw 10 rfl)) (by decide) (backOf (W := 0) (rmMirD l Z a0 hw [] (3 : Int32) h0 n0 Z0 (by decide : ¬ ((3 : Int32) = (0 : Int32))) (by decide : ¬ ((3 : Int32) = (1 : Int32))) (by decide : ¬ ((3 : Int32) = (4 : Int32))) (by decide : ¬ ((3 : Int32) = (5 : Int32)))) hZ (wd hw 10 rfl) (wd hw 3 rfl) (by decide) (by decide)) (g := (mkF m 14 #[iv p0, iv p1, iv 3, rv as_NOT_EQUAL, .unset, .unset, .unset] [(.int 3)])) rfl (by rw [hml]; rfl) (argsL := [(.int 3)]) (rest := []) (lenOf pd_2 rfl) rfl (by show 2 * 0 + _ ≤ _; exact Nat.le_of_eq rfl) (hb hby at_14) (fun _ _ => ⟨rfl, e3, (by decide : 0 + 0 ≤ _), (by decide : 0 + 0 ≤ _)⟩)
  dsimp only [Pt.U, Pt.locs, Pt.cells, Pt.slots] at X5 lx5 yx5 zx5 st5 hQ5
  subst lx5 yx5 zx5
  obtain ⟨rfl, N5q, e5⟩ := hQ5
  have N5 := Fr.app N3 N5q
  refine own_lift st5 ?_
  show own_Go p.tables e below (T5.setTop (mkF m 17 #[iv p0, iv p1, iv 3, rv as_NOT_EQUAL, .unset, .unset, .unset] [(.int 3)])) _
  obtain ⟨_, _, ⟨T6, Lx6, kx6, nx6⟩, -, X6, ⟨Lc6, hQ6, lx6, yx6, zx6⟩, st6⟩ := Jvm.LawKit.callS X5 hx (y := (⟨"com/example/ophion/ophion/runtime/CompareOpSwappedPinLaw", "pick", "(I)Lcom/example/ophion/ophion/runtime/CompareOp;"⟩ : MethodName)) hown (mvT hZ (wd hw 1 rfl)) (mvT hZ (wd hw 2 rfl)) (mvT hZ (wd hw 3 rfl)) (mvT hZ (wd hw 4 rfl)) (by decide) (backOf (W := 0) (rmPick3 l Z a0 hw [] (3 : Int32) as_NOT_EQUAL h0 n0 Z0 S_NOT_EQUAL (by decide : ¬ ((3 : Int32) = (0 : Int32))) (by decide : ¬ ((3 : Int32) = (1 : Int32))) (by decide : ¬ ((3 : Int32) = (2 : Int32))) (by decide : (3 : Int32) = (3 : Int32))) hZ (wd hw 4 rfl) (wd hw 3 rfl) (by decide) (by decide)) (g := (mkF m 17 #[iv p0, iv p1, iv 3, rv as_NOT_EQUAL, .unset, .unset, .unset] [(.int 3)])) rfl (by rw [hml]; rfl) (argsL := [(.int 3)]) (rest := []) (lenOf pd_1 rfl) rfl (by show 2 * 0 + _ ≤ _; exact Nat.le_of_eq rfl) (hb hby at_17) (fun _ _ => ⟨rfl, e5, (by decide : 0 + 0 ≤ _), (by decide : 0 + 0 ≤ _)⟩)
  dsimp only [Pt.U, Pt.locs, Pt.cells, Pt.slots] at X6 lx6 yx6 zx6 st6 hQ6
  subst lx6 yx6 zx6
  obtain ⟨rfl, N6q, e6⟩ := hQ6
  have N6 := Fr.app N5 N6q
  refine own_lift st6 ?_
  show own_Go p.tables e below (T6.setTop (mkF m 20 #[iv p0, iv p1, iv 3, rv as_NOT_EQUAL, .unset, .unset, .unset] [(.ref as_NOT_EQUAL)])) _
  have sg7 : ∀ t, Steps p.tables e below (T6.setTop (mkF m 23 #[iv p0, iv p1, iv 3, rv as_NOT_EQUAL, rv as_NOT_EQUAL, .unset, .unset] [(.ref as_NOT_EQUAL)])) t → Steps p.tables e below (T6.setTop (mkF m 20 #[iv p0, iv p1, iv 3, rv as_NOT_EQUAL, .unset, .unset, .unset] [(.ref as_NOT_EQUAL)])) t := by
    intro t k
    refine XS.astore X6.here hx rfl (hb hby at_20) rfl rfl (l' := #[iv p0, iv p1, iv 3, rv as_NOT_EQUAL, rv as_NOT_EQUAL, .unset, .unset]) rfl ?_
    show Steps p.tables e below (T6.setTop (mkF m 22 #[iv p0, iv p1, iv 3, rv as_NOT_EQUAL, rv as_NOT_EQUAL, .unset, .unset] [])) _
    refine XS.aloadN X6.here hx rfl (hb hby at_22) rfl rfl ?_
    show Steps p.tables e below (T6.setTop (mkF m 23 #[iv p0, iv p1, iv 3, rv as_NOT_EQUAL, rv as_NOT_EQUAL, .unset, .unset] [(.ref as_NOT_EQUAL)])) _
    exact k
  refine own_lift sg7 ?_
  show own_Go p.tables e below (T6.setTop (mkF m 23 #[iv p0, iv p1, iv 3, rv as_NOT_EQUAL, rv as_NOT_EQUAL, .unset, .unset] [(.ref as_NOT_EQUAL)])) _
  obtain ⟨cq8, kq8, q8a, q8b, q8c⟩ := isOf hZ e6 E_NOT_EQUAL
  obtain ⟨_, _, ⟨T8, Lx8, kx8, nx8⟩, -, X8, ⟨Lc8, hQ8, lx8, yx8, zx8⟩, st8⟩ := X6.virtualBack hx (y := (⟨"com/example/ophion/ophion/runtime/CompareOp", "swapped", "()Lcom/example/ophion/ophion/runtime/CompareOp;"⟩ : MethodName)) (z := (⟨"com/example/ophion/ophion/runtime/CompareOp", "swapped", "()Lcom/example/ophion/ophion/runtime/CompareOp;"⟩ : MethodName)) hown (mvT hZ (wd hw 13 rfl)) (mvT hZ (wd hw 14 rfl)) (notFace_of_selects (args := #[]) (mvT hZ (wd hw 16 rfl))) (mvT hZ (wd hw 16 rfl)) (mvT hZ (wd hw 15 rfl)) (by decide) (backOf (W := 0) (rmSw3 l Z a0 hw [] as_NOT_EQUAL h0 n0 Z0 O_NOT_EQUAL E_NOT_EQUAL) hZ (wd hw 17 rfl) (wd hw 6 rfl) (by decide) (by decide)) q8a q8c (g := (mkF m 23 #[iv p0, iv p1, iv 3, rv as_NOT_EQUAL, rv as_NOT_EQUAL, .unset, .unset] [(.ref as_NOT_EQUAL)])) rfl (by rw [hml]; rfl) (Steps.refl _) (argsL := []) (rest := []) (lenOf pd_3 rfl) rfl (by show 2 * 0 + _ ≤ _; exact Nat.le_of_eq rfl) (hb hby at_23) (fun _ _ => ⟨rfl, e6, (by decide : 0 + 0 ≤ _), (by decide : 0 + 0 ≤ _)⟩)
  dsimp only [Pt.U, Pt.locs, Pt.cells, Pt.slots] at X8 lx8 yx8 zx8 st8 hQ8
  subst lx8 yx8 zx8
  obtain ⟨rfl, N8q, e8⟩ := hQ8
  have N8 := Fr.app N6 N8q
  refine own_lift (fun t k => st8.trans k) ?_
  show own_Go p.tables e below (T8.setTop (mkF m 26 #[iv p0, iv p1, iv 3, rv as_NOT_EQUAL, rv as_NOT_EQUAL, .unset, .unset] [(.ref as_NOT_EQUAL)])) _
  have sg9 : ∀ t, Steps p.tables e below (T8.setTop (mkF m 34 #[iv p0, iv p1, iv 3, rv as_NOT_EQUAL, rv as_NOT_EQUAL, rv as_NOT_EQUAL, .unset] [(.int ((p1 &&& (2147483647 : Int32)) % (3 : Int32)))])) t → Steps p.tables e below (T8.setTop (mkF m 26 #[iv p0, iv p1, iv 3, rv as_NOT_EQUAL, rv as_NOT_EQUAL, .unset, .unset] [(.ref as_NOT_EQUAL)])) t := by
    intro t k
    refine XS.astore X8.here hx rfl (hb hby at_26) rfl rfl (l' := #[iv p0, iv p1, iv 3, rv as_NOT_EQUAL, rv as_NOT_EQUAL, rv as_NOT_EQUAL, .unset]) rfl ?_
    show Steps p.tables e below (T8.setTop (mkF m 28 #[iv p0, iv p1, iv 3, rv as_NOT_EQUAL, rv as_NOT_EQUAL, rv as_NOT_EQUAL, .unset] [])) _
    refine XS.iloadN X8.here hx rfl (hb hby at_28) rfl ?_
    show Steps p.tables e below (T8.setTop (mkF m 29 #[iv p0, iv p1, iv 3, rv as_NOT_EQUAL, rv as_NOT_EQUAL, rv as_NOT_EQUAL, .unset] [(.int p1)])) _
    refine X8.ldcInt hx hown (mvT hZ (wd hw 0 rfl)) (g := (mkF m 29 #[iv p0, iv p1, iv 3, rv as_NOT_EQUAL, rv as_NOT_EQUAL, rv as_NOT_EQUAL, .unset] [(.int p1)])) rfl (hb hby at_29) _ ?_
    show Steps p.tables e below (T8.setTop (mkF m 31 #[iv p0, iv p1, iv 3, rv as_NOT_EQUAL, rv as_NOT_EQUAL, rv as_NOT_EQUAL, .unset] [(.int 2147483647), (.int p1)])) _
    refine XS.iand X8.here hx rfl (hb hby at_31) rfl ?_
    show Steps p.tables e below (T8.setTop (mkF m 32 #[iv p0, iv p1, iv 3, rv as_NOT_EQUAL, rv as_NOT_EQUAL, rv as_NOT_EQUAL, .unset] [(.int (p1 &&& (2147483647 : Int32)))])) _
    refine XS.iconst X8.here hx rfl (hb hby at_32) ?_
    show Steps p.tables e below (T8.setTop (mkF m 33 #[iv p0, iv p1, iv 3, rv as_NOT_EQUAL, rv as_NOT_EQUAL, rv as_NOT_EQUAL, .unset] [(.int 3), (.int (p1 &&& (2147483647 : Int32)))])) _
    refine iremM X8 hx rfl (hb hby at_33) rfl (by decide) ?_
    show Steps p.tables e below (T8.setTop (mkF m 34 #[iv p0, iv p1, iv 3, rv as_NOT_EQUAL, rv as_NOT_EQUAL, rv as_NOT_EQUAL, .unset] [(.int ((p1 &&& (2147483647 : Int32)) % (3 : Int32)))])) _
    exact k
  refine own_lift sg9 ?_
  show own_Go p.tables e below (T8.setTop (mkF m 34 #[iv p0, iv p1, iv 3, rv as_NOT_EQUAL, rv as_NOT_EQUAL, rv as_NOT_EQUAL, .unset] [(.int ((p1 &&& (2147483647 : Int32)) % (3 : Int32)))])) _
  rw [hs]
  show own_Go p.tables e below (T8.setTop (mkF m 34 #[iv p0, iv p1, iv 3, rv as_NOT_EQUAL, rv as_NOT_EQUAL, rv as_NOT_EQUAL, .unset] [(.int 1)])) _
  have sg10 : ∀ t, Steps p.tables e below (T8.setTop (mkF m 50 #[iv p0, iv p1, iv 3, rv as_NOT_EQUAL, rv as_NOT_EQUAL, rv as_NOT_EQUAL, iv 0] [(.int 0), (.ref as_NOT_EQUAL)])) t → Steps p.tables e below (T8.setTop (mkF m 34 #[iv p0, iv p1, iv 3, rv as_NOT_EQUAL, rv as_NOT_EQUAL, rv as_NOT_EQUAL, .unset] [(.int 1)])) t := by
    intro t k
    refine XS.iconst X8.here hx rfl (hb hby at_34) ?_
    show Steps p.tables e below (T8.setTop (mkF m 35 #[iv p0, iv p1, iv 3, rv as_NOT_EQUAL, rv as_NOT_EQUAL, rv as_NOT_EQUAL, .unset] [(.int 1), (.int 1)])) _
    refine XS.isub X8.here hx rfl (hb hby at_35) rfl ?_
    show Steps p.tables e below (T8.setTop (mkF m 36 #[iv p0, iv p1, iv 3, rv as_NOT_EQUAL, rv as_NOT_EQUAL, rv as_NOT_EQUAL, .unset] [(.int 0)])) _
    refine XS.istore X8.here hx rfl (hb hby at_36) rfl (l' := #[iv p0, iv p1, iv 3, rv as_NOT_EQUAL, rv as_NOT_EQUAL, rv as_NOT_EQUAL, iv 0]) rfl ?_
    show Steps p.tables e below (T8.setTop (mkF m 38 #[iv p0, iv p1, iv 3, rv as_NOT_EQUAL, rv as_NOT_EQUAL, rv as_NOT_EQUAL, iv 0] [])) _
    refine XS.aload X8.here hx rfl (hb hby at_38) rfl rfl ?_
    show Steps p.tables e below (T8.setTop (mkF m 40 #[iv p0, iv p1, iv 3, rv as_NOT_EQUAL, rv as_NOT_EQUAL, rv as_NOT_EQUAL, iv 0] [(.ref as_NOT_EQUAL)])) _
    refine XS.aload X8.here hx rfl (hb hby at_40) rfl rfl ?_
    show Steps p.tables e below (T8.setTop (mkF m 42 #[iv p0, iv p1, iv 3, rv as_NOT_EQUAL, rv as_NOT_EQUAL, rv as_NOT_EQUAL, iv 0] [(.ref as_NOT_EQUAL), (.ref as_NOT_EQUAL)])) _
    refine Jvm.RoadKit.acmp (g := (mkF m 42 #[iv p0, iv p1, iv 3, rv as_NOT_EQUAL, rv as_NOT_EQUAL, rv as_NOT_EQUAL, iv 0] [(.ref as_NOT_EQUAL), (.ref as_NOT_EQUAL)])) X8 hx rfl rfl rfl (pc0 := 42) (pc' := 45) (same := true) rfl (hb hby at_42) rfl (decide_eq_true rfl) (by decide) (by decide) ?_
    show Steps p.tables e below (T8.setTop (mkF m 45 #[iv p0, iv p1, iv 3, rv as_NOT_EQUAL, rv as_NOT_EQUAL, rv as_NOT_EQUAL, iv 0] [])) _
    refine XS.aload X8.here hx rfl (hb hby at_45) rfl rfl ?_
    show Steps p.tables e below (T8.setTop (mkF m 47 #[iv p0, iv p1, iv 3, rv as_NOT_EQUAL, rv as_NOT_EQUAL, rv as_NOT_EQUAL, iv 0] [(.ref as_NOT_EQUAL)])) _
    refine XS.iload X8.here hx rfl (hb hby at_47) rfl ?_
    show Steps p.tables e below (T8.setTop (mkF m 49 #[iv p0, iv p1, iv 3, rv as_NOT_EQUAL, rv as_NOT_EQUAL, rv as_NOT_EQUAL, iv 0] [(.int 0), (.ref as_NOT_EQUAL)])) _
    refine XS.ineg X8.here hx rfl (hb hby at_49) rfl ?_
    show Steps p.tables e below (T8.setTop (mkF m 50 #[iv p0, iv p1, iv 3, rv as_NOT_EQUAL, rv as_NOT_EQUAL, rv as_NOT_EQUAL, iv 0] [(.int 0), (.ref as_NOT_EQUAL)])) _
    exact k
  refine own_lift sg10 ?_
  show own_Go p.tables e below (T8.setTop (mkF m 50 #[iv p0, iv p1, iv 3, rv as_NOT_EQUAL, rv as_NOT_EQUAL, rv as_NOT_EQUAL, iv 0] [(.int 0), (.ref as_NOT_EQUAL)])) _
  obtain ⟨cq11, kq11, q11a, q11b, q11c⟩ := isOf hZ e8 E_NOT_EQUAL
  obtain ⟨_, _, ⟨T11, Lx11, kx11, nx11⟩, -, X11, ⟨Lc11, hQ11, lx11, yx11, zx11⟩, st11⟩ := X8.virtualBack hx (y := (⟨"com/example/ophion/ophion/runtime/CompareOp", "holds", "(I)Z"⟩ : MethodName)) (z := (⟨"com/example/ophion/ophion/runtime/CompareOp", "holds", "(I)Z"⟩ : MethodName)) hown (mvT hZ (wd hw 28 rfl)) (mvT hZ (wd hw 29 rfl)) (notFace_of_selects (args := #[]) (mvT hZ (wd hw 31 rfl))) (mvT hZ (wd hw 31 rfl)) (mvT hZ (wd hw 30 rfl)) (by decide) (backOf (W := 0) (rmHolds3t l Z a0 hw [] as_NOT_EQUAL (0 : Int32) h0 n0 Z0 O_NOT_EQUAL E_NOT_EQUAL (by decide : (0 : Int32) = (0 : Int32))) hZ (wd hw 32 rfl) (wd hw 6 rfl) (by decide) (by decide)) q11a q11c (g := (mkF m 50 #[iv p0, iv p1, iv 3, rv as_NOT_EQUAL, rv as_NOT_EQUAL, rv as_NOT_EQUAL, iv 0] [(.int 0), (.ref as_NOT_EQUAL)])) rfl (by rw [hml]; rfl) (Steps.refl _) (argsL := [(.int 0)]) (rest := []) (lenOf pd_4 rfl) rfl (by show 2 * 0 + _ ≤ _; exact Nat.le_of_eq rfl) (hb hby at_50) (fun _ _ => ⟨rfl, e8, (by decide : 0 + 0 ≤ _), (by decide : 0 + 0 ≤ _)⟩)
  dsimp only [Pt.U, Pt.locs, Pt.cells, Pt.slots] at X11 lx11 yx11 zx11 st11 hQ11
  subst lx11 yx11 zx11
  obtain ⟨rfl, N11q, e11⟩ := hQ11
  have N11 := Fr.app N8 N11q
  refine own_lift (fun t k => st11.trans k) ?_
  show own_Go p.tables e below (T11.setTop (mkF m 53 #[iv p0, iv p1, iv 3, rv as_NOT_EQUAL, rv as_NOT_EQUAL, rv as_NOT_EQUAL, iv 0] [(.int 0)])) _
  have sg12 : ∀ t, Steps p.tables e below (T11.setTop (mkF m 56 #[iv p0, iv p1, iv 3, rv as_NOT_EQUAL, rv as_NOT_EQUAL, rv as_NOT_EQUAL, iv 0] [(.int 0), (.ref as_NOT_EQUAL), (.int 0)])) t → Steps p.tables e below (T11.setTop (mkF m 53 #[iv p0, iv p1, iv 3, rv as_NOT_EQUAL, rv as_NOT_EQUAL, rv as_NOT_EQUAL, iv 0] [(.int 0)])) t := by
    intro t k
    refine XS.aloadN X11.here hx rfl (hb hby at_53) rfl rfl ?_
    show Steps p.tables e below (T11.setTop (mkF m 54 #[iv p0, iv p1, iv 3, rv as_NOT_EQUAL, rv as_NOT_EQUAL, rv as_NOT_EQUAL, iv 0] [(.ref as_NOT_EQUAL), (.int 0)])) _
    refine XS.iload X11.here hx rfl (hb hby at_54) rfl ?_
    show Steps p.tables e below (T11.setTop (mkF m 56 #[iv p0, iv p1, iv 3, rv as_NOT_EQUAL, rv as_NOT_EQUAL, rv as_NOT_EQUAL, iv 0] [(.int 0), (.ref as_NOT_EQUAL), (.int 0)])) _
    exact k
  refine own_lift sg12 ?_
  show own_Go p.tables e below (T11.setTop (mkF m 56 #[iv p0, iv p1, iv 3, rv as_NOT_EQUAL, rv as_NOT_EQUAL, rv as_NOT_EQUAL, iv 0] [(.int 0), (.ref as_NOT_EQUAL), (.int 0)])) _
  obtain ⟨cq13, kq13, q13a, q13b, q13c⟩ := isOf hZ e11 E_NOT_EQUAL
  obtain ⟨_, _, ⟨T13, Lx13, kx13, nx13⟩, -, X13, ⟨Lc13, hQ13, lx13, yx13, zx13⟩, st13⟩ := X11.virtualBack hx (y := (⟨"com/example/ophion/ophion/runtime/CompareOp", "holds", "(I)Z"⟩ : MethodName)) (z := (⟨"com/example/ophion/ophion/runtime/CompareOp", "holds", "(I)Z"⟩ : MethodName)) hown (mvT hZ (wd hw 28 rfl)) (mvT hZ (wd hw 29 rfl)) (notFace_of_selects (args := #[]) (mvT hZ (wd hw 31 rfl))) (mvT hZ (wd hw 31 rfl)) (mvT hZ (wd hw 30 rfl)) (by decide) (backOf (W := 1) (rmHolds3t l Z a0 hw [] as_NOT_EQUAL (0 : Int32) h0 n0 Z0 O_NOT_EQUAL E_NOT_EQUAL (by decide : (0 : Int32) = (0 : Int32))) hZ (wd hw 32 rfl) (wd hw 6 rfl) (by decide) (by decide)) q13a q13c (g := (mkF m 56 #[iv p0, iv p1, iv 3, rv as_NOT_EQUAL, rv as_NOT_EQUAL, rv as_NOT_EQUAL, iv 0] [(.int 0), (.ref as_NOT_EQUAL), (.int 0)])) rfl (by rw [hml]; rfl) (Steps.refl _) (argsL := [(.int 0)]) (rest := [(.int 0)]) (lenOf pd_4 rfl) rfl (by show 2 * 0 + _ ≤ _; exact Nat.le_of_eq rfl) (hb hby at_56) (fun _ _ => ⟨rfl, e11, (by decide : 0 + 0 ≤ _), (by decide : 0 + 0 ≤ _)⟩)
  dsimp only [Pt.U, Pt.locs, Pt.cells, Pt.slots] at X13 lx13 yx13 zx13 st13 hQ13
  subst lx13 yx13 zx13
  obtain ⟨rfl, N13q, e13⟩ := hQ13
  have N13 := Fr.app N11 N13q
  refine own_lift (fun t k => st13.trans k) ?_
  show own_Go p.tables e below (T13.setTop (mkF m 59 #[iv p0, iv p1, iv 3, rv as_NOT_EQUAL, rv as_NOT_EQUAL, rv as_NOT_EQUAL, iv 0] [(.int 0), (.int 0)])) _
  have sg14 : ∀ t, Steps p.tables e below (T13.setTop (mkF m 67 #[iv p0, iv p1, iv 3, rv as_NOT_EQUAL, rv as_NOT_EQUAL, rv as_NOT_EQUAL, iv 0] [(.int 1)])) t → Steps p.tables e below (T13.setTop (mkF m 59 #[iv p0, iv p1, iv 3, rv as_NOT_EQUAL, rv as_NOT_EQUAL, rv as_NOT_EQUAL, iv 0] [(.int 0), (.int 0)])) t := by
    intro t k
    refine XS.icmpNo X13.here hx rfl (hb hby at_59) rfl (teq (by decide : (0 : Int32) = (0 : Int32))).2 ?_
    show Steps p.tables e below (T13.setTop (mkF m 62 #[iv p0, iv p1, iv 3, rv as_NOT_EQUAL, rv as_NOT_EQUAL, rv as_NOT_EQUAL, iv 0] [])) _
    refine XS.iconst X13.here hx rfl (hb hby at_62) ?_
    show Steps p.tables e below (T13.setTop (mkF m 63 #[iv p0, iv p1, iv 3, rv as_NOT_EQUAL, rv as_NOT_EQUAL, rv as_NOT_EQUAL, iv 0] [(.int 1)])) _
    refine XS.goto X13.here hx rfl (pc0 := 63) (pc' := 67) rfl (hb hby at_63) (by decide) (by decide) ?_
    show Steps p.tables e below (T13.setTop (mkF m 67 #[iv p0, iv p1, iv 3, rv as_NOT_EQUAL, rv as_NOT_EQUAL, rv as_NOT_EQUAL, iv 0] [(.int 1)])) _
    exact k
  refine own_lift sg14 ?_
  show own_Go p.tables e below (T13.setTop (mkF m 67 #[iv p0, iv p1, iv 3, rv as_NOT_EQUAL, rv as_NOT_EQUAL, rv as_NOT_EQUAL, iv 0] [(.int 1)])) _
  obtain ⟨fs, hr, hrun, hended, hW, hsame⟩ := X13.leave (v := some (.int 1)) (fun h => by rw [Bd.returns] at h; cases h)
  refine ⟨_, _, ?_, hrun, hended, _, _, rfl, ?_, ⟨_, rfl⟩, hW, hsame.mono (by decide) (by decide)⟩
  · exact retN X13 hx (t := .boolean) Bd.returns (by simp) (hb hby at_67) hr
  · show Q0 Z  h0 n0 _ T13.heap _
    rw [e13]
    exact ⟨rfl, N13⟩
theorem ef_rm0_32 (m : MethodId) (x0 : Int32) (x1 : Int32) : entryFrame m #[(.int x0), (.int x1)] maxLocals = mkF m 0 #[.val (.int x0), .val (.int x1), .unset, .unset, .unset, .unset, .unset] [] := by first | (simp [entryFrame, mkF, argsToLocals, Value.category, maxLocals]; done) | rfl
set_option maxRecDepth 65536 in
set_option maxHeartbeats 40000000 in
theorem rm0_32 (l : Launch) (Z : State) (a0 : Array Value) (hw : ∀ d ∈ tables_1, d.before a0 Z = true) (ws : List Jvm.Cond) (p0 : Int32) (p1 : Int32) (as_LESS : Addr) (as_GREATER : Addr) (as_EQUAL : Addr) (as_LESS_EQUAL : Addr) (as_GREATER_EQUAL : Addr) (as_NOT_EQUAL : Addr) (h0 : Heap) (n0 : Nat) (Z0 : n0 ≤ h0.size) (S_LESS : Sta Z h0 "com/example/ophion/ophion/runtime/CompareOp" "LESS" "Lcom/example/ophion/ophion/runtime/CompareOp;" (.ref as_LESS)) (E_LESS : Exa Z h0 as_LESS "com/example/ophion/ophion/runtime/CompareOp") (O_LESS : Fld Z h0 as_LESS "java/lang/Enum" "ordinal" "I" (.int 0)) (S_GREATER : Sta Z h0 "com/example/ophion/ophion/runtime/CompareOp" "GREATER" "Lcom/example/ophion/ophion/runtime/CompareOp;" (.ref as_GREATER)) (E_GREATER : Exa Z h0 as_GREATER "com/example/ophion/ophion/runtime/CompareOp") (O_GREATER : Fld Z h0 as_GREATER "java/lang/Enum" "ordinal" "I" (.int 4)) (S_EQUAL : Sta Z h0 "com/example/ophion/ophion/runtime/CompareOp" "EQUAL" "Lcom/example/ophion/ophion/runtime/CompareOp;" (.ref as_EQUAL)) (E_EQUAL : Exa Z h0 as_EQUAL "com/example/ophion/ophion/runtime/CompareOp") (O_EQUAL : Fld Z h0 as_EQUAL "java/lang/Enum" "ordinal" "I" (.int 2)) (S_LESS_EQUAL : Sta Z h0 "com/example/ophion/ophion/runtime/CompareOp" "LESS_EQUAL" "Lcom/example/ophion/ophion/runtime/CompareOp;" (.ref as_LESS_EQUAL)) (E_LESS_EQUAL : Exa Z h0 as_LESS_EQUAL "com/example/ophion/ophion/runtime/CompareOp") (O_LESS_EQUAL : Fld Z h0 as_LESS_EQUAL "java/lang/Enum" "ordinal" "I" (.int 1)) (S_GREATER_EQUAL : Sta Z h0 "com/example/ophion/ophion/runtime/CompareOp" "GREATER_EQUAL" "Lcom/example/ophion/ophion/runtime/CompareOp;" (.ref as_GREATER_EQUAL)) (E_GREATER_EQUAL : Exa Z h0 as_GREATER_EQUAL "com/example/ophion/ophion/runtime/CompareOp") (O_GREATER_EQUAL : Fld Z h0 as_GREATER_EQUAL "java/lang/Enum" "ordinal" "I" (.int 5)) (S_NOT_EQUAL : Sta Z h0 "com/example/ophion/ophion/runtime/CompareOp" "NOT_EQUAL" "Lcom/example/ophion/ophion/runtime/CompareOp;" (.ref as_NOT_EQUAL)) (E_NOT_EQUAL : Exa Z h0 as_NOT_EQUAL "com/example/ophion/ophion/runtime/CompareOp") (O_NOT_EQUAL : Fld Z h0 as_NOT_EQUAL "java/lang/Enum" "ordinal" "I" (.int 3)) (hk : ((p0 &&& (2147483647 : Int32)) % (6 : Int32)) = (3 : Int32)) (hs : ((p1 &&& (2147483647 : Int32)) % (3 : Int32)) = (2 : Int32)) :
    MetFree l x (head1 (Jvm.Cond.code x code maxLocals ret :: ws) room_1) (fun a U => a = #[(.int p0), (.int p1)] ∧ Z.Warmed39 U.vm ∧ U.heap = h0) (fun _ _ _ _ _ => True) (fun _ U o U' => ∃ v L, o = .returned v ∧ Q0 Z  h0 n0 v U'.heap L ∧ FrameEnd U o U' L 0 0) := by
  refine MetFree.of_bodySF (plainFor_of_name pn_2) hisR ?_
  intro p e s m args below meth c s₁ Bd hml0 hP hK
  obtain ⟨rfl, hZ, hh⟩ := hP
  have hx := Bd.exec
  have hby := Bd.bytes
  have hml : c.maxLocals = 7 := hml0
  have hown : s.vm.findClass "com/example/ophion/ophion/runtime/CompareOpSwappedPinLaw" = some m.cls := findClass_of_methodNamed Bd.named
  have hnm := (name_of_methodNamed Bd.named Bd.method).1
  have X0 : Stand p l e room_1 s m #[(.int p0), (.int p1)] below meth c s₁ [] 0 0 := Stand.of_body Bd
  have e0 : s₁.heap = h0 := by rw [← hh, Bd.state]; rfl
  have N0 := Fr.nil n0
  refine own_go (own_lift (fun t k => castTop (ef_rm0_32 m p0 p1) k) ?_)
  show own_Go p.tables e below (s₁.setTop (mkF m 0 #[iv p0, iv p1, .unset, .unset, .unset, .unset, .unset] [])) _
  have sg1 : ∀ t, Steps p.tables e below (s₁.setTop (mkF m 7 #[iv p0, iv p1, .unset, .unset, .unset, .unset, .unset] [(.int ((p0 &&& (2147483647 : Int32)) % (6 : Int32)))])) t → Steps p.tables e below (s₁.setTop (mkF m 0 #[iv p0, iv p1, .unset, .unset, .unset, .unset, .unset] [])) t := by
    intro t k
    refine XS.iloadN X0.here hx rfl (hb hby at_0) rfl ?_
    show Steps p.tables e below (s₁.setTop (mkF m 1 #[iv p0, iv p1, .unset, .unset, .unset, .unset, .unset] [(.int p0)])) _
    refine X0.ldcInt hx hown (mvT hZ (wd hw 0 rfl)) (g := (mkF m 1 #[iv p0, iv p1, .unset, .unset, .unset, .unset, .unset] [(.int p0)])) rfl (hb hby at_1) _ ?_
    show Steps p.tables e below (s₁.setTop (mkF m 3 #[iv p0, iv p1, .unset, .unset, .unset, .unset, .unset] [(.int 2147483647), (.int p0)])) _
    refine XS.iand X0.here hx rfl (hb hby at_3) rfl ?_
    show Steps p.tables e below (s₁.setTop (mkF m 4 #[iv p0, iv p1, .unset, .unset, .unset, .unset, .unset] [(.int (p0 &&& (2147483647 : Int32)))])) _
    refine XS.bipush X0.here hx rfl (hb hby at_4) ?_
    show Steps p.tables e below (s₁.setTop (mkF m 6 #[iv p0, iv p1, .unset, .unset, .unset, .unset, .unset] [(.int 6), (.int (p0 &&& (2147483647 : Int32)))])) _
    refine iremM X0 hx rfl (hb hby at_6) rfl (by decide) ?_
    show Steps p.tables e below (s₁.setTop (mkF m 7 #[iv p0, iv p1, .unset, .unset, .unset, .unset, .unset] [(.int ((p0 &&& (2147483647 : Int32)) % (6 : Int32)))])) _
    exact k
  refine own_lift sg1 ?_
  show own_Go p.tables e below (s₁.setTop (mkF m 7 #[iv p0, iv p1, .unset, .unset, .unset, .unset, .unset] [(.int ((p0 &&& (2147483647 : Int32)) % (6 : Int32)))])) _
  rw [hk]
  show own_Go p.tables e below (s₁.setTop (mkF m 7 #[iv p0, iv p1, .unset, .unset, .unset, .unset, .unset] [(.int 3)])) _
  have sg2 : ∀ t, Steps p.tables e below (s₁.setTop (mkF m 9 #[iv p0, iv p1, iv 3, .unset, .unset, .unset, .unset] [(.int 3)])) t → Steps p.tables e below (s₁.setTop (mkF m 7 #[iv p0, iv p1, .unset, .unset, .unset, .unset, .unset] [(.int 3)])) t := by
    intro t k
    refine XS.istoreN X0.here hx rfl (hb hby at_7) rfl (l' := #[iv p0, iv p1, iv 3, .unset, .unset, .unset, .unset]) rfl ?_
    show Steps p.tables e below (s₁.setTop (mkF m 8 #[iv p0, iv p1, iv 3, .unset, .unset, .unset, .unset] [])) _
    refine XS.iloadN X0.here hx rfl (hb hby at_8) rfl ?_
    show Steps p.tables e below (s₁.setTop (mkF m 9 #[iv p0, iv p1, iv 3, .unset, .unset, .unset, .unset] [(.int 3)])) _
    exact k
  refine own_lift sg2 ?_
  show own_Go p.tables e below (s₁.setTop (mkF m 9 #[iv p0, iv p1, iv 3, .unset, .unset, .unset, .unset] [(.int 3)])) _
  obtain ⟨_, _, ⟨T3, Lx3, kx3, nx3⟩, -, X3, ⟨Lc3, hQ3, lx3, yx3, zx3⟩, st3⟩ := Jvm.LawKit.callS X0 hx (y := (⟨"com/example/ophion/ophion/runtime/CompareOpSwappedPinLaw", "pick", "(I)Lcom/example/ophion/ophion/runtime/CompareOp;"⟩ : MethodName)) hown (mvT hZ (wd hw 1 rfl)) (mvT hZ (wd hw 2 rfl)) (mvT hZ (wd hw 3 rfl)) (mvT hZ (wd hw 4 rfl)) (by decide) (backOf (W := 0) (rmPick3 l Z a0 hw [] (3 : Int32) as_NOT_EQUAL h0 n0 Z0 S_NOT_EQUAL (by decide : ¬ ((3 : Int32) = (0 : Int32))) (by decide : ¬ ((3 : Int32) = (1 : Int32))) (by decide : ¬ ((3 : Int32) = (2 : Int32))) (by decide : (3 : Int32) = (3 : Int32))) hZ (wd hw 4 rfl) (wd hw 3 rfl) (by decide) (by decide)) (g := (mkF m 9 #[iv p0, iv p1, iv 3, .unset, .unset, .unset, .unset] [(.int 3)])) rfl (by rw [hml]; rfl) (argsL := [(.int 3)]) (rest := []) (lenOf pd_1 rfl) rfl (by show 2 * 0 + _ ≤ _; exact Nat.le_of_eq rfl) (hb hby at_9) (fun _ _ => ⟨rfl, e0, (by decide : 0 + 0 ≤ _), (by decide : 0 + 0 ≤ _)⟩)
  dsimp only [Pt.U, Pt.locs, Pt.cells, Pt.slots] at X3 lx3 yx3 zx3 st3 hQ3
  subst lx3 yx3 zx3
  obtain ⟨rfl, N3q, e3⟩ := hQ3
  have N3 := Fr.app N0 N3q
  refine own_lift st3 ?_
  show own_Go p.tables e below (T3.setTop (mkF m 12 #[iv p0, iv p1, iv 3, .unset, .unset, .unset, .unset] [(.ref as_NOT_EQUAL)])) _
  have sg4 : ∀ t, Steps p.tables e below (T3.setTop (mkF m 14 #[iv p0, iv p1, iv 3, rv as_NOT_EQUAL, .unset, .unset, .unset] [(.int 3)])) t → Steps p.tables e below (T3.setTop (mkF m 12 #[iv p0, iv p1, iv 3, .unset, .unset, .unset, .unset] [(.ref as_NOT_EQUAL)])) t := by
    intro t k
    refine XS.astoreN X3.here hx rfl (hb hby at_12) rfl rfl (l' := #[iv p0, iv p1, iv 3, rv as_NOT_EQUAL, .unset, .unset, .unset]) rfl ?_
    show Steps p.tables e below (T3.setTop (mkF m 13 #[iv p0, iv p1, iv 3, rv as_NOT_EQUAL, .unset, .unset, .unset] [])) _
    refine XS.iloadN X3.here hx rfl (hb hby at_13) rfl ?_
    show Steps p.tables e below (T3.setTop (mkF m 14 #[iv p0, iv p1, iv 3, rv as_NOT_EQUAL, .unset, .unset, .unset] [(.int 3)])) _
    exact k
  refine own_lift sg4 ?_
  show own_Go p.tables e below (T3.setTop (mkF m 14 #[iv p0, iv p1, iv 3, rv as_NOT_EQUAL, .unset, .unset, .unset] [(.int 3)])) _
  obtain ⟨_, _, ⟨T5, Lx5, kx5, nx5⟩, -, X5, ⟨Lc5, hQ5, lx5, yx5, zx5⟩, st5⟩ := Jvm.LawKit.callS X3 hx (y := (⟨"com/example/ophion/ophion/runtime/CompareOpSwappedPinLaw", "mirror", "(I)I"⟩ : MethodName)) hown (mvT hZ (wd hw 8 rfl)) (mvT hZ (wd hw 9 rfl)) (mvT hZ (wd hw 3 rfl)) (mvT hZ (wd hw 10 rfl)) (by decide) (backOf (W := 0) (rmMirD l Z a0 hw [] (3 : Int32) h0 n0 Z0 (by decide : ¬ ((3 : Int32) = (0 : Int32))) (by decide : ¬ ((3 : Int32) = (1 : Int32))) (by decide : ¬ ((3 : Int32) = (4 : Int32))) (by decide : ¬ ((3 : Int32) = (5 : Int32)))) hZ (wd hw 10 rfl) (wd hw 3 rfl) (by decide) (by decide)) (g := (mkF m 14 #[iv p0, iv p1, iv 3, rv as_NOT_EQUAL, .unset, .unset, .unset] [(.int 3)])) rfl (by rw [hml]; rfl) (argsL := [(.int 3)]) (rest := []) (lenOf pd_2 rfl) rfl (by show 2 * 0 + _ ≤ _; exact Nat.le_of_eq rfl) (hb hby at_14) (fun _ _ => ⟨rfl, e3, (by decide : 0 + 0 ≤ _), (by decide : 0 + 0 ≤ _)⟩)
  dsimp only [Pt.U, Pt.locs, Pt.cells, Pt.slots] at X5 lx5 yx5 zx5 st5 hQ5
  subst lx5 yx5 zx5
  obtain ⟨rfl, N5q, e5⟩ := hQ5
  have N5 := Fr.app N3 N5q
  refine own_lift st5 ?_
  show own_Go p.tables e below (T5.setTop (mkF m 17 #[iv p0, iv p1, iv 3, rv as_NOT_EQUAL, .unset, .unset, .unset] [(.int 3)])) _
  obtain ⟨_, _, ⟨T6, Lx6, kx6, nx6⟩, -, X6, ⟨Lc6, hQ6, lx6, yx6, zx6⟩, st6⟩ := Jvm.LawKit.callS X5 hx (y := (⟨"com/example/ophion/ophion/runtime/CompareOpSwappedPinLaw", "pick", "(I)Lcom/example/ophion/ophion/runtime/CompareOp;"⟩ : MethodName)) hown (mvT hZ (wd hw 1 rfl)) (mvT hZ (wd hw 2 rfl)) (mvT hZ (wd hw 3 rfl)) (mvT hZ (wd hw 4 rfl)) (by decide) (backOf (W := 0) (rmPick3 l Z a0 hw [] (3 : Int32) as_NOT_EQUAL h0 n0 Z0 S_NOT_EQUAL (by decide : ¬ ((3 : Int32) = (0 : Int32))) (by decide : ¬ ((3 : Int32) = (1 : Int32))) (by decide : ¬ ((3 : Int32) = (2 : Int32))) (by decide : (3 : Int32) = (3 : Int32))) hZ (wd hw 4 rfl) (wd hw 3 rfl) (by decide) (by decide)) (g := (mkF m 17 #[iv p0, iv p1, iv 3, rv as_NOT_EQUAL, .unset, .unset, .unset] [(.int 3)])) rfl (by rw [hml]; rfl) (argsL := [(.int 3)]) (rest := []) (lenOf pd_1 rfl) rfl (by show 2 * 0 + _ ≤ _; exact Nat.le_of_eq rfl) (hb hby at_17) (fun _ _ => ⟨rfl, e5, (by decide : 0 + 0 ≤ _), (by decide : 0 + 0 ≤ _)⟩)
  dsimp only [Pt.U, Pt.locs, Pt.cells, Pt.slots] at X6 lx6 yx6 zx6 st6 hQ6
  subst lx6 yx6 zx6
  obtain ⟨rfl, N6q, e6⟩ := hQ6
  have N6 := Fr.app N5 N6q
  refine own_lift st6 ?_
  show own_Go p.tables e below (T6.setTop (mkF m 20 #[iv p0, iv p1, iv 3, rv as_NOT_EQUAL, .unset, .unset, .unset] [(.ref as_NOT_EQUAL)])) _
  have sg7 : ∀ t, Steps p.tables e below (T6.setTop (mkF m 23 #[iv p0, iv p1, iv 3, rv as_NOT_EQUAL, rv as_NOT_EQUAL, .unset, .unset] [(.ref as_NOT_EQUAL)])) t → Steps p.tables e below (T6.setTop (mkF m 20 #[iv p0, iv p1, iv 3, rv as_NOT_EQUAL, .unset, .unset, .unset] [(.ref as_NOT_EQUAL)])) t := by
    intro t k
    refine XS.astore X6.here hx rfl (hb hby at_20) rfl rfl (l' := #[iv p0, iv p1, iv 3, rv as_NOT_EQUAL, rv as_NOT_EQUAL, .unset, .unset]) rfl ?_
    show Steps p.tables e below (T6.setTop (mkF m 22 #[iv p0, iv p1, iv 3, rv as_NOT_EQUAL, rv as_NOT_EQUAL, .unset, .unset] [])) _
    refine XS.aloadN X6.here hx rfl (hb hby at_22) rfl rfl ?_
    show Steps p.tables e below (T6.setTop (mkF m 23 #[iv p0, iv p1, iv 3, rv as_NOT_EQUAL, rv as_NOT_EQUAL, .unset, .unset] [(.ref as_NOT_EQUAL)])) _
    exact k
  refine own_lift sg7 ?_
  show own_Go p.tables e below (T6.setTop (mkF m 23 #[iv p0, iv p1, iv 3, rv as_NOT_EQUAL, rv as_NOT_EQUAL, .unset, .unset] [(.ref as_NOT_EQUAL)])) _
  obtain ⟨cq8, kq8, q8a, q8b, q8c⟩ := isOf hZ e6 E_NOT_EQUAL
  obtain ⟨_, _, ⟨T8, Lx8, kx8, nx8⟩, -, X8, ⟨Lc8, hQ8, lx8, yx8, zx8⟩, st8⟩ := X6.virtualBack hx (y := (⟨"com/example/ophion/ophion/runtime/CompareOp", "swapped", "()Lcom/example/ophion/ophion/runtime/CompareOp;"⟩ : MethodName)) (z := (⟨"com/example/ophion/ophion/runtime/CompareOp", "swapped", "()Lcom/example/ophion/ophion/runtime/CompareOp;"⟩ : MethodName)) hown (mvT hZ (wd hw 13 rfl)) (mvT hZ (wd hw 14 rfl)) (notFace_of_selects (args := #[]) (mvT hZ (wd hw 16 rfl))) (mvT hZ (wd hw 16 rfl)) (mvT hZ (wd hw 15 rfl)) (by decide) (backOf (W := 0) (rmSw3 l Z a0 hw [] as_NOT_EQUAL h0 n0 Z0 O_NOT_EQUAL E_NOT_EQUAL) hZ (wd hw 17 rfl) (wd hw 6 rfl) (by decide) (by decide)) q8a q8c (g := (mkF m 23 #[iv p0, iv p1, iv 3, rv as_NOT_EQUAL, rv as_NOT_EQUAL, .unset, .unset] [(.ref as_NOT_EQUAL)])) rfl (by rw [hml]; rfl) (Steps.refl _) (argsL := []) (rest := []) (lenOf pd_3 rfl) rfl (by show 2 * 0 + _ ≤ _; exact Nat.le_of_eq rfl) (hb hby at_23) (fun _ _ => ⟨rfl, e6, (by decide : 0 + 0 ≤ _), (by decide : 0 + 0 ≤ _)⟩)
  dsimp only [Pt.U, Pt.locs, Pt.cells, Pt.slots] at X8 lx8 yx8 zx8 st8 hQ8
  subst lx8 yx8 zx8
  obtain ⟨rfl, N8q, e8⟩ := hQ8
  have N8 := Fr.app N6 N8q
  refine own_lift (fun t k => st8.trans k) ?_
  show own_Go p.tables e below (T8.setTop (mkF m 26 #[iv p0, iv p1, iv 3, rv as_NOT_EQUAL, rv as_NOT_EQUAL, .unset, .unset] [(.ref as_NOT_EQUAL)])) _
  have sg9 : ∀ t, Steps p.tables e below (T8.setTop (mkF m 34 #[iv p0, iv p1, iv 3, rv as_NOT_EQUAL, rv as_NOT_EQUAL, rv as_NOT_EQUAL, .unset] [(.int ((p1 &&& (2147483647 : Int32)) % (3 : Int32)))])) t → Steps p.tables e below (T8.setTop (mkF m 26 #[iv p0, iv p1, iv 3, rv as_NOT_EQUAL, rv as_NOT_EQUAL, .unset, .unset] [(.ref as_NOT_EQUAL)])) t := by
    intro t k
    refine XS.astore X8.here hx rfl (hb hby at_26) rfl rfl (l' := #[iv p0, iv p1, iv 3, rv as_NOT_EQUAL, rv as_NOT_EQUAL, rv as_NOT_EQUAL, .unset]) rfl ?_
    show Steps p.tables e below (T8.setTop (mkF m 28 #[iv p0, iv p1, iv 3, rv as_NOT_EQUAL, rv as_NOT_EQUAL, rv as_NOT_EQUAL, .unset] [])) _
    refine XS.iloadN X8.here hx rfl (hb hby at_28) rfl ?_
    show Steps p.tables e below (T8.setTop (mkF m 29 #[iv p0, iv p1, iv 3, rv as_NOT_EQUAL, rv as_NOT_EQUAL, rv as_NOT_EQUAL, .unset] [(.int p1)])) _
    refine X8.ldcInt hx hown (mvT hZ (wd hw 0 rfl)) (g := (mkF m 29 #[iv p0, iv p1, iv 3, rv as_NOT_EQUAL, rv as_NOT_EQUAL, rv as_NOT_EQUAL, .unset] [(.int p1)])) rfl (hb hby at_29) _ ?_
    show Steps p.tables e below (T8.setTop (mkF m 31 #[iv p0, iv p1, iv 3, rv as_NOT_EQUAL, rv as_NOT_EQUAL, rv as_NOT_EQUAL, .unset] [(.int 2147483647), (.int p1)])) _
    refine XS.iand X8.here hx rfl (hb hby at_31) rfl ?_
    show Steps p.tables e below (T8.setTop (mkF m 32 #[iv p0, iv p1, iv 3, rv as_NOT_EQUAL, rv as_NOT_EQUAL, rv as_NOT_EQUAL, .unset] [(.int (p1 &&& (2147483647 : Int32)))])) _
    refine XS.iconst X8.here hx rfl (hb hby at_32) ?_
    show Steps p.tables e below (T8.setTop (mkF m 33 #[iv p0, iv p1, iv 3, rv as_NOT_EQUAL, rv as_NOT_EQUAL, rv as_NOT_EQUAL, .unset] [(.int 3), (.int (p1 &&& (2147483647 : Int32)))])) _
    refine iremM X8 hx rfl (hb hby at_33) rfl (by decide) ?_
    show Steps p.tables e below (T8.setTop (mkF m 34 #[iv p0, iv p1, iv 3, rv as_NOT_EQUAL, rv as_NOT_EQUAL, rv as_NOT_EQUAL, .unset] [(.int ((p1 &&& (2147483647 : Int32)) % (3 : Int32)))])) _
    exact k
  refine own_lift sg9 ?_
  show own_Go p.tables e below (T8.setTop (mkF m 34 #[iv p0, iv p1, iv 3, rv as_NOT_EQUAL, rv as_NOT_EQUAL, rv as_NOT_EQUAL, .unset] [(.int ((p1 &&& (2147483647 : Int32)) % (3 : Int32)))])) _
  rw [hs]
  show own_Go p.tables e below (T8.setTop (mkF m 34 #[iv p0, iv p1, iv 3, rv as_NOT_EQUAL, rv as_NOT_EQUAL, rv as_NOT_EQUAL, .unset] [(.int 2)])) _
  have sg10 : ∀ t, Steps p.tables e below (T8.setTop (mkF m 50 #[iv p0, iv p1, iv 3, rv as_NOT_EQUAL, rv as_NOT_EQUAL, rv as_NOT_EQUAL, iv 1] [(.int (-1)), (.ref as_NOT_EQUAL)])) t → Steps p.tables e below (T8.setTop (mkF m 34 #[iv p0, iv p1, iv 3, rv as_NOT_EQUAL, rv as_NOT_EQUAL, rv as_NOT_EQUAL, .unset] [(.int 2)])) t := by
    intro t k
    refine XS.iconst X8.here hx rfl (hb hby at_34) ?_
    show Steps p.tables e below (T8.setTop (mkF m 35 #[iv p0, iv p1, iv 3, rv as_NOT_EQUAL, rv as_NOT_EQUAL, rv as_NOT_EQUAL, .unset] [(.int 1), (.int 2)])) _
    refine XS.isub X8.here hx rfl (hb hby at_35) rfl ?_
    show Steps p.tables e below (T8.setTop (mkF m 36 #[iv p0, iv p1, iv 3, rv as_NOT_EQUAL, rv as_NOT_EQUAL, rv as_NOT_EQUAL, .unset] [(.int 1)])) _
    refine XS.istore X8.here hx rfl (hb hby at_36) rfl (l' := #[iv p0, iv p1, iv 3, rv as_NOT_EQUAL, rv as_NOT_EQUAL, rv as_NOT_EQUAL, iv 1]) rfl ?_
    show Steps p.tables e below (T8.setTop (mkF m 38 #[iv p0, iv p1, iv 3, rv as_NOT_EQUAL, rv as_NOT_EQUAL, rv as_NOT_EQUAL, iv 1] [])) _
    refine XS.aload X8.here hx rfl (hb hby at_38) rfl rfl ?_
    show Steps p.tables e below (T8.setTop (mkF m 40 #[iv p0, iv p1, iv 3, rv as_NOT_EQUAL, rv as_NOT_EQUAL, rv as_NOT_EQUAL, iv 1] [(.ref as_NOT_EQUAL)])) _
    refine XS.aload X8.here hx rfl (hb hby at_40) rfl rfl ?_
    show Steps p.tables e below (T8.setTop (mkF m 42 #[iv p0, iv p1, iv 3, rv as_NOT_EQUAL, rv as_NOT_EQUAL, rv as_NOT_EQUAL, iv 1] [(.ref as_NOT_EQUAL), (.ref as_NOT_EQUAL)])) _
    refine Jvm.RoadKit.acmp (g := (mkF m 42 #[iv p0, iv p1, iv 3, rv as_NOT_EQUAL, rv as_NOT_EQUAL, rv as_NOT_EQUAL, iv 1] [(.ref as_NOT_EQUAL), (.ref as_NOT_EQUAL)])) X8 hx rfl rfl rfl (pc0 := 42) (pc' := 45) (same := true) rfl (hb hby at_42) rfl (decide_eq_true rfl) (by decide) (by decide) ?_
    show Steps p.tables e below (T8.setTop (mkF m 45 #[iv p0, iv p1, iv 3, rv as_NOT_EQUAL, rv as_NOT_EQUAL, rv as_NOT_EQUAL, iv 1] [])) _
    refine XS.aload X8.here hx rfl (hb hby at_45) rfl rfl ?_
    show Steps p.tables e below (T8.setTop (mkF m 47 #[iv p0, iv p1, iv 3, rv as_NOT_EQUAL, rv as_NOT_EQUAL, rv as_NOT_EQUAL, iv 1] [(.ref as_NOT_EQUAL)])) _
    refine XS.iload X8.here hx rfl (hb hby at_47) rfl ?_
    show Steps p.tables e below (T8.setTop (mkF m 49 #[iv p0, iv p1, iv 3, rv as_NOT_EQUAL, rv as_NOT_EQUAL, rv as_NOT_EQUAL, iv 1] [(.int 1), (.ref as_NOT_EQUAL)])) _
    refine XS.ineg X8.here hx rfl (hb hby at_49) rfl ?_
    show Steps p.tables e below (T8.setTop (mkF m 50 #[iv p0, iv p1, iv 3, rv as_NOT_EQUAL, rv as_NOT_EQUAL, rv as_NOT_EQUAL, iv 1] [(.int (-1)), (.ref as_NOT_EQUAL)])) _
    exact k
  refine own_lift sg10 ?_
  show own_Go p.tables e below (T8.setTop (mkF m 50 #[iv p0, iv p1, iv 3, rv as_NOT_EQUAL, rv as_NOT_EQUAL, rv as_NOT_EQUAL, iv 1] [(.int (-1)), (.ref as_NOT_EQUAL)])) _
  obtain ⟨cq11, kq11, q11a, q11b, q11c⟩ := isOf hZ e8 E_NOT_EQUAL
  obtain ⟨_, _, ⟨T11, Lx11, kx11, nx11⟩, -, X11, ⟨Lc11, hQ11, lx11, yx11, zx11⟩, st11⟩ := X8.virtualBack hx (y := (⟨"com/example/ophion/ophion/runtime/CompareOp", "holds", "(I)Z"⟩ : MethodName)) (z := (⟨"com/example/ophion/ophion/runtime/CompareOp", "holds", "(I)Z"⟩ : MethodName)) hown (mvT hZ (wd hw 28 rfl)) (mvT hZ (wd hw 29 rfl)) (notFace_of_selects (args := #[]) (mvT hZ (wd hw 31 rfl))) (mvT hZ (wd hw 31 rfl)) (mvT hZ (wd hw 30 rfl)) (by decide) (backOf (W := 0) (rmHolds3f l Z a0 hw [] as_NOT_EQUAL (-1 : Int32) h0 n0 Z0 O_NOT_EQUAL E_NOT_EQUAL (by decide : ¬ ((-1 : Int32) = (0 : Int32)))) hZ (wd hw 32 rfl) (wd hw 6 rfl) (by decide) (by decide)) q11a q11c (g := (mkF m 50 #[iv p0, iv p1, iv 3, rv as_NOT_EQUAL, rv as_NOT_EQUAL, rv as_NOT_EQUAL, iv 1] [(.int (-1)), (.ref as_NOT_EQUAL)])) rfl (by rw [hml]; rfl) (Steps.refl _) (argsL := [(.int (-1))]) (rest := []) (lenOf pd_4 rfl) rfl (by show 2 * 0 + _ ≤ _; exact Nat.le_of_eq rfl) (hb hby at_50) (fun _ _ => ⟨rfl, e8, (by decide : 0 + 0 ≤ _), (by decide : 0 + 0 ≤ _)⟩)
  dsimp only [Pt.U, Pt.locs, Pt.cells, Pt.slots] at X11 lx11 yx11 zx11 st11 hQ11
  subst lx11 yx11 zx11
  obtain ⟨rfl, N11q, e11⟩ := hQ11
  have N11 := Fr.app N8 N11q
  refine own_lift (fun t k => st11.trans k) ?_
  show own_Go p.tables e below (T11.setTop (mkF m 53 #[iv p0, iv p1, iv 3, rv as_NOT_EQUAL, rv as_NOT_EQUAL, rv as_NOT_EQUAL, iv 1] [(.int 1)])) _
  have sg12 : ∀ t, Steps p.tables e below (T11.setTop (mkF m 56 #[iv p0, iv p1, iv 3, rv as_NOT_EQUAL, rv as_NOT_EQUAL, rv as_NOT_EQUAL, iv 1] [(.int 1), (.ref as_NOT_EQUAL), (.int 1)])) t → Steps p.tables e below (T11.setTop (mkF m 53 #[iv p0, iv p1, iv 3, rv as_NOT_EQUAL, rv as_NOT_EQUAL, rv as_NOT_EQUAL, iv 1] [(.int 1)])) t := by
    intro t k
    refine XS.aloadN X11.here hx rfl (hb hby at_53) rfl rfl ?_
    show Steps p.tables e below (T11.setTop (mkF m 54 #[iv p0, iv p1, iv 3, rv as_NOT_EQUAL, rv as_NOT_EQUAL, rv as_NOT_EQUAL, iv 1] [(.ref as_NOT_EQUAL), (.int 1)])) _
    refine XS.iload X11.here hx rfl (hb hby at_54) rfl ?_
    show Steps p.tables e below (T11.setTop (mkF m 56 #[iv p0, iv p1, iv 3, rv as_NOT_EQUAL, rv as_NOT_EQUAL, rv as_NOT_EQUAL, iv 1] [(.int 1), (.ref as_NOT_EQUAL), (.int 1)])) _
    exact k
  refine own_lift sg12 ?_
  show own_Go p.tables e below (T11.setTop (mkF m 56 #[iv p0, iv p1, iv 3, rv as_NOT_EQUAL, rv as_NOT_EQUAL, rv as_NOT_EQUAL, iv 1] [(.int 1), (.ref as_NOT_EQUAL), (.int 1)])) _
  obtain ⟨cq13, kq13, q13a, q13b, q13c⟩ := isOf hZ e11 E_NOT_EQUAL
  obtain ⟨_, _, ⟨T13, Lx13, kx13, nx13⟩, -, X13, ⟨Lc13, hQ13, lx13, yx13, zx13⟩, st13⟩ := X11.virtualBack hx (y := (⟨"com/example/ophion/ophion/runtime/CompareOp", "holds", "(I)Z"⟩ : MethodName)) (z := (⟨"com/example/ophion/ophion/runtime/CompareOp", "holds", "(I)Z"⟩ : MethodName)) hown (mvT hZ (wd hw 28 rfl)) (mvT hZ (wd hw 29 rfl)) (notFace_of_selects (args := #[]) (mvT hZ (wd hw 31 rfl))) (mvT hZ (wd hw 31 rfl)) (mvT hZ (wd hw 30 rfl)) (by decide) (backOf (W := 1) (rmHolds3f l Z a0 hw [] as_NOT_EQUAL (1 : Int32) h0 n0 Z0 O_NOT_EQUAL E_NOT_EQUAL (by decide : ¬ ((1 : Int32) = (0 : Int32)))) hZ (wd hw 32 rfl) (wd hw 6 rfl) (by decide) (by decide)) q13a q13c (g := (mkF m 56 #[iv p0, iv p1, iv 3, rv as_NOT_EQUAL, rv as_NOT_EQUAL, rv as_NOT_EQUAL, iv 1] [(.int 1), (.ref as_NOT_EQUAL), (.int 1)])) rfl (by rw [hml]; rfl) (Steps.refl _) (argsL := [(.int 1)]) (rest := [(.int 1)]) (lenOf pd_4 rfl) rfl (by show 2 * 0 + _ ≤ _; exact Nat.le_of_eq rfl) (hb hby at_56) (fun _ _ => ⟨rfl, e11, (by decide : 0 + 0 ≤ _), (by decide : 0 + 0 ≤ _)⟩)
  dsimp only [Pt.U, Pt.locs, Pt.cells, Pt.slots] at X13 lx13 yx13 zx13 st13 hQ13
  subst lx13 yx13 zx13
  obtain ⟨rfl, N13q, e13⟩ := hQ13
  have N13 := Fr.app N11 N13q
  refine own_lift (fun t k => st13.trans k) ?_
  show own_Go p.tables e below (T13.setTop (mkF m 59 #[iv p0, iv p1, iv 3, rv as_NOT_EQUAL, rv as_NOT_EQUAL, rv as_NOT_EQUAL, iv 1] [(.int 1), (.int 1)])) _
  have sg14 : ∀ t, Steps p.tables e below (T13.setTop (mkF m 67 #[iv p0, iv p1, iv 3, rv as_NOT_EQUAL, rv as_NOT_EQUAL, rv as_NOT_EQUAL, iv 1] [(.int 1)])) t → Steps p.tables e below (T13.setTop (mkF m 59 #[iv p0, iv p1, iv 3, rv as_NOT_EQUAL, rv as_NOT_EQUAL, rv as_NOT_EQUAL, iv 1] [(.int 1), (.int 1)])) t := by
    intro t k
    refine XS.icmpNo X13.here hx rfl (hb hby at_59) rfl (teq (by decide : (1 : Int32) = (1 : Int32))).2 ?_
    show Steps p.tables e below (T13.setTop (mkF m 62 #[iv p0, iv p1, iv 3, rv as_NOT_EQUAL, rv as_NOT_EQUAL, rv as_NOT_EQUAL, iv 1] [])) _
    refine XS.iconst X13.here hx rfl (hb hby at_62) ?_
    show Steps p.tables e below (T13.setTop (mkF m 63 #[iv p0, iv p1, iv 3, rv as_NOT_EQUAL, rv as_NOT_EQUAL, rv as_NOT_EQUAL, iv 1] [(.int 1)])) _
    refine XS.goto X13.here hx rfl (pc0 := 63) (pc' := 67) rfl (hb hby at_63) (by decide) (by decide) ?_
    show Steps p.tables e below (T13.setTop (mkF m 67 #[iv p0, iv p1, iv 3, rv as_NOT_EQUAL, rv as_NOT_EQUAL, rv as_NOT_EQUAL, iv 1] [(.int 1)])) _
    exact k
  refine own_lift sg14 ?_
  show own_Go p.tables e below (T13.setTop (mkF m 67 #[iv p0, iv p1, iv 3, rv as_NOT_EQUAL, rv as_NOT_EQUAL, rv as_NOT_EQUAL, iv 1] [(.int 1)])) _
  obtain ⟨fs, hr, hrun, hended, hW, hsame⟩ := X13.leave (v := some (.int 1)) (fun h => by rw [Bd.returns] at h; cases h)
  refine ⟨_, _, ?_, hrun, hended, _, _, rfl, ?_, ⟨_, rfl⟩, hW, hsame.mono (by decide) (by decide)⟩
  · exact retN X13 hx (t := .boolean) Bd.returns (by simp) (hb hby at_67) hr
  · show Q0 Z  h0 n0 _ T13.heap _
    rw [e13]
    exact ⟨rfl, N13⟩
theorem ef_rm0_40 (m : MethodId) (x0 : Int32) (x1 : Int32) : entryFrame m #[(.int x0), (.int x1)] maxLocals = mkF m 0 #[.val (.int x0), .val (.int x1), .unset, .unset, .unset, .unset, .unset] [] := by first | (simp [entryFrame, mkF, argsToLocals, Value.category, maxLocals]; done) | rfl
set_option maxRecDepth 65536 in
set_option maxHeartbeats 40000000 in
theorem rm0_40 (l : Launch) (Z : State) (a0 : Array Value) (hw : ∀ d ∈ tables_1, d.before a0 Z = true) (ws : List Jvm.Cond) (p0 : Int32) (p1 : Int32) (as_LESS : Addr) (as_GREATER : Addr) (as_EQUAL : Addr) (as_LESS_EQUAL : Addr) (as_GREATER_EQUAL : Addr) (as_NOT_EQUAL : Addr) (h0 : Heap) (n0 : Nat) (Z0 : n0 ≤ h0.size) (S_LESS : Sta Z h0 "com/example/ophion/ophion/runtime/CompareOp" "LESS" "Lcom/example/ophion/ophion/runtime/CompareOp;" (.ref as_LESS)) (E_LESS : Exa Z h0 as_LESS "com/example/ophion/ophion/runtime/CompareOp") (O_LESS : Fld Z h0 as_LESS "java/lang/Enum" "ordinal" "I" (.int 0)) (S_GREATER : Sta Z h0 "com/example/ophion/ophion/runtime/CompareOp" "GREATER" "Lcom/example/ophion/ophion/runtime/CompareOp;" (.ref as_GREATER)) (E_GREATER : Exa Z h0 as_GREATER "com/example/ophion/ophion/runtime/CompareOp") (O_GREATER : Fld Z h0 as_GREATER "java/lang/Enum" "ordinal" "I" (.int 4)) (S_EQUAL : Sta Z h0 "com/example/ophion/ophion/runtime/CompareOp" "EQUAL" "Lcom/example/ophion/ophion/runtime/CompareOp;" (.ref as_EQUAL)) (E_EQUAL : Exa Z h0 as_EQUAL "com/example/ophion/ophion/runtime/CompareOp") (O_EQUAL : Fld Z h0 as_EQUAL "java/lang/Enum" "ordinal" "I" (.int 2)) (S_LESS_EQUAL : Sta Z h0 "com/example/ophion/ophion/runtime/CompareOp" "LESS_EQUAL" "Lcom/example/ophion/ophion/runtime/CompareOp;" (.ref as_LESS_EQUAL)) (E_LESS_EQUAL : Exa Z h0 as_LESS_EQUAL "com/example/ophion/ophion/runtime/CompareOp") (O_LESS_EQUAL : Fld Z h0 as_LESS_EQUAL "java/lang/Enum" "ordinal" "I" (.int 1)) (S_GREATER_EQUAL : Sta Z h0 "com/example/ophion/ophion/runtime/CompareOp" "GREATER_EQUAL" "Lcom/example/ophion/ophion/runtime/CompareOp;" (.ref as_GREATER_EQUAL)) (E_GREATER_EQUAL : Exa Z h0 as_GREATER_EQUAL "com/example/ophion/ophion/runtime/CompareOp") (O_GREATER_EQUAL : Fld Z h0 as_GREATER_EQUAL "java/lang/Enum" "ordinal" "I" (.int 5)) (S_NOT_EQUAL : Sta Z h0 "com/example/ophion/ophion/runtime/CompareOp" "NOT_EQUAL" "Lcom/example/ophion/ophion/runtime/CompareOp;" (.ref as_NOT_EQUAL)) (E_NOT_EQUAL : Exa Z h0 as_NOT_EQUAL "com/example/ophion/ophion/runtime/CompareOp") (O_NOT_EQUAL : Fld Z h0 as_NOT_EQUAL "java/lang/Enum" "ordinal" "I" (.int 3)) (hk : ((p0 &&& (2147483647 : Int32)) % (6 : Int32)) = (4 : Int32)) (hs : ((p1 &&& (2147483647 : Int32)) % (3 : Int32)) = (0 : Int32)) :
    MetFree l x (head1 (Jvm.Cond.code x code maxLocals ret :: ws) room_1) (fun a U => a = #[(.int p0), (.int p1)] ∧ Z.Warmed39 U.vm ∧ U.heap = h0) (fun _ _ _ _ _ => True) (fun _ U o U' => ∃ v L, o = .returned v ∧ Q0 Z  h0 n0 v U'.heap L ∧ FrameEnd U o U' L 0 0) := by
  refine MetFree.of_bodySF (plainFor_of_name pn_2) hisR ?_
  intro p e s m args below meth c s₁ Bd hml0 hP hK
  obtain ⟨rfl, hZ, hh⟩ := hP
  have hx := Bd.exec
  have hby := Bd.bytes
  have hml : c.maxLocals = 7 := hml0
  have hown : s.vm.findClass "com/example/ophion/ophion/runtime/CompareOpSwappedPinLaw" = some m.cls := findClass_of_methodNamed Bd.named
  have hnm := (name_of_methodNamed Bd.named Bd.method).1
  have X0 : Stand p l e room_1 s m #[(.int p0), (.int p1)] below meth c s₁ [] 0 0 := Stand.of_body Bd
  have e0 : s₁.heap = h0 := by rw [← hh, Bd.state]; rfl
  have N0 := Fr.nil n0
  refine own_go (own_lift (fun t k => castTop (ef_rm0_40 m p0 p1) k) ?_)
  show own_Go p.tables e below (s₁.setTop (mkF m 0 #[iv p0, iv p1, .unset, .unset, .unset, .unset, .unset] [])) _
  have sg1 : ∀ t, Steps p.tables e below (s₁.setTop (mkF m 7 #[iv p0, iv p1, .unset, .unset, .unset, .unset, .unset] [(.int ((p0 &&& (2147483647 : Int32)) % (6 : Int32)))])) t → Steps p.tables e below (s₁.setTop (mkF m 0 #[iv p0, iv p1, .unset, .unset, .unset, .unset, .unset] [])) t := by
    intro t k
    refine XS.iloadN X0.here hx rfl (hb hby at_0) rfl ?_
    show Steps p.tables e below (s₁.setTop (mkF m 1 #[iv p0, iv p1, .unset, .unset, .unset, .unset, .unset] [(.int p0)])) _
    refine X0.ldcInt hx hown (mvT hZ (wd hw 0 rfl)) (g := (mkF m 1 #[iv p0, iv p1, .unset, .unset, .unset, .unset, .unset] [(.int p0)])) rfl (hb hby at_1) _ ?_
    show Steps p.tables e below (s₁.setTop (mkF m 3 #[iv p0, iv p1, .unset, .unset, .unset, .unset, .unset] [(.int 2147483647), (.int p0)])) _
    refine XS.iand X0.here hx rfl (hb hby at_3) rfl ?_
    show Steps p.tables e below (s₁.setTop (mkF m 4 #[iv p0, iv p1, .unset, .unset, .unset, .unset, .unset] [(.int (p0 &&& (2147483647 : Int32)))])) _
    refine XS.bipush X0.here hx rfl (hb hby at_4) ?_
    show Steps p.tables e below (s₁.setTop (mkF m 6 #[iv p0, iv p1, .unset, .unset, .unset, .unset, .unset] [(.int 6), (.int (p0 &&& (2147483647 : Int32)))])) _
    refine iremM X0 hx rfl (hb hby at_6) rfl (by decide) ?_
    show Steps p.tables e below (s₁.setTop (mkF m 7 #[iv p0, iv p1, .unset, .unset, .unset, .unset, .unset] [(.int ((p0 &&& (2147483647 : Int32)) % (6 : Int32)))])) _
    exact k
  refine own_lift sg1 ?_
  show own_Go p.tables e below (s₁.setTop (mkF m 7 #[iv p0, iv p1, .unset, .unset, .unset, .unset, .unset] [(.int ((p0 &&& (2147483647 : Int32)) % (6 : Int32)))])) _
  rw [hk]
  show own_Go p.tables e below (s₁.setTop (mkF m 7 #[iv p0, iv p1, .unset, .unset, .unset, .unset, .unset] [(.int 4)])) _
  have sg2 : ∀ t, Steps p.tables e below (s₁.setTop (mkF m 9 #[iv p0, iv p1, iv 4, .unset, .unset, .unset, .unset] [(.int 4)])) t → Steps p.tables e below (s₁.setTop (mkF m 7 #[iv p0, iv p1, .unset, .unset, .unset, .unset, .unset] [(.int 4)])) t := by
    intro t k
    refine XS.istoreN X0.here hx rfl (hb hby at_7) rfl (l' := #[iv p0, iv p1, iv 4, .unset, .unset, .unset, .unset]) rfl ?_
    show Steps p.tables e below (s₁.setTop (mkF m 8 #[iv p0, iv p1, iv 4, .unset, .unset, .unset, .unset] [])) _
    refine XS.iloadN X0.here hx rfl (hb hby at_8) rfl ?_
    show Steps p.tables e below (s₁.setTop (mkF m 9 #[iv p0, iv p1, iv 4, .unset, .unset, .unset, .unset] [(.int 4)])) _
    exact k
  refine own_lift sg2 ?_
  show own_Go p.tables e below (s₁.setTop (mkF m 9 #[iv p0, iv p1, iv 4, .unset, .unset, .unset, .unset] [(.int 4)])) _
  obtain ⟨_, _, ⟨T3, Lx3, kx3, nx3⟩, -, X3, ⟨Lc3, hQ3, lx3, yx3, zx3⟩, st3⟩ := Jvm.LawKit.callS X0 hx (y := (⟨"com/example/ophion/ophion/runtime/CompareOpSwappedPinLaw", "pick", "(I)Lcom/example/ophion/ophion/runtime/CompareOp;"⟩ : MethodName)) hown (mvT hZ (wd hw 1 rfl)) (mvT hZ (wd hw 2 rfl)) (mvT hZ (wd hw 3 rfl)) (mvT hZ (wd hw 4 rfl)) (by decide) (backOf (W := 0) (rmPick4 l Z a0 hw [] (4 : Int32) as_GREATER h0 n0 Z0 S_GREATER (by decide : ¬ ((4 : Int32) = (0 : Int32))) (by decide : ¬ ((4 : Int32) = (1 : Int32))) (by decide : ¬ ((4 : Int32) = (2 : Int32))) (by decide : ¬ ((4 : Int32) = (3 : Int32))) (by decide : (4 : Int32) = (4 : Int32))) hZ (wd hw 4 rfl) (wd hw 3 rfl) (by decide) (by decide)) (g := (mkF m 9 #[iv p0, iv p1, iv 4, .unset, .unset, .unset, .unset] [(.int 4)])) rfl (by rw [hml]; rfl) (argsL := [(.int 4)]) (rest := []) (lenOf pd_1 rfl) rfl (by show 2 * 0 + _ ≤ _; exact Nat.le_of_eq rfl) (hb hby at_9) (fun _ _ => ⟨rfl, e0, (by decide : 0 + 0 ≤ _), (by decide : 0 + 0 ≤ _)⟩)
  dsimp only [Pt.U, Pt.locs, Pt.cells, Pt.slots] at X3 lx3 yx3 zx3 st3 hQ3
  subst lx3 yx3 zx3
  obtain ⟨rfl, N3q, e3⟩ := hQ3
  have N3 := Fr.app N0 N3q
  refine own_lift st3 ?_
  show own_Go p.tables e below (T3.setTop (mkF m 12 #[iv p0, iv p1, iv 4, .unset, .unset, .unset, .unset] [(.ref as_GREATER)])) _
  have sg4 : ∀ t, Steps p.tables e below (T3.setTop (mkF m 14 #[iv p0, iv p1, iv 4, rv as_GREATER, .unset, .unset, .unset] [(.int 4)])) t → Steps p.tables e below (T3.setTop (mkF m 12 #[iv p0, iv p1, iv 4, .unset, .unset, .unset, .unset] [(.ref as_GREATER)])) t := by
    intro t k
    refine XS.astoreN X3.here hx rfl (hb hby at_12) rfl rfl (l' := #[iv p0, iv p1, iv 4, rv as_GREATER, .unset, .unset, .unset]) rfl ?_
    show Steps p.tables e below (T3.setTop (mkF m 13 #[iv p0, iv p1, iv 4, rv as_GREATER, .unset, .unset, .unset] [])) _
    refine XS.iloadN X3.here hx rfl (hb hby at_13) rfl ?_
    show Steps p.tables e below (T3.setTop (mkF m 14 #[iv p0, iv p1, iv 4, rv as_GREATER, .unset, .unset, .unset] [(.int 4)])) _
    exact k
  refine own_lift sg4 ?_
  show own_Go p.tables e below (T3.setTop (mkF m 14 #[iv p0, iv p1, iv 4, rv as_GREATER, .unset, .unset, .unset] [(.int 4)])) _
  obtain ⟨_, _, ⟨T5, Lx5, kx5, nx5⟩, -, X5, ⟨Lc5, hQ5, lx5, yx5, zx5⟩, st5⟩ := Jvm.LawKit.callS X3 hx (y := (⟨"com/example/ophion/ophion/runtime/CompareOpSwappedPinLaw", "mirror", "(I)I"⟩ : MethodName)) hown (mvT hZ (wd hw 8 rfl)) (mvT hZ (wd hw 9 rfl)) (mvT hZ (wd hw 3 rfl)) (mvT hZ (wd hw 10 rfl)) (by decide) (backOf (W := 0) (rmMir4 l Z a0 hw [] (4 : Int32) h0 n0 Z0 (by decide : ¬ ((4 : Int32) = (0 : Int32))) (by decide : ¬ ((4 : Int32) = (1 : Int32))) (by decide : (4 : Int32) = (4 : Int32))) hZ (wd hw 10 rfl) (wd hw 3 rfl) (by decide) (by decide)) (g := (mkF m 14 #[iv p0, iv p1, iv 4, rv as_GREATER, .unset, .unset, .unset] [(.int 4)])) rfl (by rw [hml]; rfl) (argsL := [(.int 4)]) (rest := []) (lenOf pd_2 rfl) rfl (by show 2 * 0 + _ ≤ _; exact Nat.le_of_eq rfl) (hb hby at_14) (fun _ _ => ⟨rfl, e3, (by decide : 0 + 0 ≤ _), (by decide : 0 + 0 ≤ _)⟩)
  dsimp only [Pt.U, Pt.locs, Pt.cells, Pt.slots] at X5 lx5 yx5 zx5 st5 hQ5
  subst lx5 yx5 zx5
  obtain ⟨rfl, N5q, e5⟩ := hQ5
  have N5 := Fr.app N3 N5q
  refine own_lift st5 ?_
  show own_Go p.tables e below (T5.setTop (mkF m 17 #[iv p0, iv p1, iv 4, rv as_GREATER, .unset, .unset, .unset] [(.int 0)])) _
  obtain ⟨_, _, ⟨T6, Lx6, kx6, nx6⟩, -, X6, ⟨Lc6, hQ6, lx6, yx6, zx6⟩, st6⟩ := Jvm.LawKit.callS X5 hx (y := (⟨"com/example/ophion/ophion/runtime/CompareOpSwappedPinLaw", "pick", "(I)Lcom/example/ophion/ophion/runtime/CompareOp;"⟩ : MethodName)) hown (mvT hZ (wd hw 1 rfl)) (mvT hZ (wd hw 2 rfl)) (mvT hZ (wd hw 3 rfl)) (mvT hZ (wd hw 4 rfl)) (by decide) (backOf (W := 0) (rmPick0 l Z a0 hw [] (0 : Int32) as_LESS h0 n0 Z0 S_LESS (by decide : (0 : Int32) = (0 : Int32))) hZ (wd hw 4 rfl) (wd hw 3 rfl) (by decide) (by decide)) (g := (mkF m 17 #[iv p0, iv p1, iv 4, rv as_GREATER, .unset, .unset, .unset] [(.int 0)])) rfl (by rw [hml]; rfl) (argsL := [(.int 0)]) (rest := []) (lenOf pd_1 rfl) rfl (by show 2 * 0 + _ ≤ _; exact Nat.le_of_eq rfl) (hb hby at_17) (fun _ _ => ⟨rfl, e5, (by decide : 0 + 0 ≤ _), (by decide : 0 + 0 ≤ _)⟩)
  dsimp only [Pt.U, Pt.locs, Pt.cells, Pt.slots] at X6 lx6 yx6 zx6 st6 hQ6
  subst lx6 yx6 zx6
  obtain ⟨rfl, N6q, e6⟩ := hQ6
  have N6 := Fr.app N5 N6q
  refine own_lift st6 ?_
  show own_Go p.tables e below (T6.setTop (mkF m 20 #[iv p0, iv p1, iv 4, rv as_GREATER, .unset, .unset, .unset] [(.ref as_LESS)])) _
  have sg7 : ∀ t, Steps p.tables e below (T6.setTop (mkF m 23 #[iv p0, iv p1, iv 4, rv as_GREATER, rv as_LESS, .unset, .unset] [(.ref as_GREATER)])) t → Steps p.tables e below (T6.setTop (mkF m 20 #[iv p0, iv p1, iv 4, rv as_GREATER, .unset, .unset, .unset] [(.ref as_LESS)])) t := by
    intro t k
    refine XS.astore X6.here hx rfl (hb hby at_20) rfl rfl (l' := #[iv p0, iv p1, iv 4, rv as_GREATER, rv as_LESS, .unset, .unset]) rfl ?_
    show Steps p.tables e below (T6.setTop (mkF m 22 #[iv p0, iv p1, iv 4, rv as_GREATER, rv as_LESS, .unset, .unset] [])) _
    refine XS.aloadN X6.here hx rfl (hb hby at_22) rfl rfl ?_
    show Steps p.tables e below (T6.setTop (mkF m 23 #[iv p0, iv p1, iv 4, rv as_GREATER, rv as_LESS, .unset, .unset] [(.ref as_GREATER)])) _
    exact k
  refine own_lift sg7 ?_
  show own_Go p.tables e below (T6.setTop (mkF m 23 #[iv p0, iv p1, iv 4, rv as_GREATER, rv as_LESS, .unset, .unset] [(.ref as_GREATER)])) _
  obtain ⟨cq8, kq8, q8a, q8b, q8c⟩ := isOf hZ e6 E_GREATER
  obtain ⟨_, _, ⟨T8, Lx8, kx8, nx8⟩, -, X8, ⟨Lc8, hQ8, lx8, yx8, zx8⟩, st8⟩ := X6.virtualBack hx (y := (⟨"com/example/ophion/ophion/runtime/CompareOp", "swapped", "()Lcom/example/ophion/ophion/runtime/CompareOp;"⟩ : MethodName)) (z := (⟨"com/example/ophion/ophion/runtime/CompareOp", "swapped", "()Lcom/example/ophion/ophion/runtime/CompareOp;"⟩ : MethodName)) hown (mvT hZ (wd hw 13 rfl)) (mvT hZ (wd hw 14 rfl)) (notFace_of_selects (args := #[]) (mvT hZ (wd hw 16 rfl))) (mvT hZ (wd hw 16 rfl)) (mvT hZ (wd hw 15 rfl)) (by decide) (backOf (W := 0) (rmSw4 l Z a0 hw [] as_GREATER as_LESS h0 n0 Z0 O_GREATER E_GREATER S_LESS) hZ (wd hw 17 rfl) (wd hw 6 rfl) (by decide) (by decide)) q8a q8c (g := (mkF m 23 #[iv p0, iv p1, iv 4, rv as_GREATER, rv as_LESS, .unset, .unset] [(.ref as_GREATER)])) rfl (by rw [hml]; rfl) (Steps.refl _) (argsL := []) (rest := []) (lenOf pd_3 rfl) rfl (by show 2 * 0 + _ ≤ _; exact Nat.le_of_eq rfl) (hb hby at_23) (fun _ _ => ⟨rfl, e6, (by decide : 0 + 0 ≤ _), (by decide : 0 + 0 ≤ _)⟩)
  dsimp only [Pt.U, Pt.locs, Pt.cells, Pt.slots] at X8 lx8 yx8 zx8 st8 hQ8
  subst lx8 yx8 zx8
  obtain ⟨rfl, N8q, e8⟩ := hQ8
  have N8 := Fr.app N6 N8q
  refine own_lift (fun t k => st8.trans k) ?_
  show own_Go p.tables e below (T8.setTop (mkF m 26 #[iv p0, iv p1, iv 4, rv as_GREATER, rv as_LESS, .unset, .unset] [(.ref as_LESS)])) _
  have sg9 : ∀ t, Steps p.tables e below (T8.setTop (mkF m 34 #[iv p0, iv p1, iv 4, rv as_GREATER, rv as_LESS, rv as_LESS, .unset] [(.int ((p1 &&& (2147483647 : Int32)) % (3 : Int32)))])) t → Steps p.tables e below (T8.setTop (mkF m 26 #[iv p0, iv p1, iv 4, rv as_GREATER, rv as_LESS, .unset, .unset] [(.ref as_LESS)])) t := by
    intro t k
    refine XS.astore X8.here hx rfl (hb hby at_26) rfl rfl (l' := #[iv p0, iv p1, iv 4, rv as_GREATER, rv as_LESS, rv as_LESS, .unset]) rfl ?_
    show Steps p.tables e below (T8.setTop (mkF m 28 #[iv p0, iv p1, iv 4, rv as_GREATER, rv as_LESS, rv as_LESS, .unset] [])) _
    refine XS.iloadN X8.here hx rfl (hb hby at_28) rfl ?_
    show Steps p.tables e below (T8.setTop (mkF m 29 #[iv p0, iv p1, iv 4, rv as_GREATER, rv as_LESS, rv as_LESS, .unset] [(.int p1)])) _
    refine X8.ldcInt hx hown (mvT hZ (wd hw 0 rfl)) (g := (mkF m 29 #[iv p0, iv p1, iv 4, rv as_GREATER, rv as_LESS, rv as_LESS, .unset] [(.int p1)])) rfl (hb hby at_29) _ ?_
    show Steps p.tables e below (T8.setTop (mkF m 31 #[iv p0, iv p1, iv 4, rv as_GREATER, rv as_LESS, rv as_LESS, .unset] [(.int 2147483647), (.int p1)])) _
    refine XS.iand X8.here hx rfl (hb hby at_31) rfl ?_
    show Steps p.tables e below (T8.setTop (mkF m 32 #[iv p0, iv p1, iv 4, rv as_GREATER, rv as_LESS, rv as_LESS, .unset] [(.int (p1 &&& (2147483647 : Int32)))])) _
    refine XS.iconst X8.here hx rfl (hb hby at_32) ?_
    show Steps p.tables e below (T8.setTop (mkF m 33 #[iv p0, iv p1, iv 4, rv as_GREATER, rv as_LESS, rv as_LESS, .unset] [(.int 3), (.int (p1 &&& (2147483647 : Int32)))])) _
    refine iremM X8 hx rfl (hb hby at_33) rfl (by decide) ?_
    show Steps p.tables e below (T8.setTop (mkF m 34 #[iv p0, iv p1, iv 4, rv as_GREATER, rv as_LESS, rv as_LESS, .unset] [(.int ((p1 &&& (2147483647 : Int32)) % (3 : Int32)))])) _
    exact k
  refine own_lift sg9 ?_
  show own_Go p.tables e below (T8.setTop (mkF m 34 #[iv p0, iv p1, iv 4, rv as_GREATER, rv as_LESS, rv as_LESS, .unset] [(.int ((p1 &&& (2147483647 : Int32)) % (3 : Int32)))])) _
  rw [hs]
  show own_Go p.tables e below (T8.setTop (mkF m 34 #[iv p0, iv p1, iv 4, rv as_GREATER, rv as_LESS, rv as_LESS, .unset] [(.int 0)])) _
  have sg10 : ∀ t, Steps p.tables e below (T8.setTop (mkF m 50 #[iv p0, iv p1, iv 4, rv as_GREATER, rv as_LESS, rv as_LESS, iv (-1)] [(.int 1), (.ref as_LESS)])) t → Steps p.tables e below (T8.setTop (mkF m 34 #[iv p0, iv p1, iv 4, rv as_GREATER, rv as_LESS, rv as_LESS, .unset] [(.int 0)])) t := by
    intro t k
    refine XS.iconst X8.here hx rfl (hb hby at_34) ?_
    show Steps p.tables e below (T8.setTop (mkF m 35 #[iv p0, iv p1, iv 4, rv as_GREATER, rv as_LESS, rv as_LESS, .unset] [(.int 1), (.int 0)])) _
    refine XS.isub X8.here hx rfl (hb hby at_35) rfl ?_
    show Steps p.tables e below (T8.setTop (mkF m 36 #[iv p0, iv p1, iv 4, rv as_GREATER, rv as_LESS, rv as_LESS, .unset] [(.int (-1))])) _
    refine XS.istore X8.here hx rfl (hb hby at_36) rfl (l' := #[iv p0, iv p1, iv 4, rv as_GREATER, rv as_LESS, rv as_LESS, iv (-1)]) rfl ?_
    show Steps p.tables e below (T8.setTop (mkF m 38 #[iv p0, iv p1, iv 4, rv as_GREATER, rv as_LESS, rv as_LESS, iv (-1)] [])) _
    refine XS.aload X8.here hx rfl (hb hby at_38) rfl rfl ?_
    show Steps p.tables e below (T8.setTop (mkF m 40 #[iv p0, iv p1, iv 4, rv as_GREATER, rv as_LESS, rv as_LESS, iv (-1)] [(.ref as_LESS)])) _
    refine XS.aload X8.here hx rfl (hb hby at_40) rfl rfl ?_
    show Steps p.tables e below (T8.setTop (mkF m 42 #[iv p0, iv p1, iv 4, rv as_GREATER, rv as_LESS, rv as_LESS, iv (-1)] [(.ref as_LESS), (.ref as_LESS)])) _
    refine Jvm.RoadKit.acmp (g := (mkF m 42 #[iv p0, iv p1, iv 4, rv as_GREATER, rv as_LESS, rv as_LESS, iv (-1)] [(.ref as_LESS), (.ref as_LESS)])) X8 hx rfl rfl rfl (pc0 := 42) (pc' := 45) (same := true) rfl (hb hby at_42) rfl (decide_eq_true rfl) (by decide) (by decide) ?_
    show Steps p.tables e below (T8.setTop (mkF m 45 #[iv p0, iv p1, iv 4, rv as_GREATER, rv as_LESS, rv as_LESS, iv (-1)] [])) _
    refine XS.aload X8.here hx rfl (hb hby at_45) rfl rfl ?_
    show Steps p.tables e below (T8.setTop (mkF m 47 #[iv p0, iv p1, iv 4, rv as_GREATER, rv as_LESS, rv as_LESS, iv (-1)] [(.ref as_LESS)])) _
    refine XS.iload X8.here hx rfl (hb hby at_47) rfl ?_
    show Steps p.tables e below (T8.setTop (mkF m 49 #[iv p0, iv p1, iv 4, rv as_GREATER, rv as_LESS, rv as_LESS, iv (-1)] [(.int (-1)), (.ref as_LESS)])) _
    refine XS.ineg X8.here hx rfl (hb hby at_49) rfl ?_
    show Steps p.tables e below (T8.setTop (mkF m 50 #[iv p0, iv p1, iv 4, rv as_GREATER, rv as_LESS, rv as_LESS, iv (-1)] [(.int 1), (.ref as_LESS)])) _
    exact k
  refine own_lift sg10 ?_
  show own_Go p.tables e below (T8.setTop (mkF m 50 #[iv p0, iv p1, iv 4, rv as_GREATER, rv as_LESS, rv as_LESS, iv (-1)] [(.int 1), (.ref as_LESS)])) _
  obtain ⟨cq11, kq11, q11a, q11b, q11c⟩ := isOf hZ e8 E_LESS
  obtain ⟨_, _, ⟨T11, Lx11, kx11, nx11⟩, -, X11, ⟨Lc11, hQ11, lx11, yx11, zx11⟩, st11⟩ := X8.virtualBack hx (y := (⟨"com/example/ophion/ophion/runtime/CompareOp", "holds", "(I)Z"⟩ : MethodName)) (z := (⟨"com/example/ophion/ophion/runtime/CompareOp", "holds", "(I)Z"⟩ : MethodName)) hown (mvT hZ (wd hw 28 rfl)) (mvT hZ (wd hw 29 rfl)) (notFace_of_selects (args := #[]) (mvT hZ (wd hw 31 rfl))) (mvT hZ (wd hw 31 rfl)) (mvT hZ (wd hw 30 rfl)) (by decide) (backOf (W := 0) (rmHolds0f l Z a0 hw [] as_LESS (1 : Int32) h0 n0 Z0 O_LESS E_LESS (by decide : ¬ ((1 : Int32) < (0 : Int32)))) hZ (wd hw 32 rfl) (wd hw 6 rfl) (by decide) (by decide)) q11a q11c (g := (mkF m 50 #[iv p0, iv p1, iv 4, rv as_GREATER, rv as_LESS, rv as_LESS, iv (-1)] [(.int 1), (.ref as_LESS)])) rfl (by rw [hml]; rfl) (Steps.refl _) (argsL := [(.int 1)]) (rest := []) (lenOf pd_4 rfl) rfl (by show 2 * 0 + _ ≤ _; exact Nat.le_of_eq rfl) (hb hby at_50) (fun _ _ => ⟨rfl, e8, (by decide : 0 + 0 ≤ _), (by decide : 0 + 0 ≤ _)⟩)
  dsimp only [Pt.U, Pt.locs, Pt.cells, Pt.slots] at X11 lx11 yx11 zx11 st11 hQ11
  subst lx11 yx11 zx11
  obtain ⟨rfl, N11q, e11⟩ := hQ11
  have N11 := Fr.app N8 N11q
  refine own_lift (fun t k => st11.trans k) ?_
  show own_Go p.tables e below (T11.setTop (mkF m 53 #[iv p0, iv p1, iv 4, rv as_GREATER, rv as_LESS, rv as_LESS, iv (-1)] [(.int 0)])) _
  have sg12 : ∀ t, Steps p.tables e below (T11.setTop (mkF m 56 #[iv p0, iv p1, iv 4, rv as_GREATER, rv as_LESS, rv as_LESS, iv (-1)] [(.int (-1)), (.ref as_GREATER), (.int 0)])) t → Steps p.tables e below (T11.setTop (mkF m 53 #[iv p0, iv p1, iv 4, rv as_GREATER, rv as_LESS, rv as_LESS, iv (-1)] [(.int 0)])) t := by
    intro t k
    refine XS.aloadN X11.here hx rfl (hb hby at_53) rfl rfl ?_
    show Steps p.tables e below (T11.setTop (mkF m 54 #[iv p0, iv p1, iv 4, rv as_GREATER, rv as_LESS, rv as_LESS, iv (-1)] [(.ref as_GREATER), (.int 0)])) _
    refine XS.iload X11.here hx rfl (hb hby at_54) rfl ?_
    show Steps p.tables e below (T11.setTop (mkF m 56 #[iv p0, iv p1, iv 4, rv as_GREATER, rv as_LESS, rv as_LESS, iv (-1)] [(.int (-1)), (.ref as_GREATER), (.int 0)])) _
    exact k
  refine own_lift sg12 ?_
  show own_Go p.tables e below (T11.setTop (mkF m 56 #[iv p0, iv p1, iv 4, rv as_GREATER, rv as_LESS, rv as_LESS, iv (-1)] [(.int (-1)), (.ref as_GREATER), (.int 0)])) _
  obtain ⟨cq13, kq13, q13a, q13b, q13c⟩ := isOf hZ e11 E_GREATER
  obtain ⟨_, _, ⟨T13, Lx13, kx13, nx13⟩, -, X13, ⟨Lc13, hQ13, lx13, yx13, zx13⟩, st13⟩ := X11.virtualBack hx (y := (⟨"com/example/ophion/ophion/runtime/CompareOp", "holds", "(I)Z"⟩ : MethodName)) (z := (⟨"com/example/ophion/ophion/runtime/CompareOp", "holds", "(I)Z"⟩ : MethodName)) hown (mvT hZ (wd hw 28 rfl)) (mvT hZ (wd hw 29 rfl)) (notFace_of_selects (args := #[]) (mvT hZ (wd hw 31 rfl))) (mvT hZ (wd hw 31 rfl)) (mvT hZ (wd hw 30 rfl)) (by decide) (backOf (W := 1) (rmHolds4f l Z a0 hw [] as_GREATER (-1 : Int32) h0 n0 Z0 O_GREATER E_GREATER (by decide : ¬ ((0 : Int32) < (-1 : Int32)))) hZ (wd hw 32 rfl) (wd hw 6 rfl) (by decide) (by decide)) q13a q13c (g := (mkF m 56 #[iv p0, iv p1, iv 4, rv as_GREATER, rv as_LESS, rv as_LESS, iv (-1)] [(.int (-1)), (.ref as_GREATER), (.int 0)])) rfl (by rw [hml]; rfl) (Steps.refl _) (argsL := [(.int (-1))]) (rest := [(.int 0)]) (lenOf pd_4 rfl) rfl (by show 2 * 0 + _ ≤ _; exact Nat.le_of_eq rfl) (hb hby at_56) (fun _ _ => ⟨rfl, e11, (by decide : 0 + 0 ≤ _), (by decide : 0 + 0 ≤ _)⟩)
  dsimp only [Pt.U, Pt.locs, Pt.cells, Pt.slots] at X13 lx13 yx13 zx13 st13 hQ13
  subst lx13 yx13 zx13
  obtain ⟨rfl, N13q, e13⟩ := hQ13
  have N13 := Fr.app N11 N13q
  refine own_lift (fun t k => st13.trans k) ?_
  show own_Go p.tables e below (T13.setTop (mkF m 59 #[iv p0, iv p1, iv 4, rv as_GREATER, rv as_LESS, rv as_LESS, iv (-1)] [(.int 0), (.int 0)])) _
  have sg14 : ∀ t, Steps p.tables e below (T13.setTop (mkF m 67 #[iv p0, iv p1, iv 4, rv as_GREATER, rv as_LESS, rv as_LESS, iv (-1)] [(.int 1)])) t → Steps p.tables e below (T13.setTop (mkF m 59 #[iv p0, iv p1, iv 4, rv as_GREATER, rv as_LESS, rv as_LESS, iv (-1)] [(.int 0), (.int 0)])) t := by
    intro t k
    refine XS.icmpNo X13.here hx rfl (hb hby at_59) rfl (teq (by decide : (0 : Int32) = (0 : Int32))).2 ?_
    show Steps p.tables e below (T13.setTop (mkF m 62 #[iv p0, iv p1, iv 4, rv as_GREATER, rv as_LESS, rv as_LESS, iv (-1)] [])) _
    refine XS.iconst X13.here hx rfl (hb hby at_62) ?_
    show Steps p.tables e below (T13.setTop (mkF m 63 #[iv p0, iv p1, iv 4, rv as_GREATER, rv as_LESS, rv as_LESS, iv (-1)] [(.int 1)])) _
    refine XS.goto X13.here hx rfl (pc0 := 63) (pc' := 67) rfl (hb hby at_63) (by decide) (by decide) ?_
    show Steps p.tables e below (T13.setTop (mkF m 67 #[iv p0, iv p1, iv 4, rv as_GREATER, rv as_LESS, rv as_LESS, iv (-1)] [(.int 1)])) _
    exact k
  refine own_lift sg14 ?_
  show own_Go p.tables e below (T13.setTop (mkF m 67 #[iv p0, iv p1, iv 4, rv as_GREATER, rv as_LESS, rv as_LESS, iv (-1)] [(.int 1)])) _
  obtain ⟨fs, hr, hrun, hended, hW, hsame⟩ := X13.leave (v := some (.int 1)) (fun h => by rw [Bd.returns] at h; cases h)
  refine ⟨_, _, ?_, hrun, hended, _, _, rfl, ?_, ⟨_, rfl⟩, hW, hsame.mono (by decide) (by decide)⟩
  · exact retN X13 hx (t := .boolean) Bd.returns (by simp) (hb hby at_67) hr
  · show Q0 Z  h0 n0 _ T13.heap _
    rw [e13]
    exact ⟨rfl, N13⟩
theorem ef_rm0_41 (m : MethodId) (x0 : Int32) (x1 : Int32) : entryFrame m #[(.int x0), (.int x1)] maxLocals = mkF m 0 #[.val (.int x0), .val (.int x1), .unset, .unset, .unset, .unset, .unset] [] := by first | (simp [entryFrame, mkF, argsToLocals, Value.category, maxLocals]; done) | rfl
set_option maxRecDepth 65536 in
set_option maxHeartbeats 40000000 in
theorem rm0_41 (l : Launch) (Z : State) (a0 : Array Value) (hw : ∀ d ∈ tables_1, d.before a0 Z = true) (ws : List Jvm.Cond) (p0 : Int32) (p1 : Int32) (as_LESS : Addr) (as_GREATER : Addr) (as_EQUAL : Addr) (as_LESS_EQUAL : Addr) (as_GREATER_EQUAL : Addr) (as_NOT_EQUAL : Addr) (h0 : Heap) (n0 : Nat) (Z0 : n0 ≤ h0.size) (S_LESS : Sta Z h0 "com/example/ophion/ophion/runtime/CompareOp" "LESS" "Lcom/example/ophion/ophion/runtime/CompareOp;" (.ref as_LESS)) (E_LESS : Exa Z h0 as_LESS "com/example/ophion/ophion/runtime/CompareOp") (O_LESS : Fld Z h0 as_LESS "java/lang/Enum" "ordinal" "I" (.int 0)) (S_GREATER : Sta Z h0 "com/example/ophion/ophion/runtime/CompareOp" "GREATER" "Lcom/example/ophion/ophion/runtime/CompareOp;" (.ref as_GREATER)) (E_GREATER : Exa Z h0 as_GREATER "com/example/ophion/ophion/runtime/CompareOp") (O_GREATER : Fld Z h0 as_GREATER "java/lang/Enum" "ordinal" "I" (.int 4)) (S_EQUAL : Sta Z h0 "com/example/ophion/ophion/runtime/CompareOp" "EQUAL" "Lcom/example/ophion/ophion/runtime/CompareOp;" (.ref as_EQUAL)) (E_EQUAL : Exa Z h0 as_EQUAL "com/example/ophion/ophion/runtime/CompareOp") (O_EQUAL : Fld Z h0 as_EQUAL "java/lang/Enum" "ordinal" "I" (.int 2)) (S_LESS_EQUAL : Sta Z h0 "com/example/ophion/ophion/runtime/CompareOp" "LESS_EQUAL" "Lcom/example/ophion/ophion/runtime/CompareOp;" (.ref as_LESS_EQUAL)) (E_LESS_EQUAL : Exa Z h0 as_LESS_EQUAL "com/example/ophion/ophion/runtime/CompareOp") (O_LESS_EQUAL : Fld Z h0 as_LESS_EQUAL "java/lang/Enum" "ordinal" "I" (.int 1)) (S_GREATER_EQUAL : Sta Z h0 "com/example/ophion/ophion/runtime/CompareOp" "GREATER_EQUAL" "Lcom/example/ophion/ophion/runtime/CompareOp;" (.ref as_GREATER_EQUAL)) (E_GREATER_EQUAL : Exa Z h0 as_GREATER_EQUAL "com/example/ophion/ophion/runtime/CompareOp") (O_GREATER_EQUAL : Fld Z h0 as_GREATER_EQUAL "java/lang/Enum" "ordinal" "I" (.int 5)) (S_NOT_EQUAL : Sta Z h0 "com/example/ophion/ophion/runtime/CompareOp" "NOT_EQUAL" "Lcom/example/ophion/ophion/runtime/CompareOp;" (.ref as_NOT_EQUAL)) (E_NOT_EQUAL : Exa Z h0 as_NOT_EQUAL "com/example/ophion/ophion/runtime/CompareOp") (O_NOT_EQUAL : Fld Z h0 as_NOT_EQUAL "java/lang/Enum" "ordinal" "I" (.int 3)) (hk : ((p0 &&& (2147483647 : Int32)) % (6 : Int32)) = (4 : Int32)) (hs : ((p1 &&& (2147483647 : Int32)) % (3 : Int32)) = (1 : Int32)) :
    MetFree l x (head1 (Jvm.Cond.code x code maxLocals ret :: ws) room_1) (fun a U => a = #[(.int p0), (.int p1)] ∧ Z.Warmed39 U.vm ∧ U.heap = h0) (fun _ _ _ _ _ => True) (fun _ U o U' => ∃ v L, o = .returned v ∧ Q0 Z  h0 n0 v U'.heap L ∧ FrameEnd U o U' L 0 0) := by
  refine MetFree.of_bodySF (plainFor_of_name pn_2) hisR ?_
  intro p e s m args below meth c s₁ Bd hml0 hP hK
  obtain ⟨rfl, hZ, hh⟩ := hP
  have hx := Bd.exec
  have hby := Bd.bytes
  have hml : c.maxLocals = 7 := hml0
  have hown : s.vm.findClass "com/example/ophion/ophion/runtime/CompareOpSwappedPinLaw" = some m.cls := findClass_of_methodNamed Bd.named
  have hnm := (name_of_methodNamed Bd.named Bd.method).1
  have X0 : Stand p l e room_1 s m #[(.int p0), (.int p1)] below meth c s₁ [] 0 0 := Stand.of_body Bd
  have e0 : s₁.heap = h0 := by rw [← hh, Bd.state]; rfl
  have N0 := Fr.nil n0
  refine own_go (own_lift (fun t k => castTop (ef_rm0_41 m p0 p1) k) ?_)
  show own_Go p.tables e below (s₁.setTop (mkF m 0 #[iv p0, iv p1, .unset, .unset, .unset, .unset, .unset] [])) _
  have sg1 : ∀ t, Steps p.tables e below (s₁.setTop (mkF m 7 #[iv p0, iv p1, .unset, .unset, .unset, .unset, .unset] [(.int ((p0 &&& (2147483647 : Int32)) % (6 : Int32)))])) t → Steps p.tables e below (s₁.setTop (mkF m 0 #[iv p0, iv p1, .unset, .unset, .unset, .unset, .unset] [])) t := by
    intro t k
    refine XS.iloadN X0.here hx rfl (hb hby at_0) rfl ?_
    show Steps p.tables e below (s₁.setTop (mkF m 1 #[iv p0, iv p1, .unset, .unset, .unset, .unset, .unset] [(.int p0)])) _
    refine X0.ldcInt hx hown (mvT hZ (wd hw 0 rfl)) (g := (mkF m 1 #[iv p0, iv p1, .unset, .unset, .unset, .unset, .unset] [(.int p0)])) rfl (hb hby at_1) _ ?_
    show Steps p.tables e below (s₁.setTop (mkF m 3 #[iv p0, iv p1, .unset, .unset, .unset, .unset, .unset] [(.int 2147483647), (.int p0)])) _
    refine XS.iand X0.here hx rfl (hb hby at_3) rfl ?_
    show Steps p.tables e below (s₁.setTop (mkF m 4 #[iv p0, iv p1, .unset, .unset, .unset, .unset, .unset] [(.int (p0 &&& (2147483647 : Int32)))])) _
    refine XS.bipush X0.here hx rfl (hb hby at_4) ?_
    show Steps p.tables e below (s₁.setTop (mkF m 6 #[iv p0, iv p1, .unset, .unset, .unset, .unset, .unset] [(.int 6), (.int (p0 &&& (2147483647 : Int32)))])) _
    refine iremM X0 hx rfl (hb hby at_6) rfl (by decide) ?_
    show Steps p.tables e below (s₁.setTop (mkF m 7 #[iv p0, iv p1, .unset, .unset, .unset, .unset, .unset] [(.int ((p0 &&& (2147483647 : Int32)) % (6 : Int32)))])) _
    exact k
  refine own_lift sg1 ?_
  show own_Go p.tables e below (s₁.setTop (mkF m 7 #[iv p0, iv p1, .unset, .unset, .unset, .unset, .unset] [(.int ((p0 &&& (2147483647 : Int32)) % (6 : Int32)))])) _
  rw [hk]
  show own_Go p.tables e below (s₁.setTop (mkF m 7 #[iv p0, iv p1, .unset, .unset, .unset, .unset, .unset] [(.int 4)])) _
  have sg2 : ∀ t, Steps p.tables e below (s₁.setTop (mkF m 9 #[iv p0, iv p1, iv 4, .unset, .unset, .unset, .unset] [(.int 4)])) t → Steps p.tables e below (s₁.setTop (mkF m 7 #[iv p0, iv p1, .unset, .unset, .unset, .unset, .unset] [(.int 4)])) t := by
    intro t k
    refine XS.istoreN X0.here hx rfl (hb hby at_7) rfl (l' := #[iv p0, iv p1, iv 4, .unset, .unset, .unset, .unset]) rfl ?_
    show Steps p.tables e below (s₁.setTop (mkF m 8 #[iv p0, iv p1, iv 4, .unset, .unset, .unset, .unset] [])) _
    refine XS.iloadN X0.here hx rfl (hb hby at_8) rfl ?_
    show Steps p.tables e below (s₁.setTop (mkF m 9 #[iv p0, iv p1, iv 4, .unset, .unset, .unset, .unset] [(.int 4)])) _
    exact k
  refine own_lift sg2 ?_
  show own_Go p.tables e below (s₁.setTop (mkF m 9 #[iv p0, iv p1, iv 4, .unset, .unset, .unset, .unset] [(.int 4)])) _
  obtain ⟨_, _, ⟨T3, Lx3, kx3, nx3⟩, -, X3, ⟨Lc3, hQ3, lx3, yx3, zx3⟩, st3⟩ := Jvm.LawKit.callS X0 hx (y := (⟨"com/example/ophion/ophion/runtime/CompareOpSwappedPinLaw", "pick", "(I)Lcom/example/ophion/ophion/runtime/CompareOp;"⟩ : MethodName)) hown (mvT hZ (wd hw 1 rfl)) (mvT hZ (wd hw 2 rfl)) (mvT hZ (wd hw 3 rfl)) (mvT hZ (wd hw 4 rfl)) (by decide) (backOf (W := 0) (rmPick4 l Z a0 hw [] (4 : Int32) as_GREATER h0 n0 Z0 S_GREATER (by decide : ¬ ((4 : Int32) = (0 : Int32))) (by decide : ¬ ((4 : Int32) = (1 : Int32))) (by decide : ¬ ((4 : Int32) = (2 : Int32))) (by decide : ¬ ((4 : Int32) = (3 : Int32))) (by decide : (4 : Int32) = (4 : Int32))) hZ (wd hw 4 rfl) (wd hw 3 rfl) (by decide) (by decide)) (g := (mkF m 9 #[iv p0, iv p1, iv 4, .unset, .unset, .unset, .unset] [(.int 4)])) rfl (by rw [hml]; rfl) (argsL := [(.int 4)]) (rest := []) (lenOf pd_1 rfl) rfl (by show 2 * 0 + _ ≤ _; exact Nat.le_of_eq rfl) (hb hby at_9) (fun _ _ => ⟨rfl, e0, (by decide : 0 + 0 ≤ _), (by decide : 0 + 0 ≤ _)⟩)
  dsimp only [Pt.U, Pt.locs, Pt.cells, Pt.slots] at X3 lx3 yx3 zx3 st3 hQ3
  subst lx3 yx3 zx3
  obtain ⟨rfl, N3q, e3⟩ := hQ3
  have N3 := Fr.app N0 N3q
  refine own_lift st3 ?_
  show own_Go p.tables e below (T3.setTop (mkF m 12 #[iv p0, iv p1, iv 4, .unset, .unset, .unset, .unset] [(.ref as_GREATER)])) _
  have sg4 : ∀ t, Steps p.tables e below (T3.setTop (mkF m 14 #[iv p0, iv p1, iv 4, rv as_GREATER, .unset, .unset, .unset] [(.int 4)])) t → Steps p.tables e below (T3.setTop (mkF m 12 #[iv p0, iv p1, iv 4, .unset, .unset, .unset, .unset] [(.ref as_GREATER)])) t := by
    intro t k
    refine XS.astoreN X3.here hx rfl (hb hby at_12) rfl rfl (l' := #[iv p0, iv p1, iv 4, rv as_GREATER, .unset, .unset, .unset]) rfl ?_
    show Steps p.tables e below (T3.setTop (mkF m 13 #[iv p0, iv p1, iv 4, rv as_GREATER, .unset, .unset, .unset] [])) _
    refine XS.iloadN X3.here hx rfl (hb hby at_13) rfl ?_
    show Steps p.tables e below (T3.setTop (mkF m 14 #[iv p0, iv p1, iv 4, rv as_GREATER, .unset, .unset, .unset] [(.int 4)])) _
    exact k
  refine own_lift sg4 ?_
  show own_Go p.tables e below (T3.setTop (mkF m 14 #[iv p0, iv p1, iv 4, rv as_GREATER, .unset, .unset, .unset] [(.int 4)])) _
  obtain ⟨_, _, ⟨T5, Lx5, kx5, nx5⟩, -, X5, ⟨Lc5, hQ5, lx5, yx5, zx5⟩, st5⟩ := Jvm.LawKit.callS X3 hx (y := (⟨"com/example/ophion/ophion/runtime/CompareOpSwappedPinLaw", "mirror", "(I)I"⟩ : MethodName)) hown (mvT hZ (wd hw 8 rfl)) (mvT hZ (wd hw 9 rfl)) (mvT hZ (wd hw 3 rfl)) (mvT hZ (wd hw 10 rfl)) (by decide) (backOf (W := 0) (rmMir4 l Z a0 hw [] (4 : Int32) h0 n0 Z0 (by decide : ¬ ((4 : Int32) = (0 : Int32))) (by decide : ¬ ((4 : Int32) = (1 : Int32))) (by decide : (4 : Int32) = (4 : Int32))) hZ (wd hw 10 rfl) (wd hw 3 rfl) (by decide) (by decide)) (g := (mkF m 14 #[iv p0, iv p1, iv 4, rv as_GREATER, .unset, .unset, .unset] [(.int 4)])) rfl (by rw [hml]; rfl) (argsL := [(.int 4)]) (rest := []) (lenOf pd_2 rfl) rfl (by show 2 * 0 + _ ≤ _; exact Nat.le_of_eq rfl) (hb hby at_14) (fun _ _ => ⟨rfl, e3, (by decide : 0 + 0 ≤ _), (by decide : 0 + 0 ≤ _)⟩)
  dsimp only [Pt.U, Pt.locs, Pt.cells, Pt.slots] at X5 lx5 yx5 zx5 st5 hQ5
  subst lx5 yx5 zx5
  obtain ⟨rfl, N5q, e5⟩ := hQ5
  have N5 := Fr.app N3 N5q
  refine own_lift st5 ?_
  show own_Go p.tables e below (T5.setTop (mkF m 17 #[iv p0, iv p1, iv 4, rv as_GREATER, .unset, .unset, .unset] [(.int 0)])) _
  obtain ⟨_, _, ⟨T6, Lx6, kx6, nx6⟩, -, X6, ⟨Lc6, hQ6, lx6, yx6, zx6⟩, st6⟩ := Jvm.LawKit.callS X5 hx (y := (⟨"com/example/ophion/ophion/runtime/CompareOpSwappedPinLaw", "pick", "(I)Lcom/example/ophion/ophion/runtime/CompareOp;"⟩ : MethodName)) hown (mvT hZ (wd hw 1 rfl)) (mvT hZ (wd hw 2 rfl)) (mvT hZ (wd hw 3 rfl)) (mvT hZ (wd hw 4 rfl)) (by decide) (backOf (W := 0) (rmPick0 l Z a0 hw [] (0 : Int32) as_LESS h0 n0 Z0 S_LESS (by decide : (0 : Int32) = (0 : Int32))) hZ (wd hw 4 rfl) (wd hw 3 rfl) (by decide) (by decide)) (g := (mkF m 17 #[iv p0, iv p1, iv 4, rv as_GREATER, .unset, .unset, .unset] [(.int 0)])) rfl (by rw [hml]; rfl) (argsL := [(.int 0)]) (rest := []) (lenOf pd_1 rfl) rfl (by show 2 * 0 + _ ≤ _; exact Nat.le_of_eq rfl) (hb hby at_17) (fun _ _ => ⟨rfl, e5, (by decide : 0 + 0 ≤ _), (by decide : 0 + 0 ≤ _)⟩)
  dsimp only [Pt.U, Pt.locs, Pt.cells, Pt.slots] at X6 lx6 yx6 zx6 st6 hQ6
  subst lx6 yx6 zx6
  obtain ⟨rfl, N6q, e6⟩ := hQ6
  have N6 := Fr.app N5 N6q
  refine own_lift st6 ?_
  show own_Go p.tables e below (T6.setTop (mkF m 20 #[iv p0, iv p1, iv 4, rv as_GREATER, .unset, .unset, .unset] [(.ref as_LESS)])) _
  have sg7 : ∀ t, Steps p.tables e below (T6.setTop (mkF m 23 #[iv p0, iv p1, iv 4, rv as_GREATER, rv as_LESS, .unset, .unset] [(.ref as_GREATER)])) t → Steps p.tables e below (T6.setTop (mkF m 20 #[iv p0, iv p1, iv 4, rv as_GREATER, .unset, .unset, .unset] [(.ref as_LESS)])) t := by
    intro t k
    refine XS.astore X6.here hx rfl (hb hby at_20) rfl rfl (l' := #[iv p0, iv p1, iv 4, rv as_GREATER, rv as_LESS, .unset, .unset]) rfl ?_
    show Steps p.tables e below (T6.setTop (mkF m 22 #[iv p0, iv p1, iv 4, rv as_GREATER, rv as_LESS, .unset, .unset] [])) _
    refine XS.aloadN X6.here hx rfl (hb hby at_22) rfl rfl ?_
    show Steps p.tables e below (T6.setTop (mkF m 23 #[iv p0, iv p1, iv 4, rv as_GREATER, rv as_LESS, .unset, .unset] [(.ref as_GREATER)])) _
    exact k
  refine own_lift sg7 ?_
  show own_Go p.tables e below (T6.setTop (mkF m 23 #[iv p0, iv p1, iv 4, rv as_GREATER, rv as_LESS, .unset, .unset] [(.ref as_GREATER)])) _
  obtain ⟨cq8, kq8, q8a, q8b, q8c⟩ := isOf hZ e6 E_GREATER
  obtain ⟨_, _, ⟨T8, Lx8, kx8, nx8⟩, -, X8, ⟨Lc8, hQ8, lx8, yx8, zx8⟩, st8⟩ := X6.virtualBack hx (y := (⟨"com/example/ophion/ophion/runtime/CompareOp", "swapped", "()Lcom/example/ophion/ophion/runtime/CompareOp;"⟩ : MethodName)) (z := (⟨"com/example/ophion/ophion/runtime/CompareOp", "swapped", "()Lcom/example/ophion/ophion/runtime/CompareOp;"⟩ : MethodName)) hown (mvT hZ (wd hw 13 rfl)) (mvT hZ (wd hw 14 rfl)) (notFace_of_selects (args := #[]) (mvT hZ (wd hw 16 rfl))) (mvT hZ (wd hw 16 rfl)) (mvT hZ (wd hw 15 rfl)) (by decide) (backOf (W := 0) (rmSw4 l Z a0 hw [] as_GREATER as_LESS h0 n0 Z0 O_GREATER E_GREATER S_LESS) hZ (wd hw 17 rfl) (wd hw 6 rfl) (by decide) (by decide)) q8a q8c (g := (mkF m 23 #[iv p0, iv p1, iv 4, rv as_GREATER, rv as_LESS, .unset, .unset] [(.ref as_GREATER)])) rfl (by rw [hml]; rfl) (Steps.refl _) (argsL := []) (rest := []) (lenOf pd_3 rfl) rfl (by show 2 * 0 + _ ≤ _; exact Nat.le_of_eq rfl) (hb hby at_23) (fun _ _ => ⟨rfl, e6, (by decide : 0 + 0 ≤ _), (by decide : 0 + 0 ≤ _)⟩)
  dsimp only [Pt.U, Pt.locs, Pt.cells, Pt.slots] at X8 lx8 yx8 zx8 st8 hQ8
  subst lx8 yx8 zx8
  obtain ⟨rfl, N8q, e8⟩ := hQ8
  have N8 := Fr.app N6 N8q
  refine own_lift (fun t k => st8.trans k) ?_
  show own_Go p.tables e below (T8.setTop (mkF m 26 #[iv p0, iv p1, iv 4, rv as_GREATER, rv as_LESS, .unset, .unset] [(.ref as_LESS)])) _
  have sg9 : ∀ t, Steps p.tables e below (T8.setTop (mkF m 34 #[iv p0, iv p1, iv 4, rv as_GREATER, rv as_LESS, rv as_LESS, .unset] [(.int ((p1 &&& (2147483647 : Int32)) % (3 : Int32)))])) t → Steps p.tables e below (T8.setTop (mkF m 26 #[iv p0, iv p1, iv 4, rv as_GREATER, rv as_LESS, .unset, .unset] [(.ref as_LESS)])) t := by
    intro t k
    refine XS.astore X8.here hx rfl (hb hby at_26) rfl rfl (l' := #[iv p0, iv p1, iv 4, rv as_GREATER, rv as_LESS, rv as_LESS, .unset]) rfl ?_
    show Steps p.tables e below (T8.setTop (mkF m 28 #[iv p0, iv p1, iv 4, rv as_GREATER, rv as_LESS, rv as_LESS, .unset] [])) _
    refine XS.iloadN X8.here hx rfl (hb hby at_28) rfl ?_
    show Steps p.tables e below (T8.setTop (mkF m 29 #[iv p0, iv p1, iv 4, rv as_GREATER, rv as_LESS, rv as_LESS, .unset] [(.int p1)])) _
    refine X8.ldcInt hx hown (mvT hZ (wd hw 0 rfl)) (g := (mkF m 29 #[iv p0, iv p1, iv 4, rv as_GREATER, rv as_LESS, rv as_LESS, .unset] [(.int p1)])) rfl (hb hby at_29) _ ?_
    show Steps p.tables e below (T8.setTop (mkF m 31 #[iv p0, iv p1, iv 4, rv as_GREATER, rv as_LESS, rv as_LESS, .unset] [(.int 2147483647), (.int p1)])) _
    refine XS.iand X8.here hx rfl (hb hby at_31) rfl ?_
    show Steps p.tables e below (T8.setTop (mkF m 32 #[iv p0, iv p1, iv 4, rv as_GREATER, rv as_LESS, rv as_LESS, .unset] [(.int (p1 &&& (2147483647 : Int32)))])) _
    refine XS.iconst X8.here hx rfl (hb hby at_32) ?_
    show Steps p.tables e below (T8.setTop (mkF m 33 #[iv p0, iv p1, iv 4, rv as_GREATER, rv as_LESS, rv as_LESS, .unset] [(.int 3), (.int (p1 &&& (2147483647 : Int32)))])) _
    refine iremM X8 hx rfl (hb hby at_33) rfl (by decide) ?_
    show Steps p.tables e below (T8.setTop (mkF m 34 #[iv p0, iv p1, iv 4, rv as_GREATER, rv as_LESS, rv as_LESS, .unset] [(.int ((p1 &&& (2147483647 : Int32)) % (3 : Int32)))])) _
    exact k
  refine own_lift sg9 ?_
  show own_Go p.tables e below (T8.setTop (mkF m 34 #[iv p0, iv p1, iv 4, rv as_GREATER, rv as_LESS, rv as_LESS, .unset] [(.int ((p1 &&& (2147483647 : Int32)) % (3 : Int32)))])) _
  rw [hs]
  show own_Go p.tables e below (T8.setTop (mkF m 34 #[iv p0, iv p1, iv 4, rv as_GREATER, rv as_LESS, rv as_LESS, .unset] [(.int 1)])) _
  have sg10 : ∀ t, Steps p.tables e below (T8.setTop (mkF m 50 #[iv p0, iv p1, iv 4, rv as_GREATER, rv as_LESS, rv as_LESS, iv 0] [(.int 0), (.ref as_LESS)])) t → Steps p.tables e below (T8.setTop (mkF m 34 #[iv p0, iv p1, iv 4, rv as_GREATER, rv as_LESS, rv as_LESS, .unset] [(.int 1)])) t := by
    intro t k
    refine XS.iconst X8.here hx rfl (hb hby at_34) ?_
    show Steps p.tables e below (T8.setTop (mkF m 35 #[iv p0, iv p1, iv 4, rv as_GREATER, rv as_LESS, rv as_LESS, .unset] [(.int 1), (.int 1)])) _
    refine XS.isub X8.here hx rfl (hb hby at_35) rfl ?_
    show Steps p.tables e below (T8.setTop (mkF m 36 #[iv p0, iv p1, iv 4, rv as_GREATER, rv as_LESS, rv as_LESS, .unset] [(.int 0)])) _
    refine XS.istore X8.here hx rfl (hb hby at_36) rfl (l' := #[iv p0, iv p1, iv 4, rv as_GREATER, rv as_LESS, rv as_LESS, iv 0]) rfl ?_
    show Steps p.tables e below (T8.setTop (mkF m 38 #[iv p0, iv p1, iv 4, rv as_GREATER, rv as_LESS, rv as_LESS, iv 0] [])) _
    refine XS.aload X8.here hx rfl (hb hby at_38) rfl rfl ?_
    show Steps p.tables e below (T8.setTop (mkF m 40 #[iv p0, iv p1, iv 4, rv as_GREATER, rv as_LESS, rv as_LESS, iv 0] [(.ref as_LESS)])) _
    refine XS.aload X8.here hx rfl (hb hby at_40) rfl rfl ?_
    show Steps p.tables e below (T8.setTop (mkF m 42 #[iv p0, iv p1, iv 4, rv as_GREATER, rv as_LESS, rv as_LESS, iv 0] [(.ref as_LESS), (.ref as_LESS)])) _
    refine Jvm.RoadKit.acmp (g := (mkF m 42 #[iv p0, iv p1, iv 4, rv as_GREATER, rv as_LESS, rv as_LESS, iv 0] [(.ref as_LESS), (.ref as_LESS)])) X8 hx rfl rfl rfl (pc0 := 42) (pc' := 45) (same := true) rfl (hb hby at_42) rfl (decide_eq_true rfl) (by decide) (by decide) ?_
    show Steps p.tables e below (T8.setTop (mkF m 45 #[iv p0, iv p1, iv 4, rv as_GREATER, rv as_LESS, rv as_LESS, iv 0] [])) _
    refine XS.aload X8.here hx rfl (hb hby at_45) rfl rfl ?_
    show Steps p.tables e below (T8.setTop (mkF m 47 #[iv p0, iv p1, iv 4, rv as_GREATER, rv as_LESS, rv as_LESS, iv 0] [(.ref as_LESS)])) _
    refine XS.iload X8.here hx rfl (hb hby at_47) rfl ?_
    show Steps p.tables e below (T8.setTop (mkF m 49 #[iv p0, iv p1, iv 4, rv as_GREATER, rv as_LESS, rv as_LESS, iv 0] [(.int 0), (.ref as_LESS)])) _
    refine XS.ineg X8.here hx rfl (hb hby at_49) rfl ?_
    show Steps p.tables e below (T8.setTop (mkF m 50 #[iv p0, iv p1, iv 4, rv as_GREATER, rv as_LESS, rv as_LESS, iv 0] [(.int 0), (.ref as_LESS)])) _
    exact k
  refine own_lift sg10 ?_
  show own_Go p.tables e below (T8.setTop (mkF m 50 #[iv p0, iv p1, iv 4, rv as_GREATER, rv as_LESS, rv as_LESS, iv 0] [(.int 0), (.ref as_LESS)])) _
  obtain ⟨cq11, kq11, q11a, q11b, q11c⟩ := isOf hZ e8 E_LESS
  obtain ⟨_, _, ⟨T11, Lx11, kx11, nx11⟩, -, X11, ⟨Lc11, hQ11, lx11, yx11, zx11⟩, st11⟩ := X8.virtualBack hx (y := (⟨"com/example/ophion/ophion/runtime/CompareOp", "holds", "(I)Z"⟩ : MethodName)) (z := (⟨"com/example/ophion/ophion/runtime/CompareOp", "holds", "(I)Z"⟩ : MethodName)) hown (mvT hZ (wd hw 28 rfl)) (mvT hZ (wd hw 29 rfl)) (notFace_of_selects (args := #[]) (mvT hZ (wd hw 31 rfl))) (mvT hZ (wd hw 31 rfl)) (mvT hZ (wd hw 30 rfl)) (by decide) (backOf (W := 0) (rmHolds0f l Z a0 hw [] as_LESS (0 : Int32) h0 n0 Z0 O_LESS E_LESS (by decide : ¬ ((0 : Int32) < (0 : Int32)))) hZ (wd hw 32 rfl) (wd hw 6 rfl) (by decide) (by decide)) q11a q11c (g := (mkF m 50 #[iv p0, iv p1, iv 4, rv as_GREATER, rv as_LESS, rv as_LESS, iv 0] [(.int 0), (.ref as_LESS)])) rfl (by rw [hml]; rfl) (Steps.refl _) (argsL := [(.int 0)]) (rest := []) (lenOf pd_4 rfl) rfl (by show 2 * 0 + _ ≤ _; exact Nat.le_of_eq rfl) (hb hby at_50) (fun _ _ => ⟨rfl, e8, (by decide : 0 + 0 ≤ _), (by decide : 0 + 0 ≤ _)⟩)
  dsimp only [Pt.U, Pt.locs, Pt.cells, Pt.slots] at X11 lx11 yx11 zx11 st11 hQ11
  subst lx11 yx11 zx11
  obtain ⟨rfl, N11q, e11⟩ := hQ11
  have N11 := Fr.app N8 N11q
  refine own_lift (fun t k => st11.trans k) ?_
  show own_Go p.tables e below (T11.setTop (mkF m 53 #[iv p0, iv p1, iv 4, rv as_GREATER, rv as_LESS, rv as_LESS, iv 0] [(.int 0)])) _
  have sg12 : ∀ t, Steps p.tables e below (T11.setTop (mkF m 56 #[iv p0, iv p1, iv 4, rv as_GREATER, rv as_LESS, rv as_LESS, iv 0] [(.int 0), (.ref as_GREATER), (.int 0)])) t → Steps p.tables e below (T11.setTop (mkF m 53 #[iv p0, iv p1, iv 4, rv as_GREATER, rv as_LESS, rv as_LESS, iv 0] [(.int 0)])) t := by
    intro t k
    refine XS.aloadN X11.here hx rfl (hb hby at_53) rfl rfl ?_
    show Steps p.tables e below (T11.setTop (mkF m 54 #[iv p0, iv p1, iv 4, rv as_GREATER, rv as_LESS, rv as_LESS, iv 0] [(.ref as_GREATER), (.int 0)])) _
    refine XS.iload X11.here hx rfl (hb hby at_54) rfl ?_
    show Steps p.tables e below (T11.setTop (mkF m 56 #[iv p0, iv p1, iv 4, rv as_GREATER, rv as_LESS, rv as_LESS, iv 0] [(.int 0), (.ref as_GREATER), (.int 0)])) _
    exact k
  refine own_lift sg12 ?_
  show own_Go p.tables e below (T11.setTop (mkF m 56 #[iv p0, iv p1, iv 4, rv as_GREATER, rv as_LESS, rv as_LESS, iv 0] [(.int 0), (.ref as_GREATER), (.int 0)])) _
  obtain ⟨cq13, kq13, q13a, q13b, q13c⟩ := isOf hZ e11 E_GREATER
  obtain ⟨_, _, ⟨T13, Lx13, kx13, nx13⟩, -, X13, ⟨Lc13, hQ13, lx13, yx13, zx13⟩, st13⟩ := X11.virtualBack hx (y := (⟨"com/example/ophion/ophion/runtime/CompareOp", "holds", "(I)Z"⟩ : MethodName)) (z := (⟨"com/example/ophion/ophion/runtime/CompareOp", "holds", "(I)Z"⟩ : MethodName)) hown (mvT hZ (wd hw 28 rfl)) (mvT hZ (wd hw 29 rfl)) (notFace_of_selects (args := #[]) (mvT hZ (wd hw 31 rfl))) (mvT hZ (wd hw 31 rfl)) (mvT hZ (wd hw 30 rfl)) (by decide) (backOf (W := 1) (rmHolds4f l Z a0 hw [] as_GREATER (0 : Int32) h0 n0 Z0 O_GREATER E_GREATER (by decide : ¬ ((0 : Int32) < (0 : Int32)))) hZ (wd hw 32 rfl) (wd hw 6 rfl) (by decide) (by decide)) q13a q13c (g := (mkF m 56 #[iv p0, iv p1, iv 4, rv as_GREATER, rv as_LESS, rv as_LESS, iv 0] [(.int 0), (.ref as_GREATER), (.int 0)])) rfl (by rw [hml]; rfl) (Steps.refl _) (argsL := [(.int 0)]) (rest := [(.int 0)]) (lenOf pd_4 rfl) rfl (by show 2 * 0 + _ ≤ _; exact Nat.le_of_eq rfl) (hb hby at_56) (fun _ _ => ⟨rfl, e11, (by decide : 0 + 0 ≤ _), (by decide : 0 + 0 ≤ _)⟩)
  dsimp only [Pt.U, Pt.locs, Pt.cells, Pt.slots] at X13 lx13 yx13 zx13 st13 hQ13
  subst lx13 yx13 zx13
  obtain ⟨rfl, N13q, e13⟩ := hQ13
  have N13 := Fr.app N11 N13q
  refine own_lift (fun t k => st13.trans k) ?_
  show own_Go p.tables e below (T13.setTop (mkF m 59 #[iv p0, iv p1, iv 4, rv as_GREATER, rv as_LESS, rv as_LESS, iv 0] [(.int 0), (.int 0)])) _
  have sg14 : ∀ t, Steps p.tables e below (T13.setTop (mkF m 67 #[iv p0, iv p1, iv 4, rv as_GREATER, rv as_LESS, rv as_LESS, iv 0] [(.int 1)])) t → Steps p.tables e below (T13.setTop (mkF m 59 #[iv p0, iv p1, iv 4, rv as_GREATER, rv as_LESS, rv as_LESS, iv 0] [(.int 0), (.int 0)])) t := by
    intro t k
    refine XS.icmpNo X13.here hx rfl (hb hby at_59) rfl (teq (by decide : (0 : Int32) = (0 : Int32))).2 ?_
    show Steps p.tables e below (T13.setTop (mkF m 62 #[iv p0, iv p1, iv 4, rv as_GREATER, rv as_LESS, rv as_LESS, iv 0] [])) _
    refine XS.iconst X13.here hx rfl (hb hby at_62) ?_
    show Steps p.tables e below (T13.setTop (mkF m 63 #[iv p0, iv p1, iv 4, rv as_GREATER, rv as_LESS, rv as_LESS, iv 0] [(.int 1)])) _
    refine XS.goto X13.here hx rfl (pc0 := 63) (pc' := 67) rfl (hb hby at_63) (by decide) (by decide) ?_
    show Steps p.tables e below (T13.setTop (mkF m 67 #[iv p0, iv p1, iv 4, rv as_GREATER, rv as_LESS, rv as_LESS, iv 0] [(.int 1)])) _
    exact k
  refine own_lift sg14 ?_
  show own_Go p.tables e below (T13.setTop (mkF m 67 #[iv p0, iv p1, iv 4, rv as_GREATER, rv as_LESS, rv as_LESS, iv 0] [(.int 1)])) _
  obtain ⟨fs, hr, hrun, hended, hW, hsame⟩ := X13.leave (v := some (.int 1)) (fun h => by rw [Bd.returns] at h; cases h)
  refine ⟨_, _, ?_, hrun, hended, _, _, rfl, ?_, ⟨_, rfl⟩, hW, hsame.mono (by decide) (by decide)⟩
  · exact retN X13 hx (t := .boolean) Bd.returns (by simp) (hb hby at_67) hr
  · show Q0 Z  h0 n0 _ T13.heap _
    rw [e13]
    exact ⟨rfl, N13⟩
theorem ef_rm0_42 (m : MethodId) (x0 : Int32) (x1 : Int32) : entryFrame m #[(.int x0), (.int x1)] maxLocals = mkF m 0 #[.val (.int x0), .val (.int x1), .unset, .unset, .unset, .unset, .unset] [] := by first | (simp [entryFrame, mkF, argsToLocals, Value.category, maxLocals]; done) | rfl
set_option maxRecDepth 65536 in
set_option maxHeartbeats 40000000 in
theorem rm0_42 (l : Launch) (Z : State) (a0 : Array Value) (hw : ∀ d ∈ tables_1, d.before a0 Z = true) (ws : List Jvm.Cond) (p0 : Int32) (p1 : Int32) (as_LESS : Addr) (as_GREATER : Addr) (as_EQUAL : Addr) (as_LESS_EQUAL : Addr) (as_GREATER_EQUAL : Addr) (as_NOT_EQUAL : Addr) (h0 : Heap) (n0 : Nat) (Z0 : n0 ≤ h0.size) (S_LESS : Sta Z h0 "com/example/ophion/ophion/runtime/CompareOp" "LESS" "Lcom/example/ophion/ophion/runtime/CompareOp;" (.ref as_LESS)) (E_LESS : Exa Z h0 as_LESS "com/example/ophion/ophion/runtime/CompareOp") (O_LESS : Fld Z h0 as_LESS "java/lang/Enum" "ordinal" "I" (.int 0)) (S_GREATER : Sta Z h0 "com/example/ophion/ophion/runtime/CompareOp" "GREATER" "Lcom/example/ophion/ophion/runtime/CompareOp;" (.ref as_GREATER)) (E_GREATER : Exa Z h0 as_GREATER "com/example/ophion/ophion/runtime/CompareOp") (O_GREATER : Fld Z h0 as_GREATER "java/lang/Enum" "ordinal" "I" (.int 4)) (S_EQUAL : Sta Z h0 "com/example/ophion/ophion/runtime/CompareOp" "EQUAL" "Lcom/example/ophion/ophion/runtime/CompareOp;" (.ref as_EQUAL)) (E_EQUAL : Exa Z h0 as_EQUAL "com/example/ophion/ophion/runtime/CompareOp") (O_EQUAL : Fld Z h0 as_EQUAL "java/lang/Enum" "ordinal" "I" (.int 2)) (S_LESS_EQUAL : Sta Z h0 "com/example/ophion/ophion/runtime/CompareOp" "LESS_EQUAL" "Lcom/example/ophion/ophion/runtime/CompareOp;" (.ref as_LESS_EQUAL)) (E_LESS_EQUAL : Exa Z h0 as_LESS_EQUAL "com/example/ophion/ophion/runtime/CompareOp") (O_LESS_EQUAL : Fld Z h0 as_LESS_EQUAL "java/lang/Enum" "ordinal" "I" (.int 1)) (S_GREATER_EQUAL : Sta Z h0 "com/example/ophion/ophion/runtime/CompareOp" "GREATER_EQUAL" "Lcom/example/ophion/ophion/runtime/CompareOp;" (.ref as_GREATER_EQUAL)) (E_GREATER_EQUAL : Exa Z h0 as_GREATER_EQUAL "com/example/ophion/ophion/runtime/CompareOp") (O_GREATER_EQUAL : Fld Z h0 as_GREATER_EQUAL "java/lang/Enum" "ordinal" "I" (.int 5)) (S_NOT_EQUAL : Sta Z h0 "com/example/ophion/ophion/runtime/CompareOp" "NOT_EQUAL" "Lcom/example/ophion/ophion/runtime/CompareOp;" (.ref as_NOT_EQUAL)) (E_NOT_EQUAL : Exa Z h0 as_NOT_EQUAL "com/example/ophion/ophion/runtime/CompareOp") (O_NOT_EQUAL : Fld Z h0 as_NOT_EQUAL "java/lang/Enum" "ordinal" "I" (.int 3)) (hk : ((p0 &&& (2147483647 : Int32)) % (6 : Int32)) = (4 : Int32)) (hs : ((p1 &&& (2147483647 : Int32)) % (3 : Int32)) = (2 : Int32)) :
    MetFree l x (head1 (Jvm.Cond.code x code maxLocals ret :: ws) room_1) (fun a U => a = #[(.int p0), (.int p1)] ∧ Z.Warmed39 U.vm ∧ U.heap = h0) (fun _ _ _ _ _ => True) (fun _ U o U' => ∃ v L, o = .returned v ∧ Q0 Z  h0 n0 v U'.heap L ∧ FrameEnd U o U' L 0 0) := by
  refine MetFree.of_bodySF (plainFor_of_name pn_2) hisR ?_
  intro p e s m args below meth c s₁ Bd hml0 hP hK
  obtain ⟨rfl, hZ, hh⟩ := hP
  have hx := Bd.exec
  have hby := Bd.bytes
  have hml : c.maxLocals = 7 := hml0
  have hown : s.vm.findClass "com/example/ophion/ophion/runtime/CompareOpSwappedPinLaw" = some m.cls := findClass_of_methodNamed Bd.named
  have hnm := (name_of_methodNamed Bd.named Bd.method).1
  have X0 : Stand p l e room_1 s m #[(.int p0), (.int p1)] below meth c s₁ [] 0 0 := Stand.of_body Bd
  have e0 : s₁.heap = h0 := by rw [← hh, Bd.state]; rfl
  have N0 := Fr.nil n0
  refine own_go (own_lift (fun t k => castTop (ef_rm0_42 m p0 p1) k) ?_)
  show own_Go p.tables e below (s₁.setTop (mkF m 0 #[iv p0, iv p1, .unset, .unset, .unset, .unset, .unset] [])) _
  have sg1 : ∀ t, Steps p.tables e below (s₁.setTop (mkF m 7 #[iv p0, iv p1, .unset, .unset, .unset, .unset, .unset] [(.int ((p0 &&& (2147483647 : Int32)) % (6 : Int32)))])) t → Steps p.tables e below (s₁.setTop (mkF m 0 #[iv p0, iv p1, .unset, .unset, .unset, .unset, .unset] [])) t := by
    intro t k
    refine XS.iloadN X0.here hx rfl (hb hby at_0) rfl ?_
    show Steps p.tables e below (s₁.setTop (mkF m 1 #[iv p0, iv p1, .unset, .unset, .unset, .unset, .unset] [(.int p0)])) _
    refine X0.ldcInt hx hown (mvT hZ (wd hw 0 rfl)) (g := (mkF m 1 #[iv p0, iv p1, .unset, .unset, .unset, .unset, .unset] [(.int p0)])) rfl (hb hby at_1) _ ?_
    show Steps p.tables e below (s₁.setTop (mkF m 3 #[iv p0, iv p1, .unset, .unset, .unset, .unset, .unset] [(.int 2147483647), (.int p0)])) _
    refine XS.iand X0.here hx rfl (hb hby at_3) rfl ?_
    show Steps p.tables e below (s₁.setTop (mkF m 4 #[iv p0, iv p1, .unset, .unset, .unset, .unset, .unset] [(.int (p0 &&& (2147483647 : Int32)))])) _
    refine XS.bipush X0.here hx rfl (hb hby at_4) ?_
    show Steps p.tables e below (s₁.setTop (mkF m 6 #[iv p0, iv p1, .unset, .unset, .unset, .unset, .unset] [(.int 6), (.int (p0 &&& (2147483647 : Int32)))])) _
    refine iremM X0 hx rfl (hb hby at_6) rfl (by decide) ?_
    show Steps p.tables e below (s₁.setTop (mkF m 7 #[iv p0, iv p1, .unset, .unset, .unset, .unset, .unset] [(.int ((p0 &&& (2147483647 : Int32)) % (6 : Int32)))])) _
    exact k
  refine own_lift sg1 ?_
  show own_Go p.tables e below (s₁.setTop (mkF m 7 #[iv p0, iv p1, .unset, .unset, .unset, .unset, .unset] [(.int ((p0 &&& (2147483647 : Int32)) % (6 : Int32)))])) _
  rw [hk]
  show own_Go p.tables e below (s₁.setTop (mkF m 7 #[iv p0, iv p1, .unset, .unset, .unset, .unset, .unset] [(.int 4)])) _
  have sg2 : ∀ t, Steps p.tables e below (s₁.setTop (mkF m 9 #[iv p0, iv p1, iv 4, .unset, .unset, .unset, .unset] [(.int 4)])) t → Steps p.tables e below (s₁.setTop (mkF m 7 #[iv p0, iv p1, .unset, .unset, .unset, .unset, .unset] [(.int 4)])) t := by
    intro t k
    refine XS.istoreN X0.here hx rfl (hb hby at_7) rfl (l' := #[iv p0, iv p1, iv 4, .unset, .unset, .unset, .unset]) rfl ?_
    show Steps p.tables e below (s₁.setTop (mkF m 8 #[iv p0, iv p1, iv 4, .unset, .unset, .unset, .unset] [])) _
    refine XS.iloadN X0.here hx rfl (hb hby at_8) rfl ?_
    show Steps p.tables e below (s₁.setTop (mkF m 9 #[iv p0, iv p1, iv 4, .unset, .unset, .unset, .unset] [(.int 4)])) _
    exact k
  refine own_lift sg2 ?_
  show own_Go p.tables e below (s₁.setTop (mkF m 9 #[iv p0, iv p1, iv 4, .unset, .unset, .unset, .unset] [(.int 4)])) _
  obtain ⟨_, _, ⟨T3, Lx3, kx3, nx3⟩, -, X3, ⟨Lc3, hQ3, lx3, yx3, zx3⟩, st3⟩ := Jvm.LawKit.callS X0 hx (y := (⟨"com/example/ophion/ophion/runtime/CompareOpSwappedPinLaw", "pick", "(I)Lcom/example/ophion/ophion/runtime/CompareOp;"⟩ : MethodName)) hown (mvT hZ (wd hw 1 rfl)) (mvT hZ (wd hw 2 rfl)) (mvT hZ (wd hw 3 rfl)) (mvT hZ (wd hw 4 rfl)) (by decide) (backOf (W := 0) (rmPick4 l Z a0 hw [] (4 : Int32) as_GREATER h0 n0 Z0 S_GREATER (by decide : ¬ ((4 : Int32) = (0 : Int32))) (by decide : ¬ ((4 : Int32) = (1 : Int32))) (by decide : ¬ ((4 : Int32) = (2 : Int32))) (by decide : ¬ ((4 : Int32) = (3 : Int32))) (by decide : (4 : Int32) = (4 : Int32))) hZ (wd hw 4 rfl) (wd hw 3 rfl) (by decide) (by decide)) (g := (mkF m 9 #[iv p0, iv p1, iv 4, .unset, .unset, .unset, .unset] [(.int 4)])) rfl (by rw [hml]; rfl) (argsL := [(.int 4)]) (rest := []) (lenOf pd_1 rfl) rfl (by show 2 * 0 + _ ≤ _; exact Nat.le_of_eq rfl) (hb hby at_9) (fun _ _ => ⟨rfl, e0, (by decide : 0 + 0 ≤ _), (by decide : 0 + 0 ≤ _)⟩)
  dsimp only [Pt.U, Pt.locs, Pt.cells, Pt.slots] at X3 lx3 yx3 zx3 st3 hQ3
  subst lx3 yx3 zx3
  obtain ⟨rfl, N3q, e3⟩ := hQ3
  have N3 := Fr.app N0 N3q
  refine own_lift st3 ?_
  show own_Go p.tables e below (T3.setTop (mkF m 12 #[iv p0, iv p1, iv 4, .unset, .unset, .unset, .unset] [(.ref as_GREATER)])) _
  have sg4 : ∀ t, Steps p.tables e below (T3.setTop (mkF m 14 #[iv p0, iv p1, iv 4, rv as_GREATER, .unset, .unset, .unset] [(.int 4)])) t → Steps p.tables e below (T3.setTop (mkF m 12 #[iv p0, iv p1, iv 4, .unset, .unset, .unset, .unset] [(.ref as_GREATER)])) t := by
    intro t k
    refine XS.astoreN X3.here hx rfl (hb hby at_12) rfl rfl (l' := #[iv p0, iv p1, iv 4, rv as_GREATER, .unset, .unset, .unset]) rfl ?_
    show Steps p.tables e below (T3.setTop (mkF m 13 #[iv p0, iv p1, iv 4, rv as_GREATER, .unset, .unset, .unset] [])) _
    refine XS.iloadN X3.here hx rfl (hb hby at_13) rfl ?_
    show Steps p.tables e below (T3.setTop (mkF m 14 #[iv p0, iv p1, iv 4, rv as_GREATER, .unset, .unset, .unset] [(.int 4)])) _
    exact k
  refine own_lift sg4 ?_
  show own_Go p.tables e below (T3.setTop (mkF m 14 #[iv p0, iv p1, iv 4, rv as_GREATER, .unset, .unset, .unset] [(.int 4)])) _
  obtain ⟨_, _, ⟨T5, Lx5, kx5, nx5⟩, -, X5, ⟨Lc5, hQ5, lx5, yx5, zx5⟩, st5⟩ := Jvm.LawKit.callS X3 hx (y := (⟨"com/example/ophion/ophion/runtime/CompareOpSwappedPinLaw", "mirror", "(I)I"⟩ : MethodName)) hown (mvT hZ (wd hw 8 rfl)) (mvT hZ (wd hw 9 rfl)) (mvT hZ (wd hw 3 rfl)) (mvT hZ (wd hw 10 rfl)) (by decide) (backOf (W := 0) (rmMir4 l Z a0 hw [] (4 : Int32) h0 n0 Z0 (by decide : ¬ ((4 : Int32) = (0 : Int32))) (by decide : ¬ ((4 : Int32) = (1 : Int32))) (by decide : (4 : Int32) = (4 : Int32))) hZ (wd hw 10 rfl) (wd hw 3 rfl) (by decide) (by decide)) (g := (mkF m 14 #[iv p0, iv p1, iv 4, rv as_GREATER, .unset, .unset, .unset] [(.int 4)])) rfl (by rw [hml]; rfl) (argsL := [(.int 4)]) (rest := []) (lenOf pd_2 rfl) rfl (by show 2 * 0 + _ ≤ _; exact Nat.le_of_eq rfl) (hb hby at_14) (fun _ _ => ⟨rfl, e3, (by decide : 0 + 0 ≤ _), (by decide : 0 + 0 ≤ _)⟩)
  dsimp only [Pt.U, Pt.locs, Pt.cells, Pt.slots] at X5 lx5 yx5 zx5 st5 hQ5
  subst lx5 yx5 zx5
  obtain ⟨rfl, N5q, e5⟩ := hQ5
  have N5 := Fr.app N3 N5q
  refine own_lift st5 ?_
  show own_Go p.tables e below (T5.setTop (mkF m 17 #[iv p0, iv p1, iv 4, rv as_GREATER, .unset, .unset, .unset] [(.int 0)])) _
  obtain ⟨_, _, ⟨T6, Lx6, kx6, nx6⟩, -, X6, ⟨Lc6, hQ6, lx6, yx6, zx6⟩, st6⟩ := Jvm.LawKit.callS X5 hx (y := (⟨"com/example/ophion/ophion/runtime/CompareOpSwappedPinLaw", "pick", "(I)Lcom/example/ophion/ophion/runtime/CompareOp;"⟩ : MethodName)) hown (mvT hZ (wd hw 1 rfl)) (mvT hZ (wd hw 2 rfl)) (mvT hZ (wd hw 3 rfl)) (mvT hZ (wd hw 4 rfl)) (by decide) (backOf (W := 0) (rmPick0 l Z a0 hw [] (0 : Int32) as_LESS h0 n0 Z0 S_LESS (by decide : (0 : Int32) = (0 : Int32))) hZ (wd hw 4 rfl) (wd hw 3 rfl) (by decide) (by decide)) (g := (mkF m 17 #[iv p0, iv p1, iv 4, rv as_GREATER, .unset, .unset, .unset] [(.int 0)])) rfl (by rw [hml]; rfl) (argsL := [(.int 0)]) (rest := []) (lenOf pd_1 rfl) rfl (by show 2 * 0 + _ ≤ _; exact Nat.le_of_eq rfl) (hb hby at_17) (fun _ _ => ⟨rfl, e5, (by decide : 0 + 0 ≤ _), (by decide : 0 + 0 ≤ _)⟩)
  dsimp only [Pt.U, Pt.locs, Pt.cells, Pt.slots] at X6 lx6 yx6 zx6 st6 hQ6
  subst lx6 yx6 zx6
  obtain ⟨rfl, N6q, e6⟩ := hQ6
  have N6 := Fr.app N5 N6q
  refine own_lift st6 ?_
  show own_Go p.tables e below (T6.setTop (mkF m 20 #[iv p0, iv p1, iv 4, rv as_GREATER, .unset, .unset, .unset] [(.ref as_LESS)])) _
  have sg7 : ∀ t, Steps p.tables e below (T6.setTop (mkF m 23 #[iv p0, iv p1, iv 4, rv as_GREATER, rv as_LESS, .unset, .unset] [(.ref as_GREATER)])) t → Steps p.tables e below (T6.setTop (mkF m 20 #[iv p0, iv p1, iv 4, rv as_GREATER, .unset, .unset, .unset] [(.ref as_LESS)])) t := by
    intro t k
    refine XS.astore X6.here hx rfl (hb hby at_20) rfl rfl (l' := #[iv p0, iv p1, iv 4, rv as_GREATER, rv as_LESS, .unset, .unset]) rfl ?_
    show Steps p.tables e below (T6.setTop (mkF m 22 #[iv p0, iv p1, iv 4, rv as_GREATER, rv as_LESS, .unset, .unset] [])) _
    refine XS.aloadN X6.here hx rfl (hb hby at_22) rfl rfl ?_
    show Steps p.tables e below (T6.setTop (mkF m 23 #[iv p0, iv p1, iv 4, rv as_GREATER, rv as_LESS, .unset, .unset] [(.ref as_GREATER)])) _
    exact k
  refine own_lift sg7 ?_
  show own_Go p.tables e below (T6.setTop (mkF m 23 #[iv p0, iv p1, iv 4, rv as_GREATER, rv as_LESS, .unset, .unset] [(.ref as_GREATER)])) _
  obtain ⟨cq8, kq8, q8a, q8b, q8c⟩ := isOf hZ e6 E_GREATER
  obtain ⟨_, _, ⟨T8, Lx8, kx8, nx8⟩, -, X8, ⟨Lc8, hQ8, lx8, yx8, zx8⟩, st8⟩ := X6.virtualBack hx (y := (⟨"com/example/ophion/ophion/runtime/CompareOp", "swapped", "()Lcom/example/ophion/ophion/runtime/CompareOp;"⟩ : MethodName)) (z := (⟨"com/example/ophion/ophion/runtime/CompareOp", "swapped", "()Lcom/example/ophion/ophion/runtime/CompareOp;"⟩ : MethodName)) hown (mvT hZ (wd hw 13 rfl)) (mvT hZ (wd hw 14 rfl)) (notFace_of_selects (args := #[]) (mvT hZ (wd hw 16 rfl))) (mvT hZ (wd hw 16 rfl)) (mvT hZ (wd hw 15 rfl)) (by decide) (backOf (W := 0) (rmSw4 l Z a0 hw [] as_GREATER as_LESS h0 n0 Z0 O_GREATER E_GREATER S_LESS) hZ (wd hw 17 rfl) (wd hw 6 rfl) (by decide) (by decide)) q8a q8c (g := (mkF m 23 #[iv p0, iv p1, iv 4, rv as_GREATER, rv as_LESS, .unset, .unset] [(.ref as_GREATER)])) rfl (by rw [hml]; rfl) (Steps.refl _) (argsL := []) (rest := []) (lenOf pd_3 rfl) rfl (by show 2 * 0 + _ ≤ _; exact Nat.le_of_eq rfl) (hb hby at_23) (fun _ _ => ⟨rfl, e6, (by decide : 0 + 0 ≤ _), (by decide : 0 + 0 ≤ _)⟩)
  dsimp only [Pt.U, Pt.locs, Pt.cells, Pt.slots] at X8 lx8 yx8 zx8 st8 hQ8
  subst lx8 yx8 zx8
  obtain ⟨rfl, N8q, e8⟩ := hQ8
  have N8 := Fr.app N6 N8q
  refine own_lift (fun t k => st8.trans k) ?_
  show own_Go p.tables e below (T8.setTop (mkF m 26 #[iv p0, iv p1, iv 4, rv as_GREATER, rv as_LESS, .unset, .unset] [(.ref as_LESS)])) _
  have sg9 : ∀ t, Steps p.tables e below (T8.setTop (mkF m 34 #[iv p0, iv p1, iv 4, rv as_GREATER, rv as_LESS, rv as_LESS, .unset] [(.int ((p1 &&& (2147483647 : Int32)) % (3 : Int32)))])) t → Steps p.tables e below (T8.setTop (mkF m 26 #[iv p0, iv p1, iv 4, rv as_GREATER, rv as_LESS, .unset, .unset] [(.ref as_LESS)])) t := by
    intro t k
    refine XS.astore X8.here hx rfl (hb hby at_26) rfl rfl (l' := #[iv p0, iv p1, iv 4, rv as_GREATER, rv as_LESS, rv as_LESS, .unset]) rfl ?_
    show Steps p.tables e below (T8.setTop (mkF m 28 #[iv p0, iv p1, iv 4, rv as_GREATER, rv as_LESS, rv as_LESS, .unset] [])) _
    refine XS.iloadN X8.here hx rfl (hb hby at_28) rfl ?_
    show Steps p.tables e below (T8.setTop (mkF m 29 #[iv p0, iv p1, iv 4, rv as_GREATER, rv as_LESS, rv as_LESS, .unset] [(.int p1)])) _
    refine X8.ldcInt hx hown (mvT hZ (wd hw 0 rfl)) (g := (mkF m 29 #[iv p0, iv p1, iv 4, rv as_GREATER, rv as_LESS, rv as_LESS, .unset] [(.int p1)])) rfl (hb hby at_29) _ ?_
    show Steps p.tables e below (T8.setTop (mkF m 31 #[iv p0, iv p1, iv 4, rv as_GREATER, rv as_LESS, rv as_LESS, .unset] [(.int 2147483647), (.int p1)])) _
    refine XS.iand X8.here hx rfl (hb hby at_31) rfl ?_
    show Steps p.tables e below (T8.setTop (mkF m 32 #[iv p0, iv p1, iv 4, rv as_GREATER, rv as_LESS, rv as_LESS, .unset] [(.int (p1 &&& (2147483647 : Int32)))])) _
    refine XS.iconst X8.here hx rfl (hb hby at_32) ?_
    show Steps p.tables e below (T8.setTop (mkF m 33 #[iv p0, iv p1, iv 4, rv as_GREATER, rv as_LESS, rv as_LESS, .unset] [(.int 3), (.int (p1 &&& (2147483647 : Int32)))])) _
    refine iremM X8 hx rfl (hb hby at_33) rfl (by decide) ?_
    show Steps p.tables e below (T8.setTop (mkF m 34 #[iv p0, iv p1, iv 4, rv as_GREATER, rv as_LESS, rv as_LESS, .unset] [(.int ((p1 &&& (2147483647 : Int32)) % (3 : Int32)))])) _
    exact k
  refine own_lift sg9 ?_
  show own_Go p.tables e below (T8.setTop (mkF m 34 #[iv p0, iv p1, iv 4, rv as_GREATER, rv as_LESS, rv as_LESS, .unset] [(.int ((p1 &&& (2147483647 : Int32)) % (3 : Int32)))])) _
  rw [hs]
  show own_Go p.tables e below (T8.setTop (mkF m 34 #[iv p0, iv p1, iv 4, rv as_GREATER, rv as_LESS, rv as_LESS, .unset] [(.int 2)])) _
  have sg10 : ∀ t, Steps p.tables e below (T8.setTop (mkF m 50 #[iv p0, iv p1, iv 4, rv as_GREATER, rv as_LESS, rv as_LESS, iv 1] [(.int (-1)), (.ref as_LESS)])) t → Steps p.tables e below (T8.setTop (mkF m 34 #[iv p0, iv p1, iv 4, rv as_GREATER, rv as_LESS, rv as_LESS, .unset] [(.int 2)])) t := by
    intro t k
    refine XS.iconst X8.here hx rfl (hb hby at_34) ?_
    show Steps p.tables e below (T8.setTop (mkF m 35 #[iv p0, iv p1, iv 4, rv as_GREATER, rv as_LESS, rv as_LESS, .unset] [(.int 1), (.int 2)])) _
    refine XS.isub X8.here hx rfl (hb hby at_35) rfl ?_
    show Steps p.tables e below (T8.setTop (mkF m 36 #[iv p0, iv p1, iv 4, rv as_GREATER, rv as_LESS, rv as_LESS, .unset] [(.int 1)])) _
    refine XS.istore X8.here hx rfl (hb hby at_36) rfl (l' := #[iv p0, iv p1, iv 4, rv as_GREATER, rv as_LESS, rv as_LESS, iv 1]) rfl ?_
    show Steps p.tables e below (T8.setTop (mkF m 38 #[iv p0, iv p1, iv 4, rv as_GREATER, rv as_LESS, rv as_LESS, iv 1] [])) _
    refine XS.aload X8.here hx rfl (hb hby at_38) rfl rfl ?_
    show Steps p.tables e below (T8.setTop (mkF m 40 #[iv p0, iv p1, iv 4, rv as_GREATER, rv as_LESS, rv as_LESS, iv 1] [(.ref as_LESS)])) _
    refine XS.aload X8.here hx rfl (hb hby at_40) rfl rfl ?_
    show Steps p.tables e below (T8.setTop (mkF m 42 #[iv p0, iv p1, iv 4, rv as_GREATER, rv as_LESS, rv as_LESS, iv 1] [(.ref as_LESS), (.ref as_LESS)])) _
    refine Jvm.RoadKit.acmp (g := (mkF m 42 #[iv p0, iv p1, iv 4, rv as_GREATER, rv as_LESS, rv as_LESS, iv 1] [(.ref as_LESS), (.ref as_LESS)])) X8 hx rfl rfl rfl (pc0 := 42) (pc' := 45) (same := true) rfl (hb hby at_42) rfl (decide_eq_true rfl) (by decide) (by decide) ?_
    show Steps p.tables e below (T8.setTop (mkF m 45 #[iv p0, iv p1, iv 4, rv as_GREATER, rv as_LESS, rv as_LESS, iv 1] [])) _
    refine XS.aload X8.here hx rfl (hb hby at_45) rfl rfl ?_
    show Steps p.tables e below (T8.setTop (mkF m 47 #[iv p0, iv p1, iv 4, rv as_GREATER, rv as_LESS, rv as_LESS, iv 1] [(.ref as_LESS)])) _
    refine XS.iload X8.here hx rfl (hb hby at_47) rfl ?_
    show Steps p.tables e below (T8.setTop (mkF m 49 #[iv p0, iv p1, iv 4, rv as_GREATER, rv as_LESS, rv as_LESS, iv 1] [(.int 1), (.ref as_LESS)])) _
    refine XS.ineg X8.here hx rfl (hb hby at_49) rfl ?_
    show Steps p.tables e below (T8.setTop (mkF m 50 #[iv p0, iv p1, iv 4, rv as_GREATER, rv as_LESS, rv as_LESS, iv 1] [(.int (-1)), (.ref as_LESS)])) _
    exact k
  refine own_lift sg10 ?_
  show own_Go p.tables e below (T8.setTop (mkF m 50 #[iv p0, iv p1, iv 4, rv as_GREATER, rv as_LESS, rv as_LESS, iv 1] [(.int (-1)), (.ref as_LESS)])) _
  obtain ⟨cq11, kq11, q11a, q11b, q11c⟩ := isOf hZ e8 E_LESS
  obtain ⟨_, _, ⟨T11, Lx11, kx11, nx11⟩, -, X11, ⟨Lc11, hQ11, lx11, yx11, zx11⟩, st11⟩ := X8.virtualBack hx (y := (⟨"com/example/ophion/ophion/runtime/CompareOp", "holds", "(I)Z"⟩ : MethodName)) (z := (⟨"com/example/ophion/ophion/runtime/CompareOp", "holds", "(I)Z"⟩ : MethodName)) hown (mvT hZ (wd hw 28 rfl)) (mvT hZ (wd hw 29 rfl)) (notFace_of_selects (args := #[]) (mvT hZ (wd hw 31 rfl))) (mvT hZ (wd hw 31 rfl)) (mvT hZ (wd hw 30 rfl)) (by decide) (backOf (W := 0) (rmHolds0t l Z a0 hw [] as_LESS (-1 : Int32) h0 n0 Z0 O_LESS E_LESS (by decide : (-1 : Int32) < (0 : Int32))) hZ (wd hw 32 rfl) (wd hw 6 rfl) (by decide) (by decide)) q11a q11c (g := (mkF m 50 #[iv p0, iv p1, iv 4, rv as_GREATER, rv as_LESS, rv as_LESS, iv 1] [(.int (-1)), (.ref as_LESS)])) rfl (by rw [hml]; rfl) (Steps.refl _) (argsL := [(.int (-1))]) (rest := []) (lenOf pd_4 rfl) rfl (by show 2 * 0 + _ ≤ _; exact Nat.le_of_eq rfl) (hb hby at_50) (fun _ _ => ⟨rfl, e8, (by decide : 0 + 0 ≤ _), (by decide : 0 + 0 ≤ _)⟩)
  dsimp only [Pt.U, Pt.locs, Pt.cells, Pt.slots] at X11 lx11 yx11 zx11 st11 hQ11
  subst lx11 yx11 zx11
  obtain ⟨rfl, N11q, e11⟩ := hQ11
  have N11 := Fr.app N8 N11q
  refine own_lift (fun t k => st11.trans k) ?_
  show own_Go p.tables e below (T11.setTop (mkF m 53 #[iv p0, iv p1, iv 4, rv as_GREATER, rv as_LESS, rv as_LESS, iv 1] [(.int 1)])) _
  have sg12 : ∀ t, Steps p.tables e below (T11.setTop (mkF m 56 #[iv p0, iv p1, iv 4, rv as_GREATER, rv as_LESS, rv as_LESS, iv 1] [(.int 1), (.ref as_GREATER), (.int 1)])) t → Steps p.tables e below (T11.setTop (mkF m 53 #[iv p0, iv p1, iv 4, rv as_GREATER, rv as_LESS, rv as_LESS, iv 1] [(.int 1)])) t := by
    intro t k
    refine XS.aloadN X11.here hx rfl (hb hby at_53) rfl rfl ?_
    show Steps p.tables e below (T11.setTop (mkF m 54 #[iv p0, iv p1, iv 4, rv as_GREATER, rv as_LESS, rv as_LESS, iv 1] [(.ref as_GREATER), (.int 1)])) _
    refine XS.iload X11.here hx rfl (hb hby at_54) rfl ?_
    show Steps p.tables e below (T11.setTop (mkF m 56 #[iv p0, iv p1, iv 4, rv as_GREATER, rv as_LESS, rv as_LESS, iv 1] [(.int 1), (.ref as_GREATER), (.int 1)])) _
    exact k
  refine own_lift sg12 ?_
  show own_Go p.tables e below (T11.setTop (mkF m 56 #[iv p0, iv p1, iv 4, rv as_GREATER, rv as_LESS, rv as_LESS, iv 1] [(.int 1), (.ref as_GREATER), (.int 1)])) _
  obtain ⟨cq13, kq13, q13a, q13b, q13c⟩ := isOf hZ e11 E_GREATER
  obtain ⟨_, _, ⟨T13, Lx13, kx13, nx13⟩, -, X13, ⟨Lc13, hQ13, lx13, yx13, zx13⟩, st13⟩ := X11.virtualBack hx (y := (⟨"com/example/ophion/ophion/runtime/CompareOp", "holds", "(I)Z"⟩ : MethodName)) (z := (⟨"com/example/ophion/ophion/runtime/CompareOp", "holds", "(I)Z"⟩ : MethodName)) hown (mvT hZ (wd hw 28 rfl)) (mvT hZ (wd hw 29 rfl)) (notFace_of_selects (args := #[]) (mvT hZ (wd hw 31 rfl))) (mvT hZ (wd hw 31 rfl)) (mvT hZ (wd hw 30 rfl)) (by decide) (backOf (W := 1) (rmHolds4t l Z a0 hw [] as_GREATER (1 : Int32) h0 n0 Z0 O_GREATER E_GREATER (by decide : (0 : Int32) < (1 : Int32))) hZ (wd hw 32 rfl) (wd hw 6 rfl) (by decide) (by decide)) q13a q13c (g := (mkF m 56 #[iv p0, iv p1, iv 4, rv as_GREATER, rv as_LESS, rv as_LESS, iv 1] [(.int 1), (.ref as_GREATER), (.int 1)])) rfl (by rw [hml]; rfl) (Steps.refl _) (argsL := [(.int 1)]) (rest := [(.int 1)]) (lenOf pd_4 rfl) rfl (by show 2 * 0 + _ ≤ _; exact Nat.le_of_eq rfl) (hb hby at_56) (fun _ _ => ⟨rfl, e11, (by decide : 0 + 0 ≤ _), (by decide : 0 + 0 ≤ _)⟩)
  dsimp only [Pt.U, Pt.locs, Pt.cells, Pt.slots] at X13 lx13 yx13 zx13 st13 hQ13
  subst lx13 yx13 zx13
  obtain ⟨rfl, N13q, e13⟩ := hQ13
  have N13 := Fr.app N11 N13q
  refine own_lift (fun t k => st13.trans k) ?_
  show own_Go p.tables e below (T13.setTop (mkF m 59 #[iv p0, iv p1, iv 4, rv as_GREATER, rv as_LESS, rv as_LESS, iv 1] [(.int 1), (.int 1)])) _
  have sg14 : ∀ t, Steps p.tables e below (T13.setTop (mkF m 67 #[iv p0, iv p1, iv 4, rv as_GREATER, rv as_LESS, rv as_LESS, iv 1] [(.int 1)])) t → Steps p.tables e below (T13.setTop (mkF m 59 #[iv p0, iv p1, iv 4, rv as_GREATER, rv as_LESS, rv as_LESS, iv 1] [(.int 1), (.int 1)])) t := by
    intro t k
    refine XS.icmpNo X13.here hx rfl (hb hby at_59) rfl (teq (by decide : (1 : Int32) = (1 : Int32))).2 ?_
    show Steps p.tables e below (T13.setTop (mkF m 62 #[iv p0, iv p1, iv 4, rv as_GREATER, rv as_LESS, rv as_LESS, iv 1] [])) _
    refine XS.iconst X13.here hx rfl (hb hby at_62) ?_
    show Steps p.tables e below (T13.setTop (mkF m 63 #[iv p0, iv p1, iv 4, rv as_GREATER, rv as_LESS, rv as_LESS, iv 1] [(.int 1)])) _
    refine XS.goto X13.here hx rfl (pc0 := 63) (pc' := 67) rfl (hb hby at_63) (by decide) (by decide) ?_
    show Steps p.tables e below (T13.setTop (mkF m 67 #[iv p0, iv p1, iv 4, rv as_GREATER, rv as_LESS, rv as_LESS, iv 1] [(.int 1)])) _
    exact k
  refine own_lift sg14 ?_
  show own_Go p.tables e below (T13.setTop (mkF m 67 #[iv p0, iv p1, iv 4, rv as_GREATER, rv as_LESS, rv as_LESS, iv 1] [(.int 1)])) _
  obtain ⟨fs, hr, hrun, hended, hW, hsame⟩ := X13.leave (v := some (.int 1)) (fun h => by rw [Bd.returns] at h; cases h)
  refine ⟨_, _, ?_, hrun, hended, _, _, rfl, ?_, ⟨_, rfl⟩, hW, hsame.mono (by decide) (by decide)⟩
  · exact retN X13 hx (t := .boolean) Bd.returns (by simp) (hb hby at_67) hr
  · show Q0 Z  h0 n0 _ T13.heap _
    rw [e13]
    exact ⟨rfl, N13⟩
theorem ef_rm0_50 (m : MethodId) (x0 : Int32) (x1 : Int32) : entryFrame m #[(.int x0), (.int x1)] maxLocals = mkF m 0 #[.val (.int x0), .val (.int x1), .unset, .unset, .unset, .unset, .unset] [] := by first | (simp [entryFrame, mkF, argsToLocals, Value.category, maxLocals]; done) | rfl
set_option maxRecDepth 65536 in
set_option maxHeartbeats 40000000 in
theorem rm0_50 (l : Launch) (Z : State) (a0 : Array Value) (hw : ∀ d ∈ tables_1, d.before a0 Z = true) (ws : List Jvm.Cond) (p0 : Int32) (p1 : Int32) (as_LESS : Addr) (as_GREATER : Addr) (as_EQUAL : Addr) (as_LESS_EQUAL : Addr) (as_GREATER_EQUAL : Addr) (as_NOT_EQUAL : Addr) (h0 : Heap) (n0 : Nat) (Z0 : n0 ≤ h0.size) (S_LESS : Sta Z h0 "com/example/ophion/ophion/runtime/CompareOp" "LESS" "Lcom/example/ophion/ophion/runtime/CompareOp;" (.ref as_LESS)) (E_LESS : Exa Z h0 as_LESS "com/example/ophion/ophion/runtime/CompareOp") (O_LESS : Fld Z h0 as_LESS "java/lang/Enum" "ordinal" "I" (.int 0)) (S_GREATER : Sta Z h0 "com/example/ophion/ophion/runtime/CompareOp" "GREATER" "Lcom/example/ophion/ophion/runtime/CompareOp;" (.ref as_GREATER)) (E_GREATER : Exa Z h0 as_GREATER "com/example/ophion/ophion/runtime/CompareOp") (O_GREATER : Fld Z h0 as_GREATER "java/lang/Enum" "ordinal" "I" (.int 4)) (S_EQUAL : Sta Z h0 "com/example/ophion/ophion/runtime/CompareOp" "EQUAL" "Lcom/example/ophion/ophion/runtime/CompareOp;" (.ref as_EQUAL)) (E_EQUAL : Exa Z h0 as_EQUAL "com/example/ophion/ophion/runtime/CompareOp") (O_EQUAL : Fld Z h0 as_EQUAL "java/lang/Enum" "ordinal" "I" (.int 2)) (S_LESS_EQUAL : Sta Z h0 "com/example/ophion/ophion/runtime/CompareOp" "LESS_EQUAL" "Lcom/example/ophion/ophion/runtime/CompareOp;" (.ref as_LESS_EQUAL)) (E_LESS_EQUAL : Exa Z h0 as_LESS_EQUAL "com/example/ophion/ophion/runtime/CompareOp") (O_LESS_EQUAL : Fld Z h0 as_LESS_EQUAL "java/lang/Enum" "ordinal" "I" (.int 1)) (S_GREATER_EQUAL : Sta Z h0 "com/example/ophion/ophion/runtime/CompareOp" "GREATER_EQUAL" "Lcom/example/ophion/ophion/runtime/CompareOp;" (.ref as_GREATER_EQUAL)) (E_GREATER_EQUAL : Exa Z h0 as_GREATER_EQUAL "com/example/ophion/ophion/runtime/CompareOp") (O_GREATER_EQUAL : Fld Z h0 as_GREATER_EQUAL "java/lang/Enum" "ordinal" "I" (.int 5)) (S_NOT_EQUAL : Sta Z h0 "com/example/ophion/ophion/runtime/CompareOp" "NOT_EQUAL" "Lcom/example/ophion/ophion/runtime/CompareOp;" (.ref as_NOT_EQUAL)) (E_NOT_EQUAL : Exa Z h0 as_NOT_EQUAL "com/example/ophion/ophion/runtime/CompareOp") (O_NOT_EQUAL : Fld Z h0 as_NOT_EQUAL "java/lang/Enum" "ordinal" "I" (.int 3)) (hk : ((p0 &&& (2147483647 : Int32)) % (6 : Int32)) = (5 : Int32)) (hs : ((p1 &&& (2147483647 : Int32)) % (3 : Int32)) = (0 : Int32)) :
    MetFree l x (head1 (Jvm.Cond.code x code maxLocals ret :: ws) room_1) (fun a U => a = #[(.int p0), (.int p1)] ∧ Z.Warmed39 U.vm ∧ U.heap = h0) (fun _ _ _ _ _ => True) (fun _ U o U' => ∃ v L, o = .returned v ∧ Q0 Z  h0 n0 v U'.heap L ∧ FrameEnd U o U' L 0 0) := by
  refine MetFree.of_bodySF (plainFor_of_name pn_2) hisR ?_
  intro p e s m args below meth c s₁ Bd hml0 hP hK
  obtain ⟨rfl, hZ, hh⟩ := hP
  have hx := Bd.exec
  have hby := Bd.bytes
  have hml : c.maxLocals = 7 := hml0
  have hown : s.vm.findClass "com/example/ophion/ophion/runtime/CompareOpSwappedPinLaw" = some m.cls := findClass_of_methodNamed Bd.named
  have hnm := (name_of_methodNamed Bd.named Bd.method).1
  have X0 : Stand p l e room_1 s m #[(.int p0), (.int p1)] below meth c s₁ [] 0 0 := Stand.of_body Bd
  have e0 : s₁.heap = h0 := by rw [← hh, Bd.state]; rfl
  have N0 := Fr.nil n0
  refine own_go (own_lift (fun t k => castTop (ef_rm0_50 m p0 p1) k) ?_)
  show own_Go p.tables e below (s₁.setTop (mkF m 0 #[iv p0, iv p1, .unset, .unset, .unset, .unset, .unset] [])) _
  have sg1 : ∀ t, Steps p.tables e below (s₁.setTop (mkF m 7 #[iv p0, iv p1, .unset, .unset, .unset, .unset, .unset] [(.int ((p0 &&& (2147483647 : Int32)) % (6 : Int32)))])) t → Steps p.tables e below (s₁.setTop (mkF m 0 #[iv p0, iv p1, .unset, .unset, .unset, .unset, .unset] [])) t := by
    intro t k
    refine XS.iloadN X0.here hx rfl (hb hby at_0) rfl ?_
    show Steps p.tables e below (s₁.setTop (mkF m 1 #[iv p0, iv p1, .unset, .unset, .unset, .unset, .unset] [(.int p0)])) _
    refine X0.ldcInt hx hown (mvT hZ (wd hw 0 rfl)) (g := (mkF m 1 #[iv p0, iv p1, .unset, .unset, .unset, .unset, .unset] [(.int p0)])) rfl (hb hby at_1) _ ?_
    show Steps p.tables e below (s₁.setTop (mkF m 3 #[iv p0, iv p1, .unset, .unset, .unset, .unset, .unset] [(.int 2147483647), (.int p0)])) _
    refine XS.iand X0.here hx rfl (hb hby at_3) rfl ?_
    show Steps p.tables e below (s₁.setTop (mkF m 4 #[iv p0, iv p1, .unset, .unset, .unset, .unset, .unset] [(.int (p0 &&& (2147483647 : Int32)))])) _
    refine XS.bipush X0.here hx rfl (hb hby at_4) ?_
    show Steps p.tables e below (s₁.setTop (mkF m 6 #[iv p0, iv p1, .unset, .unset, .unset, .unset, .unset] [(.int 6), (.int (p0 &&& (2147483647 : Int32)))])) _
    refine iremM X0 hx rfl (hb hby at_6) rfl (by decide) ?_
    show Steps p.tables e below (s₁.setTop (mkF m 7 #[iv p0, iv p1, .unset, .unset, .unset, .unset, .unset] [(.int ((p0 &&& (2147483647 : Int32)) % (6 : Int32)))])) _
    exact k
  refine own_lift sg1 ?_
  show own_Go p.tables e below (s₁.setTop (mkF m 7 #[iv p0, iv p1, .unset, .unset, .unset, .unset, .unset] [(.int ((p0 &&& (2147483647 : Int32)) % (6 : Int32)))])) _
  rw [hk]
  show own_Go p.tables e below (s₁.setTop (mkF m 7 #[iv p0, iv p1, .unset, .unset, .unset, .unset, .unset] [(.int 5)])) _
  have sg2 : ∀ t, Steps p.tables e below (s₁.setTop (mkF m 9 #[iv p0, iv p1, iv 5, .unset, .unset, .unset, .unset] [(.int 5)])) t → Steps p.tables e below (s₁.setTop (mkF m 7 #[iv p0, iv p1, .unset, .unset, .unset, .unset, .unset] [(.int 5)])) t := by
    intro t k
    refine XS.istoreN X0.here hx rfl (hb hby at_7) rfl (l' := #[iv p0, iv p1, iv 5, .unset, .unset, .unset, .unset]) rfl ?_
    show Steps p.tables e below (s₁.setTop (mkF m 8 #[iv p0, iv p1, iv 5, .unset, .unset, .unset, .unset] [])) _
    refine XS.iloadN X0.here hx rfl (hb hby at_8) rfl ?_
    show Steps p.tables e below (s₁.setTop (mkF m 9 #[iv p0, iv p1, iv 5, .unset, .unset, .unset, .unset] [(.int 5)])) _
    exact k
  refine own_lift sg2 ?_
  show own_Go p.tables e below (s₁.setTop (mkF m 9 #[iv p0, iv p1, iv 5, .unset, .unset, .unset, .unset] [(.int 5)])) _
  obtain ⟨_, _, ⟨T3, Lx3, kx3, nx3⟩, -, X3, ⟨Lc3, hQ3, lx3, yx3, zx3⟩, st3⟩ := Jvm.LawKit.callS X0 hx (y := (⟨"com/example/ophion/ophion/runtime/CompareOpSwappedPinLaw", "pick", "(I)Lcom/example/ophion/ophion/runtime/CompareOp;"⟩ : MethodName)) hown (mvT hZ (wd hw 1 rfl)) (mvT hZ (wd hw 2 rfl)) (mvT hZ (wd hw 3 rfl)) (mvT hZ (wd hw 4 rfl)) (by decide) (backOf (W := 0) (rmPick5 l Z a0 hw [] (5 : Int32) as_GREATER_EQUAL h0 n0 Z0 S_GREATER_EQUAL (by decide : ¬ ((5 : Int32) = (0 : Int32))) (by decide : ¬ ((5 : Int32) = (1 : Int32))) (by decide : ¬ ((5 : Int32) = (2 : Int32))) (by decide : ¬ ((5 : Int32) = (3 : Int32))) (by decide : ¬ ((5 : Int32) = (4 : Int32)))) hZ (wd hw 4 rfl) (wd hw 3 rfl) (by decide) (by decide)) (g := (mkF m 9 #[iv p0, iv p1, iv 5, .unset, .unset, .unset, .unset] [(.int 5)])) rfl (by rw [hml]; rfl) (argsL := [(.int 5)]) (rest := []) (lenOf pd_1 rfl) rfl (by show 2 * 0 + _ ≤ _; exact Nat.le_of_eq rfl) (hb hby at_9) (fun _ _ => ⟨rfl, e0, (by decide : 0 + 0 ≤ _), (by decide : 0 + 0 ≤ _)⟩)
  dsimp only [Pt.U, Pt.locs, Pt.cells, Pt.slots] at X3 lx3 yx3 zx3 st3 hQ3
  subst lx3 yx3 zx3
  obtain ⟨rfl, N3q, e3⟩ := hQ3
  have N3 := Fr.app N0 N3q
  refine own_lift st3 ?_
  show own_Go p.tables e below (T3.setTop (mkF m 12 #[iv p0, iv p1, iv 5, .unset, .unset, .unset, .unset] [(.ref as_GREATER_EQUAL)])) _
  have sg4 : ∀ t, Steps p.tables e below (T3.setTop (mkF m 14 #[iv p0, iv p1, iv 5, rv as_GREATER_EQUAL, .unset, .unset, .unset] [(.int 5)])) t → Steps p.tables e below (T3.setTop (mkF m 12 #[iv p0, iv p1, iv 5, .unset, .unset, .unset, .unset] [(.ref as_GREATER_EQUAL)])) t := by
    intro t k
    refine XS.astoreN X3.here hx rfl (hb hby at_12) rfl rfl (l' := #[iv p0, iv p1, iv 5, rv as_GREATER_EQUAL, .unset, .unset, .unset]) rfl ?_
    show Steps p.tables e below (T3.setTop (mkF m 13 #[iv p0, iv p1, iv 5, rv as_GREATER_EQUAL, .unset, .unset, .unset] [])) _
    refine XS.iloadN X3.here hx rfl (hb hby at_13) rfl ?_
    show Steps p.tables e below (T3.setTop (mkF m 14 #[iv p0, iv p1, iv 5, rv as_GREATER_EQUAL, .unset, .unset, .unset] [(.int 5)])) _
    exact k
  refine own_lift sg4 ?_
  show own_Go p.tables e below (T3.setTop (mkF m 14 #[iv p0, iv p1, iv 5, rv as_GREATER_EQUAL, .unset, .unset, .unset] [(.int 5)])) _
  obtain ⟨_, _, ⟨T5, Lx5, kx5, nx5⟩, -, X5, ⟨Lc5, hQ5, lx5, yx5, zx5⟩, st5⟩ := Jvm.LawKit.callS X3 hx (y := (⟨"com/example/ophion/ophion/runtime/CompareOpSwappedPinLaw", "mirror", "(I)I"⟩ : MethodName)) hown (mvT hZ (wd hw 8 rfl)) (mvT hZ (wd hw 9 rfl)) (mvT hZ (wd hw 3 rfl)) (mvT hZ (wd hw 10 rfl)) (by decide) (backOf (W := 0) (rmMir5 l Z a0 hw [] (5 : Int32) h0 n0 Z0 (by decide : ¬ ((5 : Int32) = (0 : Int32))) (by decide : ¬ ((5 : Int32) = (1 : Int32))) (by decide : ¬ ((5 : Int32) = (4 : Int32))) (by decide : (5 : Int32) = (5 : Int32))) hZ (wd hw 10 rfl) (wd hw 3 rfl) (by decide) (by decide)) (g := (mkF m 14 #[iv p0, iv p1, iv 5, rv as_GREATER_EQUAL, .unset, .unset, .unset] [(.int 5)])) rfl (by rw [hml]; rfl) (argsL := [(.int 5)]) (rest := []) (lenOf pd_2 rfl) rfl (by show 2 * 0 + _ ≤ _; exact Nat.le_of_eq rfl) (hb hby at_14) (fun _ _ => ⟨rfl, e3, (by decide : 0 + 0 ≤ _), (by decide : 0 + 0 ≤ _)⟩)
  dsimp only [Pt.U, Pt.locs, Pt.cells, Pt.slots] at X5 lx5 yx5 zx5 st5 hQ5
  subst lx5 yx5 zx5
  obtain ⟨rfl, N5q, e5⟩ := hQ5
  have N5 := Fr.app N3 N5q
  refine own_lift st5 ?_
  show own_Go p.tables e below (T5.setTop (mkF m 17 #[iv p0, iv p1, iv 5, rv as_GREATER_EQUAL, .unset, .unset, .unset] [(.int 1)])) _
  obtain ⟨_, _, ⟨T6, Lx6, kx6, nx6⟩, -, X6, ⟨Lc6, hQ6, lx6, yx6, zx6⟩, st6⟩ := Jvm.LawKit.callS X5 hx (y := (⟨"com/example/ophion/ophion/runtime/CompareOpSwappedPinLaw", "pick", "(I)Lcom/example/ophion/ophion/runtime/CompareOp;"⟩ : MethodName)) hown (mvT hZ (wd hw 1 rfl)) (mvT hZ (wd hw 2 rfl)) (mvT hZ (wd hw 3 rfl)) (mvT hZ (wd hw 4 rfl)) (by decide) (backOf (W := 0) (rmPick1 l Z a0 hw [] (1 : Int32) as_LESS_EQUAL h0 n0 Z0 S_LESS_EQUAL (by decide : ¬ ((1 : Int32) = (0 : Int32))) (by decide : (1 : Int32) = (1 : Int32))) hZ (wd hw 4 rfl) (wd hw 3 rfl) (by decide) (by decide)) (g := (mkF m 17 #[iv p0, iv p1, iv 5, rv as_GREATER_EQUAL, .unset, .unset, .unset] [(.int 1)])) rfl (by rw [hml]; rfl) (argsL := [(.int 1)]) (rest := []) (lenOf pd_1 rfl) rfl (by show 2 * 0 + _ ≤ _; exact Nat.le_of_eq rfl) (hb hby at_17) (fun _ _ => ⟨rfl, e5, (by decide : 0 + 0 ≤ _), (by decide : 0 + 0 ≤ _)⟩)
  dsimp only [Pt.U, Pt.locs, Pt.cells, Pt.slots] at X6 lx6 yx6 zx6 st6 hQ6
  subst lx6 yx6 zx6
  obtain ⟨rfl, N6q, e6⟩ := hQ6
  have N6 := Fr.app N5 N6q
  refine own_lift st6 ?_
  show own_Go p.tables e below (T6.setTop (mkF m 20 #[iv p0, iv p1, iv 5, rv as_GREATER_EQUAL, .unset, .unset, .unset] [(.ref as_LESS_EQUAL)])) _
  have sg7 : ∀ t, Steps p.tables e below (T6.setTop (mkF m 23 #[iv p0, iv p1, iv 5, rv as_GREATER_EQUAL, rv as_LESS_EQUAL, .unset, .unset] [(.ref as_GREATER_EQUAL)])) t → Steps p.tables e below (T6.setTop (mkF m 20 #[iv p0, iv p1, iv 5, rv as_GREATER_EQUAL, .unset, .unset, .unset] [(.ref as_LESS_EQUAL)])) t := by
    intro t k
    refine XS.astore X6.here hx rfl (hb hby at_20) rfl rfl (l' := #[iv p0, iv p1, iv 5, rv as_GREATER_EQUAL, rv as_LESS_EQUAL, .unset, .unset]) rfl ?_
    show Steps p.tables e below (T6.setTop (mkF m 22 #[iv p0, iv p1, iv 5, rv as_GREATER_EQUAL, rv as_LESS_EQUAL, .unset, .unset] [])) _
    refine XS.aloadN X6.here hx rfl (hb hby at_22) rfl rfl ?_
    show Steps p.tables e below (T6.setTop (mkF m 23 #[iv p0, iv p1, iv 5, rv as_GREATER_EQUAL, rv as_LESS_EQUAL, .unset, .unset] [(.ref as_GREATER_EQUAL)])) _
    exact k
  refine own_lift sg7 ?_
  show own_Go p.tables e below (T6.setTop (mkF m 23 #[iv p0, iv p1, iv 5, rv as_GREATER_EQUAL, rv as_LESS_EQUAL, .unset, .unset] [(.ref as_GREATER_EQUAL)])) _
  obtain ⟨cq8, kq8, q8a, q8b, q8c⟩ := isOf hZ e6 E_GREATER_EQUAL
  obtain ⟨_, _, ⟨T8, Lx8, kx8, nx8⟩, -, X8, ⟨Lc8, hQ8, lx8, yx8, zx8⟩, st8⟩ := X6.virtualBack hx (y := (⟨"com/example/ophion/ophion/runtime/CompareOp", "swapped", "()Lcom/example/ophion/ophion/runtime/CompareOp;"⟩ : MethodName)) (z := (⟨"com/example/ophion/ophion/runtime/CompareOp", "swapped", "()Lcom/example/ophion/ophion/runtime/CompareOp;"⟩ : MethodName)) hown (mvT hZ (wd hw 13 rfl)) (mvT hZ (wd hw 14 rfl)) (notFace_of_selects (args := #[]) (mvT hZ (wd hw 16 rfl))) (mvT hZ (wd hw 16 rfl)) (mvT hZ (wd hw 15 rfl)) (by decide) (backOf (W := 0) (rmSw5 l Z a0 hw [] as_GREATER_EQUAL as_LESS_EQUAL h0 n0 Z0 O_GREATER_EQUAL E_GREATER_EQUAL S_LESS_EQUAL) hZ (wd hw 17 rfl) (wd hw 6 rfl) (by decide) (by decide)) q8a q8c (g := (mkF m 23 #[iv p0, iv p1, iv 5, rv as_GREATER_EQUAL, rv as_LESS_EQUAL, .unset, .unset] [(.ref as_GREATER_EQUAL)])) rfl (by rw [hml]; rfl) (Steps.refl _) (argsL := []) (rest := []) (lenOf pd_3 rfl) rfl (by show 2 * 0 + _ ≤ _; exact Nat.le_of_eq rfl) (hb hby at_23) (fun _ _ => ⟨rfl, e6, (by decide : 0 + 0 ≤ _), (by decide : 0 + 0 ≤ _)⟩)
  dsimp only [Pt.U, Pt.locs, Pt.cells, Pt.slots] at X8 lx8 yx8 zx8 st8 hQ8
  subst lx8 yx8 zx8
  obtain ⟨rfl, N8q, e8⟩ := hQ8
  have N8 := Fr.app N6 N8q
  refine own_lift (fun t k => st8.trans k) ?_
  show own_Go p.tables e below (T8.setTop (mkF m 26 #[iv p0, iv p1, iv 5, rv as_GREATER_EQUAL, rv as_LESS_EQUAL, .unset, .unset] [(.ref as_LESS_EQUAL)])) _
  have sg9 : ∀ t, Steps p.tables e below (T8.setTop (mkF m 34 #[iv p0, iv p1, iv 5, rv as_GREATER_EQUAL, rv as_LESS_EQUAL, rv as_LESS_EQUAL, .unset] [(.int ((p1 &&& (2147483647 : Int32)) % (3 : Int32)))])) t → Steps p.tables e below (T8.setTop (mkF m 26 #[iv p0, iv p1, iv 5, rv as_GREATER_EQUAL, rv as_LESS_EQUAL, .unset, .unset] [(.ref as_LESS_EQUAL)])) t := by
    intro t k
    refine XS.astore X8.here hx rfl (hb hby at_26) rfl rfl (l' := #[iv p0, iv p1, iv 5, rv as_GREATER_EQUAL, rv as_LESS_EQUAL, rv as_LESS_EQUAL, .unset]) rfl ?_
    show Steps p.tables e below (T8.setTop (mkF m 28 #[iv p0, iv p1, iv 5, rv as_GREATER_EQUAL, rv as_LESS_EQUAL, rv as_LESS_EQUAL, .unset] [])) _
    refine XS.iloadN X8.here hx rfl (hb hby at_28) rfl ?_
    show Steps p.tables e below (T8.setTop (mkF m 29 #[iv p0, iv p1, iv 5, rv as_GREATER_EQUAL, rv as_LESS_EQUAL, rv as_LESS_EQUAL, .unset] [(.int p1)])) _
    refine X8.ldcInt hx hown (mvT hZ (wd hw 0 rfl)) (g := (mkF m 29 #[iv p0, iv p1, iv 5, rv as_GREATER_EQUAL, rv as_LESS_EQUAL, rv as_LESS_EQUAL, .unset] [(.int p1)])) rfl (hb hby at_29) _ ?_
    show Steps p.tables e below (T8.setTop (mkF m 31 #[iv p0, iv p1, iv 5, rv as_GREATER_EQUAL, rv as_LESS_EQUAL, rv as_LESS_EQUAL, .unset] [(.int 2147483647), (.int p1)])) _
    refine XS.iand X8.here hx rfl (hb hby at_31) rfl ?_
    show Steps p.tables e below (T8.setTop (mkF m 32 #[iv p0, iv p1, iv 5, rv as_GREATER_EQUAL, rv as_LESS_EQUAL, rv as_LESS_EQUAL, .unset] [(.int (p1 &&& (2147483647 : Int32)))])) _
    refine XS.iconst X8.here hx rfl (hb hby at_32) ?_
    show Steps p.tables e below (T8.setTop (mkF m 33 #[iv p0, iv p1, iv 5, rv as_GREATER_EQUAL, rv as_LESS_EQUAL, rv as_LESS_EQUAL, .unset] [(.int 3), (.int (p1 &&& (2147483647 : Int32)))])) _
    refine iremM X8 hx rfl (hb hby at_33) rfl (by decide) ?_
    show Steps p.tables e below (T8.setTop (mkF m 34 #[iv p0, iv p1, iv 5, rv as_GREATER_EQUAL, rv as_LESS_EQUAL, rv as_LESS_EQUAL, .unset] [(.int ((p1 &&& (2147483647 : Int32)) % (3 : Int32)))])) _
    exact k
  refine own_lift sg9 ?_
  show own_Go p.tables e below (T8.setTop (mkF m 34 #[iv p0, iv p1, iv 5, rv as_GREATER_EQUAL, rv as_LESS_EQUAL, rv as_LESS_EQUAL, .unset] [(.int ((p1 &&& (2147483647 : Int32)) % (3 : Int32)))])) _
  rw [hs]
  show own_Go p.tables e below (T8.setTop (mkF m 34 #[iv p0, iv p1, iv 5, rv as_GREATER_EQUAL, rv as_LESS_EQUAL, rv as_LESS_EQUAL, .unset] [(.int 0)])) _
  have sg10 : ∀ t, Steps p.tables e below (T8.setTop (mkF m 50 #[iv p0, iv p1, iv 5, rv as_GREATER_EQUAL, rv as_LESS_EQUAL, rv as_LESS_EQUAL, iv (-1)] [(.int 1), (.ref as_LESS_EQUAL)])) t → Steps p.tables e below (T8.setTop (mkF m 34 #[iv p0, iv p1, iv 5, rv as_GREATER_EQUAL, rv as_LESS_EQUAL, rv as_LESS_EQUAL, .unset] [(.int 0)])) t := by
    intro t k
    refine XS.iconst X8.here hx rfl (hb hby at_34) ?_
    show Steps p.tables e below (T8.setTop (mkF m 35 #[iv p0, iv p1, iv 5, rv as_GREATER_EQUAL, rv as_LESS_EQUAL, rv as_LESS_EQUAL, .unset] [(.int 1), (.int 0)])) _
    refine XS.isub X8.here hx rfl (hb hby at_35) rfl ?_
    show Steps p.tables e below (T8.setTop (mkF m 36 #[iv p0, iv p1, iv 5, rv as_GREATER_EQUAL, rv as_LESS_EQUAL, rv as_LESS_EQUAL, .unset] [(.int (-1))])) _
    refine XS.istore X8.here hx rfl (hb hby at_36) rfl (l' := #[iv p0, iv p1, iv 5, rv as_GREATER_EQUAL, rv as_LESS_EQUAL, rv as_LESS_EQUAL, iv (-1)]) rfl ?_
    show Steps p.tables e below (T8.setTop (mkF m 38 #[iv p0, iv p1, iv 5, rv as_GREATER_EQUAL, rv as_LESS_EQUAL, rv as_LESS_EQUAL, iv (-1)] [])) _
    refine XS.aload X8.here hx rfl (hb hby at_38) rfl rfl ?_
    show Steps p.tables e below (T8.setTop (mkF m 40 #[iv p0, iv p1, iv 5, rv as_GREATER_EQUAL, rv as_LESS_EQUAL, rv as_LESS_EQUAL, iv (-1)] [(.ref as_LESS_EQUAL)])) _
    refine XS.aload X8.here hx rfl (hb hby at_40) rfl rfl ?_
    show Steps p.tables e below (T8.setTop (mkF m 42 #[iv p0, iv p1, iv 5, rv as_GREATER_EQUAL, rv as_LESS_EQUAL, rv as_LESS_EQUAL, iv (-1)] [(.ref as_LESS_EQUAL), (.ref as_LESS_EQUAL)])) _
    refine Jvm.RoadKit.acmp (g := (mkF m 42 #[iv p0, iv p1, iv 5, rv as_GREATER_EQUAL, rv as_LESS_EQUAL, rv as_LESS_EQUAL, iv (-1)] [(.ref as_LESS_EQUAL), (.ref as_LESS_EQUAL)])) X8 hx rfl rfl rfl (pc0 := 42) (pc' := 45) (same := true) rfl (hb hby at_42) rfl (decide_eq_true rfl) (by decide) (by decide) ?_
    show Steps p.tables e below (T8.setTop (mkF m 45 #[iv p0, iv p1, iv 5, rv as_GREATER_EQUAL, rv as_LESS_EQUAL, rv as_LESS_EQUAL, iv (-1)] [])) _
    refine XS.aload X8.here hx rfl (hb hby at_45) rfl rfl ?_
    show Steps p.tables e below (T8.setTop (mkF m 47 #[iv p0, iv p1, iv 5, rv as_GREATER_EQUAL, rv as_LESS_EQUAL, rv as_LESS_EQUAL, iv (-1)] [(.ref as_LESS_EQUAL)])) _
    refine XS.iload X8.here hx rfl (hb hby at_47) rfl ?_
    show Steps p.tables e below (T8.setTop (mkF m 49 #[iv p0, iv p1, iv 5, rv as_GREATER_EQUAL, rv as_LESS_EQUAL, rv as_LESS_EQUAL, iv (-1)] [(.int (-1)), (.ref as_LESS_EQUAL)])) _
    refine XS.ineg X8.here hx rfl (hb hby at_49) rfl ?_
    show Steps p.tables e below (T8.setTop (mkF m 50 #[iv p0, iv p1, iv 5, rv as_GREATER_EQUAL, rv as_LESS_EQUAL, rv as_LESS_EQUAL, iv (-1)] [(.int 1), (.ref as_LESS_EQUAL)])) _
    exact k
  refine own_lift sg10 ?_
  show own_Go p.tables e below (T8.setTop (mkF m 50 #[iv p0, iv p1, iv 5, rv as_GREATER_EQUAL, rv as_LESS_EQUAL, rv as_LESS_EQUAL, iv (-1)] [(.int 1), (.ref as_LESS_EQUAL)])) _
  obtain ⟨cq11, kq11, q11a, q11b, q11c⟩ := isOf hZ e8 E_LESS_EQUAL
  obtain ⟨_, _, ⟨T11, Lx11, kx11, nx11⟩, -, X11, ⟨Lc11, hQ11, lx11, yx11, zx11⟩, st11⟩ := X8.virtualBack hx (y := (⟨"com/example/ophion/ophion/runtime/CompareOp", "holds", "(I)Z"⟩ : MethodName)) (z := (⟨"com/example/ophion/ophion/runtime/CompareOp", "holds", "(I)Z"⟩ : MethodName)) hown (mvT hZ (wd hw 28 rfl)) (mvT hZ (wd hw 29 rfl)) (notFace_of_selects (args := #[]) (mvT hZ (wd hw 31 rfl))) (mvT hZ (wd hw 31 rfl)) (mvT hZ (wd hw 30 rfl)) (by decide) (backOf (W := 0) (rmHolds1t l Z a0 hw [] as_LESS_EQUAL (1 : Int32) h0 n0 Z0 O_LESS_EQUAL E_LESS_EQUAL (by decide : (0 : Int32) < (1 : Int32))) hZ (wd hw 32 rfl) (wd hw 6 rfl) (by decide) (by decide)) q11a q11c (g := (mkF m 50 #[iv p0, iv p1, iv 5, rv as_GREATER_EQUAL, rv as_LESS_EQUAL, rv as_LESS_EQUAL, iv (-1)] [(.int 1), (.ref as_LESS_EQUAL)])) rfl (by rw [hml]; rfl) (Steps.refl _) (argsL := [(.int 1)]) (rest := []) (lenOf pd_4 rfl) rfl (by show 2 * 0 + _ ≤ _; exact Nat.le_of_eq rfl) (hb hby at_50) (fun _ _ => ⟨rfl, e8, (by decide : 0 + 0 ≤ _), (by decide : 0 + 0 ≤ _)⟩)
  dsimp only [Pt.U, Pt.locs, Pt.cells, Pt.slots] at X11 lx11 yx11 zx11 st11 hQ11
  subst lx11 yx11 zx11
  obtain ⟨rfl, N11q, e11⟩ := hQ11
  have N11 := Fr.app N8 N11q
  refine own_lift (fun t k => st11.trans k) ?_
  show own_Go p.tables e below (T11.setTop (mkF m 53 #[iv p0, iv p1, iv 5, rv as_GREATER_EQUAL, rv as_LESS_EQUAL, rv as_LESS_EQUAL, iv (-1)] [(.int 0)])) _
  have sg12 : ∀ t, Steps p.tables e below (T11.setTop (mkF m 56 #[iv p0, iv p1, iv 5, rv as_GREATER_EQUAL, rv as_LESS_EQUAL, rv as_LESS_EQUAL, iv (-1)] [(.int (-1)), (.ref as_GREATER_EQUAL), (.int 0)])) t → Steps p.tables e below (T11.setTop (mkF m 53 #[iv p0, iv p1, iv 5, rv as_GREATER_EQUAL, rv as_LESS_EQUAL, rv as_LESS_EQUAL, iv (-1)] [(.int 0)])) t := by
    intro t k
    refine XS.aloadN X11.here hx rfl (hb hby at_53) rfl rfl ?_
    show Steps p.tables e below (T11.setTop (mkF m 54 #[iv p0, iv p1, iv 5, rv as_GREATER_EQUAL, rv as_LESS_EQUAL, rv as_LESS_EQUAL, iv (-1)] [(.ref as_GREATER_EQUAL), (.int 0)])) _
    refine XS.iload X11.here hx rfl (hb hby at_54) rfl ?_
    show Steps p.tables e below (T11.setTop (mkF m 56 #[iv p0, iv p1, iv 5, rv as_GREATER_EQUAL, rv as_LESS_EQUAL, rv as_LESS_EQUAL, iv (-1)] [(.int (-1)), (.ref as_GREATER_EQUAL), (.int 0)])) _
    exact k
  refine own_lift sg12 ?_
  show own_Go p.tables e below (T11.setTop (mkF m 56 #[iv p0, iv p1, iv 5, rv as_GREATER_EQUAL, rv as_LESS_EQUAL, rv as_LESS_EQUAL, iv (-1)] [(.int (-1)), (.ref as_GREATER_EQUAL), (.int 0)])) _
  obtain ⟨cq13, kq13, q13a, q13b, q13c⟩ := isOf hZ e11 E_GREATER_EQUAL
  obtain ⟨_, _, ⟨T13, Lx13, kx13, nx13⟩, -, X13, ⟨Lc13, hQ13, lx13, yx13, zx13⟩, st13⟩ := X11.virtualBack hx (y := (⟨"com/example/ophion/ophion/runtime/CompareOp", "holds", "(I)Z"⟩ : MethodName)) (z := (⟨"com/example/ophion/ophion/runtime/CompareOp", "holds", "(I)Z"⟩ : MethodName)) hown (mvT hZ (wd hw 28 rfl)) (mvT hZ (wd hw 29 rfl)) (notFace_of_selects (args := #[]) (mvT hZ (wd hw 31 rfl))) (mvT hZ (wd hw 31 rfl)) (mvT hZ (wd hw 30 rfl)) (by decide) (backOf (W := 1) (rmHolds5t l Z a0 hw [] as_GREATER_EQUAL (-1 : Int32) h0 n0 Z0 O_GREATER_EQUAL E_GREATER_EQUAL (by decide : (-1 : Int32) < (0 : Int32))) hZ (wd hw 32 rfl) (wd hw 6 rfl) (by decide) (by decide)) q13a q13c (g := (mkF m 56 #[iv p0, iv p1, iv 5, rv as_GREATER_EQUAL, rv as_LESS_EQUAL, rv as_LESS_EQUAL, iv (-1)] [(.int (-1)), (.ref as_GREATER_EQUAL), (.int 0)])) rfl (by rw [hml]; rfl) (Steps.refl _) (argsL := [(.int (-1))]) (rest := [(.int 0)]) (lenOf pd_4 rfl) rfl (by show 2 * 0 + _ ≤ _; exact Nat.le_of_eq rfl) (hb hby at_56) (fun _ _ => ⟨rfl, e11, (by decide : 0 + 0 ≤ _), (by decide : 0 + 0 ≤ _)⟩)
  dsimp only [Pt.U, Pt.locs, Pt.cells, Pt.slots] at X13 lx13 yx13 zx13 st13 hQ13
  subst lx13 yx13 zx13
  obtain ⟨rfl, N13q, e13⟩ := hQ13
  have N13 := Fr.app N11 N13q
  refine own_lift (fun t k => st13.trans k) ?_
  show own_Go p.tables e below (T13.setTop (mkF m 59 #[iv p0, iv p1, iv 5, rv as_GREATER_EQUAL, rv as_LESS_EQUAL, rv as_LESS_EQUAL, iv (-1)] [(.int 0), (.int 0)])) _
  have sg14 : ∀ t, Steps p.tables e below (T13.setTop (mkF m 67 #[iv p0, iv p1, iv 5, rv as_GREATER_EQUAL, rv as_LESS_EQUAL, rv as_LESS_EQUAL, iv (-1)] [(.int 1)])) t → Steps p.tables e below (T13.setTop (mkF m 59 #[iv p0, iv p1, iv 5, rv as_GREATER_EQUAL, rv as_LESS_EQUAL, rv as_LESS_EQUAL, iv (-1)] [(.int 0), (.int 0)])) t := by
    intro t k
    refine XS.icmpNo X13.here hx rfl (hb hby at_59) rfl (teq (by decide : (0 : Int32) = (0 : Int32))).2 ?_
    show Steps p.tables e below (T13.setTop (mkF m 62 #[iv p0, iv p1, iv 5, rv as_GREATER_EQUAL, rv as_LESS_EQUAL, rv as_LESS_EQUAL, iv (-1)] [])) _
    refine XS.iconst X13.here hx rfl (hb hby at_62) ?_
    show Steps p.tables e below (T13.setTop (mkF m 63 #[iv p0, iv p1, iv 5, rv as_GREATER_EQUAL, rv as_LESS_EQUAL, rv as_LESS_EQUAL, iv (-1)] [(.int 1)])) _
    refine XS.goto X13.here hx rfl (pc0 := 63) (pc' := 67) rfl (hb hby at_63) (by decide) (by decide) ?_
    show Steps p.tables e below (T13.setTop (mkF m 67 #[iv p0, iv p1, iv 5, rv as_GREATER_EQUAL, rv as_LESS_EQUAL, rv as_LESS_EQUAL, iv (-1)] [(.int 1)])) _
    exact k
  refine own_lift sg14 ?_
  show own_Go p.tables e below (T13.setTop (mkF m 67 #[iv p0, iv p1, iv 5, rv as_GREATER_EQUAL, rv as_LESS_EQUAL, rv as_LESS_EQUAL, iv (-1)] [(.int 1)])) _
  obtain ⟨fs, hr, hrun, hended, hW, hsame⟩ := X13.leave (v := some (.int 1)) (fun h => by rw [Bd.returns] at h; cases h)
  refine ⟨_, _, ?_, hrun, hended, _, _, rfl, ?_, ⟨_, rfl⟩, hW, hsame.mono (by decide) (by decide)⟩
  · exact retN X13 hx (t := .boolean) Bd.returns (by simp) (hb hby at_67) hr
  · show Q0 Z  h0 n0 _ T13.heap _
    rw [e13]
    exact ⟨rfl, N13⟩
theorem ef_rm0_51 (m : MethodId) (x0 : Int32) (x1 : Int32) : entryFrame m #[(.int x0), (.int x1)] maxLocals = mkF m 0 #[.val (.int x0), .val (.int x1), .unset, .unset, .unset, .unset, .unset] [] := by first | (simp [entryFrame, mkF, argsToLocals, Value.category, maxLocals]; done) | rfl
set_option maxRecDepth 65536 in
set_option maxHeartbeats 40000000 in
theorem rm0_51 (l : Launch) (Z : State) (a0 : Array Value) (hw : ∀ d ∈ tables_1, d.before a0 Z = true) (ws : List Jvm.Cond) (p0 : Int32) (p1 : Int32) (as_LESS : Addr) (as_GREATER : Addr) (as_EQUAL : Addr) (as_LESS_EQUAL : Addr) (as_GREATER_EQUAL : Addr) (as_NOT_EQUAL : Addr) (h0 : Heap) (n0 : Nat) (Z0 : n0 ≤ h0.size) (S_LESS : Sta Z h0 "com/example/ophion/ophion/runtime/CompareOp" "LESS" "Lcom/example/ophion/ophion/runtime/CompareOp;" (.ref as_LESS)) (E_LESS : Exa Z h0 as_LESS "com/example/ophion/ophion/runtime/CompareOp") (O_LESS : Fld Z h0 as_LESS "java/lang/Enum" "ordinal" "I" (.int 0)) (S_GREATER : Sta Z h0 "com/example/ophion/ophion/runtime/CompareOp" "GREATER" "Lcom/example/ophion/ophion/runtime/CompareOp;" (.ref as_GREATER)) (E_GREATER : Exa Z h0 as_GREATER "com/example/ophion/ophion/runtime/CompareOp") (O_GREATER : Fld Z h0 as_GREATER "java/lang/Enum" "ordinal" "I" (.int 4)) (S_EQUAL : Sta Z h0 "com/example/ophion/ophion/runtime/CompareOp" "EQUAL" "Lcom/example/ophion/ophion/runtime/CompareOp;" (.ref as_EQUAL)) (E_EQUAL : Exa Z h0 as_EQUAL "com/example/ophion/ophion/runtime/CompareOp") (O_EQUAL : Fld Z h0 as_EQUAL "java/lang/Enum" "ordinal" "I" (.int 2)) (S_LESS_EQUAL : Sta Z h0 "com/example/ophion/ophion/runtime/CompareOp" "LESS_EQUAL" "Lcom/example/ophion/ophion/runtime/CompareOp;" (.ref as_LESS_EQUAL)) (E_LESS_EQUAL : Exa Z h0 as_LESS_EQUAL "com/example/ophion/ophion/runtime/CompareOp") (O_LESS_EQUAL : Fld Z h0 as_LESS_EQUAL "java/lang/Enum" "ordinal" "I" (.int 1)) (S_GREATER_EQUAL : Sta Z h0 "com/example/ophion/ophion/runtime/CompareOp" "GREATER_EQUAL" "Lcom/example/ophion/ophion/runtime/CompareOp;" (.ref as_GREATER_EQUAL)) (E_GREATER_EQUAL : Exa Z h0 as_GREATER_EQUAL "com/example/ophion/ophion/runtime/CompareOp") (O_GREATER_EQUAL : Fld Z h0 as_GREATER_EQUAL "java/lang/Enum" "ordinal" "I" (.int 5)) (S_NOT_EQUAL : Sta Z h0 "com/example/ophion/ophion/runtime/CompareOp" "NOT_EQUAL" "Lcom/example/ophion/ophion/runtime/CompareOp;" (.ref as_NOT_EQUAL)) (E_NOT_EQUAL : Exa Z h0 as_NOT_EQUAL "com/example/ophion/ophion/runtime/CompareOp") (O_NOT_EQUAL : Fld Z h0 as_NOT_EQUAL "java/lang/Enum" "ordinal" "I" (.int 3)) (hk : ((p0 &&& (2147483647 : Int32)) % (6 : Int32)) = (5 : Int32)) (hs : ((p1 &&& (2147483647 : Int32)) % (3 : Int32)) = (1 : Int32)) :
    MetFree l x (head1 (Jvm.Cond.code x code maxLocals ret :: ws) room_1) (fun a U => a = #[(.int p0), (.int p1)] ∧ Z.Warmed39 U.vm ∧ U.heap = h0) (fun _ _ _ _ _ => True) (fun _ U o U' => ∃ v L, o = .returned v ∧ Q0 Z  h0 n0 v U'.heap L ∧ FrameEnd U o U' L 0 0) := by
  refine MetFree.of_bodySF (plainFor_of_name pn_2) hisR ?_
  intro p e s m args below meth c s₁ Bd hml0 hP hK
  obtain ⟨rfl, hZ, hh⟩ := hP
  have hx := Bd.exec
  have hby := Bd.bytes
  have hml : c.maxLocals = 7 := hml0
  have hown : s.vm.findClass "com/example/ophion/ophion/runtime/CompareOpSwappedPinLaw" = some m.cls := findClass_of_methodNamed Bd.named
  have hnm := (name_of_methodNamed Bd.named Bd.method).1
  have X0 : Stand p l e room_1 s m #[(.int p0), (.int p1)] below meth c s₁ [] 0 0 := Stand.of_body Bd
  have e0 : s₁.heap = h0 := by rw [← hh, Bd.state]; rfl
  have N0 := Fr.nil n0
  refine own_go (own_lift (fun t k => castTop (ef_rm0_51 m p0 p1) k) ?_)
  show own_Go p.tables e below (s₁.setTop (mkF m 0 #[iv p0, iv p1, .unset, .unset, .unset, .unset, .unset] [])) _
  have sg1 : ∀ t, Steps p.tables e below (s₁.setTop (mkF m 7 #[iv p0, iv p1, .unset, .unset, .unset, .unset, .unset] [(.int ((p0 &&& (2147483647 : Int32)) % (6 : Int32)))])) t → Steps p.tables e below (s₁.setTop (mkF m 0 #[iv p0, iv p1, .unset, .unset, .unset, .unset, .unset] [])) t := by
    intro t k
    refine XS.iloadN X0.here hx rfl (hb hby at_0) rfl ?_
    show Steps p.tables e below (s₁.setTop (mkF m 1 #[iv p0, iv p1, .unset, .unset, .unset, .unset, .unset] [(.int p0)])) _
    refine X0.ldcInt hx hown (mvT hZ (wd hw 0 rfl)) (g := (mkF m 1 #[iv p0, iv p1, .unset, .unset, .unset, .unset, .unset] [(.int p0)])) rfl (hb hby at_1) _ ?_
    show Steps p.tables e below (s₁.setTop (mkF m 3 #[iv p0, iv p1, .unset, .unset, .unset, .unset, .unset] [(.int 2147483647), (.int p0)])) _
    refine XS.iand X0.here hx rfl (hb hby at_3) rfl ?_
    show Steps p.tables e below (s₁.setTop (mkF m 4 #[iv p0, iv p1, .unset, .unset, .unset, .unset, .unset] [(.int (p0 &&& (2147483647 : Int32)))])) _
    refine XS.bipush X0.here hx rfl (hb hby at_4) ?_
    show Steps p.tables e below (s₁.setTop (mkF m 6 #[iv p0, iv p1, .unset, .unset, .unset, .unset, .unset] [(.int 6), (.int (p0 &&& (2147483647 : Int32)))])) _
    refine iremM X0 hx rfl (hb hby at_6) rfl (by decide) ?_
    show Steps p.tables e below (s₁.setTop (mkF m 7 #[iv p0, iv p1, .unset, .unset, .unset, .unset, .unset] [(.int ((p0 &&& (2147483647 : Int32)) % (6 : Int32)))])) _
    exact k
  refine own_lift sg1 ?_
  show own_Go p.tables e below (s₁.setTop (mkF m 7 #[iv p0, iv p1, .unset, .unset, .unset, .unset, .unset] [(.int ((p0 &&& (2147483647 : Int32)) % (6 : Int32)))])) _
  rw [hk]
  show own_Go p.tables e below (s₁.setTop (mkF m 7 #[iv p0, iv p1, .unset, .unset, .unset, .unset, .unset] [(.int 5)])) _
  have sg2 : ∀ t, Steps p.tables e below (s₁.setTop (mkF m 9 #[iv p0, iv p1, iv 5, .unset, .unset, .unset, .unset] [(.int 5)])) t → Steps p.tables e below (s₁.setTop (mkF m 7 #[iv p0, iv p1, .unset, .unset, .unset, .unset, .unset] [(.int 5)])) t := by
    intro t k
    refine XS.istoreN X0.here hx rfl (hb hby at_7) rfl (l' := #[iv p0, iv p1, iv 5, .unset, .unset, .unset, .unset]) rfl ?_
    show Steps p.tables e below (s₁.setTop (mkF m 8 #[iv p0, iv p1, iv 5, .unset, .unset, .unset, .unset] [])) _
    refine XS.iloadN X0.here hx rfl (hb hby at_8) rfl ?_
    show Steps p.tables e below (s₁.setTop (mkF m 9 #[iv p0, iv p1, iv 5, .unset, .unset, .unset, .unset] [(.int 5)])) _
    exact k
  refine own_lift sg2 ?_
  show own_Go p.tables e below (s₁.setTop (mkF m 9 #[iv p0, iv p1, iv 5, .unset, .unset, .unset, .unset] [(.int 5)])) _
  obtain ⟨_, _, ⟨T3, Lx3, kx3, nx3⟩, -, X3, ⟨Lc3, hQ3, lx3, yx3, zx3⟩, st3⟩ := Jvm.LawKit.callS X0 hx (y := (⟨"com/example/ophion/ophion/runtime/CompareOpSwappedPinLaw", "pick", "(I)Lcom/example/ophion/ophion/runtime/CompareOp;"⟩ : MethodName)) hown (mvT hZ (wd hw 1 rfl)) (mvT hZ (wd hw 2 rfl)) (mvT hZ (wd hw 3 rfl)) (mvT hZ (wd hw 4 rfl)) (by decide) (backOf (W := 0) (rmPick5 l Z a0 hw [] (5 : Int32) as_GREATER_EQUAL h0 n0 Z0 S_GREATER_EQUAL (by decide : ¬ ((5 : Int32) = (0 : Int32))) (by decide : ¬ ((5 : Int32) = (1 : Int32))) (by decide : ¬ ((5 : Int32) = (2 : Int32))) (by decide : ¬ ((5 : Int32) = (3 : Int32))) (by decide : ¬ ((5 : Int32) = (4 : Int32)))) hZ (wd hw 4 rfl) (wd hw 3 rfl) (by decide) (by decide)) (g := (mkF m 9 #[iv p0, iv p1, iv 5, .unset, .unset, .unset, .unset] [(.int 5)])) rfl (by rw [hml]; rfl) (argsL := [(.int 5)]) (rest := []) (lenOf pd_1 rfl) rfl (by show 2 * 0 + _ ≤ _; exact Nat.le_of_eq rfl) (hb hby at_9) (fun _ _ => ⟨rfl, e0, (by decide : 0 + 0 ≤ _), (by decide : 0 + 0 ≤ _)⟩)
  dsimp only [Pt.U, Pt.locs, Pt.cells, Pt.slots] at X3 lx3 yx3 zx3 st3 hQ3
  subst lx3 yx3 zx3
  obtain ⟨rfl, N3q, e3⟩ := hQ3
  have N3 := Fr.app N0 N3q
  refine own_lift st3 ?_
  show own_Go p.tables e below (T3.setTop (mkF m 12 #[iv p0, iv p1, iv 5, .unset, .unset, .unset, .unset] [(.ref as_GREATER_EQUAL)])) _
  have sg4 : ∀ t, Steps p.tables e below (T3.setTop (mkF m 14 #[iv p0, iv p1, iv 5, rv as_GREATER_EQUAL, .unset, .unset, .unset] [(.int 5)])) t → Steps p.tables e below (T3.setTop (mkF m 12 #[iv p0, iv p1, iv 5, .unset, .unset, .unset, .unset] [(.ref as_GREATER_EQUAL)])) t := by
    intro t k
    refine XS.astoreN X3.here hx rfl (hb hby at_12) rfl rfl (l' := #[iv p0, iv p1, iv 5, rv as_GREATER_EQUAL, .unset, .unset, .unset]) rfl ?_
    show Steps p.tables e below (T3.setTop (mkF m 13 #[iv p0, iv p1, iv 5, rv as_GREATER_EQUAL, .unset, .unset, .unset] [])) _
    refine XS.iloadN X3.here hx rfl (hb hby at_13) rfl ?_
    show Steps p.tables e below (T3.setTop (mkF m 14 #[iv p0, iv p1, iv 5, rv as_GREATER_EQUAL, .unset, .unset, .unset] [(.int 5)])) _
    exact k
  refine own_lift sg4 ?_
  show own_Go p.tables e below (T3.setTop (mkF m 14 #[iv p0, iv p1, iv 5, rv as_GREATER_EQUAL, .unset, .unset, .unset] [(.int 5)])) _
  obtain ⟨_, _, ⟨T5, Lx5, kx5, nx5⟩, -, X5, ⟨Lc5, hQ5, lx5, yx5, zx5⟩, st5⟩ := Jvm.LawKit.callS X3 hx (y := (⟨"com/example/ophion/ophion/runtime/CompareOpSwappedPinLaw", "mirror", "(I)I"⟩ : MethodName)) hown (mvT hZ (wd hw 8 rfl)) (mvT hZ (wd hw 9 rfl)) (mvT hZ (wd hw 3 rfl)) (mvT hZ (wd hw 10 rfl)) (by decide) (backOf (W := 0) (rmMir5 l Z a0 hw [] (5 : Int32) h0 n0 Z0 (by decide : ¬ ((5 : Int32) = (0 : Int32))) (by decide : ¬ ((5 : Int32) = (1 : Int32))) (by decide : ¬ ((5 : Int32) = (4 : Int32))) (by decide : (5 : Int32) = (5 : Int32))) hZ (wd hw 10 rfl) (wd hw 3 rfl) (by decide) (by decide)) (g := (mkF m 14 #[iv p0, iv p1, iv 5, rv as_GREATER_EQUAL, .unset, .unset, .unset] [(.int 5)])) rfl (by rw [hml]; rfl) (argsL := [(.int 5)]) (rest := []) (lenOf pd_2 rfl) rfl (by show 2 * 0 + _ ≤ _; exact Nat.le_of_eq rfl) (hb hby at_14) (fun _ _ => ⟨rfl, e3, (by decide : 0 + 0 ≤ _), (by decide : 0 + 0 ≤ _)⟩)
  dsimp only [Pt.U, Pt.locs, Pt.cells, Pt.slots] at X5 lx5 yx5 zx5 st5 hQ5
  subst lx5 yx5 zx5
  obtain ⟨rfl, N5q, e5⟩ := hQ5
  have N5 := Fr.app N3 N5q
  refine own_lift st5 ?_
  show own_Go p.tables e below (T5.setTop (mkF m 17 #[iv p0, iv p1, iv 5, rv as_GREATER_EQUAL, .unset, .unset, .unset] [(.int 1)])) _
  obtain ⟨_, _, ⟨T6, Lx6, kx6, nx6⟩, -, X6, ⟨Lc6, hQ6, lx6, yx6, zx6⟩, st6⟩ := Jvm.LawKit.callS X5 hx (y := (⟨"com/example/ophion/ophion/runtime/CompareOpSwappedPinLaw", "pick", "(I)Lcom/example/ophion/ophion/runtime/CompareOp;"⟩ : MethodName)) hown (mvT hZ (wd hw 1 rfl)) (mvT hZ (wd hw 2 rfl)) (mvT hZ (wd hw 3 rfl)) (mvT hZ (wd hw 4 rfl)) (by decide) (backOf (W := 0) (rmPick1 l Z a0 hw [] (1 : Int32) as_LESS_EQUAL h0 n0 Z0 S_LESS_EQUAL (by decide : ¬ ((1 : Int32) = (0 : Int32))) (by decide : (1 : Int32) = (1 : Int32))) hZ (wd hw 4 rfl) (wd hw 3 rfl) (by decide) (by decide)) (g := (mkF m 17 #[iv p0, iv p1, iv 5, rv as_GREATER_EQUAL, .unset, .unset, .unset] [(.int 1)])) rfl (by rw [hml]; rfl) (argsL := [(.int 1)]) (rest := []) (lenOf pd_1 rfl) rfl (by show 2 * 0 + _ ≤ _; exact Nat.le_of_eq rfl) (hb hby at_17) (fun _ _ => ⟨rfl, e5, (by decide : 0 + 0 ≤ _), (by decide : 0 + 0 ≤ _)⟩)
  dsimp only [Pt.U, Pt.locs, Pt.cells, Pt.slots] at X6 lx6 yx6 zx6 st6 hQ6
  subst lx6 yx6 zx6
  obtain ⟨rfl, N6q, e6⟩ := hQ6
  have N6 := Fr.app N5 N6q
  refine own_lift st6 ?_
  show own_Go p.tables e below (T6.setTop (mkF m 20 #[iv p0, iv p1, iv 5, rv as_GREATER_EQUAL, .unset, .unset, .unset] [(.ref as_LESS_EQUAL)])) _
  have sg7 : ∀ t, Steps p.tables e below (T6.setTop (mkF m 23 #[iv p0, iv p1, iv 5, rv as_GREATER_EQUAL, rv as_LESS_EQUAL, .unset, .unset] [(.ref as_GREATER_EQUAL)])) t → Steps p.tables e below (T6.setTop (mkF m 20 #[iv p0, iv p1, iv 5, rv as_GREATER_EQUAL, .unset, .unset, .unset] [(.ref as_LESS_EQUAL)])) t := by
    intro t k
    refine XS.astore X6.here hx rfl (hb hby at_20) rfl rfl (l' := #[iv p0, iv p1, iv 5, rv as_GREATER_EQUAL, rv as_LESS_EQUAL, .unset, .unset]) rfl ?_
    show Steps p.tables e below (T6.setTop (mkF m 22 #[iv p0, iv p1, iv 5, rv as_GREATER_EQUAL, rv as_LESS_EQUAL, .unset, .unset] [])) _
    refine XS.aloadN X6.here hx rfl (hb hby at_22) rfl rfl ?_
    show Steps p.tables e below (T6.setTop (mkF m 23 #[iv p0, iv p1, iv 5, rv as_GREATER_EQUAL, rv as_LESS_EQUAL, .unset, .unset] [(.ref as_GREATER_EQUAL)])) _
    exact k
  refine own_lift sg7 ?_
  show own_Go p.tables e below (T6.setTop (mkF m 23 #[iv p0, iv p1, iv 5, rv as_GREATER_EQUAL, rv as_LESS_EQUAL, .unset, .unset] [(.ref as_GREATER_EQUAL)])) _
  obtain ⟨cq8, kq8, q8a, q8b, q8c⟩ := isOf hZ e6 E_GREATER_EQUAL
  obtain ⟨_, _, ⟨T8, Lx8, kx8, nx8⟩, -, X8, ⟨Lc8, hQ8, lx8, yx8, zx8⟩, st8⟩ := X6.virtualBack hx (y := (⟨"com/example/ophion/ophion/runtime/CompareOp", "swapped", "()Lcom/example/ophion/ophion/runtime/CompareOp;"⟩ : MethodName)) (z := (⟨"com/example/ophion/ophion/runtime/CompareOp", "swapped", "()Lcom/example/ophion/ophion/runtime/CompareOp;"⟩ : MethodName)) hown (mvT hZ (wd hw 13 rfl)) (mvT hZ (wd hw 14 rfl)) (notFace_of_selects (args := #[]) (mvT hZ (wd hw 16 rfl))) (mvT hZ (wd hw 16 rfl)) (mvT hZ (wd hw 15 rfl)) (by decide) (backOf (W := 0) (rmSw5 l Z a0 hw [] as_GREATER_EQUAL as_LESS_EQUAL h0 n0 Z0 O_GREATER_EQUAL E_GREATER_EQUAL S_LESS_EQUAL) hZ (wd hw 17 rfl) (wd hw 6 rfl) (by decide) (by decide)) q8a q8c (g := (mkF m 23 #[iv p0, iv p1, iv 5, rv as_GREATER_EQUAL, rv as_LESS_EQUAL, .unset, .unset] [(.ref as_GREATER_EQUAL)])) rfl (by rw [hml]; rfl) (Steps.refl _) (argsL := []) (rest := []) (lenOf pd_3 rfl) rfl (by show 2 * 0 + _ ≤ _; exact Nat.le_of_eq rfl) (hb hby at_23) (fun _ _ => ⟨rfl, e6, (by decide : 0 + 0 ≤ _), (by decide : 0 + 0 ≤ _)⟩)
  dsimp only [Pt.U, Pt.locs, Pt.cells, Pt.slots] at X8 lx8 yx8 zx8 st8 hQ8
  subst lx8 yx8 zx8
  obtain ⟨rfl, N8q, e8⟩ := hQ8
  have N8 := Fr.app N6 N8q
  refine own_lift (fun t k => st8.trans k) ?_
  show own_Go p.tables e below (T8.setTop (mkF m 26 #[iv p0, iv p1, iv 5, rv as_GREATER_EQUAL, rv as_LESS_EQUAL, .unset, .unset] [(.ref as_LESS_EQUAL)])) _
  have sg9 : ∀ t, Steps p.tables e below (T8.setTop (mkF m 34 #[iv p0, iv p1, iv 5, rv as_GREATER_EQUAL, rv as_LESS_EQUAL, rv as_LESS_EQUAL, .unset] [(.int ((p1 &&& (2147483647 : Int32)) % (3 : Int32)))])) t → Steps p.tables e below (T8.setTop (mkF m 26 #[iv p0, iv p1, iv 5, rv as_GREATER_EQUAL, rv as_LESS_EQUAL, .unset, .unset] [(.ref as_LESS_EQUAL)])) t := by
    intro t k
    refine XS.astore X8.here hx rfl (hb hby at_26) rfl rfl (l' := #[iv p0, iv p1, iv 5, rv as_GREATER_EQUAL, rv as_LESS_EQUAL, rv as_LESS_EQUAL, .unset]) rfl ?_
    show Steps p.tables e below (T8.setTop (mkF m 28 #[iv p0, iv p1, iv 5, rv as_GREATER_EQUAL, rv as_LESS_EQUAL, rv as_LESS_EQUAL, .unset] [])) _
    refine XS.iloadN X8.here hx rfl (hb hby at_28) rfl ?_
    show Steps p.tables e below (T8.setTop (mkF m 29 #[iv p0, iv p1, iv 5, rv as_GREATER_EQUAL, rv as_LESS_EQUAL, rv as_LESS_EQUAL, .unset] [(.int p1)])) _
    refine X8.ldcInt hx hown (mvT hZ (wd hw 0 rfl)) (g := (mkF m 29 #[iv p0, iv p1, iv 5, rv as_GREATER_EQUAL, rv as_LESS_EQUAL, rv as_LESS_EQUAL, .unset] [(.int p1)])) rfl (hb hby at_29) _ ?_
    show Steps p.tables e below (T8.setTop (mkF m 31 #[iv p0, iv p1, iv 5, rv as_GREATER_EQUAL, rv as_LESS_EQUAL, rv as_LESS_EQUAL, .unset] [(.int 2147483647), (.int p1)])) _
    refine XS.iand X8.here hx rfl (hb hby at_31) rfl ?_
    show Steps p.tables e below (T8.setTop (mkF m 32 #[iv p0, iv p1, iv 5, rv as_GREATER_EQUAL, rv as_LESS_EQUAL, rv as_LESS_EQUAL, .unset] [(.int (p1 &&& (2147483647 : Int32)))])) _
    refine XS.iconst X8.here hx rfl (hb hby at_32) ?_
    show Steps p.tables e below (T8.setTop (mkF m 33 #[iv p0, iv p1, iv 5, rv as_GREATER_EQUAL, rv as_LESS_EQUAL, rv as_LESS_EQUAL, .unset] [(.int 3), (.int (p1 &&& (2147483647 : Int32)))])) _
    refine iremM X8 hx rfl (hb hby at_33) rfl (by decide) ?_
    show Steps p.tables e below (T8.setTop (mkF m 34 #[iv p0, iv p1, iv 5, rv as_GREATER_EQUAL, rv as_LESS_EQUAL, rv as_LESS_EQUAL, .unset] [(.int ((p1 &&& (2147483647 : Int32)) % (3 : Int32)))])) _
    exact k
  refine own_lift sg9 ?_
  show own_Go p.tables e below (T8.setTop (mkF m 34 #[iv p0, iv p1, iv 5, rv as_GREATER_EQUAL, rv as_LESS_EQUAL, rv as_LESS_EQUAL, .unset] [(.int ((p1 &&& (2147483647 : Int32)) % (3 : Int32)))])) _
  rw [hs]
  show own_Go p.tables e below (T8.setTop (mkF m 34 #[iv p0, iv p1, iv 5, rv as_GREATER_EQUAL, rv as_LESS_EQUAL, rv as_LESS_EQUAL, .unset] [(.int 1)])) _
  have sg10 : ∀ t, Steps p.tables e below (T8.setTop (mkF m 50 #[iv p0, iv p1, iv 5, rv as_GREATER_EQUAL, rv as_LESS_EQUAL, rv as_LESS_EQUAL, iv 0] [(.int 0), (.ref as_LESS_EQUAL)])) t → Steps p.tables e below (T8.setTop (mkF m 34 #[iv p0, iv p1, iv 5, rv as_GREATER_EQUAL, rv as_LESS_EQUAL, rv as_LESS_EQUAL, .unset] [(.int 1)])) t := by
    intro t k
    refine XS.iconst X8.here hx rfl (hb hby at_34) ?_
    show Steps p.tables e below (T8.setTop (mkF m 35 #[iv p0, iv p1, iv 5, rv as_GREATER_EQUAL, rv as_LESS_EQUAL, rv as_LESS_EQUAL, .unset] [(.int 1), (.int 1)])) _
    refine XS.isub X8.here hx rfl (hb hby at_35) rfl ?_
    show Steps p.tables e below (T8.setTop (mkF m 36 #[iv p0, iv p1, iv 5, rv as_GREATER_EQUAL, rv as_LESS_EQUAL, rv as_LESS_EQUAL, .unset] [(.int 0)])) _
    refine XS.istore X8.here hx rfl (hb hby at_36) rfl (l' := #[iv p0, iv p1, iv 5, rv as_GREATER_EQUAL, rv as_LESS_EQUAL, rv as_LESS_EQUAL, iv 0]) rfl ?_
    show Steps p.tables e below (T8.setTop (mkF m 38 #[iv p0, iv p1, iv 5, rv as_GREATER_EQUAL, rv as_LESS_EQUAL, rv as_LESS_EQUAL, iv 0] [])) _
    refine XS.aload X8.here hx rfl (hb hby at_38) rfl rfl ?_
    show Steps p.tables e below (T8.setTop (mkF m 40 #[iv p0, iv p1, iv 5, rv as_GREATER_EQUAL, rv as_LESS_EQUAL, rv as_LESS_EQUAL, iv 0] [(.ref as_LESS_EQUAL)])) _
    refine XS.aload X8.here hx rfl (hb hby at_40) rfl rfl ?_
    show Steps p.tables e below (T8.setTop (mkF m 42 #[iv p0, iv p1, iv 5, rv as_GREATER_EQUAL, rv as_LESS_EQUAL, rv as_LESS_EQUAL, iv 0] [(.ref as_LESS_EQUAL), (.ref as_LESS_EQUAL)])) _
    refine Jvm.RoadKit.acmp (g := (mkF m 42 #[iv p0, iv p1, iv 5, rv as_GREATER_EQUAL, rv as_LESS_EQUAL, rv as_LESS_EQUAL, iv 0] [(.ref as_LESS_EQUAL), (.ref as_LESS_EQUAL)])) X8 hx rfl rfl rfl (pc0 := 42) (pc' := 45) (same := true) rfl (hb hby at_42) rfl (decide_eq_true rfl) (by decide) (by decide) ?_
    show Steps p.tables e below (T8.setTop (mkF m 45 #[iv p0, iv p1, iv 5, rv as_GREATER_EQUAL, rv as_LESS_EQUAL, rv as_LESS_EQUAL, iv 0] [])) _
    refine XS.aload X8.here hx rfl (hb hby at_45) rfl rfl ?_
    show Steps p.tables e below (T8.setTop (mkF m 47 #[iv p0, iv p1, iv 5, rv as_GREATER_EQUAL, rv as_LESS_EQUAL, rv as_LESS_EQUAL, iv 0] [(.ref as_LESS_EQUAL)])) _
    refine XS.iload X8.here hx rfl (hb hby at_47) rfl ?_
    show Steps p.tables e below (T8.setTop (mkF m 49 #[iv p0, iv p1, iv 5, rv as_GREATER_EQUAL, rv as_LESS_EQUAL, rv as_LESS_EQUAL, iv 0] [(.int 0), (.ref as_LESS_EQUAL)])) _
    refine XS.ineg X8.here hx rfl (hb hby at_49) rfl ?_
    show Steps p.tables e below (T8.setTop (mkF m 50 #[iv p0, iv p1, iv 5, rv as_GREATER_EQUAL, rv as_LESS_EQUAL, rv as_LESS_EQUAL, iv 0] [(.int 0), (.ref as_LESS_EQUAL)])) _
    exact k
  refine own_lift sg10 ?_
  show own_Go p.tables e below (T8.setTop (mkF m 50 #[iv p0, iv p1, iv 5, rv as_GREATER_EQUAL, rv as_LESS_EQUAL, rv as_LESS_EQUAL, iv 0] [(.int 0), (.ref as_LESS_EQUAL)])) _
  obtain ⟨cq11, kq11, q11a, q11b, q11c⟩ := isOf hZ e8 E_LESS_EQUAL
  obtain ⟨_, _, ⟨T11, Lx11, kx11, nx11⟩, -, X11, ⟨Lc11, hQ11, lx11, yx11, zx11⟩, st11⟩ := X8.virtualBack hx (y := (⟨"com/example/ophion/ophion/runtime/CompareOp", "holds", "(I)Z"⟩ : MethodName)) (z := (⟨"com/example/ophion/ophion/runtime/CompareOp", "holds", "(I)Z"⟩ : MethodName)) hown (mvT hZ (wd hw 28 rfl)) (mvT hZ (wd hw 29 rfl)) (notFace_of_selects (args := #[]) (mvT hZ (wd hw 31 rfl))) (mvT hZ (wd hw 31 rfl)) (mvT hZ (wd hw 30 rfl)) (by decide) (backOf (W := 0) (rmHolds1f l Z a0 hw [] as_LESS_EQUAL (0 : Int32) h0 n0 Z0 O_LESS_EQUAL E_LESS_EQUAL (by decide : ¬ ((0 : Int32) < (0 : Int32)))) hZ (wd hw 32 rfl) (wd hw 6 rfl) (by decide) (by decide)) q11a q11c (g := (mkF m 50 #[iv p0, iv p1, iv 5, rv as_GREATER_EQUAL, rv as_LESS_EQUAL, rv as_LESS_EQUAL, iv 0] [(.int 0), (.ref as_LESS_EQUAL)])) rfl (by rw [hml]; rfl) (Steps.refl _) (argsL := [(.int 0)]) (rest := []) (lenOf pd_4 rfl) rfl (by show 2 * 0 + _ ≤ _; exact Nat.le_of_eq rfl) (hb hby at_50) (fun _ _ => ⟨rfl, e8, (by decide : 0 + 0 ≤ _), (by decide : 0 + 0 ≤ _)⟩)
  dsimp only [Pt.U, Pt.locs, Pt.cells, Pt.slots] at X11 lx11 yx11 zx11 st11 hQ11
  subst lx11 yx11 zx11
  obtain ⟨rfl, N11q, e11⟩ := hQ11
  have N11 := Fr.app N8 N11q
  refine own_lift (fun t k => st11.trans k) ?_
  show own_Go p.tables e below (T11.setTop (mkF m 53 #[iv p0, iv p1, iv 5, rv as_GREATER_EQUAL, rv as_LESS_EQUAL, rv as_LESS_EQUAL, iv 0] [(.int 1)])) _
  have sg12 : ∀ t, Steps p.tables e below (T11.setTop (mkF m 56 #[iv p0, iv p1, iv 5, rv as_GREATER_EQUAL, rv as_LESS_EQUAL, rv as_LESS_EQUAL, iv 0] [(.int 0), (.ref as_GREATER_EQUAL), (.int 1)])) t → Steps p.tables e below (T11.setTop (mkF m 53 #[iv p0, iv p1, iv 5, rv as_GREATER_EQUAL, rv as_LESS_EQUAL, rv as_LESS_EQUAL, iv 0] [(.int 1)])) t := by
    intro t k
    refine XS.aloadN X11.here hx rfl (hb hby at_53) rfl rfl ?_
    show Steps p.tables e below (T11.setTop (mkF m 54 #[iv p0, iv p1, iv 5, rv as_GREATER_EQUAL, rv as_LESS_EQUAL, rv as_LESS_EQUAL, iv 0] [(.ref as_GREATER_EQUAL), (.int 1)])) _
    refine XS.iload X11.here hx rfl (hb hby at_54) rfl ?_
    show Steps p.tables e below (T11.setTop (mkF m 56 #[iv p0, iv p1, iv 5, rv as_GREATER_EQUAL, rv as_LESS_EQUAL, rv as_LESS_EQUAL, iv 0] [(.int 0), (.ref as_GREATER_EQUAL), (.int 1)])) _
    exact k
  refine own_lift sg12 ?_
  show own_Go p.tables e below (T11.setTop (mkF m 56 #[iv p0, iv p1, iv 5, rv as_GREATER_EQUAL, rv as_LESS_EQUAL, rv as_LESS_EQUAL, iv 0] [(.int 0), (.ref as_GREATER_EQUAL), (.int 1)])) _
  obtain ⟨cq13, kq13, q13a, q13b, q13c⟩ := isOf hZ e11 E_GREATER_EQUAL
  obtain ⟨_, _, ⟨T13, Lx13, kx13, nx13⟩, -, X13, ⟨Lc13, hQ13, lx13, yx13, zx13⟩, st13⟩ := X11.virtualBack hx (y := (⟨"com/example/ophion/ophion/runtime/CompareOp", "holds", "(I)Z"⟩ : MethodName)) (z := (⟨"com/example/ophion/ophion/runtime/CompareOp", "holds", "(I)Z"⟩ : MethodName)) hown (mvT hZ (wd hw 28 rfl)) (mvT hZ (wd hw 29 rfl)) (notFace_of_selects (args := #[]) (mvT hZ (wd hw 31 rfl))) (mvT hZ (wd hw 31 rfl)) (mvT hZ (wd hw 30 rfl)) (by decide) (backOf (W := 1) (rmHolds5f l Z a0 hw [] as_GREATER_EQUAL (0 : Int32) h0 n0 Z0 O_GREATER_EQUAL E_GREATER_EQUAL (by decide : ¬ ((0 : Int32) < (0 : Int32)))) hZ (wd hw 32 rfl) (wd hw 6 rfl) (by decide) (by decide)) q13a q13c (g := (mkF m 56 #[iv p0, iv p1, iv 5, rv as_GREATER_EQUAL, rv as_LESS_EQUAL, rv as_LESS_EQUAL, iv 0] [(.int 0), (.ref as_GREATER_EQUAL), (.int 1)])) rfl (by rw [hml]; rfl) (Steps.refl _) (argsL := [(.int 0)]) (rest := [(.int 1)]) (lenOf pd_4 rfl) rfl (by show 2 * 0 + _ ≤ _; exact Nat.le_of_eq rfl) (hb hby at_56) (fun _ _ => ⟨rfl, e11, (by decide : 0 + 0 ≤ _), (by decide : 0 + 0 ≤ _)⟩)
  dsimp only [Pt.U, Pt.locs, Pt.cells, Pt.slots] at X13 lx13 yx13 zx13 st13 hQ13
  subst lx13 yx13 zx13
  obtain ⟨rfl, N13q, e13⟩ := hQ13
  have N13 := Fr.app N11 N13q
  refine own_lift (fun t k => st13.trans k) ?_
  show own_Go p.tables e below (T13.setTop (mkF m 59 #[iv p0, iv p1, iv 5, rv as_GREATER_EQUAL, rv as_LESS_EQUAL, rv as_LESS_EQUAL, iv 0] [(.int 1), (.int 1)])) _
  have sg14 : ∀ t, Steps p.tables e below (T13.setTop (mkF m 67 #[iv p0, iv p1, iv 5, rv as_GREATER_EQUAL, rv as_LESS_EQUAL, rv as_LESS_EQUAL, iv 0] [(.int 1)])) t → Steps p.tables e below (T13.setTop (mkF m 59 #[iv p0, iv p1, iv 5, rv as_GREATER_EQUAL, rv as_LESS_EQUAL, rv as_LESS_EQUAL, iv 0] [(.int 1), (.int 1)])) t := by
    intro t k
    refine XS.icmpNo X13.here hx rfl (hb hby at_59) rfl (teq (by decide : (1 : Int32) = (1 : Int32))).2 ?_
    show Steps p.tables e below (T13.setTop (mkF m 62 #[iv p0, iv p1, iv 5, rv as_GREATER_EQUAL, rv as_LESS_EQUAL, rv as_LESS_EQUAL, iv 0] [])) _
    refine XS.iconst X13.here hx rfl (hb hby at_62) ?_
    show Steps p.tables e below (T13.setTop (mkF m 63 #[iv p0, iv p1, iv 5, rv as_GREATER_EQUAL, rv as_LESS_EQUAL, rv as_LESS_EQUAL, iv 0] [(.int 1)])) _
    refine XS.goto X13.here hx rfl (pc0 := 63) (pc' := 67) rfl (hb hby at_63) (by decide) (by decide) ?_
    show Steps p.tables e below (T13.setTop (mkF m 67 #[iv p0, iv p1, iv 5, rv as_GREATER_EQUAL, rv as_LESS_EQUAL, rv as_LESS_EQUAL, iv 0] [(.int 1)])) _
    exact k
  refine own_lift sg14 ?_
  show own_Go p.tables e below (T13.setTop (mkF m 67 #[iv p0, iv p1, iv 5, rv as_GREATER_EQUAL, rv as_LESS_EQUAL, rv as_LESS_EQUAL, iv 0] [(.int 1)])) _
  obtain ⟨fs, hr, hrun, hended, hW, hsame⟩ := X13.leave (v := some (.int 1)) (fun h => by rw [Bd.returns] at h; cases h)
  refine ⟨_, _, ?_, hrun, hended, _, _, rfl, ?_, ⟨_, rfl⟩, hW, hsame.mono (by decide) (by decide)⟩
  · exact retN X13 hx (t := .boolean) Bd.returns (by simp) (hb hby at_67) hr
  · show Q0 Z  h0 n0 _ T13.heap _
    rw [e13]
    exact ⟨rfl, N13⟩
theorem ef_rm0_52 (m : MethodId) (x0 : Int32) (x1 : Int32) : entryFrame m #[(.int x0), (.int x1)] maxLocals = mkF m 0 #[.val (.int x0), .val (.int x1), .unset, .unset, .unset, .unset, .unset] [] := by first | (simp [entryFrame, mkF, argsToLocals, Value.category, maxLocals]; done) | rfl
set_option maxRecDepth 65536 in
set_option maxHeartbeats 40000000 in
theorem rm0_52 (l : Launch) (Z : State) (a0 : Array Value) (hw : ∀ d ∈ tables_1, d.before a0 Z = true) (ws : List Jvm.Cond) (p0 : Int32) (p1 : Int32) (as_LESS : Addr) (as_GREATER : Addr) (as_EQUAL : Addr) (as_LESS_EQUAL : Addr) (as_GREATER_EQUAL : Addr) (as_NOT_EQUAL : Addr) (h0 : Heap) (n0 : Nat) (Z0 : n0 ≤ h0.size) (S_LESS : Sta Z h0 "com/example/ophion/ophion/runtime/CompareOp" "LESS" "Lcom/example/ophion/ophion/runtime/CompareOp;" (.ref as_LESS)) (E_LESS : Exa Z h0 as_LESS "com/example/ophion/ophion/runtime/CompareOp") (O_LESS : Fld Z h0 as_LESS "java/lang/Enum" "ordinal" "I" (.int 0)) (S_GREATER : Sta Z h0 "com/example/ophion/ophion/runtime/CompareOp" "GREATER" "Lcom/example/ophion/ophion/runtime/CompareOp;" (.ref as_GREATER)) (E_GREATER : Exa Z h0 as_GREATER "com/example/ophion/ophion/runtime/CompareOp") (O_GREATER : Fld Z h0 as_GREATER "java/lang/Enum" "ordinal" "I" (.int 4)) (S_EQUAL : Sta Z h0 "com/example/ophion/ophion/runtime/CompareOp" "EQUAL" "Lcom/example/ophion/ophion/runtime/CompareOp;" (.ref as_EQUAL)) (E_EQUAL : Exa Z h0 as_EQUAL "com/example/ophion/ophion/runtime/CompareOp") (O_EQUAL : Fld Z h0 as_EQUAL "java/lang/Enum" "ordinal" "I" (.int 2)) (S_LESS_EQUAL : Sta Z h0 "com/example/ophion/ophion/runtime/CompareOp" "LESS_EQUAL" "Lcom/example/ophion/ophion/runtime/CompareOp;" (.ref as_LESS_EQUAL)) (E_LESS_EQUAL : Exa Z h0 as_LESS_EQUAL "com/example/ophion/ophion/runtime/CompareOp") (O_LESS_EQUAL : Fld Z h0 as_LESS_EQUAL "java/lang/Enum" "ordinal" "I" (.int 1)) (S_GREATER_EQUAL : Sta Z h0 "com/example/ophion/ophion/runtime/CompareOp" "GREATER_EQUAL" "Lcom/example/ophion/ophion/runtime/CompareOp;" (.ref as_GREATER_EQUAL)) (E_GREATER_EQUAL : Exa Z h0 as_GREATER_EQUAL "com/example/ophion/ophion/runtime/CompareOp") (O_GREATER_EQUAL : Fld Z h0 as_GREATER_EQUAL "java/lang/Enum" "ordinal" "I" (.int 5)) (S_NOT_EQUAL : Sta Z h0 "com/example/ophion/ophion/runtime/CompareOp" "NOT_EQUAL" "Lcom/example/ophion/ophion/runtime/CompareOp;" (.ref as_NOT_EQUAL)) (E_NOT_EQUAL : Exa Z h0 as_NOT_EQUAL "com/example/ophion/ophion/runtime/CompareOp") (O_NOT_EQUAL : Fld Z h0 as_NOT_EQUAL "java/lang/Enum" "ordinal" "I" (.int 3)) (hk : ((p0 &&& (2147483647 : Int32)) % (6 : Int32)) = (5 : Int32)) (hs : ((p1 &&& (2147483647 : Int32)) % (3 : Int32)) = (2 : Int32)) :
    MetFree l x (head1 (Jvm.Cond.code x code maxLocals ret :: ws) room_1) (fun a U => a = #[(.int p0), (.int p1)] ∧ Z.Warmed39 U.vm ∧ U.heap = h0) (fun _ _ _ _ _ => True) (fun _ U o U' => ∃ v L, o = .returned v ∧ Q0 Z  h0 n0 v U'.heap L ∧ FrameEnd U o U' L 0 0) := by
  refine MetFree.of_bodySF (plainFor_of_name pn_2) hisR ?_
  intro p e s m args below meth c s₁ Bd hml0 hP hK
  obtain ⟨rfl, hZ, hh⟩ := hP
  have hx := Bd.exec
  have hby := Bd.bytes
  have hml : c.maxLocals = 7 := hml0
  have hown : s.vm.findClass "com/example/ophion/ophion/runtime/CompareOpSwappedPinLaw" = some m.cls := findClass_of_methodNamed Bd.named
  have hnm := (name_of_methodNamed Bd.named Bd.method).1
  have X0 : Stand p l e room_1 s m #[(.int p0), (.int p1)] below meth c s₁ [] 0 0 := Stand.of_body Bd
  have e0 : s₁.heap = h0 := by rw [← hh, Bd.state]; rfl
  have N0 := Fr.nil n0
  refine own_go (own_lift (fun t k => castTop (ef_rm0_52 m p0 p1) k) ?_)
  show own_Go p.tables e below (s₁.setTop (mkF m 0 #[iv p0, iv p1, .unset, .unset, .unset, .unset, .unset] [])) _
  have sg1 : ∀ t, Steps p.tables e below (s₁.setTop (mkF m 7 #[iv p0, iv p1, .unset, .unset, .unset, .unset, .unset] [(.int ((p0 &&& (2147483647 : Int32)) % (6 : Int32)))])) t → Steps p.tables e below (s₁.setTop (mkF m 0 #[iv p0, iv p1, .unset, .unset, .unset, .unset, .unset] [])) t := by
    intro t k
    refine XS.iloadN X0.here hx rfl (hb hby at_0) rfl ?_
    show Steps p.tables e below (s₁.setTop (mkF m 1 #[iv p0, iv p1, .unset, .unset, .unset, .unset, .unset] [(.int p0)])) _
    refine X0.ldcInt hx hown (mvT hZ (wd hw 0 rfl)) (g := (mkF m 1 #[iv p0, iv p1, .unset, .unset, .unset, .unset, .unset] [(.int p0)])) rfl (hb hby at_1) _ ?_
    show Steps p.tables e below (s₁.setTop (mkF m 3 #[iv p0, iv p1, .unset, .unset, .unset, .unset, .unset] [(.int 2147483647), (.int p0)])) _
    refine XS.iand X0.here hx rfl (hb hby at_3) rfl ?_
    show Steps p.tables e below (s₁.setTop (mkF m 4 #[iv p0, iv p1, .unset, .unset, .unset, .unset, .unset] [(.int (p0 &&& (2147483647 : Int32)))])) _
    refine XS.bipush X0.here hx rfl (hb hby at_4) ?_
    show Steps p.tables e below (s₁.setTop (mkF m 6 #[iv p0, iv p1, .unset, .unset, .unset, .unset, .unset] [(.int 6), (.int (p0 &&& (2147483647 : Int32)))])) _
    refine iremM X0 hx rfl (hb hby at_6) rfl (by decide) ?_
    show Steps p.tables e below (s₁.setTop (mkF m 7 #[iv p0, iv p1, .unset, .unset, .unset, .unset, .unset] [(.int ((p0 &&& (2147483647 : Int32)) % (6 : Int32)))])) _
    exact k
  refine own_lift sg1 ?_
  show own_Go p.tables e below (s₁.setTop (mkF m 7 #[iv p0, iv p1, .unset, .unset, .unset, .unset, .unset] [(.int ((p0 &&& (2147483647 : Int32)) % (6 : Int32)))])) _
  rw [hk]
  show own_Go p.tables e below (s₁.setTop (mkF m 7 #[iv p0, iv p1, .unset, .unset, .unset, .unset, .unset] [(.int 5)])) _
  have sg2 : ∀ t, Steps p.tables e below (s₁.setTop (mkF m 9 #[iv p0, iv p1, iv 5, .unset, .unset, .unset, .unset] [(.int 5)])) t → Steps p.tables e below (s₁.setTop (mkF m 7 #[iv p0, iv p1, .unset, .unset, .unset, .unset, .unset] [(.int 5)])) t := by
    intro t k
    refine XS.istoreN X0.here hx rfl (hb hby at_7) rfl (l' := #[iv p0, iv p1, iv 5, .unset, .unset, .unset, .unset]) rfl ?_
    show Steps p.tables e below (s₁.setTop (mkF m 8 #[iv p0, iv p1, iv 5, .unset, .unset, .unset, .unset] [])) _
    refine XS.iloadN X0.here hx rfl (hb hby at_8) rfl ?_
    show Steps p.tables e below (s₁.setTop (mkF m 9 #[iv p0, iv p1, iv 5, .unset, .unset, .unset, .unset] [(.int 5)])) _
    exact k
  refine own_lift sg2 ?_
  show own_Go p.tables e below (s₁.setTop (mkF m 9 #[iv p0, iv p1, iv 5, .unset, .unset, .unset, .unset] [(.int 5)])) _
  obtain ⟨_, _, ⟨T3, Lx3, kx3, nx3⟩, -, X3, ⟨Lc3, hQ3, lx3, yx3, zx3⟩, st3⟩ := Jvm.LawKit.callS X0 hx (y := (⟨"com/example/ophion/ophion/runtime/CompareOpSwappedPinLaw", "pick", "(I)Lcom/example/ophion/ophion/runtime/CompareOp;"⟩ : MethodName)) hown (mvT hZ (wd hw 1 rfl)) (mvT hZ (wd hw 2 rfl)) (mvT hZ (wd hw 3 rfl)) (mvT hZ (wd hw 4 rfl)) (by decide) (backOf (W := 0) (rmPick5 l Z a0 hw [] (5 : Int32) as_GREATER_EQUAL h0 n0 Z0 S_GREATER_EQUAL (by decide : ¬ ((5 : Int32) = (0 : Int32))) (by decide : ¬ ((5 : Int32) = (1 : Int32))) (by decide : ¬ ((5 : Int32) = (2 : Int32))) (by decide : ¬ ((5 : Int32) = (3 : Int32))) (by decide : ¬ ((5 : Int32) = (4 : Int32)))) hZ (wd hw 4 rfl) (wd hw 3 rfl) (by decide) (by decide)) (g := (mkF m 9 #[iv p0, iv p1, iv 5, .unset, .unset, .unset, .unset] [(.int 5)])) rfl (by rw [hml]; rfl) (argsL := [(.int 5)]) (rest := []) (lenOf pd_1 rfl) rfl (by show 2 * 0 + _ ≤ _; exact Nat.le_of_eq rfl) (hb hby at_9) (fun _ _ => ⟨rfl, e0, (by decide : 0 + 0 ≤ _), (by decide : 0 + 0 ≤ _)⟩)
  dsimp only [Pt.U, Pt.locs, Pt.cells, Pt.slots] at X3 lx3 yx3 zx3 st3 hQ3
  subst lx3 yx3 zx3
  obtain ⟨rfl, N3q, e3⟩ := hQ3
  have N3 := Fr.app N0 N3q
  refine own_lift st3 ?_
  show own_Go p.tables e below (T3.setTop (mkF m 12 #[iv p0, iv p1, iv 5, .unset, .unset, .unset, .unset] [(.ref as_GREATER_EQUAL)])) _
  have sg4 : ∀ t, Steps p.tables e below (T3.setTop (mkF m 14 #[iv p0, iv p1, iv 5, rv as_GREATER_EQUAL, .unset, .unset, .unset] [(.int 5)])) t → Steps p.tables e below (T3.setTop (mkF m 12 #[iv p0, iv p1, iv 5, .unset, .unset, .unset, .unset] [(.ref as_GREATER_EQUAL)])) t := by
    intro t k
    refine XS.astoreN X3.here hx rfl (hb hby at_12) rfl rfl (l' := #[iv p0, iv p1, iv 5, rv as_GREATER_EQUAL, .unset, .unset, .unset]) rfl ?_
    show Steps p.tables e below (T3.setTop (mkF m 13 #[iv p0, iv p1, iv 5, rv as_GREATER_EQUAL, .unset, .unset, .unset] [])) _
    refine XS.iloadN X3.here hx rfl (hb hby at_13) rfl ?_
    show Steps p.tables e below (T3.setTop (mkF m 14 #[iv p0, iv p1, iv 5, rv as_GREATER_EQUAL, .unset, .unset, .unset] [(.int 5)])) _
    exact k
  refine own_lift sg4 ?_
  show own_Go p.tables e below (T3.setTop (mkF m 14 #[iv p0, iv p1, iv 5, rv as_GREATER_EQUAL, .unset, .unset, .unset] [(.int 5)])) _
  obtain ⟨_, _, ⟨T5, Lx5, kx5, nx5⟩, -, X5, ⟨Lc5, hQ5, lx5, yx5, zx5⟩, st5⟩ := Jvm.LawKit.callS X3 hx (y := (⟨"com/example/ophion/ophion/runtime/CompareOpSwappedPinLaw", "mirror", "(I)I"⟩ : MethodName)) hown (mvT hZ (wd hw 8 rfl)) (mvT hZ (wd hw 9 rfl)) (mvT hZ (wd hw 3 rfl)) (mvT hZ (wd hw 10 rfl)) (by decide) (backOf (W := 0) (rmMir5 l Z a0 hw [] (5 : Int32) h0 n0 Z0 (by decide : ¬ ((5 : Int32) = (0 : Int32))) (by decide : ¬ ((5 : Int32) = (1 : Int32))) (by decide : ¬ ((5 : Int32) = (4 : Int32))) (by decide : (5 : Int32) = (5 : Int32))) hZ (wd hw 10 rfl) (wd hw 3 rfl) (by decide) (by decide)) (g := (mkF m 14 #[iv p0, iv p1, iv 5, rv as_GREATER_EQUAL, .unset, .unset, .unset] [(.int 5)])) rfl (by rw [hml]; rfl) (argsL := [(.int 5)]) (rest := []) (lenOf pd_2 rfl) rfl (by show 2 * 0 + _ ≤ _; exact Nat.le_of_eq rfl) (hb hby at_14) (fun _ _ => ⟨rfl, e3, (by decide : 0 + 0 ≤ _), (by decide : 0 + 0 ≤ _)⟩)
  dsimp only [Pt.U, Pt.locs, Pt.cells, Pt.slots] at X5 lx5 yx5 zx5 st5 hQ5
  subst lx5 yx5 zx5
  obtain ⟨rfl, N5q, e5⟩ := hQ5
  have N5 := Fr.app N3 N5q
  refine own_lift st5 ?_
  show own_Go p.tables e below (T5.setTop (mkF m 17 #[iv p0, iv p1, iv 5, rv as_GREATER_EQUAL, .unset, .unset, .unset] [(.int 1)])) _
  obtain ⟨_, _, ⟨T6, Lx6, kx6, nx6⟩, -, X6, ⟨Lc6, hQ6, lx6, yx6, zx6⟩, st6⟩ := Jvm.LawKit.callS X5 hx (y := (⟨"com/example/ophion/ophion/runtime/CompareOpSwappedPinLaw", "pick", "(I)Lcom/example/ophion/ophion/runtime/CompareOp;"⟩ : MethodName)) hown (mvT hZ (wd hw 1 rfl)) (mvT hZ (wd hw 2 rfl)) (mvT hZ (wd hw 3 rfl)) (mvT hZ (wd hw 4 rfl)) (by decide) (backOf (W := 0) (rmPick1 l Z a0 hw [] (1 : Int32) as_LESS_EQUAL h0 n0 Z0 S_LESS_EQUAL (by decide : ¬ ((1 : Int32) = (0 : Int32))) (by decide : (1 : Int32) = (1 : Int32))) hZ (wd hw 4 rfl) (wd hw 3 rfl) (by decide) (by decide)) (g := (mkF m 17 #[iv p0, iv p1, iv 5, rv as_GREATER_EQUAL, .unset, .unset, .unset] [(.int 1)])) rfl (by rw [hml]; rfl) (argsL := [(.int 1)]) (rest := []) (lenOf pd_1 rfl) rfl (by show 2 * 0 + _ ≤ _; exact Nat.le_of_eq rfl) (hb hby at_17) (fun _ _ => ⟨rfl, e5, (by decide : 0 + 0 ≤ _), (by decide : 0 + 0 ≤ _)⟩)
  dsimp only [Pt.U, Pt.locs, Pt.cells, Pt.slots] at X6 lx6 yx6 zx6 st6 hQ6
  subst lx6 yx6 zx6
  obtain ⟨rfl, N6q, e6⟩ := hQ6
  have N6 := Fr.app N5 N6q
  refine own_lift st6 ?_
  show own_Go p.tables e below (T6.setTop (mkF m 20 #[iv p0, iv p1, iv 5, rv as_GREATER_EQUAL, .unset, .unset, .unset] [(.ref as_LESS_EQUAL)])) _
  have sg7 : ∀ t, Steps p.tables e below (T6.setTop (mkF m 23 #[iv p0, iv p1, iv 5, rv as_GREATER_EQUAL, rv as_LESS_EQUAL, .unset, .unset] [(.ref as_GREATER_EQUAL)])) t → Steps p.tables e below (T6.setTop (mkF m 20 #[iv p0, iv p1, iv 5, rv as_GREATER_EQUAL, .unset, .unset, .unset] [(.ref as_LESS_EQUAL)])) t := by
    intro t k
    refine XS.astore X6.here hx rfl (hb hby at_20) rfl rfl (l' := #[iv p0, iv p1, iv 5, rv as_GREATER_EQUAL, rv as_LESS_EQUAL, .unset, .unset]) rfl ?_
    show Steps p.tables e below (T6.setTop (mkF m 22 #[iv p0, iv p1, iv 5, rv as_GREATER_EQUAL, rv as_LESS_EQUAL, .unset, .unset] [])) _
    refine XS.aloadN X6.here hx rfl (hb hby at_22) rfl rfl ?_
    show Steps p.tables e below (T6.setTop (mkF m 23 #[iv p0, iv p1, iv 5, rv as_GREATER_EQUAL, rv as_LESS_EQUAL, .unset, .unset] [(.ref as_GREATER_EQUAL)])) _
    exact k
  refine own_lift sg7 ?_
  show own_Go p.tables e below (T6.setTop (mkF m 23 #[iv p0, iv p1, iv 5, rv as_GREATER_EQUAL, rv as_LESS_EQUAL, .unset, .unset] [(.ref as_GREATER_EQUAL)])) _
  obtain ⟨cq8, kq8, q8a, q8b, q8c⟩ := isOf hZ e6 E_GREATER_EQUAL
  obtain ⟨_, _, ⟨T8, Lx8, kx8, nx8⟩, -, X8, ⟨Lc8, hQ8, lx8, yx8, zx8⟩, st8⟩ := X6.virtualBack hx (y := (⟨"com/example/ophion/ophion/runtime/CompareOp", "swapped", "()Lcom/example/ophion/ophion/runtime/CompareOp;"⟩ : MethodName)) (z := (⟨"com/example/ophion/ophion/runtime/CompareOp", "swapped", "()Lcom/example/ophion/ophion/runtime/CompareOp;"⟩ : MethodName)) hown (mvT hZ (wd hw 13 rfl)) (mvT hZ (wd hw 14 rfl)) (notFace_of_selects (args := #[]) (mvT hZ (wd hw 16 rfl))) (mvT hZ (wd hw 16 rfl)) (mvT hZ (wd hw 15 rfl)) (by decide) (backOf (W := 0) (rmSw5 l Z a0 hw [] as_GREATER_EQUAL as_LESS_EQUAL h0 n0 Z0 O_GREATER_EQUAL E_GREATER_EQUAL S_LESS_EQUAL) hZ (wd hw 17 rfl) (wd hw 6 rfl) (by decide) (by decide)) q8a q8c (g := (mkF m 23 #[iv p0, iv p1, iv 5, rv as_GREATER_EQUAL, rv as_LESS_EQUAL, .unset, .unset] [(.ref as_GREATER_EQUAL)])) rfl (by rw [hml]; rfl) (Steps.refl _) (argsL := []) (rest := []) (lenOf pd_3 rfl) rfl (by show 2 * 0 + _ ≤ _; exact Nat.le_of_eq rfl) (hb hby at_23) (fun _ _ => ⟨rfl, e6, (by decide : 0 + 0 ≤ _), (by decide : 0 + 0 ≤ _)⟩)
  dsimp only [Pt.U, Pt.locs, Pt.cells, Pt.slots] at X8 lx8 yx8 zx8 st8 hQ8
  subst lx8 yx8 zx8
  obtain ⟨rfl, N8q, e8⟩ := hQ8
  have N8 := Fr.app N6 N8q
  refine own_lift (fun t k => st8.trans k) ?_
  show own_Go p.tables e below (T8.setTop (mkF m 26 #[iv p0, iv p1, iv 5, rv as_GREATER_EQUAL, rv as_LESS_EQUAL, .unset, .unset] [(.ref as_LESS_EQUAL)])) _
  have sg9 : ∀ t, Steps p.tables e below (T8.setTop (mkF m 34 #[iv p0, iv p1, iv 5, rv as_GREATER_EQUAL, rv as_LESS_EQUAL, rv as_LESS_EQUAL, .unset] [(.int ((p1 &&& (2147483647 : Int32)) % (3 : Int32)))])) t → Steps p.tables e below (T8.setTop (mkF m 26 #[iv p0, iv p1, iv 5, rv as_GREATER_EQUAL, rv as_LESS_EQUAL, .unset, .unset] [(.ref as_LESS_EQUAL)])) t := by
    intro t k
    refine XS.astore X8.here hx rfl (hb hby at_26) rfl rfl (l' := #[iv p0, iv p1, iv 5, rv as_GREATER_EQUAL, rv as_LESS_EQUAL, rv as_LESS_EQUAL, .unset]) rfl ?_
    show Steps p.tables e below (T8.setTop (mkF m 28 #[iv p0, iv p1, iv 5, rv as_GREATER_EQUAL, rv as_LESS_EQUAL, rv as_LESS_EQUAL, .unset] [])) _
    refine XS.iloadN X8.here hx rfl (hb hby at_28) rfl ?_
    show Steps p.tables e below (T8.setTop (mkF m 29 #[iv p0, iv p1, iv 5, rv as_GREATER_EQUAL, rv as_LESS_EQUAL, rv as_LESS_EQUAL, .unset] [(.int p1)])) _
    refine X8.ldcInt hx hown (mvT hZ (wd hw 0 rfl)) (g := (mkF m 29 #[iv p0, iv p1, iv 5, rv as_GREATER_EQUAL, rv as_LESS_EQUAL, rv as_LESS_EQUAL, .unset] [(.int p1)])) rfl (hb hby at_29) _ ?_
    show Steps p.tables e below (T8.setTop (mkF m 31 #[iv p0, iv p1, iv 5, rv as_GREATER_EQUAL, rv as_LESS_EQUAL, rv as_LESS_EQUAL, .unset] [(.int 2147483647), (.int p1)])) _
    refine XS.iand X8.here hx rfl (hb hby at_31) rfl ?_
    show Steps p.tables e below (T8.setTop (mkF m 32 #[iv p0, iv p1, iv 5, rv as_GREATER_EQUAL, rv as_LESS_EQUAL, rv as_LESS_EQUAL, .unset] [(.int (p1 &&& (2147483647 : Int32)))])) _
    refine XS.iconst X8.here hx rfl (hb hby at_32) ?_
    show Steps p.tables e below (T8.setTop (mkF m 33 #[iv p0, iv p1, iv 5, rv as_GREATER_EQUAL, rv as_LESS_EQUAL, rv as_LESS_EQUAL, .unset] [(.int 3), (.int (p1 &&& (2147483647 : Int32)))])) _
    refine iremM X8 hx rfl (hb hby at_33) rfl (by decide) ?_
    show Steps p.tables e below (T8.setTop (mkF m 34 #[iv p0, iv p1, iv 5, rv as_GREATER_EQUAL, rv as_LESS_EQUAL, rv as_LESS_EQUAL, .unset] [(.int ((p1 &&& (2147483647 : Int32)) % (3 : Int32)))])) _
    exact k
  refine own_lift sg9 ?_
  show own_Go p.tables e below (T8.setTop (mkF m 34 #[iv p0, iv p1, iv 5, rv as_GREATER_EQUAL, rv as_LESS_EQUAL, rv as_LESS_EQUAL, .unset] [(.int ((p1 &&& (2147483647 : Int32)) % (3 : Int32)))])) _
  rw [hs]
  show own_Go p.tables e below (T8.setTop (mkF m 34 #[iv p0, iv p1, iv 5, rv as_GREATER_EQUAL, rv as_LESS_EQUAL, rv as_LESS_EQUAL, .unset] [(.int 2)])) _
  have sg10 : ∀ t, Steps p.tables e below (T8.setTop (mkF m 50 #[iv p0, iv p1, iv 5, rv as_GREATER_EQUAL, rv as_LESS_EQUAL, rv as_LESS_EQUAL, iv 1] [(.int (-1)), (.ref as_LESS_EQUAL)])) t → Steps p.tables e below (T8.setTop (mkF m 34 #[iv p0, iv p1, iv 5, rv as_GREATER_EQUAL, rv as_LESS_EQUAL, rv as_LESS_EQUAL, .unset] [(.int 2)])) t := by
    intro t k
    refine XS.iconst X8.here hx rfl (hb hby at_34) ?_
    show Steps p.tables e below (T8.setTop (mkF m 35 #[iv p0, iv p1, iv 5, rv as_GREATER_EQUAL, rv as_LESS_EQUAL, rv as_LESS_EQUAL, .unset] [(.int 1), (.int 2)])) _
    refine XS.isub X8.here hx rfl (hb hby at_35) rfl ?_
    show Steps p.tables e below (T8.setTop (mkF m 36 #[iv p0, iv p1, iv 5, rv as_GREATER_EQUAL, rv as_LESS_EQUAL, rv as_LESS_EQUAL, .unset] [(.int 1)])) _
    refine XS.istore X8.here hx rfl (hb hby at_36) rfl (l' := #[iv p0, iv p1, iv 5, rv as_GREATER_EQUAL, rv as_LESS_EQUAL, rv as_LESS_EQUAL, iv 1]) rfl ?_
    show Steps p.tables e below (T8.setTop (mkF m 38 #[iv p0, iv p1, iv 5, rv as_GREATER_EQUAL, rv as_LESS_EQUAL, rv as_LESS_EQUAL, iv 1] [])) _
    refine XS.aload X8.here hx rfl (hb hby at_38) rfl rfl ?_
    show Steps p.tables e below (T8.setTop (mkF m 40 #[iv p0, iv p1, iv 5, rv as_GREATER_EQUAL, rv as_LESS_EQUAL, rv as_LESS_EQUAL, iv 1] [(.ref as_LESS_EQUAL)])) _
    refine XS.aload X8.here hx rfl (hb hby at_40) rfl rfl ?_
    show Steps p.tables e below (T8.setTop (mkF m 42 #[iv p0, iv p1, iv 5, rv as_GREATER_EQUAL, rv as_LESS_EQUAL, rv as_LESS_EQUAL, iv 1] [(.ref as_LESS_EQUAL), (.ref as_LESS_EQUAL)])) _
    refine Jvm.RoadKit.acmp (g := (mkF m 42 #[iv p0, iv p1, iv 5, rv as_GREATER_EQUAL, rv as_LESS_EQUAL, rv as_LESS_EQUAL, iv 1] [(.ref as_LESS_EQUAL), (.ref as_LESS_EQUAL)])) X8 hx rfl rfl rfl (pc0 := 42) (pc' := 45) (same := true) rfl (hb hby at_42) rfl (decide_eq_true rfl) (by decide) (by decide) ?_
    show Steps p.tables e below (T8.setTop (mkF m 45 #[iv p0, iv p1, iv 5, rv as_GREATER_EQUAL, rv as_LESS_EQUAL, rv as_LESS_EQUAL, iv 1] [])) _
    refine XS.aload X8.here hx rfl (hb hby at_45) rfl rfl ?_
    show Steps p.tables e below (T8.setTop (mkF m 47 #[iv p0, iv p1, iv 5, rv as_GREATER_EQUAL, rv as_LESS_EQUAL, rv as_LESS_EQUAL, iv 1] [(.ref as_LESS_EQUAL)])) _
    refine XS.iload X8.here hx rfl (hb hby at_47) rfl ?_
    show Steps p.tables e below (T8.setTop (mkF m 49 #[iv p0, iv p1, iv 5, rv as_GREATER_EQUAL, rv as_LESS_EQUAL, rv as_LESS_EQUAL, iv 1] [(.int 1), (.ref as_LESS_EQUAL)])) _
    refine XS.ineg X8.here hx rfl (hb hby at_49) rfl ?_
    show Steps p.tables e below (T8.setTop (mkF m 50 #[iv p0, iv p1, iv 5, rv as_GREATER_EQUAL, rv as_LESS_EQUAL, rv as_LESS_EQUAL, iv 1] [(.int (-1)), (.ref as_LESS_EQUAL)])) _
    exact k
  refine own_lift sg10 ?_
  show own_Go p.tables e below (T8.setTop (mkF m 50 #[iv p0, iv p1, iv 5, rv as_GREATER_EQUAL, rv as_LESS_EQUAL, rv as_LESS_EQUAL, iv 1] [(.int (-1)), (.ref as_LESS_EQUAL)])) _
  obtain ⟨cq11, kq11, q11a, q11b, q11c⟩ := isOf hZ e8 E_LESS_EQUAL
  obtain ⟨_, _, ⟨T11, Lx11, kx11, nx11⟩, -, X11, ⟨Lc11, hQ11, lx11, yx11, zx11⟩, st11⟩ := X8.virtualBack hx (y := (⟨"com/example/ophion/ophion/runtime/CompareOp", "holds", "(I)Z"⟩ : MethodName)) (z := (⟨"com/example/ophion/ophion/runtime/CompareOp", "holds", "(I)Z"⟩ : MethodName)) hown (mvT hZ (wd hw 28 rfl)) (mvT hZ (wd hw 29 rfl)) (notFace_of_selects (args := #[]) (mvT hZ (wd hw 31 rfl))) (mvT hZ (wd hw 31 rfl)) (mvT hZ (wd hw 30 rfl)) (by decide) (backOf (W := 0) (rmHolds1f l Z a0 hw [] as_LESS_EQUAL (-1 : Int32) h0 n0 Z0 O_LESS_EQUAL E_LESS_EQUAL (by decide : ¬ ((0 : Int32) < (-1 : Int32)))) hZ (wd hw 32 rfl) (wd hw 6 rfl) (by decide) (by decide)) q11a q11c (g := (mkF m 50 #[iv p0, iv p1, iv 5, rv as_GREATER_EQUAL, rv as_LESS_EQUAL, rv as_LESS_EQUAL, iv 1] [(.int (-1)), (.ref as_LESS_EQUAL)])) rfl (by rw [hml]; rfl) (Steps.refl _) (argsL := [(.int (-1))]) (rest := []) (lenOf pd_4 rfl) rfl (by show 2 * 0 + _ ≤ _; exact Nat.le_of_eq rfl) (hb hby at_50) (fun _ _ => ⟨rfl, e8, (by decide : 0 + 0 ≤ _), (by decide : 0 + 0 ≤ _)⟩)
  dsimp only [Pt.U, Pt.locs, Pt.cells, Pt.slots] at X11 lx11 yx11 zx11 st11 hQ11
  subst lx11 yx11 zx11
  obtain ⟨rfl, N11q, e11⟩ := hQ11
  have N11 := Fr.app N8 N11q
  refine own_lift (fun t k => st11.trans k) ?_
  show own_Go p.tables e below (T11.setTop (mkF m 53 #[iv p0, iv p1, iv 5, rv as_GREATER_EQUAL, rv as_LESS_EQUAL, rv as_LESS_EQUAL, iv 1] [(.int 1)])) _
  have sg12 : ∀ t, Steps p.tables e below (T11.setTop (mkF m 56 #[iv p0, iv p1, iv 5, rv as_GREATER_EQUAL, rv as_LESS_EQUAL, rv as_LESS_EQUAL, iv 1] [(.int 1), (.ref as_GREATER_EQUAL), (.int 1)])) t → Steps p.tables e below (T11.setTop (mkF m 53 #[iv p0, iv p1, iv 5, rv as_GREATER_EQUAL, rv as_LESS_EQUAL, rv as_LESS_EQUAL, iv 1] [(.int 1)])) t := by
    intro t k
    refine XS.aloadN X11.here hx rfl (hb hby at_53) rfl rfl ?_
    show Steps p.tables e below (T11.setTop (mkF m 54 #[iv p0, iv p1, iv 5, rv as_GREATER_EQUAL, rv as_LESS_EQUAL, rv as_LESS_EQUAL, iv 1] [(.ref as_GREATER_EQUAL), (.int 1)])) _
    refine XS.iload X11.here hx rfl (hb hby at_54) rfl ?_
    show Steps p.tables e below (T11.setTop (mkF m 56 #[iv p0, iv p1, iv 5, rv as_GREATER_EQUAL, rv as_LESS_EQUAL, rv as_LESS_EQUAL, iv 1] [(.int 1), (.ref as_GREATER_EQUAL), (.int 1)])) _
    exact k
  refine own_lift sg12 ?_
  show own_Go p.tables e below (T11.setTop (mkF m 56 #[iv p0, iv p1, iv 5, rv as_GREATER_EQUAL, rv as_LESS_EQUAL, rv as_LESS_EQUAL, iv 1] [(.int 1), (.ref as_GREATER_EQUAL), (.int 1)])) _
  obtain ⟨cq13, kq13, q13a, q13b, q13c⟩ := isOf hZ e11 E_GREATER_EQUAL
  obtain ⟨_, _, ⟨T13, Lx13, kx13, nx13⟩, -, X13, ⟨Lc13, hQ13, lx13, yx13, zx13⟩, st13⟩ := X11.virtualBack hx (y := (⟨"com/example/ophion/ophion/runtime/CompareOp", "holds", "(I)Z"⟩ : MethodName)) (z := (⟨"com/example/ophion/ophion/runtime/CompareOp", "holds", "(I)Z"⟩ : MethodName)) hown (mvT hZ (wd hw 28 rfl)) (mvT hZ (wd hw 29 rfl)) (notFace_of_selects (args := #[]) (mvT hZ (wd hw 31 rfl))) (mvT hZ (wd hw 31 rfl)) (mvT hZ (wd hw 30 rfl)) (by decide) (backOf (W := 1) (rmHolds5f l Z a0 hw [] as_GREATER_EQUAL (1 : Int32) h0 n0 Z0 O_GREATER_EQUAL E_GREATER_EQUAL (by decide : ¬ ((1 : Int32) < (0 : Int32)))) hZ (wd hw 32 rfl) (wd hw 6 rfl) (by decide) (by decide)) q13a q13c (g := (mkF m 56 #[iv p0, iv p1, iv 5, rv as_GREATER_EQUAL, rv as_LESS_EQUAL, rv as_LESS_EQUAL, iv 1] [(.int 1), (.ref as_GREATER_EQUAL), (.int 1)])) rfl (by rw [hml]; rfl) (Steps.refl _) (argsL := [(.int 1)]) (rest := [(.int 1)]) (lenOf pd_4 rfl) rfl (by show 2 * 0 + _ ≤ _; exact Nat.le_of_eq rfl) (hb hby at_56) (fun _ _ => ⟨rfl, e11, (by decide : 0 + 0 ≤ _), (by decide : 0 + 0 ≤ _)⟩)
  dsimp only [Pt.U, Pt.locs, Pt.cells, Pt.slots] at X13 lx13 yx13 zx13 st13 hQ13
  subst lx13 yx13 zx13
  obtain ⟨rfl, N13q, e13⟩ := hQ13
  have N13 := Fr.app N11 N13q
  refine own_lift (fun t k => st13.trans k) ?_
  show own_Go p.tables e below (T13.setTop (mkF m 59 #[iv p0, iv p1, iv 5, rv as_GREATER_EQUAL, rv as_LESS_EQUAL, rv as_LESS_EQUAL, iv 1] [(.int 1), (.int 1)])) _
  have sg14 : ∀ t, Steps p.tables e below (T13.setTop (mkF m 67 #[iv p0, iv p1, iv 5, rv as_GREATER_EQUAL, rv as_LESS_EQUAL, rv as_LESS_EQUAL, iv 1] [(.int 1)])) t → Steps p.tables e below (T13.setTop (mkF m 59 #[iv p0, iv p1, iv 5, rv as_GREATER_EQUAL, rv as_LESS_EQUAL, rv as_LESS_EQUAL, iv 1] [(.int 1), (.int 1)])) t := by
    intro t k
    refine XS.icmpNo X13.here hx rfl (hb hby at_59) rfl (teq (by decide : (1 : Int32) = (1 : Int32))).2 ?_
    show Steps p.tables e below (T13.setTop (mkF m 62 #[iv p0, iv p1, iv 5, rv as_GREATER_EQUAL, rv as_LESS_EQUAL, rv as_LESS_EQUAL, iv 1] [])) _
    refine XS.iconst X13.here hx rfl (hb hby at_62) ?_
    show Steps p.tables e below (T13.setTop (mkF m 63 #[iv p0, iv p1, iv 5, rv as_GREATER_EQUAL, rv as_LESS_EQUAL, rv as_LESS_EQUAL, iv 1] [(.int 1)])) _
    refine XS.goto X13.here hx rfl (pc0 := 63) (pc' := 67) rfl (hb hby at_63) (by decide) (by decide) ?_
    show Steps p.tables e below (T13.setTop (mkF m 67 #[iv p0, iv p1, iv 5, rv as_GREATER_EQUAL, rv as_LESS_EQUAL, rv as_LESS_EQUAL, iv 1] [(.int 1)])) _
    exact k
  refine own_lift sg14 ?_
  show own_Go p.tables e below (T13.setTop (mkF m 67 #[iv p0, iv p1, iv 5, rv as_GREATER_EQUAL, rv as_LESS_EQUAL, rv as_LESS_EQUAL, iv 1] [(.int 1)])) _
  obtain ⟨fs, hr, hrun, hended, hW, hsame⟩ := X13.leave (v := some (.int 1)) (fun h => by rw [Bd.returns] at h; cases h)
  refine ⟨_, _, ?_, hrun, hended, _, _, rfl, ?_, ⟨_, rfl⟩, hW, hsame.mono (by decide) (by decide)⟩
  · exact retN X13 hx (t := .boolean) Bd.returns (by simp) (hb hby at_67) hr
  · show Q0 Z  h0 n0 _ T13.heap _
    rw [e13]
    exact ⟨rfl, N13⟩
set_option maxRecDepth 65536 in
theorem rm0 (l : Launch) (Z : State) (a0 : Array Value) (hw : ∀ d ∈ tables_1, d.before a0 Z = true) (ws : List Jvm.Cond) (p0 : Int32) (p1 : Int32) (as_LESS : Addr) (as_GREATER : Addr) (as_EQUAL : Addr) (as_LESS_EQUAL : Addr) (as_GREATER_EQUAL : Addr) (as_NOT_EQUAL : Addr) (h0 : Heap) (n0 : Nat) (Z0 : n0 ≤ h0.size) (S_LESS : Sta Z h0 "com/example/ophion/ophion/runtime/CompareOp" "LESS" "Lcom/example/ophion/ophion/runtime/CompareOp;" (.ref as_LESS)) (E_LESS : Exa Z h0 as_LESS "com/example/ophion/ophion/runtime/CompareOp") (O_LESS : Fld Z h0 as_LESS "java/lang/Enum" "ordinal" "I" (.int 0)) (S_GREATER : Sta Z h0 "com/example/ophion/ophion/runtime/CompareOp" "GREATER" "Lcom/example/ophion/ophion/runtime/CompareOp;" (.ref as_GREATER)) (E_GREATER : Exa Z h0 as_GREATER "com/example/ophion/ophion/runtime/CompareOp") (O_GREATER : Fld Z h0 as_GREATER "java/lang/Enum" "ordinal" "I" (.int 4)) (S_EQUAL : Sta Z h0 "com/example/ophion/ophion/runtime/CompareOp" "EQUAL" "Lcom/example/ophion/ophion/runtime/CompareOp;" (.ref as_EQUAL)) (E_EQUAL : Exa Z h0 as_EQUAL "com/example/ophion/ophion/runtime/CompareOp") (O_EQUAL : Fld Z h0 as_EQUAL "java/lang/Enum" "ordinal" "I" (.int 2)) (S_LESS_EQUAL : Sta Z h0 "com/example/ophion/ophion/runtime/CompareOp" "LESS_EQUAL" "Lcom/example/ophion/ophion/runtime/CompareOp;" (.ref as_LESS_EQUAL)) (E_LESS_EQUAL : Exa Z h0 as_LESS_EQUAL "com/example/ophion/ophion/runtime/CompareOp") (O_LESS_EQUAL : Fld Z h0 as_LESS_EQUAL "java/lang/Enum" "ordinal" "I" (.int 1)) (S_GREATER_EQUAL : Sta Z h0 "com/example/ophion/ophion/runtime/CompareOp" "GREATER_EQUAL" "Lcom/example/ophion/ophion/runtime/CompareOp;" (.ref as_GREATER_EQUAL)) (E_GREATER_EQUAL : Exa Z h0 as_GREATER_EQUAL "com/example/ophion/ophion/runtime/CompareOp") (O_GREATER_EQUAL : Fld Z h0 as_GREATER_EQUAL "java/lang/Enum" "ordinal" "I" (.int 5)) (S_NOT_EQUAL : Sta Z h0 "com/example/ophion/ophion/runtime/CompareOp" "NOT_EQUAL" "Lcom/example/ophion/ophion/runtime/CompareOp;" (.ref as_NOT_EQUAL)) (E_NOT_EQUAL : Exa Z h0 as_NOT_EQUAL "com/example/ophion/ophion/runtime/CompareOp") (O_NOT_EQUAL : Fld Z h0 as_NOT_EQUAL "java/lang/Enum" "ordinal" "I" (.int 3))  :
    MetFree l x (head1 (Jvm.Cond.code x code maxLocals ret :: ws) room_1) (fun a U => a = #[(.int p0), (.int p1)] ∧ Z.Warmed39 U.vm ∧ U.heap = h0) (fun _ _ _ _ _ => True) (fun _ U o U' => ∃ v L, o = .returned v ∧ Q0 Z h0 n0 v U'.heap L ∧ FrameEnd U o U' L 0 0) := by
  obtain ⟨hk, hs⟩ := own_cases p0 p1
  rcases hk with hk | hk | hk | hk | hk | hk
  · rcases hs with hs | hs | hs
    · exact rm0_00 l Z a0 hw ws p0 p1 as_LESS as_GREATER as_EQUAL as_LESS_EQUAL as_GREATER_EQUAL as_NOT_EQUAL  h0 n0 Z0 S_LESS E_LESS O_LESS S_GREATER E_GREATER O_GREATER S_EQUAL E_EQUAL O_EQUAL S_LESS_EQUAL E_LESS_EQUAL O_LESS_EQUAL S_GREATER_EQUAL E_GREATER_EQUAL O_GREATER_EQUAL S_NOT_EQUAL E_NOT_EQUAL O_NOT_EQUAL hk hs
    · exact rm0_01 l Z a0 hw ws p0 p1 as_LESS as_GREATER as_EQUAL as_LESS_EQUAL as_GREATER_EQUAL as_NOT_EQUAL  h0 n0 Z0 S_LESS E_LESS O_LESS S_GREATER E_GREATER O_GREATER S_EQUAL E_EQUAL O_EQUAL S_LESS_EQUAL E_LESS_EQUAL O_LESS_EQUAL S_GREATER_EQUAL E_GREATER_EQUAL O_GREATER_EQUAL S_NOT_EQUAL E_NOT_EQUAL O_NOT_EQUAL hk hs
    · exact rm0_02 l Z a0 hw ws p0 p1 as_LESS as_GREATER as_EQUAL as_LESS_EQUAL as_GREATER_EQUAL as_NOT_EQUAL  h0 n0 Z0 S_LESS E_LESS O_LESS S_GREATER E_GREATER O_GREATER S_EQUAL E_EQUAL O_EQUAL S_LESS_EQUAL E_LESS_EQUAL O_LESS_EQUAL S_GREATER_EQUAL E_GREATER_EQUAL O_GREATER_EQUAL S_NOT_EQUAL E_NOT_EQUAL O_NOT_EQUAL hk hs
  · rcases hs with hs | hs | hs
    · exact rm0_10 l Z a0 hw ws p0 p1 as_LESS as_GREATER as_EQUAL as_LESS_EQUAL as_GREATER_EQUAL as_NOT_EQUAL  h0 n0 Z0 S_LESS E_LESS O_LESS S_GREATER E_GREATER O_GREATER S_EQUAL E_EQUAL O_EQUAL S_LESS_EQUAL E_LESS_EQUAL O_LESS_EQUAL S_GREATER_EQUAL E_GREATER_EQUAL O_GREATER_EQUAL S_NOT_EQUAL E_NOT_EQUAL O_NOT_EQUAL hk hs
    · exact rm0_11 l Z a0 hw ws p0 p1 as_LESS as_GREATER as_EQUAL as_LESS_EQUAL as_GREATER_EQUAL as_NOT_EQUAL  h0 n0 Z0 S_LESS E_LESS O_LESS S_GREATER E_GREATER O_GREATER S_EQUAL E_EQUAL O_EQUAL S_LESS_EQUAL E_LESS_EQUAL O_LESS_EQUAL S_GREATER_EQUAL E_GREATER_EQUAL O_GREATER_EQUAL S_NOT_EQUAL E_NOT_EQUAL O_NOT_EQUAL hk hs
    · exact rm0_12 l Z a0 hw ws p0 p1 as_LESS as_GREATER as_EQUAL as_LESS_EQUAL as_GREATER_EQUAL as_NOT_EQUAL  h0 n0 Z0 S_LESS E_LESS O_LESS S_GREATER E_GREATER O_GREATER S_EQUAL E_EQUAL O_EQUAL S_LESS_EQUAL E_LESS_EQUAL O_LESS_EQUAL S_GREATER_EQUAL E_GREATER_EQUAL O_GREATER_EQUAL S_NOT_EQUAL E_NOT_EQUAL O_NOT_EQUAL hk hs
  · rcases hs with hs | hs | hs
    · exact rm0_20 l Z a0 hw ws p0 p1 as_LESS as_GREATER as_EQUAL as_LESS_EQUAL as_GREATER_EQUAL as_NOT_EQUAL  h0 n0 Z0 S_LESS E_LESS O_LESS S_GREATER E_GREATER O_GREATER S_EQUAL E_EQUAL O_EQUAL S_LESS_EQUAL E_LESS_EQUAL O_LESS_EQUAL S_GREATER_EQUAL E_GREATER_EQUAL O_GREATER_EQUAL S_NOT_EQUAL E_NOT_EQUAL O_NOT_EQUAL hk hs
    · exact rm0_21 l Z a0 hw ws p0 p1 as_LESS as_GREATER as_EQUAL as_LESS_EQUAL as_GREATER_EQUAL as_NOT_EQUAL  h0 n0 Z0 S_LESS E_LESS O_LESS S_GREATER E_GREATER O_GREATER S_EQUAL E_EQUAL O_EQUAL S_LESS_EQUAL E_LESS_EQUAL O_LESS_EQUAL S_GREATER_EQUAL E_GREATER_EQUAL O_GREATER_EQUAL S_NOT_EQUAL E_NOT_EQUAL O_NOT_EQUAL hk hs
    · exact rm0_22 l Z a0 hw ws p0 p1 as_LESS as_GREATER as_EQUAL as_LESS_EQUAL as_GREATER_EQUAL as_NOT_EQUAL  h0 n0 Z0 S_LESS E_LESS O_LESS S_GREATER E_GREATER O_GREATER S_EQUAL E_EQUAL O_EQUAL S_LESS_EQUAL E_LESS_EQUAL O_LESS_EQUAL S_GREATER_EQUAL E_GREATER_EQUAL O_GREATER_EQUAL S_NOT_EQUAL E_NOT_EQUAL O_NOT_EQUAL hk hs
  · rcases hs with hs | hs | hs
    · exact rm0_30 l Z a0 hw ws p0 p1 as_LESS as_GREATER as_EQUAL as_LESS_EQUAL as_GREATER_EQUAL as_NOT_EQUAL  h0 n0 Z0 S_LESS E_LESS O_LESS S_GREATER E_GREATER O_GREATER S_EQUAL E_EQUAL O_EQUAL S_LESS_EQUAL E_LESS_EQUAL O_LESS_EQUAL S_GREATER_EQUAL E_GREATER_EQUAL O_GREATER_EQUAL S_NOT_EQUAL E_NOT_EQUAL O_NOT_EQUAL hk hs
    · exact rm0_31 l Z a0 hw ws p0 p1 as_LESS as_GREATER as_EQUAL as_LESS_EQUAL as_GREATER_EQUAL as_NOT_EQUAL  h0 n0 Z0 S_LESS E_LESS O_LESS S_GREATER E_GREATER O_GREATER S_EQUAL E_EQUAL O_EQUAL S_LESS_EQUAL E_LESS_EQUAL O_LESS_EQUAL S_GREATER_EQUAL E_GREATER_EQUAL O_GREATER_EQUAL S_NOT_EQUAL E_NOT_EQUAL O_NOT_EQUAL hk hs
    · exact rm0_32 l Z a0 hw ws p0 p1 as_LESS as_GREATER as_EQUAL as_LESS_EQUAL as_GREATER_EQUAL as_NOT_EQUAL  h0 n0 Z0 S_LESS E_LESS O_LESS S_GREATER E_GREATER O_GREATER S_EQUAL E_EQUAL O_EQUAL S_LESS_EQUAL E_LESS_EQUAL O_LESS_EQUAL S_GREATER_EQUAL E_GREATER_EQUAL O_GREATER_EQUAL S_NOT_EQUAL E_NOT_EQUAL O_NOT_EQUAL hk hs
  · rcases hs with hs | hs | hs
    · exact rm0_40 l Z a0 hw ws p0 p1 as_LESS as_GREATER as_EQUAL as_LESS_EQUAL as_GREATER_EQUAL as_NOT_EQUAL  h0 n0 Z0 S_LESS E_LESS O_LESS S_GREATER E_GREATER O_GREATER S_EQUAL E_EQUAL O_EQUAL S_LESS_EQUAL E_LESS_EQUAL O_LESS_EQUAL S_GREATER_EQUAL E_GREATER_EQUAL O_GREATER_EQUAL S_NOT_EQUAL E_NOT_EQUAL O_NOT_EQUAL hk hs
    · exact rm0_41 l Z a0 hw ws p0 p1 as_LESS as_GREATER as_EQUAL as_LESS_EQUAL as_GREATER_EQUAL as_NOT_EQUAL  h0 n0 Z0 S_LESS E_LESS O_LESS S_GREATER E_GREATER O_GREATER S_EQUAL E_EQUAL O_EQUAL S_LESS_EQUAL E_LESS_EQUAL O_LESS_EQUAL S_GREATER_EQUAL E_GREATER_EQUAL O_GREATER_EQUAL S_NOT_EQUAL E_NOT_EQUAL O_NOT_EQUAL hk hs
    · exact rm0_42 l Z a0 hw ws p0 p1 as_LESS as_GREATER as_EQUAL as_LESS_EQUAL as_GREATER_EQUAL as_NOT_EQUAL  h0 n0 Z0 S_LESS E_LESS O_LESS S_GREATER E_GREATER O_GREATER S_EQUAL E_EQUAL O_EQUAL S_LESS_EQUAL E_LESS_EQUAL O_LESS_EQUAL S_GREATER_EQUAL E_GREATER_EQUAL O_GREATER_EQUAL S_NOT_EQUAL E_NOT_EQUAL O_NOT_EQUAL hk hs
  · rcases hs with hs | hs | hs
    · exact rm0_50 l Z a0 hw ws p0 p1 as_LESS as_GREATER as_EQUAL as_LESS_EQUAL as_GREATER_EQUAL as_NOT_EQUAL  h0 n0 Z0 S_LESS E_LESS O_LESS S_GREATER E_GREATER O_GREATER S_EQUAL E_EQUAL O_EQUAL S_LESS_EQUAL E_LESS_EQUAL O_LESS_EQUAL S_GREATER_EQUAL E_GREATER_EQUAL O_GREATER_EQUAL S_NOT_EQUAL E_NOT_EQUAL O_NOT_EQUAL hk hs
    · exact rm0_51 l Z a0 hw ws p0 p1 as_LESS as_GREATER as_EQUAL as_LESS_EQUAL as_GREATER_EQUAL as_NOT_EQUAL  h0 n0 Z0 S_LESS E_LESS O_LESS S_GREATER E_GREATER O_GREATER S_EQUAL E_EQUAL O_EQUAL S_LESS_EQUAL E_LESS_EQUAL O_LESS_EQUAL S_GREATER_EQUAL E_GREATER_EQUAL O_GREATER_EQUAL S_NOT_EQUAL E_NOT_EQUAL O_NOT_EQUAL hk hs
    · exact rm0_52 l Z a0 hw ws p0 p1 as_LESS as_GREATER as_EQUAL as_LESS_EQUAL as_GREATER_EQUAL as_NOT_EQUAL  h0 n0 Z0 S_LESS E_LESS O_LESS S_GREATER E_GREATER O_GREATER S_EQUAL E_EQUAL O_EQUAL S_LESS_EQUAL E_LESS_EQUAL O_LESS_EQUAL S_GREATER_EQUAL E_GREATER_EQUAL O_GREATER_EQUAL S_NOT_EQUAL E_NOT_EQUAL O_NOT_EQUAL hk hs
set_option maxRecDepth 65536 in
set_option maxHeartbeats 40000000 in
theorem comes_1 {Post : Tables → Env → Array Value → State → Outcome → State → Prop} (hpost : ∀ tb e args s v u, (limb_1_1.after args s (.returned v) u = true ∧ limb_1_2.after args s (.returned v) u = true ∧ True) → FrameEnd s (.returned v) u (Jvm.fieldLocs frame_1_writes args s ++ Jvm.arrayLocs frame_1_arrays args s ++ Jvm.staticLocs frame_1_statics s) 0 0 → Post tb e args s (.returned v) u) :
    ArmFor flags0 classFile x code maxLocals ret World_1 tables_1 room_1 Calls_1 rest_1 Pre_1 Post := by
  intro l hfl _ _ p e ha hc hk s m args below hf hA hF happ hP
  obtain ⟨hcalls, hrest, hpre⟩ := hP
  obtain ⟨-, -, -, hnamed, -, -, -, hat⟩ := (Spec.applies_iff hf).mp happ
  obtain ⟨hg, hn⟩ := and_e (Cond.before_iff.mp (show (Jvm.Cond.and given_1 narrow_1).before args s = true from hpre))
  obtain ⟨gv0, gr0⟩ := and_e hg
  obtain ⟨gv1, gr1⟩ := and_e gr0
  obtain ⟨w0, w1, rfl⟩ : ∃ w0 w1 : Value, args = #[w0, w1] := by
    have hs : args.size = 2 := by simpa [Cond.value, given_1] using gv0
    obtain ⟨L⟩ := args
    match L, hs with
    | [w0, w1], _ => exact ⟨w0, w1, rfl⟩
  have hw := fun d (hd : d ∈ tables_1) => atoms_spec (ws := Jvm.Cond.code x code maxLocals ret :: tables_1) hat d (List.mem_cons_of_mem _ hd)
  have hfit : Fit s := fun {y c} hc i hi => by
    obtain ⟨ha, rfl⟩ := Array.getElem?_eq_some_iff.mp hc
    have q := List.all_eq_true.mp ((Array.all_eq_true_iff_forall_mem.mp hF) _ (Array.getElem_mem ha)) i (List.mem_range.mpr hi)
    simpa [Array.getElem?_eq_getElem hi] using q
  obtain ⟨i0, ei0⟩ := is_v gv1
  obtain rfl : w0 = (.int i0) := Option.some.inj ei0
  obtain ⟨i1, ei1⟩ := is_v gr1
  obtain rfl : w1 = (.int i1) := Option.some.inj ei1
  obtain ⟨nw0, nr0⟩ := and_e hn
  obtain ⟨nw1, nr1⟩ := and_e nr0
  obtain ⟨nw2, nr2⟩ := and_e nr1
  obtain ⟨nw3, nr3⟩ := and_e nr2
  obtain ⟨nw4, nr4⟩ := and_e nr3
  obtain ⟨nw5, nr5⟩ := and_e nr4
  obtain ⟨nw6, nr6⟩ := and_e nr5
  obtain ⟨nw7, nr7⟩ := and_e nr6
  obtain ⟨nw8, nr8⟩ := and_e nr7
  obtain ⟨nw9, nr9⟩ := and_e nr8
  obtain ⟨nw10, nr10⟩ := and_e nr9
  obtain ⟨as_LESS, ev_LESS⟩ := exa_v nw0
  have S_LESS := Sta.start ev_LESS (Or.inr ⟨(wd hw 6 rfl), (wd hw 7 rfl)⟩)
  have E_LESS := Exa.start ev_LESS nw0
  have O_LESS := own_fld ev_LESS nw2
  obtain ⟨as_GREATER, ev_GREATER⟩ := exa_v nw1
  have S_GREATER := Sta.start ev_GREATER (Or.inr ⟨(wd hw 6 rfl), (wd hw 12 rfl)⟩)
  have E_GREATER := Exa.start ev_GREATER nw1
  have O_GREATER := own_fld ev_GREATER nw3
  obtain ⟨as_EQUAL, ev_EQUAL⟩ := exa_v nw4
  have S_EQUAL := Sta.start ev_EQUAL (Or.inr ⟨(wd hw 6 rfl), (wd hw 34 rfl)⟩)
  have E_EQUAL := Exa.start ev_EQUAL nw4
  have O_EQUAL := own_fld ev_EQUAL nw5
  obtain ⟨as_LESS_EQUAL, ev_LESS_EQUAL⟩ := exa_v nw6
  have S_LESS_EQUAL := Sta.start ev_LESS_EQUAL (Or.inr ⟨(wd hw 6 rfl), (wd hw 37 rfl)⟩)
  have E_LESS_EQUAL := Exa.start ev_LESS_EQUAL nw6
  have O_LESS_EQUAL := own_fld ev_LESS_EQUAL nw8
  obtain ⟨as_GREATER_EQUAL, ev_GREATER_EQUAL⟩ := exa_v nw7
  have S_GREATER_EQUAL := Sta.start ev_GREATER_EQUAL (Or.inr ⟨(wd hw 6 rfl), (wd hw 39 rfl)⟩)
  have E_GREATER_EQUAL := Exa.start ev_GREATER_EQUAL nw7
  have O_GREATER_EQUAL := own_fld ev_GREATER_EQUAL nw9
  obtain ⟨as_NOT_EQUAL, ev_NOT_EQUAL⟩ := exa_v nw10
  have S_NOT_EQUAL := Sta.start ev_NOT_EQUAL (Or.inr ⟨(wd hw 6 rfl), (wd hw 43 rfl)⟩)
  have E_NOT_EQUAL := Exa.start ev_NOT_EQUAL nw10
  have O_NOT_EQUAL := own_fld ev_NOT_EQUAL nr10
  obtain ⟨n, o, h1, h2, h3, _, L, rfl, ⟨rfl, N⟩, hq⟩ := rm0 l s _ hw tables_1 i0 i1 as_LESS as_GREATER as_EQUAL as_LESS_EQUAL as_GREATER_EQUAL as_NOT_EQUAL s.heap s.heap.size (Nat.le_refl _) S_LESS E_LESS O_LESS S_GREATER E_GREATER O_GREATER S_EQUAL E_EQUAL O_EQUAL S_LESS_EQUAL E_LESS_EQUAL O_LESS_EQUAL S_GREATER_EQUAL E_GREATER_EQUAL O_GREATER_EQUAL S_NOT_EQUAL E_NOT_EQUAL O_NOT_EQUAL p e ha hc hk s m _ below hf ((Spec.applies_iff_loose hf).mp happ).1 ⟨rfl, State.Warmed39.refl s, rfl⟩ trivial
  refine ⟨n, _, h1, h2, h3, hpost _ _ _ _ _ _ ⟨Cond.after_iff.mpr rfl, Cond.after_iff.mpr (eq_i res_at (Term.int_eval (1)) rfl), trivial⟩ ⟨hq.1, hq.2.1, (hq.2.2.sift fun y hy => Or.inr (N y hy)).mono (by decide) (by decide)⟩⟩
theorem main_1_1 : Claimed_1_1 := comes_1 fun _ _ _ _ _ _ h hF => ⟨h.1, hF⟩
theorem main_1_2 : Claimed_1_2 := comes_1 fun _ _ _ _ _ _ h hF => ⟨h.2.1, hF⟩
end Jvm.Pilot.@@N@@
namespace Jvm.Pilot.@@N@@
open Jvm Jvm.ClassFile Sem Op Lib Jvm.Free Jvm.Stand Jvm.Pilot.@@N@@.Jvm.D
/-! MADE BY PROGRAM (witnessworld.py) out of the Statement's table words and the real class files: 12 classes; the members and pool entries that the words name. The judged class is class 1, her method 3. -/
namespace start1
open Jvm.ClassFile
def u (s : String) : CpInfo := .utf8 (stringToUtf16 s)
/-- a pool by its gaps: so many unusable entries, then the entry; so many at the end -/
def gap : Nat → List CpInfo → List CpInfo
  | 0, r => r
  | n + 1, r => .unusable :: gap n r
def poolList (es : List (Nat × CpInfo)) (last : Nat) : List CpInfo := es.foldr (fun e r => gap e.1 (e.2 :: r)) (gap last [])
def pool (es : List (Nat × CpInfo)) (last : Nat) : Array CpInfo := ⟨poolList es last⟩
def fileOf (pool : Array CpInfo) (this : Nat) (attrs : Array Attribute := #[]) (ms : Array MethodInfo := #[]) (fl : Nat := 33) (sup : Nat := 0) (ifs : Array Nat := #[]) (fds : Array FieldInfo := #[]) : ClassFile where
  minorVersion := 0
  majorVersion := 65
  constantPool := pool
  accessFlags := fl
  thisClass := this
  superClass := sup
  interfaces := ifs
  fields := fds
  methods := ms
  attributes := attrs
def plain (name : String) (sup : Option ClassId) : Class where
  name := name
  kind := .ordinary
  loader := none
  accessFlags := 33
  super := sup
  interfaces := #[]
  cf := none
  fields := #[]
  methods := #[]
  instanceTypes := #[]
  staticTypes := #[]
  resolved := #[]
  callSites := []
  init := .initialized
  statics := none
  mirror := none

def pool0 : Array CpInfo := pool [(5, u "<init>"), (0, u "()V"), (1, .class_ 10), (1, u "java/lang/Object")] 113

def k0m0 : Method := { name := "<init>", desc := "()V", sig := { parameters := [], returnType := none }, accessFlags := 1, code := none }
/-- java/lang/Object -/
def k0 : Class := { plain "java/lang/Object" none with
  accessFlags := 33
  interfaces := #[]
  cf := some (fileOf pool0 8 #[] #[{ accessFlags := 1, nameIndex := 5, descriptorIndex := 6, attributes := #[] }] 33 0 #[] #[])
  fields := #[]
  methods := #[k0m0]
  instanceTypes := #[]
  staticTypes := #[]
  resolved := Array.replicate 124 none
  statics := none }

def pool1 : Array CpInfo := pool [(2, .class_ 4), (1, u "java/lang/Object"), (0, u "<init>"), (0, u "()V"), (0, .fieldref 8 9), (0, .class_ 10), (0, .nameAndType 11 12), (0, u "com/example/ophion/ophion/runtime/CompareOp"), (0, u "LESS"), (0, u "Lcom/example/ophion/ophion/runtime/CompareOp;"), (0, .fieldref 8 14), (0, .nameAndType 15 12), (0, u "LESS_EQUAL"), (0, .fieldref 8 17), (0, .nameAndType 18 12), (0, u "EQUAL"), (0, .fieldref 8 20), (0, .nameAndType 21 12), (0, u "NOT_EQUAL"), (0, .fieldref 8 23), (0, .nameAndType 24 12), (0, u "GREATER"), (0, .fieldref 8 26), (0, .nameAndType 27 12), (0, u "GREATER_EQUAL"), (0, .integer 2147483647), (0, .methodref 30 31), (0, .class_ 32), (0, .nameAndType 33 34), (0, u "com/example/ophion/ophion/runtime/CompareOpSwappedPinLaw"), (0, u "pick"), (0, u "(I)Lcom/example/ophion/ophion/runtime/CompareOp;"), (0, .methodref 30 36), (0, .nameAndType 37 38), (0, u "mirror"), (0, u "(I)I"), (0, .methodref 8 40), (0, .nameAndType 41 42), (0, u "swapped"), (0, u "()Lcom/example/ophion/ophion/runtime/CompareOp;"), (0, .methodref 8 44), (0, .nameAndType 45 46), (0, u "holds"), (0, u "(I)Z"), (3, u "law"), (0, u "(II)Z")] 2

def k1m0 : Method := { name := "<init>", desc := "()V", sig := { parameters := [], returnType := none }, accessFlags := 1, code := none }
def k1c1 : Code := { maxStack := 2, maxLocals := 1, code := method_2_code, exceptionTable := #[], attributes := #[] }
def k1m1 : Method := { name := "pick", desc := "(I)Lcom/example/ophion/ophion/runtime/CompareOp;", sig := { parameters := [.int], returnType := some (.object "com/example/ophion/ophion/runtime/CompareOp") }, accessFlags := 10, code := some k1c1 }
def k1c2 : Code := { maxStack := 2, maxLocals := 1, code := method_3_code, exceptionTable := #[], attributes := #[] }
def k1m2 : Method := { name := "mirror", desc := "(I)I", sig := { parameters := [.int], returnType := some .int }, accessFlags := 10, code := some k1c2 }
def k1c3 : Code := { maxStack := 3, maxLocals := 7, code := code, exceptionTable := #[], attributes := #[] }
def k1m3 : Method := { name := "law", desc := "(II)Z", sig := { parameters := [.int, .int], returnType := some .boolean }, accessFlags := 9, code := some k1c3 }
/-- com/example/ophion/ophion/runtime/CompareOpSwappedPinLaw -/
def k1 : Class := { plain "com/example/ophion/ophion/runtime/CompareOpSwappedPinLaw" (some 0) with
  accessFlags := 49
  interfaces := #[]
  cf := some (fileOf pool1 30 #[] #[{ accessFlags := 1, nameIndex := 5, descriptorIndex := 6, attributes := #[] }, { accessFlags := 10, nameIndex := 33, descriptorIndex := 34, attributes := #[] }, { accessFlags := 10, nameIndex := 37, descriptorIndex := 38, attributes := #[] }, { accessFlags := 9, nameIndex := 50, descriptorIndex := 51, attributes := #[] }] 49 2 #[] #[])
  fields := #[]
  methods := #[k1m0, k1m1, k1m2, k1m3]
  instanceTypes := #[]
  staticTypes := #[]
  resolved := Array.replicate 54 none
  statics := none }

def pool2 : Array CpInfo := pool [(1, .class_ 2), (0, u "java/lang/constant/Constable"), (0, .class_ 4), (0, u "java/lang/Object")] 6

/-- java/lang/constant/Constable -/
def k2 : Class := { plain "java/lang/constant/Constable" (some 0) with
  accessFlags := 1537
  interfaces := #[]
  cf := some (fileOf pool2 1 #[] #[] 1537 3 #[] #[])
  fields := #[]
  methods := #[]
  instanceTypes := #[]
  staticTypes := #[]
  resolved := Array.replicate 11 none
  statics := none }

def pool3 : Array CpInfo := pool [(1, .class_ 2), (0, u "java/lang/Comparable"), (0, .class_ 4), (0, u "java/lang/Object")] 7

/-- java/lang/Comparable -/
def k3 : Class := { plain "java/lang/Comparable" (some 0) with
  accessFlags := 1537
  interfaces := #[]
  cf := some (fileOf pool3 1 #[] #[] 1537 3 #[] #[])
  fields := #[]
  methods := #[]
  instanceTypes := #[]
  staticTypes := #[]
  resolved := Array.replicate 12 none
  statics := none }

def pool4 : Array CpInfo := pool [(1, .class_ 2), (0, u "java/io/Serializable"), (0, .class_ 4), (0, u "java/lang/Object")] 2

/-- java/io/Serializable -/
def k4 : Class := { plain "java/io/Serializable" (some 0) with
  accessFlags := 1537
  interfaces := #[]
  cf := some (fileOf pool4 1 #[] #[] 1537 3 #[] #[])
  fields := #[]
  methods := #[]
  instanceTypes := #[]
  staticTypes := #[]
  resolved := Array.replicate 7 none
  statics := none }

def pool5 : Array CpInfo := pool [(2, .class_ 4), (1, u "java/lang/Enum"), (0, u "name"), (0, u "Ljava/lang/String;"), (0, .fieldref 2 8), (0, .nameAndType 9 10), (0, u "ordinal"), (0, u "I"), (1, .class_ 14), (1, u "java/lang/Object"), (4, u "hash"), (86, .class_ 108), (1, u "java/lang/Enum$EnumDesc"), (2, .class_ 112), (0, u "java/lang/constant/Constable"), (0, .class_ 114), (0, u "java/lang/Comparable"), (0, .class_ 116), (0, u "java/io/Serializable"), (9, u "()I")] 77

def k5c0 : Code := { maxStack := 1, maxLocals := 1, code := jdk_37_method_2_code, exceptionTable := #[], attributes := #[] }
def k5m0 : Method := { name := "ordinal", desc := "()I", sig := { parameters := [], returnType := some .int }, accessFlags := 17, code := some k5c0 }
/-- java/lang/Enum -/
def k5 : Class := { plain "java/lang/Enum" (some 0) with
  accessFlags := 1057
  interfaces := #[2, 3, 4]
  cf := some (fileOf pool5 2 #[.nestMembers #[106]] #[{ accessFlags := 17, nameIndex := 9, descriptorIndex := 126, attributes := #[] }] 1057 12 #[111, 113, 115] #[{ accessFlags := 18, nameIndex := 5, descriptorIndex := 6, attributes := #[] }, { accessFlags := 18, nameIndex := 9, descriptorIndex := 10, attributes := #[] }, { accessFlags := 2, nameIndex := 19, descriptorIndex := 10, attributes := #[] }])
  fields := #[{ name := "name", type := (.object "java/lang/String"), accessFlags := 18, slot := 0, constantValue := 0 }, { name := "ordinal", type := .int, accessFlags := 18, slot := 1, constantValue := 0 }, { name := "hash", type := .int, accessFlags := 2, slot := 2, constantValue := 0 }]
  methods := #[k5m0]
  instanceTypes := #[(.object "java/lang/String"), .int, .int]
  staticTypes := #[]
  resolved := Array.replicate 204 none
  statics := none }

def pool6 : Array CpInfo := pool [(1, .class_ 2), (0, u "com/example/ophion/ophion/runtime/CompareOp"), (0, .fieldref 1 4), (0, .nameAndType 5 6), (0, u "LESS"), (0, u "Lcom/example/ophion/ophion/runtime/CompareOp;"), (0, .fieldref 1 8), (0, .nameAndType 9 6), (0, u "LESS_EQUAL"), (2, u "EQUAL"), (2, u "NOT_EQUAL"), (0, .fieldref 1 17), (0, .nameAndType 18 6), (0, u "GREATER"), (0, .fieldref 1 20), (0, .nameAndType 21 6), (0, u "GREATER_EQUAL"), (2, u "$VALUES"), (0, u "[Lcom/example/ophion/ophion/runtime/CompareOp;"), (6, .class_ 34), (1, u "java/lang/Enum"), (8, u "symbol"), (0, u "Ljava/lang/String;"), (2, u "method"), (0, .methodref 1 49), (0, .nameAndType 50 51), (0, u "ordinal"), (0, u "()I"), (62, u "swapped"), (0, u "()Lcom/example/ophion/ophion/runtime/CompareOp;"), (1, u "holds"), (0, u "(I)Z")] 21

def k6c0 : Code := { maxStack := 1, maxLocals := 1, code := prog_5_method_6_code, exceptionTable := #[], attributes := #[] }
def k6m0 : Method := { name := "swapped", desc := "()Lcom/example/ophion/ophion/runtime/CompareOp;", sig := { parameters := [], returnType := some (.object "com/example/ophion/ophion/runtime/CompareOp") }, accessFlags := 1, code := some k6c0 }
def k6c1 : Code := { maxStack := 1, maxLocals := 2, code := prog_5_method_7_code, exceptionTable := #[], attributes := #[] }
def k6m1 : Method := { name := "holds", desc := "(I)Z", sig := { parameters := [.int], returnType := some .boolean }, accessFlags := 1, code := some k6c1 }
/-- com/example/ophion/ophion/runtime/CompareOp -/
def k6 : Class := { plain "com/example/ophion/ophion/runtime/CompareOp" (some 5) with
  accessFlags := 16433
  interfaces := #[]
  cf := some (fileOf pool6 1 #[] #[{ accessFlags := 1, nameIndex := 114, descriptorIndex := 115, attributes := #[] }, { accessFlags := 1, nameIndex := 117, descriptorIndex := 118, attributes := #[] }] 16433 32 #[] #[{ accessFlags := 16409, nameIndex := 5, descriptorIndex := 6, attributes := #[] }, { accessFlags := 16409, nameIndex := 9, descriptorIndex := 6, attributes := #[] }, { accessFlags := 16409, nameIndex := 12, descriptorIndex := 6, attributes := #[] }, { accessFlags := 16409, nameIndex := 15, descriptorIndex := 6, attributes := #[] }, { accessFlags := 16409, nameIndex := 18, descriptorIndex := 6, attributes := #[] }, { accessFlags := 16409, nameIndex := 21, descriptorIndex := 6, attributes := #[] }, { accessFlags := 18, nameIndex := 43, descriptorIndex := 44, attributes := #[] }, { accessFlags := 18, nameIndex := 47, descriptorIndex := 44, attributes := #[] }, { accessFlags := 4122, nameIndex := 24, descriptorIndex := 25, attributes := #[] }])
  fields := #[{ name := "LESS", type := (.object "com/example/ophion/ophion/runtime/CompareOp"), accessFlags := 16409, slot := 0, constantValue := 0 }, { name := "LESS_EQUAL", type := (.object "com/example/ophion/ophion/runtime/CompareOp"), accessFlags := 16409, slot := 1, constantValue := 0 }, { name := "EQUAL", type := (.object "com/example/ophion/ophion/runtime/CompareOp"), accessFlags := 16409, slot := 2, constantValue := 0 }, { name := "NOT_EQUAL", type := (.object "com/example/ophion/ophion/runtime/CompareOp"), accessFlags := 16409, slot := 3, constantValue := 0 }, { name := "GREATER", type := (.object "com/example/ophion/ophion/runtime/CompareOp"), accessFlags := 16409, slot := 4, constantValue := 0 }, { name := "GREATER_EQUAL", type := (.object "com/example/ophion/ophion/runtime/CompareOp"), accessFlags := 16409, slot := 5, constantValue := 0 }, { name := "symbol", type := (.object "java/lang/String"), accessFlags := 18, slot := 3, constantValue := 0 }, { name := "method", type := (.object "java/lang/String"), accessFlags := 18, slot := 4, constantValue := 0 }, { name := "$VALUES", type := (.array (.object "com/example/ophion/ophion/runtime/CompareOp")), accessFlags := 4122, slot := 6, constantValue := 0 }]
  methods := #[k6m0, k6m1]
  instanceTypes := #[(.object "java/lang/String"), .int, .int, (.object "java/lang/String"), (.object "java/lang/String")]
  staticTypes := #[(.object "com/example/ophion/ophion/runtime/CompareOp"), (.object "com/example/ophion/ophion/runtime/CompareOp"), (.object "com/example/ophion/ophion/runtime/CompareOp"), (.object "com/example/ophion/ophion/runtime/CompareOp"), (.object "com/example/ophion/ophion/runtime/CompareOp"), (.object "com/example/ophion/ophion/runtime/CompareOp"), (.array (.object "com/example/ophion/ophion/runtime/CompareOp"))]
  resolved := Array.replicate 140 none
  statics := some 0 }

def pool7 : Array CpInfo := pool [(1, u "java/lang/Cloneable"), (0, .class_ 1), (0, u "java/lang/Object"), (0, .class_ 3)] 3

/-- java/lang/Cloneable -/
def k7 : Class := { plain "java/lang/Cloneable" (some 0) with
  accessFlags := 1537
  interfaces := #[]
  cf := some (fileOf pool7 2 #[] #[] 1537 4 #[] #[])
  fields := #[]
  methods := #[]
  instanceTypes := #[]
  staticTypes := #[]
  resolved := Array.replicate 8 none
  statics := none }

/-- the primitive byte -/
def k8 : Class := { plain "byte" none with kind := .primitive 'B', accessFlags := 0x411 }
/-- [B -/
def k9 : Class := { plain "[B" (some 0) with kind := .array 8 .byte, interfaces := #[7, 4], accessFlags := 1041 }

/-- the primitive int -/
def k10 : Class := { plain "int" none with kind := .primitive 'I', accessFlags := 0x411 }
/-- [I -/
def k11 : Class := { plain "[I" (some 0) with kind := .array 10 .int, interfaces := #[7, 4], accessFlags := 1041 }

def heap : Heap := #[{ cls := 6, slots := #[.ref 1, .ref 2, .ref 3, .ref 4, .ref 5, .ref 6, .null], vm := .statics 6 },
  { cls := 6, slots := #[.null, .int 0, .int 0, .null, .null], vm := .none },
  { cls := 6, slots := #[.null, .int 1, .int 0, .null, .null], vm := .none },
  { cls := 6, slots := #[.null, .int 2, .int 0, .null, .null], vm := .none },
  { cls := 6, slots := #[.null, .int 3, .int 0, .null, .null], vm := .none },
  { cls := 6, slots := #[.null, .int 4, .int 0, .null, .null], vm := .none },
  { cls := 6, slots := #[.null, .int 5, .int 0, .null, .null], vm := .none }]
def classes : Array Class := #[k0, k1, k2, k3, k4, k5, k6, k7, k8, k9, k10, k11]
def interned : List (Array UInt16 × Addr) := []
def slotsUsed : Nat := 37
def theMethod : MethodId := ⟨1, 3⟩
def args0 : Array Value := #[.int 5, .int 7]
def aboutOver (below : List Frame) : State where
  vm := { classes := classes, interned := interned.toArray }
  heap := heap
  slotsUsed := slotsUsed
  threads := #[{ frames := .invoking theMethod args0 :: below }]
def below0 : List Frame := [.native { method := ⟨0, 0⟩, args := #[] }]
def about1 : State := aboutOver below0
def p0 : Program := .bare "" "" ""
def e0 : Env := launch0.env 0 0 0
theorem w_frames : about1.frames = Frame.invoking theMethod args0 :: below0 := rfl
set_option maxRecDepth 65536 in
theorem w_args : argsFit about1.vm theMethod args0 = true := by decide +kernel
set_option maxRecDepth 65536 in
theorem w_heap : heapFits about1 = true := by decide +kernel
set_option maxRecDepth 65536 in
theorem w_runnable : about1.curStatus? = some .runnable := by decide +kernel
set_option maxRecDepth 65536 in
theorem w_alone : about1.alone = true := by decide +kernel
set_option maxRecDepth 65536 in
theorem w_named : about1.methodNamed? x = some theMethod := by decide +kernel
set_option maxRecDepth 65536 in
theorem w_hears : about1.hears theMethod below0 = true := by decide +kernel
set_option maxRecDepth 65536 in
theorem w_ripe : about1.ripe theMethod args0 below0 = true := by decide +kernel
theorem w_running : about1.status = .running := rfl
set_option maxRecDepth 65536 in
theorem w_room : about1.hasRoom e0.platform room_1 = true :=
  launch0.hasRoom_least _ room_1 (by decide +kernel) (by decide +kernel) (by decide +kernel) (by decide +kernel) (by decide +kernel) (by decide +kernel)
theorem allAtoms_all (ts : List Jvm.Cond) (a : Array Jvm.Value) (st : Jvm.State) : (allAtoms ts).before a st = ts.all (fun c => c.before a st) := by
  induction ts with
  | nil => rfl
  | cons c t ih =>
    show (Jvm.Cond.and c (allAtoms t)).before a st = _
    rw [Jvm.Cond.before_and, ih, List.all_cons]
def words1 : List Jvm.Cond := Jvm.Cond.code x code maxLocals ret :: tables_1
/-- a 'code' word, met by the world's own term for the bytes: nothing is compared byte by byte -/
theorem code_word {y : MethodName} {bytes : ByteArray} {mx : Nat} {rt : Option FieldType} {a : Array Value} {s : State} {m : MethodId} {meth : Method} {c : Code} (h1 : s.methodNamed? y = some m) (h2 : s.vm.method? m = some meth) (h3 : meth.code = some c) (h4 : c.code = bytes)
    (h5 : (c.maxLocals == mx && c.exceptionTable.isEmpty && decide (c.maxStack ≤ mostOperands) && decide (meth.sig.returnType = rt) && !meth.locks && decide (parseMethodDescriptor y.desc = some meth.sig)) = true) : (Jvm.Cond.code y bytes mx rt).before a s = true := by
  simp only [Bool.and_eq_true, beq_iff_eq, Bool.not_eq_true', decide_eq_true_eq] at h5
  obtain ⟨⟨⟨⟨⟨g1, g2⟩, g3⟩, g4⟩, g5⟩, g6⟩ := h5
  simp [Cond.before, Cond.holds, Cond.value, h1, h2, h3, h4, g1, g2, g3, g4, g5, g6]
def isCode : Jvm.Cond → Bool
  | .code _ _ _ _ => true
  | _ => false
theorem all_split {L : List Jvm.Cond} {P : Jvm.Cond → Bool} (h1 : L.all (fun c => isCode c || P c) = true) (h2 : ∀ c ∈ L.filter isCode, P c = true) : L.all P = true := by
  refine List.all_eq_true.mpr fun c hc => ?_
  have h := List.all_eq_true.mp h1 c hc
  rcases Bool.eq_false_or_eq_true (isCode c) with hi | hi
  · exact h2 c (List.mem_filter.mpr ⟨hc, hi⟩)
  · simpa [hi] using h
set_option maxRecDepth 65536 in
theorem w_c0 : (Jvm.Cond.code x code maxLocals ret).before args0 about1 = true := code_word (m := ⟨1, 3⟩) (meth := k1m3) (c := k1c3) (by decide +kernel) rfl rfl rfl (by decide +kernel)
set_option maxRecDepth 65536 in
theorem w_c1 : (Jvm.Cond.code ({ cls := "com/example/ophion/ophion/runtime/CompareOpSwappedPinLaw", name := "pick", desc := "(I)Lcom/example/ophion/ophion/runtime/CompareOp;" } : Jvm.MethodName) method_2_code (1 : Nat) (Option.some (Jvm.ClassFile.FieldType.object "com/example/ophion/ophion/runtime/CompareOp"))).before args0 about1 = true := code_word (m := ⟨1, 1⟩) (meth := k1m1) (c := k1c1) (by decide +kernel) rfl rfl rfl (by decide +kernel)
set_option maxRecDepth 65536 in
theorem w_c2 : (Jvm.Cond.code ({ cls := "com/example/ophion/ophion/runtime/CompareOpSwappedPinLaw", name := "mirror", desc := "(I)I" } : Jvm.MethodName) method_3_code (1 : Nat) (Option.some Jvm.ClassFile.FieldType.int)).before args0 about1 = true := code_word (m := ⟨1, 2⟩) (meth := k1m2) (c := k1c2) (by decide +kernel) rfl rfl rfl (by decide +kernel)
set_option maxRecDepth 65536 in
theorem w_c3 : (Jvm.Cond.code ({ cls := "com/example/ophion/ophion/runtime/CompareOp", name := "swapped", desc := "()Lcom/example/ophion/ophion/runtime/CompareOp;" } : Jvm.MethodName) prog_5_method_6_code (1 : Nat) (Option.some (Jvm.ClassFile.FieldType.object "com/example/ophion/ophion/runtime/CompareOp"))).before args0 about1 = true := code_word (m := ⟨6, 0⟩) (meth := k6m0) (c := k6c0) (by decide +kernel) rfl rfl rfl (by decide +kernel)
set_option maxRecDepth 65536 in
theorem w_c4 : (Jvm.Cond.code ({ cls := "java/lang/Enum", name := "ordinal", desc := "()I" } : Jvm.MethodName) jdk_37_method_2_code (1 : Nat) (Option.some Jvm.ClassFile.FieldType.int)).before args0 about1 = true := code_word (m := ⟨5, 0⟩) (meth := k5m0) (c := k5c0) (by decide +kernel) rfl rfl rfl (by decide +kernel)
set_option maxRecDepth 65536 in
theorem w_c5 : (Jvm.Cond.code ({ cls := "com/example/ophion/ophion/runtime/CompareOp", name := "holds", desc := "(I)Z" } : Jvm.MethodName) prog_5_method_7_code (2 : Nat) (Option.some Jvm.ClassFile.FieldType.boolean)).before args0 about1 = true := code_word (m := ⟨6, 1⟩) (meth := k6m1) (c := k6c1) (by decide +kernel) rfl rfl rfl (by decide +kernel)
def codes1 : List Jvm.Cond := [Jvm.Cond.code x code maxLocals ret, Jvm.Cond.code ({ cls := "com/example/ophion/ophion/runtime/CompareOpSwappedPinLaw", name := "pick", desc := "(I)Lcom/example/ophion/ophion/runtime/CompareOp;" } : Jvm.MethodName) method_2_code (1 : Nat) (Option.some (Jvm.ClassFile.FieldType.object "com/example/ophion/ophion/runtime/CompareOp")), Jvm.Cond.code ({ cls := "com/example/ophion/ophion/runtime/CompareOpSwappedPinLaw", name := "mirror", desc := "(I)I" } : Jvm.MethodName) method_3_code (1 : Nat) (Option.some Jvm.ClassFile.FieldType.int), Jvm.Cond.code ({ cls := "com/example/ophion/ophion/runtime/CompareOp", name := "swapped", desc := "()Lcom/example/ophion/ophion/runtime/CompareOp;" } : Jvm.MethodName) prog_5_method_6_code (1 : Nat) (Option.some (Jvm.ClassFile.FieldType.object "com/example/ophion/ophion/runtime/CompareOp")), Jvm.Cond.code ({ cls := "java/lang/Enum", name := "ordinal", desc := "()I" } : Jvm.MethodName) jdk_37_method_2_code (1 : Nat) (Option.some Jvm.ClassFile.FieldType.int), Jvm.Cond.code ({ cls := "com/example/ophion/ophion/runtime/CompareOp", name := "holds", desc := "(I)Z" } : Jvm.MethodName) prog_5_method_7_code (2 : Nat) (Option.some Jvm.ClassFile.FieldType.boolean)]
set_option maxRecDepth 65536 in
theorem codes_eq : words1.filter isCode = codes1 := rfl
theorem w_codes : ∀ c ∈ words1.filter isCode, c.before args0 about1 = true := by
  rw [codes_eq]
  intro c hc
  simp only [codes1, List.mem_cons, List.not_mem_nil, or_false] at hc
  rcases hc with rfl | rfl | rfl | rfl | rfl | rfl
  · exact w_c0
  · exact w_c1
  · exact w_c2
  · exact w_c3
  · exact w_c4
  · exact w_c5
set_option maxRecDepth 65536 in
theorem w_t1 : (words1.take 24).all (fun c => isCode c || c.before args0 about1) = true := by decide +kernel
set_option maxRecDepth 65536 in
theorem w_t2 : (words1.drop 24).all (fun c => isCode c || c.before args0 about1) = true := by decide +kernel
theorem w_tables : (allAtoms (Jvm.Cond.code x code maxLocals ret :: tables_1)).before args0 about1 = true := by
  rw [allAtoms_all]
  show words1.all (fun c => c.before args0 about1) = true
  refine all_split ?_ w_codes
  rw [← List.take_append_drop 24 words1, List.all_append, w_t1, w_t2]
  rfl
set_option maxRecDepth 65536 in
theorem w_case : (Jvm.Cond.and given_1 narrow_1).before args0 about1 = true := by decide +kernel
theorem w_applies : (headSpec (Jvm.Cond.code x code maxLocals ret :: tables_1) room_1).applies x e0.platform about1 = true :=
  (Spec.applies_iff w_frames).mpr ⟨w_running, w_runnable, w_alone, w_named, w_hears, w_ripe, w_room, w_tables⟩
theorem atStart : AtStart classFile x code maxLocals ret World_1 tables_1 room_1 Calls_1 rest_1 Pre_1 launch0 p0 e0 about1 theMethod args0 below0 :=
  ⟨lists_1, trivial, launch0.admits_env _ _ _, launch0.least_env, fairChoices_fair.cas, fairChoices_fair.clock, w_frames, w_args, w_heap, w_applies, trivial, trivial, w_case⟩
end start1
theorem witness_1 : WitnessClaimed_1 := ⟨start1.p0, start1.e0, start1.about1, start1.theMethod, start1.args0, start1.below0, start1.atStart⟩
end Jvm.Pilot.@@N@@
