import JvmDerived
import JvmDerived.Pilot.@@N@@Statement
import JvmDerived.Pilot.@@N@@Code
set_option linter.unusedVariables false
set_option linter.unusedSimpArgs false
namespace Jvm.RoadKit
open Sem ClassFile Op Lib Jvm.Stand Jvm.Free Jvm.LawKit
section New
variable {p : Program} {l : Launch} {e : Env} {R : Room} {s : State} {m : MethodId} {args : Array Value} {below : List Frame} {meth : Method} {c : Code} {T : State} {locs : List Loc} {cells slots : Nat}
theorem retI (X : Stand p l e R s m args below meth c T locs cells slots) (hx : p.tables.exec = Jvm.exec) {pc : Nat} {Ls : Array Slot} {z : Int32} {rest : List Value} (hret : meth.sig.returnType = some .int) (hd : decode c.code pc = .ok (.ireturn, 1)) {fs : List Frame}
    (hl : ∀ (f : JFrame) (acts : List Action), f.method = m → f.locked = none → f.entered = [] → (doReturn e (T.setTop f) acts (some (.int z))).1 = T.setFrames fs) : Steps p.tables e below (T.setTop (mkF m pc Ls (.int z :: rest))) (T.setFrames fs) := by
  have hm' : T.vm.method? m = some meth := X.method'
  have hn : narrow .int (.int z) = .int z := rfl
  show Steps p.tables e below (T.setTop { method := m, pc := pc, locals := Ls, stack := _ :: rest, locked := none }) _
  jvm_step X.here [X.here.top, hx, hd, hm', hret, hn]
  first | (intro acts; rw [hl _ acts rfl rfl rfl]) | rw [hl _ _ rfl rfl rfl]
  exact Steps.refl _
end New
end Jvm.RoadKit
namespace Jvm.Pilot.@@N@@
open Jvm Jvm.ClassFile Sem Op Lib Jvm.Free Jvm.Stand Jvm.LawKit Jvm.RoadKit Bundle Jvm.Pilot.@@N@@.Jvm.D
theorem wd {Z : State} {a0 : Array Value} (hw : ∀ d ∈ tables_1, d.before a0 Z = true) (i : Nat) {d : Jvm.Cond} (h : tables_1[i]? = some d) : d.before a0 Z = true := hw _ (List.mem_of_getElem? h)
abbrev jv (x : Int64) : Slot := .val (.long x)
/-- from A the run comes to an end that R speaks of -/
abbrev own_Go (tb : Tables) (e : Env) (below : List Frame) (A : State) (R : State → Outcome → Prop) : Prop := ∃ s₂ o, Steps tb e below A s₂ ∧ R s₂ o
theorem own_go {tb : Tables} {e : Env} {below : List Frame} {A : State} {R : State → Outcome → Prop} (h : own_Go tb e below A R) : ∃ s₂ o, Steps tb e below A s₂ ∧ R s₂ o := h
theorem own_lift {tb : Tables} {e : Env} {below : List Frame} {A B : State} {R : State → Outcome → Prop} (h : ∀ t, Steps tb e below A t → Steps tb e below B t) (k : own_Go tb e below A R) : own_Go tb e below B R := by
  obtain ⟨t, o, k1, k2⟩ := k
  exact ⟨t, o, h t k1, k2⟩
theorem own_plain {Z : State} {h : Heap} {a : Addr} {C : String} (F : Exa Z h a C) : ∃ c : Cell, h[a]? = some c ∧ c.vm.isStatics = false := by
  obtain ⟨c, _, h1, -, -, h4, -⟩ := F
  exact ⟨c, h1, h4⟩
theorem own_Arr_keep {Z : State} {h h' : Heap} {a : Addr} {c : Cell} {ty : FieldType} {ws : List Addr} (F : Arr Z h a c ty) (K : Keep h h' ws) (q : a ∉ ws) : Arr Z h' a c ty := ⟨K.2.1 a c F.1 q, F.2⟩
theorem own_asymm {a b : Int32} (h : a < b) : ¬ b < a := Int32.not_lt.mpr (Int32.le_of_lt h)
theorem own_Sta_keep {Z : State} {h h' : Heap} {C n d : String} {v : Value} {ws : List Addr} (F : Sta Z h C n d v) (K : Keep h h' ws) (q : ∀ x ∈ ws, ∃ c : Cell, h[x]? = some c ∧ c.vm.isStatics = false) : Sta Z h' C n d v := by
  obtain ⟨cf, i, k, f, st, cell, h1, h2, h3, h4, h5, h6, h7⟩ := F
  refine ⟨cf, i, k, f, st, cell, h1, h2, h3, h4, K.2.1 st cell h5 fun z => ?_, h6, h7⟩
  obtain ⟨c, g1, g2⟩ := q st z
  cases h5.symm.trans g1
  rw [h6] at g2
  cases g2
theorem own_fld {args : Array Value} {s : State} {t : Term} {a : Addr} {C n d : String} {k : Int32} (ev : t.eval args s none [] s = some (.ref a)) (h : (Cond.eq (.field t C n d) (.int k)).value args s none s [] = some true) : Fld s s.heap a C n d (.int k) := by
  obtain ⟨x, y, hx, hy, -, hk⟩ := cmp_v (Or.inl h)
  obtain rfl : y = .int k := (Option.some.inj ((Term.int_eval k).symm.trans hy)).symm
  obtain ⟨z, rfl⟩ := hk
  have q : z = k := gotT (Cond.eq_ints hx hy) h
  subst q
  rw [fld_at ev] at hx
  exact Fld.start hx
theorem own_ushr31 (x : Int32) : ((x.toUInt32 >>> ((31 : Int32) &&& 31).toUInt32).toInt32) = if x < 0 then 1 else 0 := by
  have e : ((31 : Int32) &&& 31).toUInt32 = 31 := by decide
  rw [e]
  have hx := rng32 x
  have h1 : (x.toUInt32 >>> 31).toNat = x.toUInt32.toNat / 2 ^ 31 := by
    rw [UInt32.toNat_shiftRight, Nat.shiftRight_eq_div_pow]
    rfl
  have h2 : x.toInt = if 2 * x.toUInt32.toNat < 2 ^ 32 then (x.toUInt32.toNat : Int) else (x.toUInt32.toNat : Int) - (2 ^ 32 : Nat) := BitVec.toInt_eq_toNat_cond x.toBitVec
  have h3 : x.toUInt32.toNat < 2 ^ 32 := x.toUInt32.toNat_lt
  have h4 : (x.toUInt32 >>> 31) = if x < 0 then 1 else 0 := by
    apply UInt32.toNat_inj.mp
    rw [h1]
    by_cases c : x < 0
    · rw [if_pos c]
      rw [Int32.lt_iff_toInt_lt] at c
      have z0 : (0 : Int32).toInt = 0 := rfl
      rw [z0] at c
      have : (1 : UInt32).toNat = 1 := rfl
      split at h2 <;> omega
    · rw [if_neg c]
      rw [Int32.lt_iff_toInt_lt] at c
      have z0 : (0 : Int32).toInt = 0 := rfl
      rw [z0] at c
      have : (0 : UInt32).toNat = 0 := rfl
      split at h2 <;> omega
  rw [h4]
  split <;> rfl
theorem own_cases (p0 : Int32) :
    (((p0.toUInt32 >>> ((31 : Int32) &&& 31).toUInt32).toInt32) = (1 : Int32) ∧ ¬ (p0 = (0 : Int32)) ∧ p0 < (0 : Int32) ∧ ¬ ((0 : Int32) < p0)) ∨ (¬ (((p0.toUInt32 >>> ((31 : Int32) &&& 31).toUInt32).toInt32) = (1 : Int32)) ∧ p0 = (0 : Int32) ∧ ¬ (p0 < (0 : Int32)) ∧ ¬ ((0 : Int32) < p0)) ∨ (¬ (((p0.toUInt32 >>> ((31 : Int32) &&& 31).toUInt32).toInt32) = (1 : Int32)) ∧ ¬ (p0 = (0 : Int32)) ∧ ¬ (p0 < (0 : Int32)) ∧ (0 : Int32) < p0) := by
  rw [own_ushr31]
  by_cases c : p0 < 0
  · refine Or.inl ⟨by rw [if_pos c], fun q => ?_, c, own_asymm c⟩
    rw [q] at c; exact absurd c (by decide)
  · rw [if_neg c]
    by_cases d : p0 = 0
    · exact Or.inr (Or.inl ⟨by decide, d, c, by rw [d]; decide⟩)
    · refine Or.inr (Or.inr ⟨by decide, d, c, ?_⟩)
      rw [Int32.lt_iff_toInt_lt] at c ⊢
      have z0 : (0 : Int32).toInt = 0 := rfl
      have d' : p0.toInt ≠ (0 : Int32).toInt := fun q => d (Int32.toInt_inj.mp q)
      rw [z0] at c d' ⊢
      omega
theorem pn_0 : plainName "java/lang/Enum" = true := by first | (simp [plainName, overriddenIn]; done) | decide +kernel
theorem d1_0 : decode jdk_37_method_2_code 0 = .ok (.aload_n 0, 1) := by decide +kernel
theorem d1_1 : decode jdk_37_method_2_code 1 = .ok (.getfield 7, 3) := by decide +kernel
theorem d1_4 : decode jdk_37_method_2_code 4 = .ok (.ireturn, 1) := by decide +kernel
def Q_rmOrd (Z : State) (a1 : Addr) (w1 : Int32) (h0 : Heap) (n0 : Nat) (v : Option Value) (h : Heap) (L : List Loc) : Prop := v = some (.int w1) ∧ Fr n0 L ∧ h = h0
theorem ef_rmOrd (m : MethodId) (x0 : Addr) : entryFrame m #[(.ref x0)] 1 = mkF m 0 #[.val (.ref x0)] [] := by first | (simp [entryFrame, mkF, argsToLocals, Value.category]; done) | rfl
set_option maxRecDepth 65536 in
set_option maxHeartbeats 40000000 in
theorem rmOrd (l : Launch) (Z : State) (a0 : Array Value) (hw : ∀ d ∈ tables_1, d.before a0 Z = true) (ws : List Jvm.Cond) (a1 : Addr) (w1 : Int32) (h0 : Heap) (n0 : Nat) (Z0 : n0 ≤ h0.size) (F1 : Fld Z h0 a1 "java/lang/Enum" "ordinal" "I" (.int w1))  :
    MetFree l (⟨"java/lang/Enum", "ordinal", "()I"⟩ : MethodName) (head1 (Jvm.Cond.code (⟨"java/lang/Enum", "ordinal", "()I"⟩ : MethodName) jdk_37_method_2_code 1 (some .int) :: ws) ({ frames := 0, cells := 0, slots := 0, locals := 0 } : Room)) (fun a U => a = #[(.ref a1)] ∧ Z.Warmed39 U.vm ∧ U.heap = h0) (fun _ _ _ _ _ => True) (fun _ U o U' => ∃ v L, o = .returned v ∧ Q_rmOrd Z a1 w1 h0 n0 v U'.heap L ∧ FrameEnd U o U' L ({ frames := 0, cells := 0, slots := 0, locals := 0 } : Room).cells ({ frames := 0, cells := 0, slots := 0, locals := 0 } : Room).slots) := by
  refine MetFree.of_bodySF (plainFor_of_name pn_0) hisR ?_
  intro p e s m args below meth c s₁ Bd hml0 hP hK
  obtain ⟨rfl, hZ, hh⟩ := hP
  have hx := Bd.exec
  have hby := Bd.bytes
  have hml : c.maxLocals = 1 := hml0
  have hown : s.vm.findClass "java/lang/Enum" = some m.cls := findClass_of_methodNamed Bd.named
  have hnm := (name_of_methodNamed Bd.named Bd.method).1
  have X0 : Stand p l e ({ frames := 0, cells := 0, slots := 0, locals := 0 } : Room) s m #[(.ref a1)] below meth c s₁ [] 0 0 := Stand.of_body Bd
  have e0 : s₁.heap = h0 := by rw [← hh, Bd.state]; rfl
  have N0 := Fr.nil n0
  refine own_go (own_lift (fun t k => castTop (ef_rmOrd m a1) k) ?_)
  show own_Go p.tables e below (s₁.setTop (mkF m 0 #[rv a1] [])) _
  have sg1 : ∀ t, Steps p.tables e below (s₁.setTop (mkF m 1 #[rv a1] [(.ref a1)])) t → Steps p.tables e below (s₁.setTop (mkF m 0 #[rv a1] [])) t := by
    intro t k
    refine XS.aloadN X0.here hx rfl (hb hby d1_0) rfl rfl ?_
    show Steps p.tables e below (s₁.setTop (mkF m 1 #[rv a1] [(.ref a1)])) _
    exact k
  refine own_lift sg1 ?_
  show own_Go p.tables e below (s₁.setTop (mkF m 1 #[rv a1] [(.ref a1)])) _
  obtain ⟨T2, X2, e2, st2⟩ := getF X0 hx hZ hown (host := "") (Or.inl (wd hw 15 rfl)) Via.refl e0 F1 (g := (mkF m 1 #[rv a1] [(.ref a1)])) rfl rfl (hb hby d1_1)
  refine own_lift st2 ?_
  show own_Go p.tables e below (T2.setTop (mkF m 4 #[rv a1] [(.int w1)])) _
  obtain ⟨fs, hr, hrun, hended, hW, hsame⟩ := X2.leave (v := some (.int w1)) (fun h => by rw [Bd.returns] at h; cases h)
  refine ⟨_, _, ?_, hrun, hended, _, _, rfl, ?_, ⟨_, rfl⟩, hW, hsame.mono (by decide) (by decide)⟩
  · exact retI X2 hx Bd.returns (hb hby d1_4) hr
  · show Q_rmOrd Z a1 w1 h0 n0 _ T2.heap _
    rw [e2]
    exact ⟨rfl, N0, rfl⟩
theorem pn_1 : plainName "com/example/ophion/ophion/runtime/CompareOp" = true := by first | (simp [plainName, overriddenIn]; done) | decide +kernel
theorem d2_0 : decode prog_5_method_7_code 0 = .ok (.aload_n 0, 1) := by decide +kernel
theorem d2_1 : decode prog_5_method_7_code 1 = .ok (.invokevirtual 48, 3) := by decide +kernel
theorem pd_0 : parseMethodDescriptor "()I" = some ⟨[], some .int⟩ := by decide +kernel
theorem d2_4 : decode prog_5_method_7_code 4 = .ok (.tableswitch 86 0 4 #[36, 46, 56, 66, 76], 36) := by decide +kernel
theorem d2_40 : decode prog_5_method_7_code 40 = .ok (.iload_n 1, 1) := by decide +kernel
theorem d2_41 : decode prog_5_method_7_code 41 = .ok (.ifCond .ge 7, 3) := by decide +kernel
theorem d2_44 : decode prog_5_method_7_code 44 = .ok (.iconst 1, 1) := by decide +kernel
theorem d2_45 : decode prog_5_method_7_code 45 = .ok (.goto 4, 3) := by decide +kernel
theorem d2_49 : decode prog_5_method_7_code 49 = .ok (.ireturn, 1) := by decide +kernel
def Q_rmHolds0t (Z : State) (a1 : Addr) (p1 : Int32) (h0 : Heap) (n0 : Nat) (v : Option Value) (h : Heap) (L : List Loc) : Prop := v = some (.int 1) ∧ Fr n0 L ∧ h = h0
theorem ef_rmHolds0t (m : MethodId) (x0 : Addr) (x1 : Int32) : entryFrame m #[(.ref x0), (.int x1)] 2 = mkF m 0 #[.val (.ref x0), .val (.int x1)] [] := by first | (simp [entryFrame, mkF, argsToLocals, Value.category]; done) | rfl
set_option maxRecDepth 65536 in
set_option maxHeartbeats 40000000 in
theorem rmHolds0t (l : Launch) (Z : State) (a0 : Array Value) (hw : ∀ d ∈ tables_1, d.before a0 Z = true) (ws : List Jvm.Cond) (a1 : Addr) (p1 : Int32) (h0 : Heap) (n0 : Nat) (Z0 : n0 ≤ h0.size) (F1 : Fld Z h0 a1 "java/lang/Enum" "ordinal" "I" (.int 0)) (E1 : Exa Z h0 a1 "com/example/ophion/ophion/runtime/CompareOp") (c1 : p1 < (0 : Int32)) :
    MetFree l (⟨"com/example/ophion/ophion/runtime/CompareOp", "holds", "(I)Z"⟩ : MethodName) (head1 (Jvm.Cond.code (⟨"com/example/ophion/ophion/runtime/CompareOp", "holds", "(I)Z"⟩ : MethodName) prog_5_method_7_code 2 (some .boolean) :: ws) ({ frames := 1, cells := 0, slots := 0, locals := 12 } : Room)) (fun a U => a = #[(.ref a1), (.int p1)] ∧ Z.Warmed39 U.vm ∧ U.heap = h0) (fun _ _ _ _ _ => True) (fun _ U o U' => ∃ v L, o = .returned v ∧ Q_rmHolds0t Z a1 p1 h0 n0 v U'.heap L ∧ FrameEnd U o U' L ({ frames := 1, cells := 0, slots := 0, locals := 12 } : Room).cells ({ frames := 1, cells := 0, slots := 0, locals := 12 } : Room).slots) := by
  refine MetFree.of_bodySF (plainFor_of_name pn_1) hisR ?_
  intro p e s m args below meth c s₁ Bd hml0 hP hK
  obtain ⟨rfl, hZ, hh⟩ := hP
  have hx := Bd.exec
  have hby := Bd.bytes
  have hml : c.maxLocals = 2 := hml0
  have hown : s.vm.findClass "com/example/ophion/ophion/runtime/CompareOp" = some m.cls := findClass_of_methodNamed Bd.named
  have hnm := (name_of_methodNamed Bd.named Bd.method).1
  have X0 : Stand p l e ({ frames := 1, cells := 0, slots := 0, locals := 12 } : Room) s m #[(.ref a1), (.int p1)] below meth c s₁ [] 0 0 := Stand.of_body Bd
  have e0 : s₁.heap = h0 := by rw [← hh, Bd.state]; rfl
  have N0 := Fr.nil n0
  refine own_go (own_lift (fun t k => castTop (ef_rmHolds0t m a1 p1) k) ?_)
  show own_Go p.tables e below (s₁.setTop (mkF m 0 #[rv a1, iv p1] [])) _
  have sg1 : ∀ t, Steps p.tables e below (s₁.setTop (mkF m 1 #[rv a1, iv p1] [(.ref a1)])) t → Steps p.tables e below (s₁.setTop (mkF m 0 #[rv a1, iv p1] [])) t := by
    intro t k
    refine XS.aloadN X0.here hx rfl (hb hby d2_0) rfl rfl ?_
    show Steps p.tables e below (s₁.setTop (mkF m 1 #[rv a1, iv p1] [(.ref a1)])) _
    exact k
  refine own_lift sg1 ?_
  show own_Go p.tables e below (s₁.setTop (mkF m 1 #[rv a1, iv p1] [(.ref a1)])) _
  obtain ⟨cq2, kq2, q2a, q2b, q2c⟩ := isOf hZ e0 E1
  obtain ⟨_, _, ⟨T2, Lx2, kx2, nx2⟩, -, X2, ⟨Lc2, hQ2, lx2, yx2, zx2⟩, st2⟩ := X0.virtualBackUp hx (x := (⟨"com/example/ophion/ophion/runtime/CompareOp", "ordinal", "()I"⟩ : MethodName)) (y := (⟨"java/lang/Enum", "ordinal", "()I"⟩ : MethodName)) hown (mvT hZ (wd hw 8 rfl)) (mvT hZ (wd hw 9 rfl)) (mvT hZ (wd hw 10 rfl)) (by decide) (mvT hZ (wd hw 12 rfl)) (mvT hZ (wd hw 11 rfl)) (backOf (W := 0) (rmOrd l Z a0 hw [] a1 (0 : Int32) h0 n0 Z0 F1) hZ (wd hw 14 rfl) (wd hw 13 rfl) (by decide) (by decide)) q2a q2c (g := (mkF m 1 #[rv a1, iv p1] [(.ref a1)])) rfl (by rw [hml]; rfl) (Steps.refl _) (argsL := []) (rest := []) (lenOf pd_0 rfl) rfl (by show 2 * 0 + _ ≤ _; exact Nat.le_of_eq rfl) (hb hby d2_1) (fun _ _ => ⟨rfl, e0, (by decide : 0 + 0 ≤ _), (by decide : 0 + 0 ≤ _)⟩)
  dsimp only [Pt.U, Pt.locs, Pt.cells, Pt.slots] at X2 lx2 yx2 zx2 st2 hQ2
  subst lx2 yx2 zx2
  obtain ⟨rfl, N2q, e2⟩ := hQ2
  have N2 := Fr.app N0 N2q
  refine own_lift (fun t k => st2.trans k) ?_
  show own_Go p.tables e below (T2.setTop (mkF m 4 #[rv a1, iv p1] [(.int 0)])) _
  have sg3 : ∀ t, Steps p.tables e below (T2.setTop (mkF m 49 #[rv a1, iv p1] [(.int 1)])) t → Steps p.tables e below (T2.setTop (mkF m 4 #[rv a1, iv p1] [(.int 0)])) t := by
    intro t k
    refine XS.tswIn X2.here hx rfl (pc0 := 4) (pc' := 40) rfl (hb hby d2_4) rfl (by decide) (o := 36) (by decide) (by decide) (by decide) ?_
    show Steps p.tables e below (T2.setTop (mkF m 40 #[rv a1, iv p1] [])) _
    refine XS.iloadN X2.here hx rfl (hb hby d2_40) rfl ?_
    show Steps p.tables e below (T2.setTop (mkF m 41 #[rv a1, iv p1] [(.int p1)])) _
    refine XS.ifNo X2.here hx rfl (hb hby d2_41) rfl ((if0 _ _).trans (tlt c1).2.1) ?_
    show Steps p.tables e below (T2.setTop (mkF m 44 #[rv a1, iv p1] [])) _
    refine XS.iconst X2.here hx rfl (hb hby d2_44) ?_
    show Steps p.tables e below (T2.setTop (mkF m 45 #[rv a1, iv p1] [(.int 1)])) _
    refine XS.goto X2.here hx rfl (pc0 := 45) (pc' := 49) rfl (hb hby d2_45) (by decide) (by decide) ?_
    show Steps p.tables e below (T2.setTop (mkF m 49 #[rv a1, iv p1] [(.int 1)])) _
    exact k
  refine own_lift sg3 ?_
  show own_Go p.tables e below (T2.setTop (mkF m 49 #[rv a1, iv p1] [(.int 1)])) _
  obtain ⟨fs, hr, hrun, hended, hW, hsame⟩ := X2.leave (v := some (.int 1)) (fun h => by rw [Bd.returns] at h; cases h)
  refine ⟨_, _, ?_, hrun, hended, _, _, rfl, ?_, ⟨_, rfl⟩, hW, hsame.mono (by decide) (by decide)⟩
  · exact retN X2 hx (t := .boolean) Bd.returns (by simp) (hb hby d2_49) hr
  · show Q_rmHolds0t Z a1 p1 h0 n0 _ T2.heap _
    rw [e2]
    exact ⟨rfl, N2, rfl⟩
theorem d2_48 : decode prog_5_method_7_code 48 = .ok (.iconst 0, 1) := by decide +kernel
def Q_rmHolds0f (Z : State) (a1 : Addr) (p1 : Int32) (h0 : Heap) (n0 : Nat) (v : Option Value) (h : Heap) (L : List Loc) : Prop := v = some (.int 0) ∧ Fr n0 L ∧ h = h0
theorem ef_rmHolds0f (m : MethodId) (x0 : Addr) (x1 : Int32) : entryFrame m #[(.ref x0), (.int x1)] 2 = mkF m 0 #[.val (.ref x0), .val (.int x1)] [] := by first | (simp [entryFrame, mkF, argsToLocals, Value.category]; done) | rfl
set_option maxRecDepth 65536 in
set_option maxHeartbeats 40000000 in
theorem rmHolds0f (l : Launch) (Z : State) (a0 : Array Value) (hw : ∀ d ∈ tables_1, d.before a0 Z = true) (ws : List Jvm.Cond) (a1 : Addr) (p1 : Int32) (h0 : Heap) (n0 : Nat) (Z0 : n0 ≤ h0.size) (F1 : Fld Z h0 a1 "java/lang/Enum" "ordinal" "I" (.int 0)) (E1 : Exa Z h0 a1 "com/example/ophion/ophion/runtime/CompareOp") (c1 : ¬ (p1 < (0 : Int32))) :
    MetFree l (⟨"com/example/ophion/ophion/runtime/CompareOp", "holds", "(I)Z"⟩ : MethodName) (head1 (Jvm.Cond.code (⟨"com/example/ophion/ophion/runtime/CompareOp", "holds", "(I)Z"⟩ : MethodName) prog_5_method_7_code 2 (some .boolean) :: ws) ({ frames := 1, cells := 0, slots := 0, locals := 12 } : Room)) (fun a U => a = #[(.ref a1), (.int p1)] ∧ Z.Warmed39 U.vm ∧ U.heap = h0) (fun _ _ _ _ _ => True) (fun _ U o U' => ∃ v L, o = .returned v ∧ Q_rmHolds0f Z a1 p1 h0 n0 v U'.heap L ∧ FrameEnd U o U' L ({ frames := 1, cells := 0, slots := 0, locals := 12 } : Room).cells ({ frames := 1, cells := 0, slots := 0, locals := 12 } : Room).slots) := by
  refine MetFree.of_bodySF (plainFor_of_name pn_1) hisR ?_
  intro p e s m args below meth c s₁ Bd hml0 hP hK
  obtain ⟨rfl, hZ, hh⟩ := hP
  have hx := Bd.exec
  have hby := Bd.bytes
  have hml : c.maxLocals = 2 := hml0
  have hown : s.vm.findClass "com/example/ophion/ophion/runtime/CompareOp" = some m.cls := findClass_of_methodNamed Bd.named
  have hnm := (name_of_methodNamed Bd.named Bd.method).1
  have X0 : Stand p l e ({ frames := 1, cells := 0, slots := 0, locals := 12 } : Room) s m #[(.ref a1), (.int p1)] below meth c s₁ [] 0 0 := Stand.of_body Bd
  have e0 : s₁.heap = h0 := by rw [← hh, Bd.state]; rfl
  have N0 := Fr.nil n0
  refine own_go (own_lift (fun t k => castTop (ef_rmHolds0f m a1 p1) k) ?_)
  show own_Go p.tables e below (s₁.setTop (mkF m 0 #[rv a1, iv p1] [])) _
  have sg1 : ∀ t, Steps p.tables e below (s₁.setTop (mkF m 1 #[rv a1, iv p1] [(.ref a1)])) t → Steps p.tables e below (s₁.setTop (mkF m 0 #[rv a1, iv p1] [])) t := by
    intro t k
    refine XS.aloadN X0.here hx rfl (hb hby d2_0) rfl rfl ?_
    show Steps p.tables e below (s₁.setTop (mkF m 1 #[rv a1, iv p1] [(.ref a1)])) _
    exact k
  refine own_lift sg1 ?_
  show own_Go p.tables e below (s₁.setTop (mkF m 1 #[rv a1, iv p1] [(.ref a1)])) _
  obtain ⟨cq2, kq2, q2a, q2b, q2c⟩ := isOf hZ e0 E1
  obtain ⟨_, _, ⟨T2, Lx2, kx2, nx2⟩, -, X2, ⟨Lc2, hQ2, lx2, yx2, zx2⟩, st2⟩ := X0.virtualBackUp hx (x := (⟨"com/example/ophion/ophion/runtime/CompareOp", "ordinal", "()I"⟩ : MethodName)) (y := (⟨"java/lang/Enum", "ordinal", "()I"⟩ : MethodName)) hown (mvT hZ (wd hw 8 rfl)) (mvT hZ (wd hw 9 rfl)) (mvT hZ (wd hw 10 rfl)) (by decide) (mvT hZ (wd hw 12 rfl)) (mvT hZ (wd hw 11 rfl)) (backOf (W := 0) (rmOrd l Z a0 hw [] a1 (0 : Int32) h0 n0 Z0 F1) hZ (wd hw 14 rfl) (wd hw 13 rfl) (by decide) (by decide)) q2a q2c (g := (mkF m 1 #[rv a1, iv p1] [(.ref a1)])) rfl (by rw [hml]; rfl) (Steps.refl _) (argsL := []) (rest := []) (lenOf pd_0 rfl) rfl (by show 2 * 0 + _ ≤ _; exact Nat.le_of_eq rfl) (hb hby d2_1) (fun _ _ => ⟨rfl, e0, (by decide : 0 + 0 ≤ _), (by decide : 0 + 0 ≤ _)⟩)
  dsimp only [Pt.U, Pt.locs, Pt.cells, Pt.slots] at X2 lx2 yx2 zx2 st2 hQ2
  subst lx2 yx2 zx2
  obtain ⟨rfl, N2q, e2⟩ := hQ2
  have N2 := Fr.app N0 N2q
  refine own_lift (fun t k => st2.trans k) ?_
  show own_Go p.tables e below (T2.setTop (mkF m 4 #[rv a1, iv p1] [(.int 0)])) _
  have sg3 : ∀ t, Steps p.tables e below (T2.setTop (mkF m 49 #[rv a1, iv p1] [(.int 0)])) t → Steps p.tables e below (T2.setTop (mkF m 4 #[rv a1, iv p1] [(.int 0)])) t := by
    intro t k
    refine XS.tswIn X2.here hx rfl (pc0 := 4) (pc' := 40) rfl (hb hby d2_4) rfl (by decide) (o := 36) (by decide) (by decide) (by decide) ?_
    show Steps p.tables e below (T2.setTop (mkF m 40 #[rv a1, iv p1] [])) _
    refine XS.iloadN X2.here hx rfl (hb hby d2_40) rfl ?_
    show Steps p.tables e below (T2.setTop (mkF m 41 #[rv a1, iv p1] [(.int p1)])) _
    refine XS.ifYes X2.here hx rfl (pc0 := 41) (pc' := 48) rfl (hb hby d2_41) rfl ((if0 _ _).trans (flt c1).2.1) (by decide) (by decide) ?_
    show Steps p.tables e below (T2.setTop (mkF m 48 #[rv a1, iv p1] [])) _
    refine XS.iconst X2.here hx rfl (hb hby d2_48) ?_
    show Steps p.tables e below (T2.setTop (mkF m 49 #[rv a1, iv p1] [(.int 0)])) _
    exact k
  refine own_lift sg3 ?_
  show own_Go p.tables e below (T2.setTop (mkF m 49 #[rv a1, iv p1] [(.int 0)])) _
  obtain ⟨fs, hr, hrun, hended, hW, hsame⟩ := X2.leave (v := some (.int 0)) (fun h => by rw [Bd.returns] at h; cases h)
  refine ⟨_, _, ?_, hrun, hended, _, _, rfl, ?_, ⟨_, rfl⟩, hW, hsame.mono (by decide) (by decide)⟩
  · exact retN X2 hx (t := .boolean) Bd.returns (by simp) (hb hby d2_49) hr
  · show Q_rmHolds0f Z a1 p1 h0 n0 _ T2.heap _
    rw [e2]
    exact ⟨rfl, N2, rfl⟩
theorem d2_50 : decode prog_5_method_7_code 50 = .ok (.iload_n 1, 1) := by decide +kernel
theorem d2_51 : decode prog_5_method_7_code 51 = .ok (.ifCond .gt 7, 3) := by decide +kernel
theorem d2_58 : decode prog_5_method_7_code 58 = .ok (.iconst 0, 1) := by decide +kernel
theorem d2_59 : decode prog_5_method_7_code 59 = .ok (.ireturn, 1) := by decide +kernel
def Q_rmHolds1t (Z : State) (a1 : Addr) (p1 : Int32) (h0 : Heap) (n0 : Nat) (v : Option Value) (h : Heap) (L : List Loc) : Prop := v = some (.int 0) ∧ Fr n0 L ∧ h = h0
theorem ef_rmHolds1t (m : MethodId) (x0 : Addr) (x1 : Int32) : entryFrame m #[(.ref x0), (.int x1)] 2 = mkF m 0 #[.val (.ref x0), .val (.int x1)] [] := by first | (simp [entryFrame, mkF, argsToLocals, Value.category]; done) | rfl
set_option maxRecDepth 65536 in
set_option maxHeartbeats 40000000 in
theorem rmHolds1t (l : Launch) (Z : State) (a0 : Array Value) (hw : ∀ d ∈ tables_1, d.before a0 Z = true) (ws : List Jvm.Cond) (a1 : Addr) (p1 : Int32) (h0 : Heap) (n0 : Nat) (Z0 : n0 ≤ h0.size) (F1 : Fld Z h0 a1 "java/lang/Enum" "ordinal" "I" (.int 1)) (E1 : Exa Z h0 a1 "com/example/ophion/ophion/runtime/CompareOp") (c1 : (0 : Int32) < p1) :
    MetFree l (⟨"com/example/ophion/ophion/runtime/CompareOp", "holds", "(I)Z"⟩ : MethodName) (head1 (Jvm.Cond.code (⟨"com/example/ophion/ophion/runtime/CompareOp", "holds", "(I)Z"⟩ : MethodName) prog_5_method_7_code 2 (some .boolean) :: ws) ({ frames := 1, cells := 0, slots := 0, locals := 12 } : Room)) (fun a U => a = #[(.ref a1), (.int p1)] ∧ Z.Warmed39 U.vm ∧ U.heap = h0) (fun _ _ _ _ _ => True) (fun _ U o U' => ∃ v L, o = .returned v ∧ Q_rmHolds1t Z a1 p1 h0 n0 v U'.heap L ∧ FrameEnd U o U' L ({ frames := 1, cells := 0, slots := 0, locals := 12 } : Room).cells ({ frames := 1, cells := 0, slots := 0, locals := 12 } : Room).slots) := by
  refine MetFree.of_bodySF (plainFor_of_name pn_1) hisR ?_
  intro p e s m args below meth c s₁ Bd hml0 hP hK
  obtain ⟨rfl, hZ, hh⟩ := hP
  have hx := Bd.exec
  have hby := Bd.bytes
  have hml : c.maxLocals = 2 := hml0
  have hown : s.vm.findClass "com/example/ophion/ophion/runtime/CompareOp" = some m.cls := findClass_of_methodNamed Bd.named
  have hnm := (name_of_methodNamed Bd.named Bd.method).1
  have X0 : Stand p l e ({ frames := 1, cells := 0, slots := 0, locals := 12 } : Room) s m #[(.ref a1), (.int p1)] below meth c s₁ [] 0 0 := Stand.of_body Bd
  have e0 : s₁.heap = h0 := by rw [← hh, Bd.state]; rfl
  have N0 := Fr.nil n0
  refine own_go (own_lift (fun t k => castTop (ef_rmHolds1t m a1 p1) k) ?_)
  show own_Go p.tables e below (s₁.setTop (mkF m 0 #[rv a1, iv p1] [])) _
  have sg1 : ∀ t, Steps p.tables e below (s₁.setTop (mkF m 1 #[rv a1, iv p1] [(.ref a1)])) t → Steps p.tables e below (s₁.setTop (mkF m 0 #[rv a1, iv p1] [])) t := by
    intro t k
    refine XS.aloadN X0.here hx rfl (hb hby d2_0) rfl rfl ?_
    show Steps p.tables e below (s₁.setTop (mkF m 1 #[rv a1, iv p1] [(.ref a1)])) _
    exact k
  refine own_lift sg1 ?_
  show own_Go p.tables e below (s₁.setTop (mkF m 1 #[rv a1, iv p1] [(.ref a1)])) _
  obtain ⟨cq2, kq2, q2a, q2b, q2c⟩ := isOf hZ e0 E1
  obtain ⟨_, _, ⟨T2, Lx2, kx2, nx2⟩, -, X2, ⟨Lc2, hQ2, lx2, yx2, zx2⟩, st2⟩ := X0.virtualBackUp hx (x := (⟨"com/example/ophion/ophion/runtime/CompareOp", "ordinal", "()I"⟩ : MethodName)) (y := (⟨"java/lang/Enum", "ordinal", "()I"⟩ : MethodName)) hown (mvT hZ (wd hw 8 rfl)) (mvT hZ (wd hw 9 rfl)) (mvT hZ (wd hw 10 rfl)) (by decide) (mvT hZ (wd hw 12 rfl)) (mvT hZ (wd hw 11 rfl)) (backOf (W := 0) (rmOrd l Z a0 hw [] a1 (1 : Int32) h0 n0 Z0 F1) hZ (wd hw 14 rfl) (wd hw 13 rfl) (by decide) (by decide)) q2a q2c (g := (mkF m 1 #[rv a1, iv p1] [(.ref a1)])) rfl (by rw [hml]; rfl) (Steps.refl _) (argsL := []) (rest := []) (lenOf pd_0 rfl) rfl (by show 2 * 0 + _ ≤ _; exact Nat.le_of_eq rfl) (hb hby d2_1) (fun _ _ => ⟨rfl, e0, (by decide : 0 + 0 ≤ _), (by decide : 0 + 0 ≤ _)⟩)
  dsimp only [Pt.U, Pt.locs, Pt.cells, Pt.slots] at X2 lx2 yx2 zx2 st2 hQ2
  subst lx2 yx2 zx2
  obtain ⟨rfl, N2q, e2⟩ := hQ2
  have N2 := Fr.app N0 N2q
  refine own_lift (fun t k => st2.trans k) ?_
  show own_Go p.tables e below (T2.setTop (mkF m 4 #[rv a1, iv p1] [(.int 1)])) _
  have sg3 : ∀ t, Steps p.tables e below (T2.setTop (mkF m 59 #[rv a1, iv p1] [(.int 0)])) t → Steps p.tables e below (T2.setTop (mkF m 4 #[rv a1, iv p1] [(.int 1)])) t := by
    intro t k
    refine XS.tswIn X2.here hx rfl (pc0 := 4) (pc' := 50) rfl (hb hby d2_4) rfl (by decide) (o := 46) (by decide) (by decide) (by decide) ?_
    show Steps p.tables e below (T2.setTop (mkF m 50 #[rv a1, iv p1] [])) _
    refine XS.iloadN X2.here hx rfl (hb hby d2_50) rfl ?_
    show Steps p.tables e below (T2.setTop (mkF m 51 #[rv a1, iv p1] [(.int p1)])) _
    refine XS.ifYes X2.here hx rfl (pc0 := 51) (pc' := 58) rfl (hb hby d2_51) rfl ((if0 _ _).trans (tlt c1).2.2.1) (by decide) (by decide) ?_
    show Steps p.tables e below (T2.setTop (mkF m 58 #[rv a1, iv p1] [])) _
    refine XS.iconst X2.here hx rfl (hb hby d2_58) ?_
    show Steps p.tables e below (T2.setTop (mkF m 59 #[rv a1, iv p1] [(.int 0)])) _
    exact k
  refine own_lift sg3 ?_
  show own_Go p.tables e below (T2.setTop (mkF m 59 #[rv a1, iv p1] [(.int 0)])) _
  obtain ⟨fs, hr, hrun, hended, hW, hsame⟩ := X2.leave (v := some (.int 0)) (fun h => by rw [Bd.returns] at h; cases h)
  refine ⟨_, _, ?_, hrun, hended, _, _, rfl, ?_, ⟨_, rfl⟩, hW, hsame.mono (by decide) (by decide)⟩
  · exact retN X2 hx (t := .boolean) Bd.returns (by simp) (hb hby d2_59) hr
  · show Q_rmHolds1t Z a1 p1 h0 n0 _ T2.heap _
    rw [e2]
    exact ⟨rfl, N2, rfl⟩
theorem d2_54 : decode prog_5_method_7_code 54 = .ok (.iconst 1, 1) := by decide +kernel
theorem d2_55 : decode prog_5_method_7_code 55 = .ok (.goto 4, 3) := by decide +kernel
def Q_rmHolds1f (Z : State) (a1 : Addr) (p1 : Int32) (h0 : Heap) (n0 : Nat) (v : Option Value) (h : Heap) (L : List Loc) : Prop := v = some (.int 1) ∧ Fr n0 L ∧ h = h0
theorem ef_rmHolds1f (m : MethodId) (x0 : Addr) (x1 : Int32) : entryFrame m #[(.ref x0), (.int x1)] 2 = mkF m 0 #[.val (.ref x0), .val (.int x1)] [] := by first | (simp [entryFrame, mkF, argsToLocals, Value.category]; done) | rfl
set_option maxRecDepth 65536 in
set_option maxHeartbeats 40000000 in
theorem rmHolds1f (l : Launch) (Z : State) (a0 : Array Value) (hw : ∀ d ∈ tables_1, d.before a0 Z = true) (ws : List Jvm.Cond) (a1 : Addr) (p1 : Int32) (h0 : Heap) (n0 : Nat) (Z0 : n0 ≤ h0.size) (F1 : Fld Z h0 a1 "java/lang/Enum" "ordinal" "I" (.int 1)) (E1 : Exa Z h0 a1 "com/example/ophion/ophion/runtime/CompareOp") (c1 : ¬ ((0 : Int32) < p1)) :
    MetFree l (⟨"com/example/ophion/ophion/runtime/CompareOp", "holds", "(I)Z"⟩ : MethodName) (head1 (Jvm.Cond.code (⟨"com/example/ophion/ophion/runtime/CompareOp", "holds", "(I)Z"⟩ : MethodName) prog_5_method_7_code 2 (some .boolean) :: ws) ({ frames := 1, cells := 0, slots := 0, locals := 12 } : Room)) (fun a U => a = #[(.ref a1), (.int p1)] ∧ Z.Warmed39 U.vm ∧ U.heap = h0) (fun _ _ _ _ _ => True) (fun _ U o U' => ∃ v L, o = .returned v ∧ Q_rmHolds1f Z a1 p1 h0 n0 v U'.heap L ∧ FrameEnd U o U' L ({ frames := 1, cells := 0, slots := 0, locals := 12 } : Room).cells ({ frames := 1, cells := 0, slots := 0, locals := 12 } : Room).slots) := by
  refine MetFree.of_bodySF (plainFor_of_name pn_1) hisR ?_
  intro p e s m args below meth c s₁ Bd hml0 hP hK
  obtain ⟨rfl, hZ, hh⟩ := hP
  have hx := Bd.exec
  have hby := Bd.bytes
  have hml : c.maxLocals = 2 := hml0
  have hown : s.vm.findClass "com/example/ophion/ophion/runtime/CompareOp" = some m.cls := findClass_of_methodNamed Bd.named
  have hnm := (name_of_methodNamed Bd.named Bd.method).1
  have X0 : Stand p l e ({ frames := 1, cells := 0, slots := 0, locals := 12 } : Room) s m #[(.ref a1), (.int p1)] below meth c s₁ [] 0 0 := Stand.of_body Bd
  have e0 : s₁.heap = h0 := by rw [← hh, Bd.state]; rfl
  have N0 := Fr.nil n0
  refine own_go (own_lift (fun t k => castTop (ef_rmHolds1f m a1 p1) k) ?_)
  show own_Go p.tables e below (s₁.setTop (mkF m 0 #[rv a1, iv p1] [])) _
  have sg1 : ∀ t, Steps p.tables e below (s₁.setTop (mkF m 1 #[rv a1, iv p1] [(.ref a1)])) t → Steps p.tables e below (s₁.setTop (mkF m 0 #[rv a1, iv p1] [])) t := by
    intro t k
    refine XS.aloadN X0.here hx rfl (hb hby d2_0) rfl rfl ?_
    show Steps p.tables e below (s₁.setTop (mkF m 1 #[rv a1, iv p1] [(.ref a1)])) _
    exact k
  refine own_lift sg1 ?_
  show own_Go p.tables e below (s₁.setTop (mkF m 1 #[rv a1, iv p1] [(.ref a1)])) _
  obtain ⟨cq2, kq2, q2a, q2b, q2c⟩ := isOf hZ e0 E1
  obtain ⟨_, _, ⟨T2, Lx2, kx2, nx2⟩, -, X2, ⟨Lc2, hQ2, lx2, yx2, zx2⟩, st2⟩ := X0.virtualBackUp hx (x := (⟨"com/example/ophion/ophion/runtime/CompareOp", "ordinal", "()I"⟩ : MethodName)) (y := (⟨"java/lang/Enum", "ordinal", "()I"⟩ : MethodName)) hown (mvT hZ (wd hw 8 rfl)) (mvT hZ (wd hw 9 rfl)) (mvT hZ (wd hw 10 rfl)) (by decide) (mvT hZ (wd hw 12 rfl)) (mvT hZ (wd hw 11 rfl)) (backOf (W := 0) (rmOrd l Z a0 hw [] a1 (1 : Int32) h0 n0 Z0 F1) hZ (wd hw 14 rfl) (wd hw 13 rfl) (by decide) (by decide)) q2a q2c (g := (mkF m 1 #[rv a1, iv p1] [(.ref a1)])) rfl (by rw [hml]; rfl) (Steps.refl _) (argsL := []) (rest := []) (lenOf pd_0 rfl) rfl (by show 2 * 0 + _ ≤ _; exact Nat.le_of_eq rfl) (hb hby d2_1) (fun _ _ => ⟨rfl, e0, (by decide : 0 + 0 ≤ _), (by decide : 0 + 0 ≤ _)⟩)
  dsimp only [Pt.U, Pt.locs, Pt.cells, Pt.slots] at X2 lx2 yx2 zx2 st2 hQ2
  subst lx2 yx2 zx2
  obtain ⟨rfl, N2q, e2⟩ := hQ2
  have N2 := Fr.app N0 N2q
  refine own_lift (fun t k => st2.trans k) ?_
  show own_Go p.tables e below (T2.setTop (mkF m 4 #[rv a1, iv p1] [(.int 1)])) _
  have sg3 : ∀ t, Steps p.tables e below (T2.setTop (mkF m 59 #[rv a1, iv p1] [(.int 1)])) t → Steps p.tables e below (T2.setTop (mkF m 4 #[rv a1, iv p1] [(.int 1)])) t := by
    intro t k
    refine XS.tswIn X2.here hx rfl (pc0 := 4) (pc' := 50) rfl (hb hby d2_4) rfl (by decide) (o := 46) (by decide) (by decide) (by decide) ?_
    show Steps p.tables e below (T2.setTop (mkF m 50 #[rv a1, iv p1] [])) _
    refine XS.iloadN X2.here hx rfl (hb hby d2_50) rfl ?_
    show Steps p.tables e below (T2.setTop (mkF m 51 #[rv a1, iv p1] [(.int p1)])) _
    refine XS.ifNo X2.here hx rfl (hb hby d2_51) rfl ((if0 _ _).trans (flt c1).2.2.1) ?_
    show Steps p.tables e below (T2.setTop (mkF m 54 #[rv a1, iv p1] [])) _
    refine XS.iconst X2.here hx rfl (hb hby d2_54) ?_
    show Steps p.tables e below (T2.setTop (mkF m 55 #[rv a1, iv p1] [(.int 1)])) _
    refine XS.goto X2.here hx rfl (pc0 := 55) (pc' := 59) rfl (hb hby d2_55) (by decide) (by decide) ?_
    show Steps p.tables e below (T2.setTop (mkF m 59 #[rv a1, iv p1] [(.int 1)])) _
    exact k
  refine own_lift sg3 ?_
  show own_Go p.tables e below (T2.setTop (mkF m 59 #[rv a1, iv p1] [(.int 1)])) _
  obtain ⟨fs, hr, hrun, hended, hW, hsame⟩ := X2.leave (v := some (.int 1)) (fun h => by rw [Bd.returns] at h; cases h)
  refine ⟨_, _, ?_, hrun, hended, _, _, rfl, ?_, ⟨_, rfl⟩, hW, hsame.mono (by decide) (by decide)⟩
  · exact retN X2 hx (t := .boolean) Bd.returns (by simp) (hb hby d2_59) hr
  · show Q_rmHolds1f Z a1 p1 h0 n0 _ T2.heap _
    rw [e2]
    exact ⟨rfl, N2, rfl⟩
theorem d2_60 : decode prog_5_method_7_code 60 = .ok (.iload_n 1, 1) := by decide +kernel
theorem d2_61 : decode prog_5_method_7_code 61 = .ok (.ifCond .ne 7, 3) := by decide +kernel
theorem d2_64 : decode prog_5_method_7_code 64 = .ok (.iconst 1, 1) := by decide +kernel
theorem d2_65 : decode prog_5_method_7_code 65 = .ok (.goto 4, 3) := by decide +kernel
theorem d2_69 : decode prog_5_method_7_code 69 = .ok (.ireturn, 1) := by decide +kernel
def Q_rmHolds2t (Z : State) (a1 : Addr) (p1 : Int32) (h0 : Heap) (n0 : Nat) (v : Option Value) (h : Heap) (L : List Loc) : Prop := v = some (.int 1) ∧ Fr n0 L ∧ h = h0
theorem ef_rmHolds2t (m : MethodId) (x0 : Addr) (x1 : Int32) : entryFrame m #[(.ref x0), (.int x1)] 2 = mkF m 0 #[.val (.ref x0), .val (.int x1)] [] := by first | (simp [entryFrame, mkF, argsToLocals, Value.category]; done) | rfl
set_option maxRecDepth 65536 in
set_option maxHeartbeats 40000000 in
theorem rmHolds2t (l : Launch) (Z : State) (a0 : Array Value) (hw : ∀ d ∈ tables_1, d.before a0 Z = true) (ws : List Jvm.Cond) (a1 : Addr) (p1 : Int32) (h0 : Heap) (n0 : Nat) (Z0 : n0 ≤ h0.size) (F1 : Fld Z h0 a1 "java/lang/Enum" "ordinal" "I" (.int 2)) (E1 : Exa Z h0 a1 "com/example/ophion/ophion/runtime/CompareOp") (c1 : p1 = (0 : Int32)) :
    MetFree l (⟨"com/example/ophion/ophion/runtime/CompareOp", "holds", "(I)Z"⟩ : MethodName) (head1 (Jvm.Cond.code (⟨"com/example/ophion/ophion/runtime/CompareOp", "holds", "(I)Z"⟩ : MethodName) prog_5_method_7_code 2 (some .boolean) :: ws) ({ frames := 1, cells := 0, slots := 0, locals := 12 } : Room)) (fun a U => a = #[(.ref a1), (.int p1)] ∧ Z.Warmed39 U.vm ∧ U.heap = h0) (fun _ _ _ _ _ => True) (fun _ U o U' => ∃ v L, o = .returned v ∧ Q_rmHolds2t Z a1 p1 h0 n0 v U'.heap L ∧ FrameEnd U o U' L ({ frames := 1, cells := 0, slots := 0, locals := 12 } : Room).cells ({ frames := 1, cells := 0, slots := 0, locals := 12 } : Room).slots) := by
  refine MetFree.of_bodySF (plainFor_of_name pn_1) hisR ?_
  intro p e s m args below meth c s₁ Bd hml0 hP hK
  obtain ⟨rfl, hZ, hh⟩ := hP
  have hx := Bd.exec
  have hby := Bd.bytes
  have hml : c.maxLocals = 2 := hml0
  have hown : s.vm.findClass "com/example/ophion/ophion/runtime/CompareOp" = some m.cls := findClass_of_methodNamed Bd.named
  have hnm := (name_of_methodNamed Bd.named Bd.method).1
  have X0 : Stand p l e ({ frames := 1, cells := 0, slots := 0, locals := 12 } : Room) s m #[(.ref a1), (.int p1)] below meth c s₁ [] 0 0 := Stand.of_body Bd
  have e0 : s₁.heap = h0 := by rw [← hh, Bd.state]; rfl
  have N0 := Fr.nil n0
  refine own_go (own_lift (fun t k => castTop (ef_rmHolds2t m a1 p1) k) ?_)
  show own_Go p.tables e below (s₁.setTop (mkF m 0 #[rv a1, iv p1] [])) _
  have sg1 : ∀ t, Steps p.tables e below (s₁.setTop (mkF m 1 #[rv a1, iv p1] [(.ref a1)])) t → Steps p.tables e below (s₁.setTop (mkF m 0 #[rv a1, iv p1] [])) t := by
    intro t k
    refine XS.aloadN X0.here hx rfl (hb hby d2_0) rfl rfl ?_
    show Steps p.tables e below (s₁.setTop (mkF m 1 #[rv a1, iv p1] [(.ref a1)])) _
    exact k
  refine own_lift sg1 ?_
  show own_Go p.tables e below (s₁.setTop (mkF m 1 #[rv a1, iv p1] [(.ref a1)])) _
  obtain ⟨cq2, kq2, q2a, q2b, q2c⟩ := isOf hZ e0 E1
  obtain ⟨_, _, ⟨T2, Lx2, kx2, nx2⟩, -, X2, ⟨Lc2, hQ2, lx2, yx2, zx2⟩, st2⟩ := X0.virtualBackUp hx (x := (⟨"com/example/ophion/ophion/runtime/CompareOp", "ordinal", "()I"⟩ : MethodName)) (y := (⟨"java/lang/Enum", "ordinal", "()I"⟩ : MethodName)) hown (mvT hZ (wd hw 8 rfl)) (mvT hZ (wd hw 9 rfl)) (mvT hZ (wd hw 10 rfl)) (by decide) (mvT hZ (wd hw 12 rfl)) (mvT hZ (wd hw 11 rfl)) (backOf (W := 0) (rmOrd l Z a0 hw [] a1 (2 : Int32) h0 n0 Z0 F1) hZ (wd hw 14 rfl) (wd hw 13 rfl) (by decide) (by decide)) q2a q2c (g := (mkF m 1 #[rv a1, iv p1] [(.ref a1)])) rfl (by rw [hml]; rfl) (Steps.refl _) (argsL := []) (rest := []) (lenOf pd_0 rfl) rfl (by show 2 * 0 + _ ≤ _; exact Nat.le_of_eq rfl) (hb hby d2_1) (fun _ _ => ⟨rfl, e0, (by decide : 0 + 0 ≤ _), (by decide : 0 + 0 ≤ _)⟩)
  dsimp only [Pt.U, Pt.locs, Pt.cells, Pt.slots] at X2 lx2 yx2 zx2 st2 hQ2
  subst lx2 yx2 zx2
  obtain ⟨rfl, N2q, e2⟩ := hQ2
  have N2 := Fr.app N0 N2q
  refine own_lift (fun t k => st2.trans k) ?_
  show own_Go p.tables e below (T2.setTop (mkF m 4 #[rv a1, iv p1] [(.int 2)])) _
  have sg3 : ∀ t, Steps p.tables e below (T2.setTop (mkF m 69 #[rv a1, iv p1] [(.int 1)])) t → Steps p.tables e below (T2.setTop (mkF m 4 #[rv a1, iv p1] [(.int 2)])) t := by
    intro t k
    refine XS.tswIn X2.here hx rfl (pc0 := 4) (pc' := 60) rfl (hb hby d2_4) rfl (by decide) (o := 56) (by decide) (by decide) (by decide) ?_
    show Steps p.tables e below (T2.setTop (mkF m 60 #[rv a1, iv p1] [])) _
    refine XS.iloadN X2.here hx rfl (hb hby d2_60) rfl ?_
    show Steps p.tables e below (T2.setTop (mkF m 61 #[rv a1, iv p1] [(.int p1)])) _
    refine XS.ifNo X2.here hx rfl (hb hby d2_61) rfl ((if0 _ _).trans (teq c1).2) ?_
    show Steps p.tables e below (T2.setTop (mkF m 64 #[rv a1, iv p1] [])) _
    refine XS.iconst X2.here hx rfl (hb hby d2_64) ?_
    show Steps p.tables e below (T2.setTop (mkF m 65 #[rv a1, iv p1] [(.int 1)])) _
    refine XS.goto X2.here hx rfl (pc0 := 65) (pc' := 69) rfl (hb hby d2_65) (by decide) (by decide) ?_
    show Steps p.tables e below (T2.setTop (mkF m 69 #[rv a1, iv p1] [(.int 1)])) _
    exact k
  refine own_lift sg3 ?_
  show own_Go p.tables e below (T2.setTop (mkF m 69 #[rv a1, iv p1] [(.int 1)])) _
  obtain ⟨fs, hr, hrun, hended, hW, hsame⟩ := X2.leave (v := some (.int 1)) (fun h => by rw [Bd.returns] at h; cases h)
  refine ⟨_, _, ?_, hrun, hended, _, _, rfl, ?_, ⟨_, rfl⟩, hW, hsame.mono (by decide) (by decide)⟩
  · exact retN X2 hx (t := .boolean) Bd.returns (by simp) (hb hby d2_69) hr
  · show Q_rmHolds2t Z a1 p1 h0 n0 _ T2.heap _
    rw [e2]
    exact ⟨rfl, N2, rfl⟩
theorem d2_68 : decode prog_5_method_7_code 68 = .ok (.iconst 0, 1) := by decide +kernel
def Q_rmHolds2f (Z : State) (a1 : Addr) (p1 : Int32) (h0 : Heap) (n0 : Nat) (v : Option Value) (h : Heap) (L : List Loc) : Prop := v = some (.int 0) ∧ Fr n0 L ∧ h = h0
theorem ef_rmHolds2f (m : MethodId) (x0 : Addr) (x1 : Int32) : entryFrame m #[(.ref x0), (.int x1)] 2 = mkF m 0 #[.val (.ref x0), .val (.int x1)] [] := by first | (simp [entryFrame, mkF, argsToLocals, Value.category]; done) | rfl
set_option maxRecDepth 65536 in
set_option maxHeartbeats 40000000 in
theorem rmHolds2f (l : Launch) (Z : State) (a0 : Array Value) (hw : ∀ d ∈ tables_1, d.before a0 Z = true) (ws : List Jvm.Cond) (a1 : Addr) (p1 : Int32) (h0 : Heap) (n0 : Nat) (Z0 : n0 ≤ h0.size) (F1 : Fld Z h0 a1 "java/lang/Enum" "ordinal" "I" (.int 2)) (E1 : Exa Z h0 a1 "com/example/ophion/ophion/runtime/CompareOp") (c1 : ¬ (p1 = (0 : Int32))) :
    MetFree l (⟨"com/example/ophion/ophion/runtime/CompareOp", "holds", "(I)Z"⟩ : MethodName) (head1 (Jvm.Cond.code (⟨"com/example/ophion/ophion/runtime/CompareOp", "holds", "(I)Z"⟩ : MethodName) prog_5_method_7_code 2 (some .boolean) :: ws) ({ frames := 1, cells := 0, slots := 0, locals := 12 } : Room)) (fun a U => a = #[(.ref a1), (.int p1)] ∧ Z.Warmed39 U.vm ∧ U.heap = h0) (fun _ _ _ _ _ => True) (fun _ U o U' => ∃ v L, o = .returned v ∧ Q_rmHolds2f Z a1 p1 h0 n0 v U'.heap L ∧ FrameEnd U o U' L ({ frames := 1, cells := 0, slots := 0, locals := 12 } : Room).cells ({ frames := 1, cells := 0, slots := 0, locals := 12 } : Room).slots) := by
  refine MetFree.of_bodySF (plainFor_of_name pn_1) hisR ?_
  intro p e s m args below meth c s₁ Bd hml0 hP hK
  obtain ⟨rfl, hZ, hh⟩ := hP
  have hx := Bd.exec
  have hby := Bd.bytes
  have hml : c.maxLocals = 2 := hml0
  have hown : s.vm.findClass "com/example/ophion/ophion/runtime/CompareOp" = some m.cls := findClass_of_methodNamed Bd.named
  have hnm := (name_of_methodNamed Bd.named Bd.method).1
  have X0 : Stand p l e ({ frames := 1, cells := 0, slots := 0, locals := 12 } : Room) s m #[(.ref a1), (.int p1)] below meth c s₁ [] 0 0 := Stand.of_body Bd
  have e0 : s₁.heap = h0 := by rw [← hh, Bd.state]; rfl
  have N0 := Fr.nil n0
  refine own_go (own_lift (fun t k => castTop (ef_rmHolds2f m a1 p1) k) ?_)
  show own_Go p.tables e below (s₁.setTop (mkF m 0 #[rv a1, iv p1] [])) _
  have sg1 : ∀ t, Steps p.tables e below (s₁.setTop (mkF m 1 #[rv a1, iv p1] [(.ref a1)])) t → Steps p.tables e below (s₁.setTop (mkF m 0 #[rv a1, iv p1] [])) t := by
    intro t k
    refine XS.aloadN X0.here hx rfl (hb hby d2_0) rfl rfl ?_
    show Steps p.tables e below (s₁.setTop (mkF m 1 #[rv a1, iv p1] [(.ref a1)])) _
    exact k
  refine own_lift sg1 ?_
  show own_Go p.tables e below (s₁.setTop (mkF m 1 #[rv a1, iv p1] [(.ref a1)])) _
  obtain ⟨cq2, kq2, q2a, q2b, q2c⟩ := isOf hZ e0 E1
  obtain ⟨_, _, ⟨T2, Lx2, kx2, nx2⟩, -, X2, ⟨Lc2, hQ2, lx2, yx2, zx2⟩, st2⟩ := X0.virtualBackUp hx (x := (⟨"com/example/ophion/ophion/runtime/CompareOp", "ordinal", "()I"⟩ : MethodName)) (y := (⟨"java/lang/Enum", "ordinal", "()I"⟩ : MethodName)) hown (mvT hZ (wd hw 8 rfl)) (mvT hZ (wd hw 9 rfl)) (mvT hZ (wd hw 10 rfl)) (by decide) (mvT hZ (wd hw 12 rfl)) (mvT hZ (wd hw 11 rfl)) (backOf (W := 0) (rmOrd l Z a0 hw [] a1 (2 : Int32) h0 n0 Z0 F1) hZ (wd hw 14 rfl) (wd hw 13 rfl) (by decide) (by decide)) q2a q2c (g := (mkF m 1 #[rv a1, iv p1] [(.ref a1)])) rfl (by rw [hml]; rfl) (Steps.refl _) (argsL := []) (rest := []) (lenOf pd_0 rfl) rfl (by show 2 * 0 + _ ≤ _; exact Nat.le_of_eq rfl) (hb hby d2_1) (fun _ _ => ⟨rfl, e0, (by decide : 0 + 0 ≤ _), (by decide : 0 + 0 ≤ _)⟩)
  dsimp only [Pt.U, Pt.locs, Pt.cells, Pt.slots] at X2 lx2 yx2 zx2 st2 hQ2
  subst lx2 yx2 zx2
  obtain ⟨rfl, N2q, e2⟩ := hQ2
  have N2 := Fr.app N0 N2q
  refine own_lift (fun t k => st2.trans k) ?_
  show own_Go p.tables e below (T2.setTop (mkF m 4 #[rv a1, iv p1] [(.int 2)])) _
  have sg3 : ∀ t, Steps p.tables e below (T2.setTop (mkF m 69 #[rv a1, iv p1] [(.int 0)])) t → Steps p.tables e below (T2.setTop (mkF m 4 #[rv a1, iv p1] [(.int 2)])) t := by
    intro t k
    refine XS.tswIn X2.here hx rfl (pc0 := 4) (pc' := 60) rfl (hb hby d2_4) rfl (by decide) (o := 56) (by decide) (by decide) (by decide) ?_
    show Steps p.tables e below (T2.setTop (mkF m 60 #[rv a1, iv p1] [])) _
    refine XS.iloadN X2.here hx rfl (hb hby d2_60) rfl ?_
    show Steps p.tables e below (T2.setTop (mkF m 61 #[rv a1, iv p1] [(.int p1)])) _
    refine XS.ifYes X2.here hx rfl (pc0 := 61) (pc' := 68) rfl (hb hby d2_61) rfl ((if0 _ _).trans (feq c1).2) (by decide) (by decide) ?_
    show Steps p.tables e below (T2.setTop (mkF m 68 #[rv a1, iv p1] [])) _
    refine XS.iconst X2.here hx rfl (hb hby d2_68) ?_
    show Steps p.tables e below (T2.setTop (mkF m 69 #[rv a1, iv p1] [(.int 0)])) _
    exact k
  refine own_lift sg3 ?_
  show own_Go p.tables e below (T2.setTop (mkF m 69 #[rv a1, iv p1] [(.int 0)])) _
  obtain ⟨fs, hr, hrun, hended, hW, hsame⟩ := X2.leave (v := some (.int 0)) (fun h => by rw [Bd.returns] at h; cases h)
  refine ⟨_, _, ?_, hrun, hended, _, _, rfl, ?_, ⟨_, rfl⟩, hW, hsame.mono (by decide) (by decide)⟩
  · exact retN X2 hx (t := .boolean) Bd.returns (by simp) (hb hby d2_69) hr
  · show Q_rmHolds2f Z a1 p1 h0 n0 _ T2.heap _
    rw [e2]
    exact ⟨rfl, N2, rfl⟩
theorem d2_70 : decode prog_5_method_7_code 70 = .ok (.iload_n 1, 1) := by decide +kernel
theorem d2_71 : decode prog_5_method_7_code 71 = .ok (.ifCond .eq 7, 3) := by decide +kernel
theorem d2_78 : decode prog_5_method_7_code 78 = .ok (.iconst 0, 1) := by decide +kernel
theorem d2_79 : decode prog_5_method_7_code 79 = .ok (.ireturn, 1) := by decide +kernel
def Q_rmHolds3t (Z : State) (a1 : Addr) (p1 : Int32) (h0 : Heap) (n0 : Nat) (v : Option Value) (h : Heap) (L : List Loc) : Prop := v = some (.int 0) ∧ Fr n0 L ∧ h = h0
theorem ef_rmHolds3t (m : MethodId) (x0 : Addr) (x1 : Int32) : entryFrame m #[(.ref x0), (.int x1)] 2 = mkF m 0 #[.val (.ref x0), .val (.int x1)] [] := by first | (simp [entryFrame, mkF, argsToLocals, Value.category]; done) | rfl
set_option maxRecDepth 65536 in
set_option maxHeartbeats 40000000 in
theorem rmHolds3t (l : Launch) (Z : State) (a0 : Array Value) (hw : ∀ d ∈ tables_1, d.before a0 Z = true) (ws : List Jvm.Cond) (a1 : Addr) (p1 : Int32) (h0 : Heap) (n0 : Nat) (Z0 : n0 ≤ h0.size) (F1 : Fld Z h0 a1 "java/lang/Enum" "ordinal" "I" (.int 3)) (E1 : Exa Z h0 a1 "com/example/ophion/ophion/runtime/CompareOp") (c1 : p1 = (0 : Int32)) :
    MetFree l (⟨"com/example/ophion/ophion/runtime/CompareOp", "holds", "(I)Z"⟩ : MethodName) (head1 (Jvm.Cond.code (⟨"com/example/ophion/ophion/runtime/CompareOp", "holds", "(I)Z"⟩ : MethodName) prog_5_method_7_code 2 (some .boolean) :: ws) ({ frames := 1, cells := 0, slots := 0, locals := 12 } : Room)) (fun a U => a = #[(.ref a1), (.int p1)] ∧ Z.Warmed39 U.vm ∧ U.heap = h0) (fun _ _ _ _ _ => True) (fun _ U o U' => ∃ v L, o = .returned v ∧ Q_rmHolds3t Z a1 p1 h0 n0 v U'.heap L ∧ FrameEnd U o U' L ({ frames := 1, cells := 0, slots := 0, locals := 12 } : Room).cells ({ frames := 1, cells := 0, slots := 0, locals := 12 } : Room).slots) := by
  refine MetFree.of_bodySF (plainFor_of_name pn_1) hisR ?_
  intro p e s m args below meth c s₁ Bd hml0 hP hK
  obtain ⟨rfl, hZ, hh⟩ := hP
  have hx := Bd.exec
  have hby := Bd.bytes
  have hml : c.maxLocals = 2 := hml0
  have hown : s.vm.findClass "com/example/ophion/ophion/runtime/CompareOp" = some m.cls := findClass_of_methodNamed Bd.named
  have hnm := (name_of_methodNamed Bd.named Bd.method).1
  have X0 : Stand p l e ({ frames := 1, cells := 0, slots := 0, locals := 12 } : Room) s m #[(.ref a1), (.int p1)] below meth c s₁ [] 0 0 := Stand.of_body Bd
  have e0 : s₁.heap = h0 := by rw [← hh, Bd.state]; rfl
  have N0 := Fr.nil n0
  refine own_go (own_lift (fun t k => castTop (ef_rmHolds3t m a1 p1) k) ?_)
  show own_Go p.tables e below (s₁.setTop (mkF m 0 #[rv a1, iv p1] [])) _
  have sg1 : ∀ t, Steps p.tables e below (s₁.setTop (mkF m 1 #[rv a1, iv p1] [(.ref a1)])) t → Steps p.tables e below (s₁.setTop (mkF m 0 #[rv a1, iv p1] [])) t := by
    intro t k
    refine XS.aloadN X0.here hx rfl (hb hby d2_0) rfl rfl ?_
    show Steps p.tables e below (s₁.setTop (mkF m 1 #[rv a1, iv p1] [(.ref a1)])) _
    exact k
  refine own_lift sg1 ?_
  show own_Go p.tables e below (s₁.setTop (mkF m 1 #[rv a1, iv p1] [(.ref a1)])) _
  obtain ⟨cq2, kq2, q2a, q2b, q2c⟩ := isOf hZ e0 E1
  obtain ⟨_, _, ⟨T2, Lx2, kx2, nx2⟩, -, X2, ⟨Lc2, hQ2, lx2, yx2, zx2⟩, st2⟩ := X0.virtualBackUp hx (x := (⟨"com/example/ophion/ophion/runtime/CompareOp", "ordinal", "()I"⟩ : MethodName)) (y := (⟨"java/lang/Enum", "ordinal", "()I"⟩ : MethodName)) hown (mvT hZ (wd hw 8 rfl)) (mvT hZ (wd hw 9 rfl)) (mvT hZ (wd hw 10 rfl)) (by decide) (mvT hZ (wd hw 12 rfl)) (mvT hZ (wd hw 11 rfl)) (backOf (W := 0) (rmOrd l Z a0 hw [] a1 (3 : Int32) h0 n0 Z0 F1) hZ (wd hw 14 rfl) (wd hw 13 rfl) (by decide) (by decide)) q2a q2c (g := (mkF m 1 #[rv a1, iv p1] [(.ref a1)])) rfl (by rw [hml]; rfl) (Steps.refl _) (argsL := []) (rest := []) (lenOf pd_0 rfl) rfl (by show 2 * 0 + _ ≤ _; exact Nat.le_of_eq rfl) (hb hby d2_1) (fun _ _ => ⟨rfl, e0, (by decide : 0 + 0 ≤ _), (by decide : 0 + 0 ≤ _)⟩)
  dsimp only [Pt.U, Pt.locs, Pt.cells, Pt.slots] at X2 lx2 yx2 zx2 st2 hQ2
  subst lx2 yx2 zx2
  obtain ⟨rfl, N2q, e2⟩ := hQ2
  have N2 := Fr.app N0 N2q
  refine own_lift (fun t k => st2.trans k) ?_
  show own_Go p.tables e below (T2.setTop (mkF m 4 #[rv a1, iv p1] [(.int 3)])) _
  have sg3 : ∀ t, Steps p.tables e below (T2.setTop (mkF m 79 #[rv a1, iv p1] [(.int 0)])) t → Steps p.tables e below (T2.setTop (mkF m 4 #[rv a1, iv p1] [(.int 3)])) t := by
    intro t k
    refine XS.tswIn X2.here hx rfl (pc0 := 4) (pc' := 70) rfl (hb hby d2_4) rfl (by decide) (o := 66) (by decide) (by decide) (by decide) ?_
    show Steps p.tables e below (T2.setTop (mkF m 70 #[rv a1, iv p1] [])) _
    refine XS.iloadN X2.here hx rfl (hb hby d2_70) rfl ?_
    show Steps p.tables e below (T2.setTop (mkF m 71 #[rv a1, iv p1] [(.int p1)])) _
    refine XS.ifYes X2.here hx rfl (pc0 := 71) (pc' := 78) rfl (hb hby d2_71) rfl ((if0 _ _).trans (teq c1).1) (by decide) (by decide) ?_
    show Steps p.tables e below (T2.setTop (mkF m 78 #[rv a1, iv p1] [])) _
    refine XS.iconst X2.here hx rfl (hb hby d2_78) ?_
    show Steps p.tables e below (T2.setTop (mkF m 79 #[rv a1, iv p1] [(.int 0)])) _
    exact k
  refine own_lift sg3 ?_
  show own_Go p.tables e below (T2.setTop (mkF m 79 #[rv a1, iv p1] [(.int 0)])) _
  obtain ⟨fs, hr, hrun, hended, hW, hsame⟩ := X2.leave (v := some (.int 0)) (fun h => by rw [Bd.returns] at h; cases h)
  refine ⟨_, _, ?_, hrun, hended, _, _, rfl, ?_, ⟨_, rfl⟩, hW, hsame.mono (by decide) (by decide)⟩
  · exact retN X2 hx (t := .boolean) Bd.returns (by simp) (hb hby d2_79) hr
  · show Q_rmHolds3t Z a1 p1 h0 n0 _ T2.heap _
    rw [e2]
    exact ⟨rfl, N2, rfl⟩
theorem d2_74 : decode prog_5_method_7_code 74 = .ok (.iconst 1, 1) := by decide +kernel
theorem d2_75 : decode prog_5_method_7_code 75 = .ok (.goto 4, 3) := by decide +kernel
def Q_rmHolds3f (Z : State) (a1 : Addr) (p1 : Int32) (h0 : Heap) (n0 : Nat) (v : Option Value) (h : Heap) (L : List Loc) : Prop := v = some (.int 1) ∧ Fr n0 L ∧ h = h0
theorem ef_rmHolds3f (m : MethodId) (x0 : Addr) (x1 : Int32) : entryFrame m #[(.ref x0), (.int x1)] 2 = mkF m 0 #[.val (.ref x0), .val (.int x1)] [] := by first | (simp [entryFrame, mkF, argsToLocals, Value.category]; done) | rfl
set_option maxRecDepth 65536 in
set_option maxHeartbeats 40000000 in
theorem rmHolds3f (l : Launch) (Z : State) (a0 : Array Value) (hw : ∀ d ∈ tables_1, d.before a0 Z = true) (ws : List Jvm.Cond) (a1 : Addr) (p1 : Int32) (h0 : Heap) (n0 : Nat) (Z0 : n0 ≤ h0.size) (F1 : Fld Z h0 a1 "java/lang/Enum" "ordinal" "I" (.int 3)) (E1 : Exa Z h0 a1 "com/example/ophion/ophion/runtime/CompareOp") (c1 : ¬ (p1 = (0 : Int32))) :
    MetFree l (⟨"com/example/ophion/ophion/runtime/CompareOp", "holds", "(I)Z"⟩ : MethodName) (head1 (Jvm.Cond.code (⟨"com/example/ophion/ophion/runtime/CompareOp", "holds", "(I)Z"⟩ : MethodName) prog_5_method_7_code 2 (some .boolean) :: ws) ({ frames := 1, cells := 0, slots := 0, locals := 12 } : Room)) (fun a U => a = #[(.ref a1), (.int p1)] ∧ Z.Warmed39 U.vm ∧ U.heap = h0) (fun _ _ _ _ _ => True) (fun _ U o U' => ∃ v L, o = .returned v ∧ Q_rmHolds3f Z a1 p1 h0 n0 v U'.heap L ∧ FrameEnd U o U' L ({ frames := 1, cells := 0, slots := 0, locals := 12 } : Room).cells ({ frames := 1, cells := 0, slots := 0, locals := 12 } : Room).slots) := by
  refine MetFree.of_bodySF (plainFor_of_name pn_1) hisR ?_
  intro p e s m args below meth c s₁ Bd hml0 hP hK
  obtain ⟨rfl, hZ, hh⟩ := hP
  have hx := Bd.exec
  have hby := Bd.bytes
  have hml : c.maxLocals = 2 := hml0
  have hown : s.vm.findClass "com/example/ophion/ophion/runtime/CompareOp" = some m.cls := findClass_of_methodNamed Bd.named
  have hnm := (name_of_methodNamed Bd.named Bd.method).1
  have X0 : Stand p l e ({ frames := 1, cells := 0, slots := 0, locals := 12 } : Room) s m #[(.ref a1), (.int p1)] below meth c s₁ [] 0 0 := Stand.of_body Bd
  have e0 : s₁.heap = h0 := by rw [← hh, Bd.state]; rfl
  have N0 := Fr.nil n0
  refine own_go (own_lift (fun t k => castTop (ef_rmHolds3f m a1 p1) k) ?_)
  show own_Go p.tables e below (s₁.setTop (mkF m 0 #[rv a1, iv p1] [])) _
  have sg1 : ∀ t, Steps p.tables e below (s₁.setTop (mkF m 1 #[rv a1, iv p1] [(.ref a1)])) t → Steps p.tables e below (s₁.setTop (mkF m 0 #[rv a1, iv p1] [])) t := by
    intro t k
    refine XS.aloadN X0.here hx rfl (hb hby d2_0) rfl rfl ?_
    show Steps p.tables e below (s₁.setTop (mkF m 1 #[rv a1, iv p1] [(.ref a1)])) _
    exact k
  refine own_lift sg1 ?_
  show own_Go p.tables e below (s₁.setTop (mkF m 1 #[rv a1, iv p1] [(.ref a1)])) _
  obtain ⟨cq2, kq2, q2a, q2b, q2c⟩ := isOf hZ e0 E1
  obtain ⟨_, _, ⟨T2, Lx2, kx2, nx2⟩, -, X2, ⟨Lc2, hQ2, lx2, yx2, zx2⟩, st2⟩ := X0.virtualBackUp hx (x := (⟨"com/example/ophion/ophion/runtime/CompareOp", "ordinal", "()I"⟩ : MethodName)) (y := (⟨"java/lang/Enum", "ordinal", "()I"⟩ : MethodName)) hown (mvT hZ (wd hw 8 rfl)) (mvT hZ (wd hw 9 rfl)) (mvT hZ (wd hw 10 rfl)) (by decide) (mvT hZ (wd hw 12 rfl)) (mvT hZ (wd hw 11 rfl)) (backOf (W := 0) (rmOrd l Z a0 hw [] a1 (3 : Int32) h0 n0 Z0 F1) hZ (wd hw 14 rfl) (wd hw 13 rfl) (by decide) (by decide)) q2a q2c (g := (mkF m 1 #[rv a1, iv p1] [(.ref a1)])) rfl (by rw [hml]; rfl) (Steps.refl _) (argsL := []) (rest := []) (lenOf pd_0 rfl) rfl (by show 2 * 0 + _ ≤ _; exact Nat.le_of_eq rfl) (hb hby d2_1) (fun _ _ => ⟨rfl, e0, (by decide : 0 + 0 ≤ _), (by decide : 0 + 0 ≤ _)⟩)
  dsimp only [Pt.U, Pt.locs, Pt.cells, Pt.slots] at X2 lx2 yx2 zx2 st2 hQ2
  subst lx2 yx2 zx2
  obtain ⟨rfl, N2q, e2⟩ := hQ2
  have N2 := Fr.app N0 N2q
  refine own_lift (fun t k => st2.trans k) ?_
  show own_Go p.tables e below (T2.setTop (mkF m 4 #[rv a1, iv p1] [(.int 3)])) _
  have sg3 : ∀ t, Steps p.tables e below (T2.setTop (mkF m 79 #[rv a1, iv p1] [(.int 1)])) t → Steps p.tables e below (T2.setTop (mkF m 4 #[rv a1, iv p1] [(.int 3)])) t := by
    intro t k
    refine XS.tswIn X2.here hx rfl (pc0 := 4) (pc' := 70) rfl (hb hby d2_4) rfl (by decide) (o := 66) (by decide) (by decide) (by decide) ?_
    show Steps p.tables e below (T2.setTop (mkF m 70 #[rv a1, iv p1] [])) _
    refine XS.iloadN X2.here hx rfl (hb hby d2_70) rfl ?_
    show Steps p.tables e below (T2.setTop (mkF m 71 #[rv a1, iv p1] [(.int p1)])) _
    refine XS.ifNo X2.here hx rfl (hb hby d2_71) rfl ((if0 _ _).trans (feq c1).1) ?_
    show Steps p.tables e below (T2.setTop (mkF m 74 #[rv a1, iv p1] [])) _
    refine XS.iconst X2.here hx rfl (hb hby d2_74) ?_
    show Steps p.tables e below (T2.setTop (mkF m 75 #[rv a1, iv p1] [(.int 1)])) _
    refine XS.goto X2.here hx rfl (pc0 := 75) (pc' := 79) rfl (hb hby d2_75) (by decide) (by decide) ?_
    show Steps p.tables e below (T2.setTop (mkF m 79 #[rv a1, iv p1] [(.int 1)])) _
    exact k
  refine own_lift sg3 ?_
  show own_Go p.tables e below (T2.setTop (mkF m 79 #[rv a1, iv p1] [(.int 1)])) _
  obtain ⟨fs, hr, hrun, hended, hW, hsame⟩ := X2.leave (v := some (.int 1)) (fun h => by rw [Bd.returns] at h; cases h)
  refine ⟨_, _, ?_, hrun, hended, _, _, rfl, ?_, ⟨_, rfl⟩, hW, hsame.mono (by decide) (by decide)⟩
  · exact retN X2 hx (t := .boolean) Bd.returns (by simp) (hb hby d2_79) hr
  · show Q_rmHolds3f Z a1 p1 h0 n0 _ T2.heap _
    rw [e2]
    exact ⟨rfl, N2, rfl⟩
theorem d2_80 : decode prog_5_method_7_code 80 = .ok (.iload_n 1, 1) := by decide +kernel
theorem d2_81 : decode prog_5_method_7_code 81 = .ok (.ifCond .le 7, 3) := by decide +kernel
theorem d2_84 : decode prog_5_method_7_code 84 = .ok (.iconst 1, 1) := by decide +kernel
theorem d2_85 : decode prog_5_method_7_code 85 = .ok (.goto 4, 3) := by decide +kernel
theorem d2_89 : decode prog_5_method_7_code 89 = .ok (.ireturn, 1) := by decide +kernel
def Q_rmHolds4t (Z : State) (a1 : Addr) (p1 : Int32) (h0 : Heap) (n0 : Nat) (v : Option Value) (h : Heap) (L : List Loc) : Prop := v = some (.int 1) ∧ Fr n0 L ∧ h = h0
theorem ef_rmHolds4t (m : MethodId) (x0 : Addr) (x1 : Int32) : entryFrame m #[(.ref x0), (.int x1)] 2 = mkF m 0 #[.val (.ref x0), .val (.int x1)] [] := by first | (simp [entryFrame, mkF, argsToLocals, Value.category]; done) | rfl
set_option maxRecDepth 65536 in
set_option maxHeartbeats 40000000 in
theorem rmHolds4t (l : Launch) (Z : State) (a0 : Array Value) (hw : ∀ d ∈ tables_1, d.before a0 Z = true) (ws : List Jvm.Cond) (a1 : Addr) (p1 : Int32) (h0 : Heap) (n0 : Nat) (Z0 : n0 ≤ h0.size) (F1 : Fld Z h0 a1 "java/lang/Enum" "ordinal" "I" (.int 4)) (E1 : Exa Z h0 a1 "com/example/ophion/ophion/runtime/CompareOp") (c1 : (0 : Int32) < p1) :
    MetFree l (⟨"com/example/ophion/ophion/runtime/CompareOp", "holds", "(I)Z"⟩ : MethodName) (head1 (Jvm.Cond.code (⟨"com/example/ophion/ophion/runtime/CompareOp", "holds", "(I)Z"⟩ : MethodName) prog_5_method_7_code 2 (some .boolean) :: ws) ({ frames := 1, cells := 0, slots := 0, locals := 12 } : Room)) (fun a U => a = #[(.ref a1), (.int p1)] ∧ Z.Warmed39 U.vm ∧ U.heap = h0) (fun _ _ _ _ _ => True) (fun _ U o U' => ∃ v L, o = .returned v ∧ Q_rmHolds4t Z a1 p1 h0 n0 v U'.heap L ∧ FrameEnd U o U' L ({ frames := 1, cells := 0, slots := 0, locals := 12 } : Room).cells ({ frames := 1, cells := 0, slots := 0, locals := 12 } : Room).slots) := by
  refine MetFree.of_bodySF (plainFor_of_name pn_1) hisR ?_
  intro p e s m args below meth c s₁ Bd hml0 hP hK
  obtain ⟨rfl, hZ, hh⟩ := hP
  have hx := Bd.exec
  have hby := Bd.bytes
  have hml : c.maxLocals = 2 := hml0
  have hown : s.vm.findClass "com/example/ophion/ophion/runtime/CompareOp" = some m.cls := findClass_of_methodNamed Bd.named
  have hnm := (name_of_methodNamed Bd.named Bd.method).1
  have X0 : Stand p l e ({ frames := 1, cells := 0, slots := 0, locals := 12 } : Room) s m #[(.ref a1), (.int p1)] below meth c s₁ [] 0 0 := Stand.of_body Bd
  have e0 : s₁.heap = h0 := by rw [← hh, Bd.state]; rfl
  have N0 := Fr.nil n0
  refine own_go (own_lift (fun t k => castTop (ef_rmHolds4t m a1 p1) k) ?_)
  show own_Go p.tables e below (s₁.setTop (mkF m 0 #[rv a1, iv p1] [])) _
  have sg1 : ∀ t, Steps p.tables e below (s₁.setTop (mkF m 1 #[rv a1, iv p1] [(.ref a1)])) t → Steps p.tables e below (s₁.setTop (mkF m 0 #[rv a1, iv p1] [])) t := by
    intro t k
    refine XS.aloadN X0.here hx rfl (hb hby d2_0) rfl rfl ?_
    show Steps p.tables e below (s₁.setTop (mkF m 1 #[rv a1, iv p1] [(.ref a1)])) _
    exact k
  refine own_lift sg1 ?_
  show own_Go p.tables e below (s₁.setTop (mkF m 1 #[rv a1, iv p1] [(.ref a1)])) _
  obtain ⟨cq2, kq2, q2a, q2b, q2c⟩ := isOf hZ e0 E1
  obtain ⟨_, _, ⟨T2, Lx2, kx2, nx2⟩, -, X2, ⟨Lc2, hQ2, lx2, yx2, zx2⟩, st2⟩ := X0.virtualBackUp hx (x := (⟨"com/example/ophion/ophion/runtime/CompareOp", "ordinal", "()I"⟩ : MethodName)) (y := (⟨"java/lang/Enum", "ordinal", "()I"⟩ : MethodName)) hown (mvT hZ (wd hw 8 rfl)) (mvT hZ (wd hw 9 rfl)) (mvT hZ (wd hw 10 rfl)) (by decide) (mvT hZ (wd hw 12 rfl)) (mvT hZ (wd hw 11 rfl)) (backOf (W := 0) (rmOrd l Z a0 hw [] a1 (4 : Int32) h0 n0 Z0 F1) hZ (wd hw 14 rfl) (wd hw 13 rfl) (by decide) (by decide)) q2a q2c (g := (mkF m 1 #[rv a1, iv p1] [(.ref a1)])) rfl (by rw [hml]; rfl) (Steps.refl _) (argsL := []) (rest := []) (lenOf pd_0 rfl) rfl (by show 2 * 0 + _ ≤ _; exact Nat.le_of_eq rfl) (hb hby d2_1) (fun _ _ => ⟨rfl, e0, (by decide : 0 + 0 ≤ _), (by decide : 0 + 0 ≤ _)⟩)
  dsimp only [Pt.U, Pt.locs, Pt.cells, Pt.slots] at X2 lx2 yx2 zx2 st2 hQ2
  subst lx2 yx2 zx2
  obtain ⟨rfl, N2q, e2⟩ := hQ2
  have N2 := Fr.app N0 N2q
  refine own_lift (fun t k => st2.trans k) ?_
  show own_Go p.tables e below (T2.setTop (mkF m 4 #[rv a1, iv p1] [(.int 4)])) _
  have sg3 : ∀ t, Steps p.tables e below (T2.setTop (mkF m 89 #[rv a1, iv p1] [(.int 1)])) t → Steps p.tables e below (T2.setTop (mkF m 4 #[rv a1, iv p1] [(.int 4)])) t := by
    intro t k
    refine XS.tswIn X2.here hx rfl (pc0 := 4) (pc' := 80) rfl (hb hby d2_4) rfl (by decide) (o := 76) (by decide) (by decide) (by decide) ?_
    show Steps p.tables e below (T2.setTop (mkF m 80 #[rv a1, iv p1] [])) _
    refine XS.iloadN X2.here hx rfl (hb hby d2_80) rfl ?_
    show Steps p.tables e below (T2.setTop (mkF m 81 #[rv a1, iv p1] [(.int p1)])) _
    refine XS.ifNo X2.here hx rfl (hb hby d2_81) rfl ((if0 _ _).trans (tlt c1).2.2.2) ?_
    show Steps p.tables e below (T2.setTop (mkF m 84 #[rv a1, iv p1] [])) _
    refine XS.iconst X2.here hx rfl (hb hby d2_84) ?_
    show Steps p.tables e below (T2.setTop (mkF m 85 #[rv a1, iv p1] [(.int 1)])) _
    refine XS.goto X2.here hx rfl (pc0 := 85) (pc' := 89) rfl (hb hby d2_85) (by decide) (by decide) ?_
    show Steps p.tables e below (T2.setTop (mkF m 89 #[rv a1, iv p1] [(.int 1)])) _
    exact k
  refine own_lift sg3 ?_
  show own_Go p.tables e below (T2.setTop (mkF m 89 #[rv a1, iv p1] [(.int 1)])) _
  obtain ⟨fs, hr, hrun, hended, hW, hsame⟩ := X2.leave (v := some (.int 1)) (fun h => by rw [Bd.returns] at h; cases h)
  refine ⟨_, _, ?_, hrun, hended, _, _, rfl, ?_, ⟨_, rfl⟩, hW, hsame.mono (by decide) (by decide)⟩
  · exact retN X2 hx (t := .boolean) Bd.returns (by simp) (hb hby d2_89) hr
  · show Q_rmHolds4t Z a1 p1 h0 n0 _ T2.heap _
    rw [e2]
    exact ⟨rfl, N2, rfl⟩
theorem d2_88 : decode prog_5_method_7_code 88 = .ok (.iconst 0, 1) := by decide +kernel
def Q_rmHolds4f (Z : State) (a1 : Addr) (p1 : Int32) (h0 : Heap) (n0 : Nat) (v : Option Value) (h : Heap) (L : List Loc) : Prop := v = some (.int 0) ∧ Fr n0 L ∧ h = h0
theorem ef_rmHolds4f (m : MethodId) (x0 : Addr) (x1 : Int32) : entryFrame m #[(.ref x0), (.int x1)] 2 = mkF m 0 #[.val (.ref x0), .val (.int x1)] [] := by first | (simp [entryFrame, mkF, argsToLocals, Value.category]; done) | rfl
set_option maxRecDepth 65536 in
set_option maxHeartbeats 40000000 in
theorem rmHolds4f (l : Launch) (Z : State) (a0 : Array Value) (hw : ∀ d ∈ tables_1, d.before a0 Z = true) (ws : List Jvm.Cond) (a1 : Addr) (p1 : Int32) (h0 : Heap) (n0 : Nat) (Z0 : n0 ≤ h0.size) (F1 : Fld Z h0 a1 "java/lang/Enum" "ordinal" "I" (.int 4)) (E1 : Exa Z h0 a1 "com/example/ophion/ophion/runtime/CompareOp") (c1 : ¬ ((0 : Int32) < p1)) :
    MetFree l (⟨"com/example/ophion/ophion/runtime/CompareOp", "holds", "(I)Z"⟩ : MethodName) (head1 (Jvm.Cond.code (⟨"com/example/ophion/ophion/runtime/CompareOp", "holds", "(I)Z"⟩ : MethodName) prog_5_method_7_code 2 (some .boolean) :: ws) ({ frames := 1, cells := 0, slots := 0, locals := 12 } : Room)) (fun a U => a = #[(.ref a1), (.int p1)] ∧ Z.Warmed39 U.vm ∧ U.heap = h0) (fun _ _ _ _ _ => True) (fun _ U o U' => ∃ v L, o = .returned v ∧ Q_rmHolds4f Z a1 p1 h0 n0 v U'.heap L ∧ FrameEnd U o U' L ({ frames := 1, cells := 0, slots := 0, locals := 12 } : Room).cells ({ frames := 1, cells := 0, slots := 0, locals := 12 } : Room).slots) := by
  refine MetFree.of_bodySF (plainFor_of_name pn_1) hisR ?_
  intro p e s m args below meth c s₁ Bd hml0 hP hK
  obtain ⟨rfl, hZ, hh⟩ := hP
  have hx := Bd.exec
  have hby := Bd.bytes
  have hml : c.maxLocals = 2 := hml0
  have hown : s.vm.findClass "com/example/ophion/ophion/runtime/CompareOp" = some m.cls := findClass_of_methodNamed Bd.named
  have hnm := (name_of_methodNamed Bd.named Bd.method).1
  have X0 : Stand p l e ({ frames := 1, cells := 0, slots := 0, locals := 12 } : Room) s m #[(.ref a1), (.int p1)] below meth c s₁ [] 0 0 := Stand.of_body Bd
  have e0 : s₁.heap = h0 := by rw [← hh, Bd.state]; rfl
  have N0 := Fr.nil n0
  refine own_go (own_lift (fun t k => castTop (ef_rmHolds4f m a1 p1) k) ?_)
  show own_Go p.tables e below (s₁.setTop (mkF m 0 #[rv a1, iv p1] [])) _
  have sg1 : ∀ t, Steps p.tables e below (s₁.setTop (mkF m 1 #[rv a1, iv p1] [(.ref a1)])) t → Steps p.tables e below (s₁.setTop (mkF m 0 #[rv a1, iv p1] [])) t := by
    intro t k
    refine XS.aloadN X0.here hx rfl (hb hby d2_0) rfl rfl ?_
    show Steps p.tables e below (s₁.setTop (mkF m 1 #[rv a1, iv p1] [(.ref a1)])) _
    exact k
  refine own_lift sg1 ?_
  show own_Go p.tables e below (s₁.setTop (mkF m 1 #[rv a1, iv p1] [(.ref a1)])) _
  obtain ⟨cq2, kq2, q2a, q2b, q2c⟩ := isOf hZ e0 E1
  obtain ⟨_, _, ⟨T2, Lx2, kx2, nx2⟩, -, X2, ⟨Lc2, hQ2, lx2, yx2, zx2⟩, st2⟩ := X0.virtualBackUp hx (x := (⟨"com/example/ophion/ophion/runtime/CompareOp", "ordinal", "()I"⟩ : MethodName)) (y := (⟨"java/lang/Enum", "ordinal", "()I"⟩ : MethodName)) hown (mvT hZ (wd hw 8 rfl)) (mvT hZ (wd hw 9 rfl)) (mvT hZ (wd hw 10 rfl)) (by decide) (mvT hZ (wd hw 12 rfl)) (mvT hZ (wd hw 11 rfl)) (backOf (W := 0) (rmOrd l Z a0 hw [] a1 (4 : Int32) h0 n0 Z0 F1) hZ (wd hw 14 rfl) (wd hw 13 rfl) (by decide) (by decide)) q2a q2c (g := (mkF m 1 #[rv a1, iv p1] [(.ref a1)])) rfl (by rw [hml]; rfl) (Steps.refl _) (argsL := []) (rest := []) (lenOf pd_0 rfl) rfl (by show 2 * 0 + _ ≤ _; exact Nat.le_of_eq rfl) (hb hby d2_1) (fun _ _ => ⟨rfl, e0, (by decide : 0 + 0 ≤ _), (by decide : 0 + 0 ≤ _)⟩)
  dsimp only [Pt.U, Pt.locs, Pt.cells, Pt.slots] at X2 lx2 yx2 zx2 st2 hQ2
  subst lx2 yx2 zx2
  obtain ⟨rfl, N2q, e2⟩ := hQ2
  have N2 := Fr.app N0 N2q
  refine own_lift (fun t k => st2.trans k) ?_
  show own_Go p.tables e below (T2.setTop (mkF m 4 #[rv a1, iv p1] [(.int 4)])) _
  have sg3 : ∀ t, Steps p.tables e below (T2.setTop (mkF m 89 #[rv a1, iv p1] [(.int 0)])) t → Steps p.tables e below (T2.setTop (mkF m 4 #[rv a1, iv p1] [(.int 4)])) t := by
    intro t k
    refine XS.tswIn X2.here hx rfl (pc0 := 4) (pc' := 80) rfl (hb hby d2_4) rfl (by decide) (o := 76) (by decide) (by decide) (by decide) ?_
    show Steps p.tables e below (T2.setTop (mkF m 80 #[rv a1, iv p1] [])) _
    refine XS.iloadN X2.here hx rfl (hb hby d2_80) rfl ?_
    show Steps p.tables e below (T2.setTop (mkF m 81 #[rv a1, iv p1] [(.int p1)])) _
    refine XS.ifYes X2.here hx rfl (pc0 := 81) (pc' := 88) rfl (hb hby d2_81) rfl ((if0 _ _).trans (flt c1).2.2.2) (by decide) (by decide) ?_
    show Steps p.tables e below (T2.setTop (mkF m 88 #[rv a1, iv p1] [])) _
    refine XS.iconst X2.here hx rfl (hb hby d2_88) ?_
    show Steps p.tables e below (T2.setTop (mkF m 89 #[rv a1, iv p1] [(.int 0)])) _
    exact k
  refine own_lift sg3 ?_
  show own_Go p.tables e below (T2.setTop (mkF m 89 #[rv a1, iv p1] [(.int 0)])) _
  obtain ⟨fs, hr, hrun, hended, hW, hsame⟩ := X2.leave (v := some (.int 0)) (fun h => by rw [Bd.returns] at h; cases h)
  refine ⟨_, _, ?_, hrun, hended, _, _, rfl, ?_, ⟨_, rfl⟩, hW, hsame.mono (by decide) (by decide)⟩
  · exact retN X2 hx (t := .boolean) Bd.returns (by simp) (hb hby d2_89) hr
  · show Q_rmHolds4f Z a1 p1 h0 n0 _ T2.heap _
    rw [e2]
    exact ⟨rfl, N2, rfl⟩
theorem d2_90 : decode prog_5_method_7_code 90 = .ok (.iload_n 1, 1) := by decide +kernel
theorem d2_91 : decode prog_5_method_7_code 91 = .ok (.ifCond .lt 7, 3) := by decide +kernel
theorem d2_98 : decode prog_5_method_7_code 98 = .ok (.iconst 0, 1) := by decide +kernel
theorem d2_99 : decode prog_5_method_7_code 99 = .ok (.ireturn, 1) := by decide +kernel
def Q_rmHolds5t (Z : State) (a1 : Addr) (p1 : Int32) (h0 : Heap) (n0 : Nat) (v : Option Value) (h : Heap) (L : List Loc) : Prop := v = some (.int 0) ∧ Fr n0 L ∧ h = h0
theorem ef_rmHolds5t (m : MethodId) (x0 : Addr) (x1 : Int32) : entryFrame m #[(.ref x0), (.int x1)] 2 = mkF m 0 #[.val (.ref x0), .val (.int x1)] [] := by first | (simp [entryFrame, mkF, argsToLocals, Value.category]; done) | rfl
set_option maxRecDepth 65536 in
set_option maxHeartbeats 40000000 in
theorem rmHolds5t (l : Launch) (Z : State) (a0 : Array Value) (hw : ∀ d ∈ tables_1, d.before a0 Z = true) (ws : List Jvm.Cond) (a1 : Addr) (p1 : Int32) (h0 : Heap) (n0 : Nat) (Z0 : n0 ≤ h0.size) (F1 : Fld Z h0 a1 "java/lang/Enum" "ordinal" "I" (.int 5)) (E1 : Exa Z h0 a1 "com/example/ophion/ophion/runtime/CompareOp") (c1 : p1 < (0 : Int32)) :
    MetFree l (⟨"com/example/ophion/ophion/runtime/CompareOp", "holds", "(I)Z"⟩ : MethodName) (head1 (Jvm.Cond.code (⟨"com/example/ophion/ophion/runtime/CompareOp", "holds", "(I)Z"⟩ : MethodName) prog_5_method_7_code 2 (some .boolean) :: ws) ({ frames := 1, cells := 0, slots := 0, locals := 12 } : Room)) (fun a U => a = #[(.ref a1), (.int p1)] ∧ Z.Warmed39 U.vm ∧ U.heap = h0) (fun _ _ _ _ _ => True) (fun _ U o U' => ∃ v L, o = .returned v ∧ Q_rmHolds5t Z a1 p1 h0 n0 v U'.heap L ∧ FrameEnd U o U' L ({ frames := 1, cells := 0, slots := 0, locals := 12 } : Room).cells ({ frames := 1, cells := 0, slots := 0, locals := 12 } : Room).slots) := by
  refine MetFree.of_bodySF (plainFor_of_name pn_1) hisR ?_
  intro p e s m args below meth c s₁ Bd hml0 hP hK
  obtain ⟨rfl, hZ, hh⟩ := hP
  have hx := Bd.exec
  have hby := Bd.bytes
  have hml : c.maxLocals = 2 := hml0
  have hown : s.vm.findClass "com/example/ophion/ophion/runtime/CompareOp" = some m.cls := findClass_of_methodNamed Bd.named
  have hnm := (name_of_methodNamed Bd.named Bd.method).1
  have X0 : Stand p l e ({ frames := 1, cells := 0, slots := 0, locals := 12 } : Room) s m #[(.ref a1), (.int p1)] below meth c s₁ [] 0 0 := Stand.of_body Bd
  have e0 : s₁.heap = h0 := by rw [← hh, Bd.state]; rfl
  have N0 := Fr.nil n0
  refine own_go (own_lift (fun t k => castTop (ef_rmHolds5t m a1 p1) k) ?_)
  show own_Go p.tables e below (s₁.setTop (mkF m 0 #[rv a1, iv p1] [])) _
  have sg1 : ∀ t, Steps p.tables e below (s₁.setTop (mkF m 1 #[rv a1, iv p1] [(.ref a1)])) t → Steps p.tables e below (s₁.setTop (mkF m 0 #[rv a1, iv p1] [])) t := by
    intro t k
    refine XS.aloadN X0.here hx rfl (hb hby d2_0) rfl rfl ?_
    show Steps p.tables e below (s₁.setTop (mkF m 1 #[rv a1, iv p1] [(.ref a1)])) _
    exact k
  refine own_lift sg1 ?_
  show own_Go p.tables e below (s₁.setTop (mkF m 1 #[rv a1, iv p1] [(.ref a1)])) _
  obtain ⟨cq2, kq2, q2a, q2b, q2c⟩ := isOf hZ e0 E1
  obtain ⟨_, _, ⟨T2, Lx2, kx2, nx2⟩, -, X2, ⟨Lc2, hQ2, lx2, yx2, zx2⟩, st2⟩ := X0.virtualBackUp hx (x := (⟨"com/example/ophion/ophion/runtime/CompareOp", "ordinal", "()I"⟩ : MethodName)) (y := (⟨"java/lang/Enum", "ordinal", "()I"⟩ : MethodName)) hown (mvT hZ (wd hw 8 rfl)) (mvT hZ (wd hw 9 rfl)) (mvT hZ (wd hw 10 rfl)) (by decide) (mvT hZ (wd hw 12 rfl)) (mvT hZ (wd hw 11 rfl)) (backOf (W := 0) (rmOrd l Z a0 hw [] a1 (5 : Int32) h0 n0 Z0 F1) hZ (wd hw 14 rfl) (wd hw 13 rfl) (by decide) (by decide)) q2a q2c (g := (mkF m 1 #[rv a1, iv p1] [(.ref a1)])) rfl (by rw [hml]; rfl) (Steps.refl _) (argsL := []) (rest := []) (lenOf pd_0 rfl) rfl (by show 2 * 0 + _ ≤ _; exact Nat.le_of_eq rfl) (hb hby d2_1) (fun _ _ => ⟨rfl, e0, (by decide : 0 + 0 ≤ _), (by decide : 0 + 0 ≤ _)⟩)
  dsimp only [Pt.U, Pt.locs, Pt.cells, Pt.slots] at X2 lx2 yx2 zx2 st2 hQ2
  subst lx2 yx2 zx2
  obtain ⟨rfl, N2q, e2⟩ := hQ2
  have N2 := Fr.app N0 N2q
  refine own_lift (fun t k => st2.trans k) ?_
  show own_Go p.tables e below (T2.setTop (mkF m 4 #[rv a1, iv p1] [(.int 5)])) _
  have sg3 : ∀ t, Steps p.tables e below (T2.setTop (mkF m 99 #[rv a1, iv p1] [(.int 0)])) t → Steps p.tables e below (T2.setTop (mkF m 4 #[rv a1, iv p1] [(.int 5)])) t := by
    intro t k
    refine XS.tswOut X2.here hx rfl (pc0 := 4) (pc' := 90) rfl (hb hby d2_4) rfl (by decide) (by decide) (by decide) ?_
    show Steps p.tables e below (T2.setTop (mkF m 90 #[rv a1, iv p1] [])) _
    refine XS.iloadN X2.here hx rfl (hb hby d2_90) rfl ?_
    show Steps p.tables e below (T2.setTop (mkF m 91 #[rv a1, iv p1] [(.int p1)])) _
    refine XS.ifYes X2.here hx rfl (pc0 := 91) (pc' := 98) rfl (hb hby d2_91) rfl ((if0 _ _).trans (tlt c1).1) (by decide) (by decide) ?_
    show Steps p.tables e below (T2.setTop (mkF m 98 #[rv a1, iv p1] [])) _
    refine XS.iconst X2.here hx rfl (hb hby d2_98) ?_
    show Steps p.tables e below (T2.setTop (mkF m 99 #[rv a1, iv p1] [(.int 0)])) _
    exact k
  refine own_lift sg3 ?_
  show own_Go p.tables e below (T2.setTop (mkF m 99 #[rv a1, iv p1] [(.int 0)])) _
  obtain ⟨fs, hr, hrun, hended, hW, hsame⟩ := X2.leave (v := some (.int 0)) (fun h => by rw [Bd.returns] at h; cases h)
  refine ⟨_, _, ?_, hrun, hended, _, _, rfl, ?_, ⟨_, rfl⟩, hW, hsame.mono (by decide) (by decide)⟩
  · exact retN X2 hx (t := .boolean) Bd.returns (by simp) (hb hby d2_99) hr
  · show Q_rmHolds5t Z a1 p1 h0 n0 _ T2.heap _
    rw [e2]
    exact ⟨rfl, N2, rfl⟩
theorem d2_94 : decode prog_5_method_7_code 94 = .ok (.iconst 1, 1) := by decide +kernel
theorem d2_95 : decode prog_5_method_7_code 95 = .ok (.goto 4, 3) := by decide +kernel
def Q_rmHolds5f (Z : State) (a1 : Addr) (p1 : Int32) (h0 : Heap) (n0 : Nat) (v : Option Value) (h : Heap) (L : List Loc) : Prop := v = some (.int 1) ∧ Fr n0 L ∧ h = h0
theorem ef_rmHolds5f (m : MethodId) (x0 : Addr) (x1 : Int32) : entryFrame m #[(.ref x0), (.int x1)] 2 = mkF m 0 #[.val (.ref x0), .val (.int x1)] [] := by first | (simp [entryFrame, mkF, argsToLocals, Value.category]; done) | rfl
set_option maxRecDepth 65536 in
set_option maxHeartbeats 40000000 in
theorem rmHolds5f (l : Launch) (Z : State) (a0 : Array Value) (hw : ∀ d ∈ tables_1, d.before a0 Z = true) (ws : List Jvm.Cond) (a1 : Addr) (p1 : Int32) (h0 : Heap) (n0 : Nat) (Z0 : n0 ≤ h0.size) (F1 : Fld Z h0 a1 "java/lang/Enum" "ordinal" "I" (.int 5)) (E1 : Exa Z h0 a1 "com/example/ophion/ophion/runtime/CompareOp") (c1 : ¬ (p1 < (0 : Int32))) :
    MetFree l (⟨"com/example/ophion/ophion/runtime/CompareOp", "holds", "(I)Z"⟩ : MethodName) (head1 (Jvm.Cond.code (⟨"com/example/ophion/ophion/runtime/CompareOp", "holds", "(I)Z"⟩ : MethodName) prog_5_method_7_code 2 (some .boolean) :: ws) ({ frames := 1, cells := 0, slots := 0, locals := 12 } : Room)) (fun a U => a = #[(.ref a1), (.int p1)] ∧ Z.Warmed39 U.vm ∧ U.heap = h0) (fun _ _ _ _ _ => True) (fun _ U o U' => ∃ v L, o = .returned v ∧ Q_rmHolds5f Z a1 p1 h0 n0 v U'.heap L ∧ FrameEnd U o U' L ({ frames := 1, cells := 0, slots := 0, locals := 12 } : Room).cells ({ frames := 1, cells := 0, slots := 0, locals := 12 } : Room).slots) := by
  refine MetFree.of_bodySF (plainFor_of_name pn_1) hisR ?_
  intro p e s m args below meth c s₁ Bd hml0 hP hK
  obtain ⟨rfl, hZ, hh⟩ := hP
  have hx := Bd.exec
  have hby := Bd.bytes
  have hml : c.maxLocals = 2 := hml0
  have hown : s.vm.findClass "com/example/ophion/ophion/runtime/CompareOp" = some m.cls := findClass_of_methodNamed Bd.named
  have hnm := (name_of_methodNamed Bd.named Bd.method).1
  have X0 : Stand p l e ({ frames := 1, cells := 0, slots := 0, locals := 12 } : Room) s m #[(.ref a1), (.int p1)] below meth c s₁ [] 0 0 := Stand.of_body Bd
  have e0 : s₁.heap = h0 := by rw [← hh, Bd.state]; rfl
  have N0 := Fr.nil n0
  refine own_go (own_lift (fun t k => castTop (ef_rmHolds5f m a1 p1) k) ?_)
  show own_Go p.tables e below (s₁.setTop (mkF m 0 #[rv a1, iv p1] [])) _
  have sg1 : ∀ t, Steps p.tables e below (s₁.setTop (mkF m 1 #[rv a1, iv p1] [(.ref a1)])) t → Steps p.tables e below (s₁.setTop (mkF m 0 #[rv a1, iv p1] [])) t := by
    intro t k
    refine XS.aloadN X0.here hx rfl (hb hby d2_0) rfl rfl ?_
    show Steps p.tables e below (s₁.setTop (mkF m 1 #[rv a1, iv p1] [(.ref a1)])) _
    exact k
  refine own_lift sg1 ?_
  show own_Go p.tables e below (s₁.setTop (mkF m 1 #[rv a1, iv p1] [(.ref a1)])) _
  obtain ⟨cq2, kq2, q2a, q2b, q2c⟩ := isOf hZ e0 E1
  obtain ⟨_, _, ⟨T2, Lx2, kx2, nx2⟩, -, X2, ⟨Lc2, hQ2, lx2, yx2, zx2⟩, st2⟩ := X0.virtualBackUp hx (x := (⟨"com/example/ophion/ophion/runtime/CompareOp", "ordinal", "()I"⟩ : MethodName)) (y := (⟨"java/lang/Enum", "ordinal", "()I"⟩ : MethodName)) hown (mvT hZ (wd hw 8 rfl)) (mvT hZ (wd hw 9 rfl)) (mvT hZ (wd hw 10 rfl)) (by decide) (mvT hZ (wd hw 12 rfl)) (mvT hZ (wd hw 11 rfl)) (backOf (W := 0) (rmOrd l Z a0 hw [] a1 (5 : Int32) h0 n0 Z0 F1) hZ (wd hw 14 rfl) (wd hw 13 rfl) (by decide) (by decide)) q2a q2c (g := (mkF m 1 #[rv a1, iv p1] [(.ref a1)])) rfl (by rw [hml]; rfl) (Steps.refl _) (argsL := []) (rest := []) (lenOf pd_0 rfl) rfl (by show 2 * 0 + _ ≤ _; exact Nat.le_of_eq rfl) (hb hby d2_1) (fun _ _ => ⟨rfl, e0, (by decide : 0 + 0 ≤ _), (by decide : 0 + 0 ≤ _)⟩)
  dsimp only [Pt.U, Pt.locs, Pt.cells, Pt.slots] at X2 lx2 yx2 zx2 st2 hQ2
  subst lx2 yx2 zx2
  obtain ⟨rfl, N2q, e2⟩ := hQ2
  have N2 := Fr.app N0 N2q
  refine own_lift (fun t k => st2.trans k) ?_
  show own_Go p.tables e below (T2.setTop (mkF m 4 #[rv a1, iv p1] [(.int 5)])) _
  have sg3 : ∀ t, Steps p.tables e below (T2.setTop (mkF m 99 #[rv a1, iv p1] [(.int 1)])) t → Steps p.tables e below (T2.setTop (mkF m 4 #[rv a1, iv p1] [(.int 5)])) t := by
    intro t k
    refine XS.tswOut X2.here hx rfl (pc0 := 4) (pc' := 90) rfl (hb hby d2_4) rfl (by decide) (by decide) (by decide) ?_
    show Steps p.tables e below (T2.setTop (mkF m 90 #[rv a1, iv p1] [])) _
    refine XS.iloadN X2.here hx rfl (hb hby d2_90) rfl ?_
    show Steps p.tables e below (T2.setTop (mkF m 91 #[rv a1, iv p1] [(.int p1)])) _
    refine XS.ifNo X2.here hx rfl (hb hby d2_91) rfl ((if0 _ _).trans (flt c1).1) ?_
    show Steps p.tables e below (T2.setTop (mkF m 94 #[rv a1, iv p1] [])) _
    refine XS.iconst X2.here hx rfl (hb hby d2_94) ?_
    show Steps p.tables e below (T2.setTop (mkF m 95 #[rv a1, iv p1] [(.int 1)])) _
    refine XS.goto X2.here hx rfl (pc0 := 95) (pc' := 99) rfl (hb hby d2_95) (by decide) (by decide) ?_
    show Steps p.tables e below (T2.setTop (mkF m 99 #[rv a1, iv p1] [(.int 1)])) _
    exact k
  refine own_lift sg3 ?_
  show own_Go p.tables e below (T2.setTop (mkF m 99 #[rv a1, iv p1] [(.int 1)])) _
  obtain ⟨fs, hr, hrun, hended, hW, hsame⟩ := X2.leave (v := some (.int 1)) (fun h => by rw [Bd.returns] at h; cases h)
  refine ⟨_, _, ?_, hrun, hended, _, _, rfl, ?_, ⟨_, rfl⟩, hW, hsame.mono (by decide) (by decide)⟩
  · exact retN X2 hx (t := .boolean) Bd.returns (by simp) (hb hby d2_99) hr
  · show Q_rmHolds5f Z a1 p1 h0 n0 _ T2.heap _
    rw [e2]
    exact ⟨rfl, N2, rfl⟩
theorem pn_2 : plainName "com/example/ophion/ophion/runtime/CompareOpHoldsPinLaw" = true := by first | (simp [plainName, overriddenIn]; done) | decide +kernel
theorem pd_1 : parseMethodDescriptor "(I)Z" = some ⟨[.int], some .boolean⟩ := by decide +kernel
def Q0 (Z : State)  (h0 : Heap) (n0 : Nat) (v : Option Value) (h : Heap) (L : List Loc) : Prop := v = some (.int 1) ∧ Fr n0 L
theorem ef_rm0_1 (m : MethodId) (x0 : Int32) : entryFrame m #[(.int x0)] maxLocals = mkF m 0 #[.val (.int x0), .unset, .unset, .unset, .unset, .unset, .unset, .unset, .unset, .unset] [] := by first | (simp [entryFrame, mkF, argsToLocals, Value.category, maxLocals]; done) | rfl
set_option maxRecDepth 65536 in
set_option maxHeartbeats 40000000 in
theorem rm0_1 (l : Launch) (Z : State) (a0 : Array Value) (hw : ∀ d ∈ tables_1, d.before a0 Z = true) (ws : List Jvm.Cond) (p0 : Int32) (as_LESS : Addr) (as_LESS_EQUAL : Addr) (as_EQUAL : Addr) (as_NOT_EQUAL : Addr) (as_GREATER : Addr) (as_GREATER_EQUAL : Addr) (h0 : Heap) (n0 : Nat) (Z0 : n0 ≤ h0.size) (S_LESS : Sta Z h0 "com/example/ophion/ophion/runtime/CompareOp" "LESS" "Lcom/example/ophion/ophion/runtime/CompareOp;" (.ref as_LESS)) (E_LESS : Exa Z h0 as_LESS "com/example/ophion/ophion/runtime/CompareOp") (O_LESS : Fld Z h0 as_LESS "java/lang/Enum" "ordinal" "I" (.int 0)) (S_LESS_EQUAL : Sta Z h0 "com/example/ophion/ophion/runtime/CompareOp" "LESS_EQUAL" "Lcom/example/ophion/ophion/runtime/CompareOp;" (.ref as_LESS_EQUAL)) (E_LESS_EQUAL : Exa Z h0 as_LESS_EQUAL "com/example/ophion/ophion/runtime/CompareOp") (O_LESS_EQUAL : Fld Z h0 as_LESS_EQUAL "java/lang/Enum" "ordinal" "I" (.int 1)) (S_EQUAL : Sta Z h0 "com/example/ophion/ophion/runtime/CompareOp" "EQUAL" "Lcom/example/ophion/ophion/runtime/CompareOp;" (.ref as_EQUAL)) (E_EQUAL : Exa Z h0 as_EQUAL "com/example/ophion/ophion/runtime/CompareOp") (O_EQUAL : Fld Z h0 as_EQUAL "java/lang/Enum" "ordinal" "I" (.int 2)) (S_NOT_EQUAL : Sta Z h0 "com/example/ophion/ophion/runtime/CompareOp" "NOT_EQUAL" "Lcom/example/ophion/ophion/runtime/CompareOp;" (.ref as_NOT_EQUAL)) (E_NOT_EQUAL : Exa Z h0 as_NOT_EQUAL "com/example/ophion/ophion/runtime/CompareOp") (O_NOT_EQUAL : Fld Z h0 as_NOT_EQUAL "java/lang/Enum" "ordinal" "I" (.int 3)) (S_GREATER : Sta Z h0 "com/example/ophion/ophion/runtime/CompareOp" "GREATER" "Lcom/example/ophion/ophion/runtime/CompareOp;" (.ref as_GREATER)) (E_GREATER : Exa Z h0 as_GREATER "com/example/ophion/ophion/runtime/CompareOp") (O_GREATER : Fld Z h0 as_GREATER "java/lang/Enum" "ordinal" "I" (.int 4)) (S_GREATER_EQUAL : Sta Z h0 "com/example/ophion/ophion/runtime/CompareOp" "GREATER_EQUAL" "Lcom/example/ophion/ophion/runtime/CompareOp;" (.ref as_GREATER_EQUAL)) (E_GREATER_EQUAL : Exa Z h0 as_GREATER_EQUAL "com/example/ophion/ophion/runtime/CompareOp") (O_GREATER_EQUAL : Fld Z h0 as_GREATER_EQUAL "java/lang/Enum" "ordinal" "I" (.int 5)) (c1 : ((p0.toUInt32 >>> ((31 : Int32) &&& 31).toUInt32).toInt32) = (1 : Int32)) (c2 : ¬ (p0 = (0 : Int32))) (c3 : p0 < (0 : Int32)) (c4 : ¬ ((0 : Int32) < p0)) :
    MetFree l x (head1 (Jvm.Cond.code x code maxLocals ret :: ws) room_1) (fun a U => a = #[(.int p0)] ∧ Z.Warmed39 U.vm ∧ U.heap = h0) (fun _ _ _ _ _ => True) (fun _ U o U' => ∃ v L, o = .returned v ∧ Q0 Z  h0 n0 v U'.heap L ∧ FrameEnd U o U' L 0 0) := by
  refine MetFree.of_bodySF (plainFor_of_name pn_2) hisR ?_
  intro p e s m args below meth c s₁ Bd hml0 hP hK
  obtain ⟨rfl, hZ, hh⟩ := hP
  have hx := Bd.exec
  have hby := Bd.bytes
  have hml : c.maxLocals = 10 := hml0
  have hown : s.vm.findClass "com/example/ophion/ophion/runtime/CompareOpHoldsPinLaw" = some m.cls := findClass_of_methodNamed Bd.named
  have hnm := (name_of_methodNamed Bd.named Bd.method).1
  have X0 : Stand p l e room_1 s m #[(.int p0)] below meth c s₁ [] 0 0 := Stand.of_body Bd
  have e0 : s₁.heap = h0 := by rw [← hh, Bd.state]; rfl
  have N0 := Fr.nil n0
  refine own_go (own_lift (fun t k => castTop (ef_rm0_1 m p0) k) ?_)
  show own_Go p.tables e below (s₁.setTop (mkF m 0 #[iv p0, .unset, .unset, .unset, .unset, .unset, .unset, .unset, .unset, .unset] [])) _
  have sg1 : ∀ t, Steps p.tables e below (s₁.setTop (mkF m 38 #[iv p0, iv 1, iv 0, iv 0, .unset, .unset, .unset, .unset, .unset, .unset] [])) t → Steps p.tables e below (s₁.setTop (mkF m 0 #[iv p0, .unset, .unset, .unset, .unset, .unset, .unset, .unset, .unset, .unset] [])) t := by
    intro t k
    refine XS.iloadN X0.here hx rfl (hb hby at_0) rfl ?_
    show Steps p.tables e below (s₁.setTop (mkF m 1 #[iv p0, .unset, .unset, .unset, .unset, .unset, .unset, .unset, .unset, .unset] [(.int p0)])) _
    refine XS.bipush X0.here hx rfl (hb hby at_1) ?_
    show Steps p.tables e below (s₁.setTop (mkF m 3 #[iv p0, .unset, .unset, .unset, .unset, .unset, .unset, .unset, .unset, .unset] [(.int 31), (.int p0)])) _
    refine XS.iushr X0.here hx rfl (hb hby at_3) rfl ?_
    show Steps p.tables e below (s₁.setTop (mkF m 4 #[iv p0, .unset, .unset, .unset, .unset, .unset, .unset, .unset, .unset, .unset] [(.int ((p0.toUInt32 >>> ((31 : Int32) &&& 31).toUInt32).toInt32))])) _
    refine XS.iconst X0.here hx rfl (hb hby at_4) ?_
    show Steps p.tables e below (s₁.setTop (mkF m 5 #[iv p0, .unset, .unset, .unset, .unset, .unset, .unset, .unset, .unset, .unset] [(.int 1), (.int ((p0.toUInt32 >>> ((31 : Int32) &&& 31).toUInt32).toInt32))])) _
    refine XS.icmpNo X0.here hx rfl (hb hby at_5) rfl (teq c1).2 ?_
    show Steps p.tables e below (s₁.setTop (mkF m 8 #[iv p0, .unset, .unset, .unset, .unset, .unset, .unset, .unset, .unset, .unset] [])) _
    refine XS.iconst X0.here hx rfl (hb hby at_8) ?_
    show Steps p.tables e below (s₁.setTop (mkF m 9 #[iv p0, .unset, .unset, .unset, .unset, .unset, .unset, .unset, .unset, .unset] [(.int 1)])) _
    refine XS.goto X0.here hx rfl (pc0 := 9) (pc' := 13) rfl (hb hby at_9) (by decide) (by decide) ?_
    show Steps p.tables e below (s₁.setTop (mkF m 13 #[iv p0, .unset, .unset, .unset, .unset, .unset, .unset, .unset, .unset, .unset] [(.int 1)])) _
    refine XS.istoreN X0.here hx rfl (hb hby at_13) rfl (l' := #[iv p0, iv 1, .unset, .unset, .unset, .unset, .unset, .unset, .unset, .unset]) rfl ?_
    show Steps p.tables e below (s₁.setTop (mkF m 14 #[iv p0, iv 1, .unset, .unset, .unset, .unset, .unset, .unset, .unset, .unset] [])) _
    refine XS.iloadN X0.here hx rfl (hb hby at_14) rfl ?_
    show Steps p.tables e below (s₁.setTop (mkF m 15 #[iv p0, iv 1, .unset, .unset, .unset, .unset, .unset, .unset, .unset, .unset] [(.int p0)])) _
    refine XS.ifYes X0.here hx rfl (pc0 := 15) (pc' := 22) rfl (hb hby at_15) rfl ((if0 _ _).trans (feq c2).2) (by decide) (by decide) ?_
    show Steps p.tables e below (s₁.setTop (mkF m 22 #[iv p0, iv 1, .unset, .unset, .unset, .unset, .unset, .unset, .unset, .unset] [])) _
    refine XS.iconst X0.here hx rfl (hb hby at_22) ?_
    show Steps p.tables e below (s₁.setTop (mkF m 23 #[iv p0, iv 1, .unset, .unset, .unset, .unset, .unset, .unset, .unset, .unset] [(.int 0)])) _
    refine XS.istoreN X0.here hx rfl (hb hby at_23) rfl (l' := #[iv p0, iv 1, iv 0, .unset, .unset, .unset, .unset, .unset, .unset, .unset]) rfl ?_
    show Steps p.tables e below (s₁.setTop (mkF m 24 #[iv p0, iv 1, iv 0, .unset, .unset, .unset, .unset, .unset, .unset, .unset] [])) _
    refine XS.iloadN X0.here hx rfl (hb hby at_24) rfl ?_
    show Steps p.tables e below (s₁.setTop (mkF m 25 #[iv p0, iv 1, iv 0, .unset, .unset, .unset, .unset, .unset, .unset, .unset] [(.int 1)])) _
    refine XS.ifYes X0.here hx rfl (pc0 := 25) (pc' := 36) rfl (hb hby at_25) rfl ((if0 _ _).trans (feq (by decide : ¬ ((1 : Int32) = (0 : Int32)))).2) (by decide) (by decide) ?_
    show Steps p.tables e below (s₁.setTop (mkF m 36 #[iv p0, iv 1, iv 0, .unset, .unset, .unset, .unset, .unset, .unset, .unset] [])) _
    refine XS.iconst X0.here hx rfl (hb hby at_36) ?_
    show Steps p.tables e below (s₁.setTop (mkF m 37 #[iv p0, iv 1, iv 0, .unset, .unset, .unset, .unset, .unset, .unset, .unset] [(.int 0)])) _
    refine XS.istoreN X0.here hx rfl (hb hby at_37) rfl (l' := #[iv p0, iv 1, iv 0, iv 0, .unset, .unset, .unset, .unset, .unset, .unset]) rfl ?_
    show Steps p.tables e below (s₁.setTop (mkF m 38 #[iv p0, iv 1, iv 0, iv 0, .unset, .unset, .unset, .unset, .unset, .unset] [])) _
    exact k
  refine own_lift sg1 ?_
  show own_Go p.tables e below (s₁.setTop (mkF m 38 #[iv p0, iv 1, iv 0, iv 0, .unset, .unset, .unset, .unset, .unset, .unset] [])) _
  obtain ⟨T2, X2, e2, st2⟩ := getS X0 hx hZ hown (host := "") (wd hw 0 rfl) Via.refl e0 S_LESS (g := (mkF m 38 #[iv p0, iv 1, iv 0, iv 0, .unset, .unset, .unset, .unset, .unset, .unset] [])) rfl (hb hby at_38)
  refine own_lift st2 ?_
  show own_Go p.tables e below (T2.setTop (mkF m 41 #[iv p0, iv 1, iv 0, iv 0, .unset, .unset, .unset, .unset, .unset, .unset] [(.ref as_LESS)])) _
  have sg3 : ∀ t, Steps p.tables e below (T2.setTop (mkF m 42 #[iv p0, iv 1, iv 0, iv 0, .unset, .unset, .unset, .unset, .unset, .unset] [(.int p0), (.ref as_LESS)])) t → Steps p.tables e below (T2.setTop (mkF m 41 #[iv p0, iv 1, iv 0, iv 0, .unset, .unset, .unset, .unset, .unset, .unset] [(.ref as_LESS)])) t := by
    intro t k
    refine XS.iloadN X2.here hx rfl (hb hby at_41) rfl ?_
    show Steps p.tables e below (T2.setTop (mkF m 42 #[iv p0, iv 1, iv 0, iv 0, .unset, .unset, .unset, .unset, .unset, .unset] [(.int p0), (.ref as_LESS)])) _
    exact k
  refine own_lift sg3 ?_
  show own_Go p.tables e below (T2.setTop (mkF m 42 #[iv p0, iv 1, iv 0, iv 0, .unset, .unset, .unset, .unset, .unset, .unset] [(.int p0), (.ref as_LESS)])) _
  obtain ⟨cq4, kq4, q4a, q4b, q4c⟩ := isOf hZ e2 E_LESS
  obtain ⟨_, _, ⟨T4, Lx4, kx4, nx4⟩, -, X4, ⟨Lc4, hQ4, lx4, yx4, zx4⟩, st4⟩ := X2.virtualBack hx (y := (⟨"com/example/ophion/ophion/runtime/CompareOp", "holds", "(I)Z"⟩ : MethodName)) (z := (⟨"com/example/ophion/ophion/runtime/CompareOp", "holds", "(I)Z"⟩ : MethodName)) hown (mvT hZ (wd hw 3 rfl)) (mvT hZ (wd hw 4 rfl)) (notFace_of_selects (args := #[]) (mvT hZ (wd hw 6 rfl))) (mvT hZ (wd hw 6 rfl)) (mvT hZ (wd hw 5 rfl)) (by decide) (backOf (W := 0) (rmHolds0t l Z a0 hw [] as_LESS p0 h0 n0 Z0 O_LESS E_LESS c3) hZ (wd hw 7 rfl) (wd hw 1 rfl) (by decide) (by decide)) q4a q4c (g := (mkF m 42 #[iv p0, iv 1, iv 0, iv 0, .unset, .unset, .unset, .unset, .unset, .unset] [(.int p0), (.ref as_LESS)])) rfl (by rw [hml]; rfl) (Steps.refl _) (argsL := [(.int p0)]) (rest := []) (lenOf pd_1 rfl) rfl (by show 2 * 0 + _ ≤ _; exact Nat.le_of_eq rfl) (hb hby at_42) (fun _ _ => ⟨rfl, e2, (by decide : 0 + 0 ≤ _), (by decide : 0 + 0 ≤ _)⟩)
  dsimp only [Pt.U, Pt.locs, Pt.cells, Pt.slots] at X4 lx4 yx4 zx4 st4 hQ4
  subst lx4 yx4 zx4
  obtain ⟨rfl, N4q, e4⟩ := hQ4
  have N4 := Fr.app N0 N4q
  refine own_lift (fun t k => st4.trans k) ?_
  show own_Go p.tables e below (T4.setTop (mkF m 45 #[iv p0, iv 1, iv 0, iv 0, .unset, .unset, .unset, .unset, .unset, .unset] [(.int 1)])) _
  have sg5 : ∀ t, Steps p.tables e below (T4.setTop (mkF m 47 #[iv p0, iv 1, iv 0, iv 0, iv 1, .unset, .unset, .unset, .unset, .unset] [])) t → Steps p.tables e below (T4.setTop (mkF m 45 #[iv p0, iv 1, iv 0, iv 0, .unset, .unset, .unset, .unset, .unset, .unset] [(.int 1)])) t := by
    intro t k
    refine XS.istore X4.here hx rfl (hb hby at_45) rfl (l' := #[iv p0, iv 1, iv 0, iv 0, iv 1, .unset, .unset, .unset, .unset, .unset]) rfl ?_
    show Steps p.tables e below (T4.setTop (mkF m 47 #[iv p0, iv 1, iv 0, iv 0, iv 1, .unset, .unset, .unset, .unset, .unset] [])) _
    exact k
  refine own_lift sg5 ?_
  show own_Go p.tables e below (T4.setTop (mkF m 47 #[iv p0, iv 1, iv 0, iv 0, iv 1, .unset, .unset, .unset, .unset, .unset] [])) _
  obtain ⟨T6, X6, e6, st6⟩ := getS X4 hx hZ hown (host := "") (wd hw 17 rfl) Via.refl e4 S_LESS_EQUAL (g := (mkF m 47 #[iv p0, iv 1, iv 0, iv 0, iv 1, .unset, .unset, .unset, .unset, .unset] [])) rfl (hb hby at_47)
  refine own_lift st6 ?_
  show own_Go p.tables e below (T6.setTop (mkF m 50 #[iv p0, iv 1, iv 0, iv 0, iv 1, .unset, .unset, .unset, .unset, .unset] [(.ref as_LESS_EQUAL)])) _
  have sg7 : ∀ t, Steps p.tables e below (T6.setTop (mkF m 51 #[iv p0, iv 1, iv 0, iv 0, iv 1, .unset, .unset, .unset, .unset, .unset] [(.int p0), (.ref as_LESS_EQUAL)])) t → Steps p.tables e below (T6.setTop (mkF m 50 #[iv p0, iv 1, iv 0, iv 0, iv 1, .unset, .unset, .unset, .unset, .unset] [(.ref as_LESS_EQUAL)])) t := by
    intro t k
    refine XS.iloadN X6.here hx rfl (hb hby at_50) rfl ?_
    show Steps p.tables e below (T6.setTop (mkF m 51 #[iv p0, iv 1, iv 0, iv 0, iv 1, .unset, .unset, .unset, .unset, .unset] [(.int p0), (.ref as_LESS_EQUAL)])) _
    exact k
  refine own_lift sg7 ?_
  show own_Go p.tables e below (T6.setTop (mkF m 51 #[iv p0, iv 1, iv 0, iv 0, iv 1, .unset, .unset, .unset, .unset, .unset] [(.int p0), (.ref as_LESS_EQUAL)])) _
  obtain ⟨cq8, kq8, q8a, q8b, q8c⟩ := isOf hZ e6 E_LESS_EQUAL
  obtain ⟨_, _, ⟨T8, Lx8, kx8, nx8⟩, -, X8, ⟨Lc8, hQ8, lx8, yx8, zx8⟩, st8⟩ := X6.virtualBack hx (y := (⟨"com/example/ophion/ophion/runtime/CompareOp", "holds", "(I)Z"⟩ : MethodName)) (z := (⟨"com/example/ophion/ophion/runtime/CompareOp", "holds", "(I)Z"⟩ : MethodName)) hown (mvT hZ (wd hw 3 rfl)) (mvT hZ (wd hw 4 rfl)) (notFace_of_selects (args := #[]) (mvT hZ (wd hw 6 rfl))) (mvT hZ (wd hw 6 rfl)) (mvT hZ (wd hw 5 rfl)) (by decide) (backOf (W := 0) (rmHolds1f l Z a0 hw [] as_LESS_EQUAL p0 h0 n0 Z0 O_LESS_EQUAL E_LESS_EQUAL c4) hZ (wd hw 7 rfl) (wd hw 1 rfl) (by decide) (by decide)) q8a q8c (g := (mkF m 51 #[iv p0, iv 1, iv 0, iv 0, iv 1, .unset, .unset, .unset, .unset, .unset] [(.int p0), (.ref as_LESS_EQUAL)])) rfl (by rw [hml]; rfl) (Steps.refl _) (argsL := [(.int p0)]) (rest := []) (lenOf pd_1 rfl) rfl (by show 2 * 0 + _ ≤ _; exact Nat.le_of_eq rfl) (hb hby at_51) (fun _ _ => ⟨rfl, e6, (by decide : 0 + 0 ≤ _), (by decide : 0 + 0 ≤ _)⟩)
  dsimp only [Pt.U, Pt.locs, Pt.cells, Pt.slots] at X8 lx8 yx8 zx8 st8 hQ8
  subst lx8 yx8 zx8
  obtain ⟨rfl, N8q, e8⟩ := hQ8
  have N8 := Fr.app N4 N8q
  refine own_lift (fun t k => st8.trans k) ?_
  show own_Go p.tables e below (T8.setTop (mkF m 54 #[iv p0, iv 1, iv 0, iv 0, iv 1, .unset, .unset, .unset, .unset, .unset] [(.int 1)])) _
  have sg9 : ∀ t, Steps p.tables e below (T8.setTop (mkF m 56 #[iv p0, iv 1, iv 0, iv 0, iv 1, iv 1, .unset, .unset, .unset, .unset] [])) t → Steps p.tables e below (T8.setTop (mkF m 54 #[iv p0, iv 1, iv 0, iv 0, iv 1, .unset, .unset, .unset, .unset, .unset] [(.int 1)])) t := by
    intro t k
    refine XS.istore X8.here hx rfl (hb hby at_54) rfl (l' := #[iv p0, iv 1, iv 0, iv 0, iv 1, iv 1, .unset, .unset, .unset, .unset]) rfl ?_
    show Steps p.tables e below (T8.setTop (mkF m 56 #[iv p0, iv 1, iv 0, iv 0, iv 1, iv 1, .unset, .unset, .unset, .unset] [])) _
    exact k
  refine own_lift sg9 ?_
  show own_Go p.tables e below (T8.setTop (mkF m 56 #[iv p0, iv 1, iv 0, iv 0, iv 1, iv 1, .unset, .unset, .unset, .unset] [])) _
  obtain ⟨T10, X10, e10, st10⟩ := getS X8 hx hZ hown (host := "") (wd hw 19 rfl) Via.refl e8 S_EQUAL (g := (mkF m 56 #[iv p0, iv 1, iv 0, iv 0, iv 1, iv 1, .unset, .unset, .unset, .unset] [])) rfl (hb hby at_56)
  refine own_lift st10 ?_
  show own_Go p.tables e below (T10.setTop (mkF m 59 #[iv p0, iv 1, iv 0, iv 0, iv 1, iv 1, .unset, .unset, .unset, .unset] [(.ref as_EQUAL)])) _
  have sg11 : ∀ t, Steps p.tables e below (T10.setTop (mkF m 60 #[iv p0, iv 1, iv 0, iv 0, iv 1, iv 1, .unset, .unset, .unset, .unset] [(.int p0), (.ref as_EQUAL)])) t → Steps p.tables e below (T10.setTop (mkF m 59 #[iv p0, iv 1, iv 0, iv 0, iv 1, iv 1, .unset, .unset, .unset, .unset] [(.ref as_EQUAL)])) t := by
    intro t k
    refine XS.iloadN X10.here hx rfl (hb hby at_59) rfl ?_
    show Steps p.tables e below (T10.setTop (mkF m 60 #[iv p0, iv 1, iv 0, iv 0, iv 1, iv 1, .unset, .unset, .unset, .unset] [(.int p0), (.ref as_EQUAL)])) _
    exact k
  refine own_lift sg11 ?_
  show own_Go p.tables e below (T10.setTop (mkF m 60 #[iv p0, iv 1, iv 0, iv 0, iv 1, iv 1, .unset, .unset, .unset, .unset] [(.int p0), (.ref as_EQUAL)])) _
  obtain ⟨cq12, kq12, q12a, q12b, q12c⟩ := isOf hZ e10 E_EQUAL
  obtain ⟨_, _, ⟨T12, Lx12, kx12, nx12⟩, -, X12, ⟨Lc12, hQ12, lx12, yx12, zx12⟩, st12⟩ := X10.virtualBack hx (y := (⟨"com/example/ophion/ophion/runtime/CompareOp", "holds", "(I)Z"⟩ : MethodName)) (z := (⟨"com/example/ophion/ophion/runtime/CompareOp", "holds", "(I)Z"⟩ : MethodName)) hown (mvT hZ (wd hw 3 rfl)) (mvT hZ (wd hw 4 rfl)) (notFace_of_selects (args := #[]) (mvT hZ (wd hw 6 rfl))) (mvT hZ (wd hw 6 rfl)) (mvT hZ (wd hw 5 rfl)) (by decide) (backOf (W := 0) (rmHolds2f l Z a0 hw [] as_EQUAL p0 h0 n0 Z0 O_EQUAL E_EQUAL c2) hZ (wd hw 7 rfl) (wd hw 1 rfl) (by decide) (by decide)) q12a q12c (g := (mkF m 60 #[iv p0, iv 1, iv 0, iv 0, iv 1, iv 1, .unset, .unset, .unset, .unset] [(.int p0), (.ref as_EQUAL)])) rfl (by rw [hml]; rfl) (Steps.refl _) (argsL := [(.int p0)]) (rest := []) (lenOf pd_1 rfl) rfl (by show 2 * 0 + _ ≤ _; exact Nat.le_of_eq rfl) (hb hby at_60) (fun _ _ => ⟨rfl, e10, (by decide : 0 + 0 ≤ _), (by decide : 0 + 0 ≤ _)⟩)
  dsimp only [Pt.U, Pt.locs, Pt.cells, Pt.slots] at X12 lx12 yx12 zx12 st12 hQ12
  subst lx12 yx12 zx12
  obtain ⟨rfl, N12q, e12⟩ := hQ12
  have N12 := Fr.app N8 N12q
  refine own_lift (fun t k => st12.trans k) ?_
  show own_Go p.tables e below (T12.setTop (mkF m 63 #[iv p0, iv 1, iv 0, iv 0, iv 1, iv 1, .unset, .unset, .unset, .unset] [(.int 0)])) _
  have sg13 : ∀ t, Steps p.tables e below (T12.setTop (mkF m 65 #[iv p0, iv 1, iv 0, iv 0, iv 1, iv 1, iv 0, .unset, .unset, .unset] [])) t → Steps p.tables e below (T12.setTop (mkF m 63 #[iv p0, iv 1, iv 0, iv 0, iv 1, iv 1, .unset, .unset, .unset, .unset] [(.int 0)])) t := by
    intro t k
    refine XS.istore X12.here hx rfl (hb hby at_63) rfl (l' := #[iv p0, iv 1, iv 0, iv 0, iv 1, iv 1, iv 0, .unset, .unset, .unset]) rfl ?_
    show Steps p.tables e below (T12.setTop (mkF m 65 #[iv p0, iv 1, iv 0, iv 0, iv 1, iv 1, iv 0, .unset, .unset, .unset] [])) _
    exact k
  refine own_lift sg13 ?_
  show own_Go p.tables e below (T12.setTop (mkF m 65 #[iv p0, iv 1, iv 0, iv 0, iv 1, iv 1, iv 0, .unset, .unset, .unset] [])) _
  obtain ⟨T14, X14, e14, st14⟩ := getS X12 hx hZ hown (host := "") (wd hw 21 rfl) Via.refl e12 S_NOT_EQUAL (g := (mkF m 65 #[iv p0, iv 1, iv 0, iv 0, iv 1, iv 1, iv 0, .unset, .unset, .unset] [])) rfl (hb hby at_65)
  refine own_lift st14 ?_
  show own_Go p.tables e below (T14.setTop (mkF m 68 #[iv p0, iv 1, iv 0, iv 0, iv 1, iv 1, iv 0, .unset, .unset, .unset] [(.ref as_NOT_EQUAL)])) _
  have sg15 : ∀ t, Steps p.tables e below (T14.setTop (mkF m 69 #[iv p0, iv 1, iv 0, iv 0, iv 1, iv 1, iv 0, .unset, .unset, .unset] [(.int p0), (.ref as_NOT_EQUAL)])) t → Steps p.tables e below (T14.setTop (mkF m 68 #[iv p0, iv 1, iv 0, iv 0, iv 1, iv 1, iv 0, .unset, .unset, .unset] [(.ref as_NOT_EQUAL)])) t := by
    intro t k
    refine XS.iloadN X14.here hx rfl (hb hby at_68) rfl ?_
    show Steps p.tables e below (T14.setTop (mkF m 69 #[iv p0, iv 1, iv 0, iv 0, iv 1, iv 1, iv 0, .unset, .unset, .unset] [(.int p0), (.ref as_NOT_EQUAL)])) _
    exact k
  refine own_lift sg15 ?_
  show own_Go p.tables e below (T14.setTop (mkF m 69 #[iv p0, iv 1, iv 0, iv 0, iv 1, iv 1, iv 0, .unset, .unset, .unset] [(.int p0), (.ref as_NOT_EQUAL)])) _
  obtain ⟨cq16, kq16, q16a, q16b, q16c⟩ := isOf hZ e14 E_NOT_EQUAL
  obtain ⟨_, _, ⟨T16, Lx16, kx16, nx16⟩, -, X16, ⟨Lc16, hQ16, lx16, yx16, zx16⟩, st16⟩ := X14.virtualBack hx (y := (⟨"com/example/ophion/ophion/runtime/CompareOp", "holds", "(I)Z"⟩ : MethodName)) (z := (⟨"com/example/ophion/ophion/runtime/CompareOp", "holds", "(I)Z"⟩ : MethodName)) hown (mvT hZ (wd hw 3 rfl)) (mvT hZ (wd hw 4 rfl)) (notFace_of_selects (args := #[]) (mvT hZ (wd hw 6 rfl))) (mvT hZ (wd hw 6 rfl)) (mvT hZ (wd hw 5 rfl)) (by decide) (backOf (W := 0) (rmHolds3f l Z a0 hw [] as_NOT_EQUAL p0 h0 n0 Z0 O_NOT_EQUAL E_NOT_EQUAL c2) hZ (wd hw 7 rfl) (wd hw 1 rfl) (by decide) (by decide)) q16a q16c (g := (mkF m 69 #[iv p0, iv 1, iv 0, iv 0, iv 1, iv 1, iv 0, .unset, .unset, .unset] [(.int p0), (.ref as_NOT_EQUAL)])) rfl (by rw [hml]; rfl) (Steps.refl _) (argsL := [(.int p0)]) (rest := []) (lenOf pd_1 rfl) rfl (by show 2 * 0 + _ ≤ _; exact Nat.le_of_eq rfl) (hb hby at_69) (fun _ _ => ⟨rfl, e14, (by decide : 0 + 0 ≤ _), (by decide : 0 + 0 ≤ _)⟩)
  dsimp only [Pt.U, Pt.locs, Pt.cells, Pt.slots] at X16 lx16 yx16 zx16 st16 hQ16
  subst lx16 yx16 zx16
  obtain ⟨rfl, N16q, e16⟩ := hQ16
  have N16 := Fr.app N12 N16q
  refine own_lift (fun t k => st16.trans k) ?_
  show own_Go p.tables e below (T16.setTop (mkF m 72 #[iv p0, iv 1, iv 0, iv 0, iv 1, iv 1, iv 0, .unset, .unset, .unset] [(.int 1)])) _
  have sg17 : ∀ t, Steps p.tables e below (T16.setTop (mkF m 74 #[iv p0, iv 1, iv 0, iv 0, iv 1, iv 1, iv 0, iv 1, .unset, .unset] [])) t → Steps p.tables e below (T16.setTop (mkF m 72 #[iv p0, iv 1, iv 0, iv 0, iv 1, iv 1, iv 0, .unset, .unset, .unset] [(.int 1)])) t := by
    intro t k
    refine XS.istore X16.here hx rfl (hb hby at_72) rfl (l' := #[iv p0, iv 1, iv 0, iv 0, iv 1, iv 1, iv 0, iv 1, .unset, .unset]) rfl ?_
    show Steps p.tables e below (T16.setTop (mkF m 74 #[iv p0, iv 1, iv 0, iv 0, iv 1, iv 1, iv 0, iv 1, .unset, .unset] [])) _
    exact k
  refine own_lift sg17 ?_
  show own_Go p.tables e below (T16.setTop (mkF m 74 #[iv p0, iv 1, iv 0, iv 0, iv 1, iv 1, iv 0, iv 1, .unset, .unset] [])) _
  obtain ⟨T18, X18, e18, st18⟩ := getS X16 hx hZ hown (host := "") (wd hw 23 rfl) Via.refl e16 S_GREATER (g := (mkF m 74 #[iv p0, iv 1, iv 0, iv 0, iv 1, iv 1, iv 0, iv 1, .unset, .unset] [])) rfl (hb hby at_74)
  refine own_lift st18 ?_
  show own_Go p.tables e below (T18.setTop (mkF m 77 #[iv p0, iv 1, iv 0, iv 0, iv 1, iv 1, iv 0, iv 1, .unset, .unset] [(.ref as_GREATER)])) _
  have sg19 : ∀ t, Steps p.tables e below (T18.setTop (mkF m 78 #[iv p0, iv 1, iv 0, iv 0, iv 1, iv 1, iv 0, iv 1, .unset, .unset] [(.int p0), (.ref as_GREATER)])) t → Steps p.tables e below (T18.setTop (mkF m 77 #[iv p0, iv 1, iv 0, iv 0, iv 1, iv 1, iv 0, iv 1, .unset, .unset] [(.ref as_GREATER)])) t := by
    intro t k
    refine XS.iloadN X18.here hx rfl (hb hby at_77) rfl ?_
    show Steps p.tables e below (T18.setTop (mkF m 78 #[iv p0, iv 1, iv 0, iv 0, iv 1, iv 1, iv 0, iv 1, .unset, .unset] [(.int p0), (.ref as_GREATER)])) _
    exact k
  refine own_lift sg19 ?_
  show own_Go p.tables e below (T18.setTop (mkF m 78 #[iv p0, iv 1, iv 0, iv 0, iv 1, iv 1, iv 0, iv 1, .unset, .unset] [(.int p0), (.ref as_GREATER)])) _
  obtain ⟨cq20, kq20, q20a, q20b, q20c⟩ := isOf hZ e18 E_GREATER
  obtain ⟨_, _, ⟨T20, Lx20, kx20, nx20⟩, -, X20, ⟨Lc20, hQ20, lx20, yx20, zx20⟩, st20⟩ := X18.virtualBack hx (y := (⟨"com/example/ophion/ophion/runtime/CompareOp", "holds", "(I)Z"⟩ : MethodName)) (z := (⟨"com/example/ophion/ophion/runtime/CompareOp", "holds", "(I)Z"⟩ : MethodName)) hown (mvT hZ (wd hw 3 rfl)) (mvT hZ (wd hw 4 rfl)) (notFace_of_selects (args := #[]) (mvT hZ (wd hw 6 rfl))) (mvT hZ (wd hw 6 rfl)) (mvT hZ (wd hw 5 rfl)) (by decide) (backOf (W := 0) (rmHolds4f l Z a0 hw [] as_GREATER p0 h0 n0 Z0 O_GREATER E_GREATER c4) hZ (wd hw 7 rfl) (wd hw 1 rfl) (by decide) (by decide)) q20a q20c (g := (mkF m 78 #[iv p0, iv 1, iv 0, iv 0, iv 1, iv 1, iv 0, iv 1, .unset, .unset] [(.int p0), (.ref as_GREATER)])) rfl (by rw [hml]; rfl) (Steps.refl _) (argsL := [(.int p0)]) (rest := []) (lenOf pd_1 rfl) rfl (by show 2 * 0 + _ ≤ _; exact Nat.le_of_eq rfl) (hb hby at_78) (fun _ _ => ⟨rfl, e18, (by decide : 0 + 0 ≤ _), (by decide : 0 + 0 ≤ _)⟩)
  dsimp only [Pt.U, Pt.locs, Pt.cells, Pt.slots] at X20 lx20 yx20 zx20 st20 hQ20
  subst lx20 yx20 zx20
  obtain ⟨rfl, N20q, e20⟩ := hQ20
  have N20 := Fr.app N16 N20q
  refine own_lift (fun t k => st20.trans k) ?_
  show own_Go p.tables e below (T20.setTop (mkF m 81 #[iv p0, iv 1, iv 0, iv 0, iv 1, iv 1, iv 0, iv 1, .unset, .unset] [(.int 0)])) _
  have sg21 : ∀ t, Steps p.tables e below (T20.setTop (mkF m 83 #[iv p0, iv 1, iv 0, iv 0, iv 1, iv 1, iv 0, iv 1, iv 0, .unset] [])) t → Steps p.tables e below (T20.setTop (mkF m 81 #[iv p0, iv 1, iv 0, iv 0, iv 1, iv 1, iv 0, iv 1, .unset, .unset] [(.int 0)])) t := by
    intro t k
    refine XS.istore X20.here hx rfl (hb hby at_81) rfl (l' := #[iv p0, iv 1, iv 0, iv 0, iv 1, iv 1, iv 0, iv 1, iv 0, .unset]) rfl ?_
    show Steps p.tables e below (T20.setTop (mkF m 83 #[iv p0, iv 1, iv 0, iv 0, iv 1, iv 1, iv 0, iv 1, iv 0, .unset] [])) _
    exact k
  refine own_lift sg21 ?_
  show own_Go p.tables e below (T20.setTop (mkF m 83 #[iv p0, iv 1, iv 0, iv 0, iv 1, iv 1, iv 0, iv 1, iv 0, .unset] [])) _
  obtain ⟨T22, X22, e22, st22⟩ := getS X20 hx hZ hown (host := "") (wd hw 25 rfl) Via.refl e20 S_GREATER_EQUAL (g := (mkF m 83 #[iv p0, iv 1, iv 0, iv 0, iv 1, iv 1, iv 0, iv 1, iv 0, .unset] [])) rfl (hb hby at_83)
  refine own_lift st22 ?_
  show own_Go p.tables e below (T22.setTop (mkF m 86 #[iv p0, iv 1, iv 0, iv 0, iv 1, iv 1, iv 0, iv 1, iv 0, .unset] [(.ref as_GREATER_EQUAL)])) _
  have sg23 : ∀ t, Steps p.tables e below (T22.setTop (mkF m 87 #[iv p0, iv 1, iv 0, iv 0, iv 1, iv 1, iv 0, iv 1, iv 0, .unset] [(.int p0), (.ref as_GREATER_EQUAL)])) t → Steps p.tables e below (T22.setTop (mkF m 86 #[iv p0, iv 1, iv 0, iv 0, iv 1, iv 1, iv 0, iv 1, iv 0, .unset] [(.ref as_GREATER_EQUAL)])) t := by
    intro t k
    refine XS.iloadN X22.here hx rfl (hb hby at_86) rfl ?_
    show Steps p.tables e below (T22.setTop (mkF m 87 #[iv p0, iv 1, iv 0, iv 0, iv 1, iv 1, iv 0, iv 1, iv 0, .unset] [(.int p0), (.ref as_GREATER_EQUAL)])) _
    exact k
  refine own_lift sg23 ?_
  show own_Go p.tables e below (T22.setTop (mkF m 87 #[iv p0, iv 1, iv 0, iv 0, iv 1, iv 1, iv 0, iv 1, iv 0, .unset] [(.int p0), (.ref as_GREATER_EQUAL)])) _
  obtain ⟨cq24, kq24, q24a, q24b, q24c⟩ := isOf hZ e22 E_GREATER_EQUAL
  obtain ⟨_, _, ⟨T24, Lx24, kx24, nx24⟩, -, X24, ⟨Lc24, hQ24, lx24, yx24, zx24⟩, st24⟩ := X22.virtualBack hx (y := (⟨"com/example/ophion/ophion/runtime/CompareOp", "holds", "(I)Z"⟩ : MethodName)) (z := (⟨"com/example/ophion/ophion/runtime/CompareOp", "holds", "(I)Z"⟩ : MethodName)) hown (mvT hZ (wd hw 3 rfl)) (mvT hZ (wd hw 4 rfl)) (notFace_of_selects (args := #[]) (mvT hZ (wd hw 6 rfl))) (mvT hZ (wd hw 6 rfl)) (mvT hZ (wd hw 5 rfl)) (by decide) (backOf (W := 0) (rmHolds5t l Z a0 hw [] as_GREATER_EQUAL p0 h0 n0 Z0 O_GREATER_EQUAL E_GREATER_EQUAL c3) hZ (wd hw 7 rfl) (wd hw 1 rfl) (by decide) (by decide)) q24a q24c (g := (mkF m 87 #[iv p0, iv 1, iv 0, iv 0, iv 1, iv 1, iv 0, iv 1, iv 0, .unset] [(.int p0), (.ref as_GREATER_EQUAL)])) rfl (by rw [hml]; rfl) (Steps.refl _) (argsL := [(.int p0)]) (rest := []) (lenOf pd_1 rfl) rfl (by show 2 * 0 + _ ≤ _; exact Nat.le_of_eq rfl) (hb hby at_87) (fun _ _ => ⟨rfl, e22, (by decide : 0 + 0 ≤ _), (by decide : 0 + 0 ≤ _)⟩)
  dsimp only [Pt.U, Pt.locs, Pt.cells, Pt.slots] at X24 lx24 yx24 zx24 st24 hQ24
  subst lx24 yx24 zx24
  obtain ⟨rfl, N24q, e24⟩ := hQ24
  have N24 := Fr.app N20 N24q
  refine own_lift (fun t k => st24.trans k) ?_
  show own_Go p.tables e below (T24.setTop (mkF m 90 #[iv p0, iv 1, iv 0, iv 0, iv 1, iv 1, iv 0, iv 1, iv 0, .unset] [(.int 0)])) _
  have sg25 : ∀ t, Steps p.tables e below (T24.setTop (mkF m 161 #[iv p0, iv 1, iv 0, iv 0, iv 1, iv 1, iv 0, iv 1, iv 0, iv 0] [(.int 1)])) t → Steps p.tables e below (T24.setTop (mkF m 90 #[iv p0, iv 1, iv 0, iv 0, iv 1, iv 1, iv 0, iv 1, iv 0, .unset] [(.int 0)])) t := by
    intro t k
    refine XS.istore X24.here hx rfl (hb hby at_90) rfl (l' := #[iv p0, iv 1, iv 0, iv 0, iv 1, iv 1, iv 0, iv 1, iv 0, iv 0]) rfl ?_
    show Steps p.tables e below (T24.setTop (mkF m 92 #[iv p0, iv 1, iv 0, iv 0, iv 1, iv 1, iv 0, iv 1, iv 0, iv 0] [])) _
    refine XS.iload X24.here hx rfl (hb hby at_92) rfl ?_
    show Steps p.tables e below (T24.setTop (mkF m 94 #[iv p0, iv 1, iv 0, iv 0, iv 1, iv 1, iv 0, iv 1, iv 0, iv 0] [(.int 1)])) _
    refine XS.iloadN X24.here hx rfl (hb hby at_94) rfl ?_
    show Steps p.tables e below (T24.setTop (mkF m 95 #[iv p0, iv 1, iv 0, iv 0, iv 1, iv 1, iv 0, iv 1, iv 0, iv 0] [(.int 1), (.int 1)])) _
    refine XS.icmpNo X24.here hx rfl (hb hby at_95) rfl (teq (by decide : (1 : Int32) = (1 : Int32))).2 ?_
    show Steps p.tables e below (T24.setTop (mkF m 98 #[iv p0, iv 1, iv 0, iv 0, iv 1, iv 1, iv 0, iv 1, iv 0, iv 0] [])) _
    refine XS.iload X24.here hx rfl (hb hby at_98) rfl ?_
    show Steps p.tables e below (T24.setTop (mkF m 100 #[iv p0, iv 1, iv 0, iv 0, iv 1, iv 1, iv 0, iv 1, iv 0, iv 0] [(.int 1)])) _
    refine XS.iloadN X24.here hx rfl (hb hby at_100) rfl ?_
    show Steps p.tables e below (T24.setTop (mkF m 101 #[iv p0, iv 1, iv 0, iv 0, iv 1, iv 1, iv 0, iv 1, iv 0, iv 0] [(.int 1), (.int 1)])) _
    refine XS.ifYes X24.here hx rfl (pc0 := 101) (pc' := 108) rfl (hb hby at_101) rfl ((if0 _ _).trans (feq (by decide : ¬ ((1 : Int32) = (0 : Int32)))).2) (by decide) (by decide) ?_
    show Steps p.tables e below (T24.setTop (mkF m 108 #[iv p0, iv 1, iv 0, iv 0, iv 1, iv 1, iv 0, iv 1, iv 0, iv 0] [(.int 1)])) _
    refine XS.iconst X24.here hx rfl (hb hby at_108) ?_
    show Steps p.tables e below (T24.setTop (mkF m 109 #[iv p0, iv 1, iv 0, iv 0, iv 1, iv 1, iv 0, iv 1, iv 0, iv 0] [(.int 1), (.int 1)])) _
    refine XS.goto X24.here hx rfl (pc0 := 109) (pc' := 113) rfl (hb hby at_109) (by decide) (by decide) ?_
    show Steps p.tables e below (T24.setTop (mkF m 113 #[iv p0, iv 1, iv 0, iv 0, iv 1, iv 1, iv 0, iv 1, iv 0, iv 0] [(.int 1), (.int 1)])) _
    refine XS.icmpNo X24.here hx rfl (hb hby at_113) rfl (teq (by decide : (1 : Int32) = (1 : Int32))).2 ?_
    show Steps p.tables e below (T24.setTop (mkF m 116 #[iv p0, iv 1, iv 0, iv 0, iv 1, iv 1, iv 0, iv 1, iv 0, iv 0] [])) _
    refine XS.iload X24.here hx rfl (hb hby at_116) rfl ?_
    show Steps p.tables e below (T24.setTop (mkF m 118 #[iv p0, iv 1, iv 0, iv 0, iv 1, iv 1, iv 0, iv 1, iv 0, iv 0] [(.int 0)])) _
    refine XS.iloadN X24.here hx rfl (hb hby at_118) rfl ?_
    show Steps p.tables e below (T24.setTop (mkF m 119 #[iv p0, iv 1, iv 0, iv 0, iv 1, iv 1, iv 0, iv 1, iv 0, iv 0] [(.int 0), (.int 0)])) _
    refine XS.icmpNo X24.here hx rfl (hb hby at_119) rfl (teq (by decide : (0 : Int32) = (0 : Int32))).2 ?_
    show Steps p.tables e below (T24.setTop (mkF m 122 #[iv p0, iv 1, iv 0, iv 0, iv 1, iv 1, iv 0, iv 1, iv 0, iv 0] [])) _
    refine XS.iload X24.here hx rfl (hb hby at_122) rfl ?_
    show Steps p.tables e below (T24.setTop (mkF m 124 #[iv p0, iv 1, iv 0, iv 0, iv 1, iv 1, iv 0, iv 1, iv 0, iv 0] [(.int 1)])) _
    refine XS.iloadN X24.here hx rfl (hb hby at_124) rfl ?_
    show Steps p.tables e below (T24.setTop (mkF m 125 #[iv p0, iv 1, iv 0, iv 0, iv 1, iv 1, iv 0, iv 1, iv 0, iv 0] [(.int 0), (.int 1)])) _
    refine XS.ifNo X24.here hx rfl (hb hby at_125) rfl ((if0 _ _).trans (teq (by decide : (0 : Int32) = (0 : Int32))).2) ?_
    show Steps p.tables e below (T24.setTop (mkF m 128 #[iv p0, iv 1, iv 0, iv 0, iv 1, iv 1, iv 0, iv 1, iv 0, iv 0] [(.int 1)])) _
    refine XS.iconst X24.here hx rfl (hb hby at_128) ?_
    show Steps p.tables e below (T24.setTop (mkF m 129 #[iv p0, iv 1, iv 0, iv 0, iv 1, iv 1, iv 0, iv 1, iv 0, iv 0] [(.int 1), (.int 1)])) _
    refine XS.goto X24.here hx rfl (pc0 := 129) (pc' := 133) rfl (hb hby at_129) (by decide) (by decide) ?_
    show Steps p.tables e below (T24.setTop (mkF m 133 #[iv p0, iv 1, iv 0, iv 0, iv 1, iv 1, iv 0, iv 1, iv 0, iv 0] [(.int 1), (.int 1)])) _
    refine XS.icmpNo X24.here hx rfl (hb hby at_133) rfl (teq (by decide : (1 : Int32) = (1 : Int32))).2 ?_
    show Steps p.tables e below (T24.setTop (mkF m 136 #[iv p0, iv 1, iv 0, iv 0, iv 1, iv 1, iv 0, iv 1, iv 0, iv 0] [])) _
    refine XS.iload X24.here hx rfl (hb hby at_136) rfl ?_
    show Steps p.tables e below (T24.setTop (mkF m 138 #[iv p0, iv 1, iv 0, iv 0, iv 1, iv 1, iv 0, iv 1, iv 0, iv 0] [(.int 0)])) _
    refine XS.iloadN X24.here hx rfl (hb hby at_138) rfl ?_
    show Steps p.tables e below (T24.setTop (mkF m 139 #[iv p0, iv 1, iv 0, iv 0, iv 1, iv 1, iv 0, iv 1, iv 0, iv 0] [(.int 0), (.int 0)])) _
    refine XS.icmpNo X24.here hx rfl (hb hby at_139) rfl (teq (by decide : (0 : Int32) = (0 : Int32))).2 ?_
    show Steps p.tables e below (T24.setTop (mkF m 142 #[iv p0, iv 1, iv 0, iv 0, iv 1, iv 1, iv 0, iv 1, iv 0, iv 0] [])) _
    refine XS.iload X24.here hx rfl (hb hby at_142) rfl ?_
    show Steps p.tables e below (T24.setTop (mkF m 144 #[iv p0, iv 1, iv 0, iv 0, iv 1, iv 1, iv 0, iv 1, iv 0, iv 0] [(.int 0)])) _
    refine XS.iloadN X24.here hx rfl (hb hby at_144) rfl ?_
    show Steps p.tables e below (T24.setTop (mkF m 145 #[iv p0, iv 1, iv 0, iv 0, iv 1, iv 1, iv 0, iv 1, iv 0, iv 0] [(.int 1), (.int 0)])) _
    refine XS.ifYes X24.here hx rfl (pc0 := 145) (pc' := 152) rfl (hb hby at_145) rfl ((if0 _ _).trans (feq (by decide : ¬ ((1 : Int32) = (0 : Int32)))).2) (by decide) (by decide) ?_
    show Steps p.tables e below (T24.setTop (mkF m 152 #[iv p0, iv 1, iv 0, iv 0, iv 1, iv 1, iv 0, iv 1, iv 0, iv 0] [(.int 0)])) _
    refine XS.iconst X24.here hx rfl (hb hby at_152) ?_
    show Steps p.tables e below (T24.setTop (mkF m 153 #[iv p0, iv 1, iv 0, iv 0, iv 1, iv 1, iv 0, iv 1, iv 0, iv 0] [(.int 0), (.int 0)])) _
    refine XS.icmpNo X24.here hx rfl (hb hby at_153) rfl (teq (by decide : (0 : Int32) = (0 : Int32))).2 ?_
    show Steps p.tables e below (T24.setTop (mkF m 156 #[iv p0, iv 1, iv 0, iv 0, iv 1, iv 1, iv 0, iv 1, iv 0, iv 0] [])) _
    refine XS.iconst X24.here hx rfl (hb hby at_156) ?_
    show Steps p.tables e below (T24.setTop (mkF m 157 #[iv p0, iv 1, iv 0, iv 0, iv 1, iv 1, iv 0, iv 1, iv 0, iv 0] [(.int 1)])) _
    refine XS.goto X24.here hx rfl (pc0 := 157) (pc' := 161) rfl (hb hby at_157) (by decide) (by decide) ?_
    show Steps p.tables e below (T24.setTop (mkF m 161 #[iv p0, iv 1, iv 0, iv 0, iv 1, iv 1, iv 0, iv 1, iv 0, iv 0] [(.int 1)])) _
    exact k
  refine own_lift sg25 ?_
  show own_Go p.tables e below (T24.setTop (mkF m 161 #[iv p0, iv 1, iv 0, iv 0, iv 1, iv 1, iv 0, iv 1, iv 0, iv 0] [(.int 1)])) _
  obtain ⟨fs, hr, hrun, hended, hW, hsame⟩ := X24.leave (v := some (.int 1)) (fun h => by rw [Bd.returns] at h; cases h)
  refine ⟨_, _, ?_, hrun, hended, _, _, rfl, ?_, ⟨_, rfl⟩, hW, hsame.mono (by decide) (by decide)⟩
  · exact retN X24 hx (t := .boolean) Bd.returns (by simp) (hb hby at_161) hr
  · show Q0 Z  h0 n0 _ T24.heap _
    rw [e24]
    exact ⟨rfl, N24⟩
theorem ef_rm0_2 (m : MethodId) (x0 : Int32) : entryFrame m #[(.int x0)] maxLocals = mkF m 0 #[.val (.int x0), .unset, .unset, .unset, .unset, .unset, .unset, .unset, .unset, .unset] [] := by first | (simp [entryFrame, mkF, argsToLocals, Value.category, maxLocals]; done) | rfl
set_option maxRecDepth 65536 in
set_option maxHeartbeats 40000000 in
theorem rm0_2 (l : Launch) (Z : State) (a0 : Array Value) (hw : ∀ d ∈ tables_1, d.before a0 Z = true) (ws : List Jvm.Cond) (p0 : Int32) (as_LESS : Addr) (as_LESS_EQUAL : Addr) (as_EQUAL : Addr) (as_NOT_EQUAL : Addr) (as_GREATER : Addr) (as_GREATER_EQUAL : Addr) (h0 : Heap) (n0 : Nat) (Z0 : n0 ≤ h0.size) (S_LESS : Sta Z h0 "com/example/ophion/ophion/runtime/CompareOp" "LESS" "Lcom/example/ophion/ophion/runtime/CompareOp;" (.ref as_LESS)) (E_LESS : Exa Z h0 as_LESS "com/example/ophion/ophion/runtime/CompareOp") (O_LESS : Fld Z h0 as_LESS "java/lang/Enum" "ordinal" "I" (.int 0)) (S_LESS_EQUAL : Sta Z h0 "com/example/ophion/ophion/runtime/CompareOp" "LESS_EQUAL" "Lcom/example/ophion/ophion/runtime/CompareOp;" (.ref as_LESS_EQUAL)) (E_LESS_EQUAL : Exa Z h0 as_LESS_EQUAL "com/example/ophion/ophion/runtime/CompareOp") (O_LESS_EQUAL : Fld Z h0 as_LESS_EQUAL "java/lang/Enum" "ordinal" "I" (.int 1)) (S_EQUAL : Sta Z h0 "com/example/ophion/ophion/runtime/CompareOp" "EQUAL" "Lcom/example/ophion/ophion/runtime/CompareOp;" (.ref as_EQUAL)) (E_EQUAL : Exa Z h0 as_EQUAL "com/example/ophion/ophion/runtime/CompareOp") (O_EQUAL : Fld Z h0 as_EQUAL "java/lang/Enum" "ordinal" "I" (.int 2)) (S_NOT_EQUAL : Sta Z h0 "com/example/ophion/ophion/runtime/CompareOp" "NOT_EQUAL" "Lcom/example/ophion/ophion/runtime/CompareOp;" (.ref as_NOT_EQUAL)) (E_NOT_EQUAL : Exa Z h0 as_NOT_EQUAL "com/example/ophion/ophion/runtime/CompareOp") (O_NOT_EQUAL : Fld Z h0 as_NOT_EQUAL "java/lang/Enum" "ordinal" "I" (.int 3)) (S_GREATER : Sta Z h0 "com/example/ophion/ophion/runtime/CompareOp" "GREATER" "Lcom/example/ophion/ophion/runtime/CompareOp;" (.ref as_GREATER)) (E_GREATER : Exa Z h0 as_GREATER "com/example/ophion/ophion/runtime/CompareOp") (O_GREATER : Fld Z h0 as_GREATER "java/lang/Enum" "ordinal" "I" (.int 4)) (S_GREATER_EQUAL : Sta Z h0 "com/example/ophion/ophion/runtime/CompareOp" "GREATER_EQUAL" "Lcom/example/ophion/ophion/runtime/CompareOp;" (.ref as_GREATER_EQUAL)) (E_GREATER_EQUAL : Exa Z h0 as_GREATER_EQUAL "com/example/ophion/ophion/runtime/CompareOp") (O_GREATER_EQUAL : Fld Z h0 as_GREATER_EQUAL "java/lang/Enum" "ordinal" "I" (.int 5)) (c1 : ¬ (((p0.toUInt32 >>> ((31 : Int32) &&& 31).toUInt32).toInt32) = (1 : Int32))) (c2 : p0 = (0 : Int32)) (c3 : ¬ (p0 < (0 : Int32))) (c4 : ¬ ((0 : Int32) < p0)) :
    MetFree l x (head1 (Jvm.Cond.code x code maxLocals ret :: ws) room_1) (fun a U => a = #[(.int p0)] ∧ Z.Warmed39 U.vm ∧ U.heap = h0) (fun _ _ _ _ _ => True) (fun _ U o U' => ∃ v L, o = .returned v ∧ Q0 Z  h0 n0 v U'.heap L ∧ FrameEnd U o U' L 0 0) := by
  refine MetFree.of_bodySF (plainFor_of_name pn_2) hisR ?_
  intro p e s m args below meth c s₁ Bd hml0 hP hK
  obtain ⟨rfl, hZ, hh⟩ := hP
  have hx := Bd.exec
  have hby := Bd.bytes
  have hml : c.maxLocals = 10 := hml0
  have hown : s.vm.findClass "com/example/ophion/ophion/runtime/CompareOpHoldsPinLaw" = some m.cls := findClass_of_methodNamed Bd.named
  have hnm := (name_of_methodNamed Bd.named Bd.method).1
  have X0 : Stand p l e room_1 s m #[(.int p0)] below meth c s₁ [] 0 0 := Stand.of_body Bd
  have e0 : s₁.heap = h0 := by rw [← hh, Bd.state]; rfl
  have N0 := Fr.nil n0
  refine own_go (own_lift (fun t k => castTop (ef_rm0_2 m p0) k) ?_)
  show own_Go p.tables e below (s₁.setTop (mkF m 0 #[iv p0, .unset, .unset, .unset, .unset, .unset, .unset, .unset, .unset, .unset] [])) _
  have sg1 : ∀ t, Steps p.tables e below (s₁.setTop (mkF m 38 #[iv p0, iv 0, iv 1, iv 0, .unset, .unset, .unset, .unset, .unset, .unset] [])) t → Steps p.tables e below (s₁.setTop (mkF m 0 #[iv p0, .unset, .unset, .unset, .unset, .unset, .unset, .unset, .unset, .unset] [])) t := by
    intro t k
    refine XS.iloadN X0.here hx rfl (hb hby at_0) rfl ?_
    show Steps p.tables e below (s₁.setTop (mkF m 1 #[iv p0, .unset, .unset, .unset, .unset, .unset, .unset, .unset, .unset, .unset] [(.int p0)])) _
    refine XS.bipush X0.here hx rfl (hb hby at_1) ?_
    show Steps p.tables e below (s₁.setTop (mkF m 3 #[iv p0, .unset, .unset, .unset, .unset, .unset, .unset, .unset, .unset, .unset] [(.int 31), (.int p0)])) _
    refine XS.iushr X0.here hx rfl (hb hby at_3) rfl ?_
    show Steps p.tables e below (s₁.setTop (mkF m 4 #[iv p0, .unset, .unset, .unset, .unset, .unset, .unset, .unset, .unset, .unset] [(.int ((p0.toUInt32 >>> ((31 : Int32) &&& 31).toUInt32).toInt32))])) _
    refine XS.iconst X0.here hx rfl (hb hby at_4) ?_
    show Steps p.tables e below (s₁.setTop (mkF m 5 #[iv p0, .unset, .unset, .unset, .unset, .unset, .unset, .unset, .unset, .unset] [(.int 1), (.int ((p0.toUInt32 >>> ((31 : Int32) &&& 31).toUInt32).toInt32))])) _
    refine XS.icmpYes X0.here hx rfl (pc0 := 5) (pc' := 12) rfl (hb hby at_5) rfl (feq c1).2 (by decide) (by decide) ?_
    show Steps p.tables e below (s₁.setTop (mkF m 12 #[iv p0, .unset, .unset, .unset, .unset, .unset, .unset, .unset, .unset, .unset] [])) _
    refine XS.iconst X0.here hx rfl (hb hby at_12) ?_
    show Steps p.tables e below (s₁.setTop (mkF m 13 #[iv p0, .unset, .unset, .unset, .unset, .unset, .unset, .unset, .unset, .unset] [(.int 0)])) _
    refine XS.istoreN X0.here hx rfl (hb hby at_13) rfl (l' := #[iv p0, iv 0, .unset, .unset, .unset, .unset, .unset, .unset, .unset, .unset]) rfl ?_
    show Steps p.tables e below (s₁.setTop (mkF m 14 #[iv p0, iv 0, .unset, .unset, .unset, .unset, .unset, .unset, .unset, .unset] [])) _
    refine XS.iloadN X0.here hx rfl (hb hby at_14) rfl ?_
    show Steps p.tables e below (s₁.setTop (mkF m 15 #[iv p0, iv 0, .unset, .unset, .unset, .unset, .unset, .unset, .unset, .unset] [(.int p0)])) _
    refine XS.ifNo X0.here hx rfl (hb hby at_15) rfl ((if0 _ _).trans (teq c2).2) ?_
    show Steps p.tables e below (s₁.setTop (mkF m 18 #[iv p0, iv 0, .unset, .unset, .unset, .unset, .unset, .unset, .unset, .unset] [])) _
    refine XS.iconst X0.here hx rfl (hb hby at_18) ?_
    show Steps p.tables e below (s₁.setTop (mkF m 19 #[iv p0, iv 0, .unset, .unset, .unset, .unset, .unset, .unset, .unset, .unset] [(.int 1)])) _
    refine XS.goto X0.here hx rfl (pc0 := 19) (pc' := 23) rfl (hb hby at_19) (by decide) (by decide) ?_
    show Steps p.tables e below (s₁.setTop (mkF m 23 #[iv p0, iv 0, .unset, .unset, .unset, .unset, .unset, .unset, .unset, .unset] [(.int 1)])) _
    refine XS.istoreN X0.here hx rfl (hb hby at_23) rfl (l' := #[iv p0, iv 0, iv 1, .unset, .unset, .unset, .unset, .unset, .unset, .unset]) rfl ?_
    show Steps p.tables e below (s₁.setTop (mkF m 24 #[iv p0, iv 0, iv 1, .unset, .unset, .unset, .unset, .unset, .unset, .unset] [])) _
    refine XS.iloadN X0.here hx rfl (hb hby at_24) rfl ?_
    show Steps p.tables e below (s₁.setTop (mkF m 25 #[iv p0, iv 0, iv 1, .unset, .unset, .unset, .unset, .unset, .unset, .unset] [(.int 0)])) _
    refine XS.ifNo X0.here hx rfl (hb hby at_25) rfl ((if0 _ _).trans (teq (by decide : (0 : Int32) = (0 : Int32))).2) ?_
    show Steps p.tables e below (s₁.setTop (mkF m 28 #[iv p0, iv 0, iv 1, .unset, .unset, .unset, .unset, .unset, .unset, .unset] [])) _
    refine XS.iloadN X0.here hx rfl (hb hby at_28) rfl ?_
    show Steps p.tables e below (s₁.setTop (mkF m 29 #[iv p0, iv 0, iv 1, .unset, .unset, .unset, .unset, .unset, .unset, .unset] [(.int 1)])) _
    refine XS.ifYes X0.here hx rfl (pc0 := 29) (pc' := 36) rfl (hb hby at_29) rfl ((if0 _ _).trans (feq (by decide : ¬ ((1 : Int32) = (0 : Int32)))).2) (by decide) (by decide) ?_
    show Steps p.tables e below (s₁.setTop (mkF m 36 #[iv p0, iv 0, iv 1, .unset, .unset, .unset, .unset, .unset, .unset, .unset] [])) _
    refine XS.iconst X0.here hx rfl (hb hby at_36) ?_
    show Steps p.tables e below (s₁.setTop (mkF m 37 #[iv p0, iv 0, iv 1, .unset, .unset, .unset, .unset, .unset, .unset, .unset] [(.int 0)])) _
    refine XS.istoreN X0.here hx rfl (hb hby at_37) rfl (l' := #[iv p0, iv 0, iv 1, iv 0, .unset, .unset, .unset, .unset, .unset, .unset]) rfl ?_
    show Steps p.tables e below (s₁.setTop (mkF m 38 #[iv p0, iv 0, iv 1, iv 0, .unset, .unset, .unset, .unset, .unset, .unset] [])) _
    exact k
  refine own_lift sg1 ?_
  show own_Go p.tables e below (s₁.setTop (mkF m 38 #[iv p0, iv 0, iv 1, iv 0, .unset, .unset, .unset, .unset, .unset, .unset] [])) _
  obtain ⟨T2, X2, e2, st2⟩ := getS X0 hx hZ hown (host := "") (wd hw 0 rfl) Via.refl e0 S_LESS (g := (mkF m 38 #[iv p0, iv 0, iv 1, iv 0, .unset, .unset, .unset, .unset, .unset, .unset] [])) rfl (hb hby at_38)
  refine own_lift st2 ?_
  show own_Go p.tables e below (T2.setTop (mkF m 41 #[iv p0, iv 0, iv 1, iv 0, .unset, .unset, .unset, .unset, .unset, .unset] [(.ref as_LESS)])) _
  have sg3 : ∀ t, Steps p.tables e below (T2.setTop (mkF m 42 #[iv p0, iv 0, iv 1, iv 0, .unset, .unset, .unset, .unset, .unset, .unset] [(.int p0), (.ref as_LESS)])) t → Steps p.tables e below (T2.setTop (mkF m 41 #[iv p0, iv 0, iv 1, iv 0, .unset, .unset, .unset, .unset, .unset, .unset] [(.ref as_LESS)])) t := by
    intro t k
    refine XS.iloadN X2.here hx rfl (hb hby at_41) rfl ?_
    show Steps p.tables e below (T2.setTop (mkF m 42 #[iv p0, iv 0, iv 1, iv 0, .unset, .unset, .unset, .unset, .unset, .unset] [(.int p0), (.ref as_LESS)])) _
    exact k
  refine own_lift sg3 ?_
  show own_Go p.tables e below (T2.setTop (mkF m 42 #[iv p0, iv 0, iv 1, iv 0, .unset, .unset, .unset, .unset, .unset, .unset] [(.int p0), (.ref as_LESS)])) _
  obtain ⟨cq4, kq4, q4a, q4b, q4c⟩ := isOf hZ e2 E_LESS
  obtain ⟨_, _, ⟨T4, Lx4, kx4, nx4⟩, -, X4, ⟨Lc4, hQ4, lx4, yx4, zx4⟩, st4⟩ := X2.virtualBack hx (y := (⟨"com/example/ophion/ophion/runtime/CompareOp", "holds", "(I)Z"⟩ : MethodName)) (z := (⟨"com/example/ophion/ophion/runtime/CompareOp", "holds", "(I)Z"⟩ : MethodName)) hown (mvT hZ (wd hw 3 rfl)) (mvT hZ (wd hw 4 rfl)) (notFace_of_selects (args := #[]) (mvT hZ (wd hw 6 rfl))) (mvT hZ (wd hw 6 rfl)) (mvT hZ (wd hw 5 rfl)) (by decide) (backOf (W := 0) (rmHolds0f l Z a0 hw [] as_LESS p0 h0 n0 Z0 O_LESS E_LESS c3) hZ (wd hw 7 rfl) (wd hw 1 rfl) (by decide) (by decide)) q4a q4c (g := (mkF m 42 #[iv p0, iv 0, iv 1, iv 0, .unset, .unset, .unset, .unset, .unset, .unset] [(.int p0), (.ref as_LESS)])) rfl (by rw [hml]; rfl) (Steps.refl _) (argsL := [(.int p0)]) (rest := []) (lenOf pd_1 rfl) rfl (by show 2 * 0 + _ ≤ _; exact Nat.le_of_eq rfl) (hb hby at_42) (fun _ _ => ⟨rfl, e2, (by decide : 0 + 0 ≤ _), (by decide : 0 + 0 ≤ _)⟩)
  dsimp only [Pt.U, Pt.locs, Pt.cells, Pt.slots] at X4 lx4 yx4 zx4 st4 hQ4
  subst lx4 yx4 zx4
  obtain ⟨rfl, N4q, e4⟩ := hQ4
  have N4 := Fr.app N0 N4q
  refine own_lift (fun t k => st4.trans k) ?_
  show own_Go p.tables e below (T4.setTop (mkF m 45 #[iv p0, iv 0, iv 1, iv 0, .unset, .unset, .unset, .unset, .unset, .unset] [(.int 0)])) _
  have sg5 : ∀ t, Steps p.tables e below (T4.setTop (mkF m 47 #[iv p0, iv 0, iv 1, iv 0, iv 0, .unset, .unset, .unset, .unset, .unset] [])) t → Steps p.tables e below (T4.setTop (mkF m 45 #[iv p0, iv 0, iv 1, iv 0, .unset, .unset, .unset, .unset, .unset, .unset] [(.int 0)])) t := by
    intro t k
    refine XS.istore X4.here hx rfl (hb hby at_45) rfl (l' := #[iv p0, iv 0, iv 1, iv 0, iv 0, .unset, .unset, .unset, .unset, .unset]) rfl ?_
    show Steps p.tables e below (T4.setTop (mkF m 47 #[iv p0, iv 0, iv 1, iv 0, iv 0, .unset, .unset, .unset, .unset, .unset] [])) _
    exact k
  refine own_lift sg5 ?_
  show own_Go p.tables e below (T4.setTop (mkF m 47 #[iv p0, iv 0, iv 1, iv 0, iv 0, .unset, .unset, .unset, .unset, .unset] [])) _
  obtain ⟨T6, X6, e6, st6⟩ := getS X4 hx hZ hown (host := "") (wd hw 17 rfl) Via.refl e4 S_LESS_EQUAL (g := (mkF m 47 #[iv p0, iv 0, iv 1, iv 0, iv 0, .unset, .unset, .unset, .unset, .unset] [])) rfl (hb hby at_47)
  refine own_lift st6 ?_
  show own_Go p.tables e below (T6.setTop (mkF m 50 #[iv p0, iv 0, iv 1, iv 0, iv 0, .unset, .unset, .unset, .unset, .unset] [(.ref as_LESS_EQUAL)])) _
  have sg7 : ∀ t, Steps p.tables e below (T6.setTop (mkF m 51 #[iv p0, iv 0, iv 1, iv 0, iv 0, .unset, .unset, .unset, .unset, .unset] [(.int p0), (.ref as_LESS_EQUAL)])) t → Steps p.tables e below (T6.setTop (mkF m 50 #[iv p0, iv 0, iv 1, iv 0, iv 0, .unset, .unset, .unset, .unset, .unset] [(.ref as_LESS_EQUAL)])) t := by
    intro t k
    refine XS.iloadN X6.here hx rfl (hb hby at_50) rfl ?_
    show Steps p.tables e below (T6.setTop (mkF m 51 #[iv p0, iv 0, iv 1, iv 0, iv 0, .unset, .unset, .unset, .unset, .unset] [(.int p0), (.ref as_LESS_EQUAL)])) _
    exact k
  refine own_lift sg7 ?_
  show own_Go p.tables e below (T6.setTop (mkF m 51 #[iv p0, iv 0, iv 1, iv 0, iv 0, .unset, .unset, .unset, .unset, .unset] [(.int p0), (.ref as_LESS_EQUAL)])) _
  obtain ⟨cq8, kq8, q8a, q8b, q8c⟩ := isOf hZ e6 E_LESS_EQUAL
  obtain ⟨_, _, ⟨T8, Lx8, kx8, nx8⟩, -, X8, ⟨Lc8, hQ8, lx8, yx8, zx8⟩, st8⟩ := X6.virtualBack hx (y := (⟨"com/example/ophion/ophion/runtime/CompareOp", "holds", "(I)Z"⟩ : MethodName)) (z := (⟨"com/example/ophion/ophion/runtime/CompareOp", "holds", "(I)Z"⟩ : MethodName)) hown (mvT hZ (wd hw 3 rfl)) (mvT hZ (wd hw 4 rfl)) (notFace_of_selects (args := #[]) (mvT hZ (wd hw 6 rfl))) (mvT hZ (wd hw 6 rfl)) (mvT hZ (wd hw 5 rfl)) (by decide) (backOf (W := 0) (rmHolds1f l Z a0 hw [] as_LESS_EQUAL p0 h0 n0 Z0 O_LESS_EQUAL E_LESS_EQUAL c4) hZ (wd hw 7 rfl) (wd hw 1 rfl) (by decide) (by decide)) q8a q8c (g := (mkF m 51 #[iv p0, iv 0, iv 1, iv 0, iv 0, .unset, .unset, .unset, .unset, .unset] [(.int p0), (.ref as_LESS_EQUAL)])) rfl (by rw [hml]; rfl) (Steps.refl _) (argsL := [(.int p0)]) (rest := []) (lenOf pd_1 rfl) rfl (by show 2 * 0 + _ ≤ _; exact Nat.le_of_eq rfl) (hb hby at_51) (fun _ _ => ⟨rfl, e6, (by decide : 0 + 0 ≤ _), (by decide : 0 + 0 ≤ _)⟩)
  dsimp only [Pt.U, Pt.locs, Pt.cells, Pt.slots] at X8 lx8 yx8 zx8 st8 hQ8
  subst lx8 yx8 zx8
  obtain ⟨rfl, N8q, e8⟩ := hQ8
  have N8 := Fr.app N4 N8q
  refine own_lift (fun t k => st8.trans k) ?_
  show own_Go p.tables e below (T8.setTop (mkF m 54 #[iv p0, iv 0, iv 1, iv 0, iv 0, .unset, .unset, .unset, .unset, .unset] [(.int 1)])) _
  have sg9 : ∀ t, Steps p.tables e below (T8.setTop (mkF m 56 #[iv p0, iv 0, iv 1, iv 0, iv 0, iv 1, .unset, .unset, .unset, .unset] [])) t → Steps p.tables e below (T8.setTop (mkF m 54 #[iv p0, iv 0, iv 1, iv 0, iv 0, .unset, .unset, .unset, .unset, .unset] [(.int 1)])) t := by
    intro t k
    refine XS.istore X8.here hx rfl (hb hby at_54) rfl (l' := #[iv p0, iv 0, iv 1, iv 0, iv 0, iv 1, .unset, .unset, .unset, .unset]) rfl ?_
    show Steps p.tables e below (T8.setTop (mkF m 56 #[iv p0, iv 0, iv 1, iv 0, iv 0, iv 1, .unset, .unset, .unset, .unset] [])) _
    exact k
  refine own_lift sg9 ?_
  show own_Go p.tables e below (T8.setTop (mkF m 56 #[iv p0, iv 0, iv 1, iv 0, iv 0, iv 1, .unset, .unset, .unset, .unset] [])) _
  obtain ⟨T10, X10, e10, st10⟩ := getS X8 hx hZ hown (host := "") (wd hw 19 rfl) Via.refl e8 S_EQUAL (g := (mkF m 56 #[iv p0, iv 0, iv 1, iv 0, iv 0, iv 1, .unset, .unset, .unset, .unset] [])) rfl (hb hby at_56)
  refine own_lift st10 ?_
  show own_Go p.tables e below (T10.setTop (mkF m 59 #[iv p0, iv 0, iv 1, iv 0, iv 0, iv 1, .unset, .unset, .unset, .unset] [(.ref as_EQUAL)])) _
  have sg11 : ∀ t, Steps p.tables e below (T10.setTop (mkF m 60 #[iv p0, iv 0, iv 1, iv 0, iv 0, iv 1, .unset, .unset, .unset, .unset] [(.int p0), (.ref as_EQUAL)])) t → Steps p.tables e below (T10.setTop (mkF m 59 #[iv p0, iv 0, iv 1, iv 0, iv 0, iv 1, .unset, .unset, .unset, .unset] [(.ref as_EQUAL)])) t := by
    intro t k
    refine XS.iloadN X10.here hx rfl (hb hby at_59) rfl ?_
    show Steps p.tables e below (T10.setTop (mkF m 60 #[iv p0, iv 0, iv 1, iv 0, iv 0, iv 1, .unset, .unset, .unset, .unset] [(.int p0), (.ref as_EQUAL)])) _
    exact k
  refine own_lift sg11 ?_
  show own_Go p.tables e below (T10.setTop (mkF m 60 #[iv p0, iv 0, iv 1, iv 0, iv 0, iv 1, .unset, .unset, .unset, .unset] [(.int p0), (.ref as_EQUAL)])) _
  obtain ⟨cq12, kq12, q12a, q12b, q12c⟩ := isOf hZ e10 E_EQUAL
  obtain ⟨_, _, ⟨T12, Lx12, kx12, nx12⟩, -, X12, ⟨Lc12, hQ12, lx12, yx12, zx12⟩, st12⟩ := X10.virtualBack hx (y := (⟨"com/example/ophion/ophion/runtime/CompareOp", "holds", "(I)Z"⟩ : MethodName)) (z := (⟨"com/example/ophion/ophion/runtime/CompareOp", "holds", "(I)Z"⟩ : MethodName)) hown (mvT hZ (wd hw 3 rfl)) (mvT hZ (wd hw 4 rfl)) (notFace_of_selects (args := #[]) (mvT hZ (wd hw 6 rfl))) (mvT hZ (wd hw 6 rfl)) (mvT hZ (wd hw 5 rfl)) (by decide) (backOf (W := 0) (rmHolds2t l Z a0 hw [] as_EQUAL p0 h0 n0 Z0 O_EQUAL E_EQUAL c2) hZ (wd hw 7 rfl) (wd hw 1 rfl) (by decide) (by decide)) q12a q12c (g := (mkF m 60 #[iv p0, iv 0, iv 1, iv 0, iv 0, iv 1, .unset, .unset, .unset, .unset] [(.int p0), (.ref as_EQUAL)])) rfl (by rw [hml]; rfl) (Steps.refl _) (argsL := [(.int p0)]) (rest := []) (lenOf pd_1 rfl) rfl (by show 2 * 0 + _ ≤ _; exact Nat.le_of_eq rfl) (hb hby at_60) (fun _ _ => ⟨rfl, e10, (by decide : 0 + 0 ≤ _), (by decide : 0 + 0 ≤ _)⟩)
  dsimp only [Pt.U, Pt.locs, Pt.cells, Pt.slots] at X12 lx12 yx12 zx12 st12 hQ12
  subst lx12 yx12 zx12
  obtain ⟨rfl, N12q, e12⟩ := hQ12
  have N12 := Fr.app N8 N12q
  refine own_lift (fun t k => st12.trans k) ?_
  show own_Go p.tables e below (T12.setTop (mkF m 63 #[iv p0, iv 0, iv 1, iv 0, iv 0, iv 1, .unset, .unset, .unset, .unset] [(.int 1)])) _
  have sg13 : ∀ t, Steps p.tables e below (T12.setTop (mkF m 65 #[iv p0, iv 0, iv 1, iv 0, iv 0, iv 1, iv 1, .unset, .unset, .unset] [])) t → Steps p.tables e below (T12.setTop (mkF m 63 #[iv p0, iv 0, iv 1, iv 0, iv 0, iv 1, .unset, .unset, .unset, .unset] [(.int 1)])) t := by
    intro t k
    refine XS.istore X12.here hx rfl (hb hby at_63) rfl (l' := #[iv p0, iv 0, iv 1, iv 0, iv 0, iv 1, iv 1, .unset, .unset, .unset]) rfl ?_
    show Steps p.tables e below (T12.setTop (mkF m 65 #[iv p0, iv 0, iv 1, iv 0, iv 0, iv 1, iv 1, .unset, .unset, .unset] [])) _
    exact k
  refine own_lift sg13 ?_
  show own_Go p.tables e below (T12.setTop (mkF m 65 #[iv p0, iv 0, iv 1, iv 0, iv 0, iv 1, iv 1, .unset, .unset, .unset] [])) _
  obtain ⟨T14, X14, e14, st14⟩ := getS X12 hx hZ hown (host := "") (wd hw 21 rfl) Via.refl e12 S_NOT_EQUAL (g := (mkF m 65 #[iv p0, iv 0, iv 1, iv 0, iv 0, iv 1, iv 1, .unset, .unset, .unset] [])) rfl (hb hby at_65)
  refine own_lift st14 ?_
  show own_Go p.tables e below (T14.setTop (mkF m 68 #[iv p0, iv 0, iv 1, iv 0, iv 0, iv 1, iv 1, .unset, .unset, .unset] [(.ref as_NOT_EQUAL)])) _
  have sg15 : ∀ t, Steps p.tables e below (T14.setTop (mkF m 69 #[iv p0, iv 0, iv 1, iv 0, iv 0, iv 1, iv 1, .unset, .unset, .unset] [(.int p0), (.ref as_NOT_EQUAL)])) t → Steps p.tables e below (T14.setTop (mkF m 68 #[iv p0, iv 0, iv 1, iv 0, iv 0, iv 1, iv 1, .unset, .unset, .unset] [(.ref as_NOT_EQUAL)])) t := by
    intro t k
    refine XS.iloadN X14.here hx rfl (hb hby at_68) rfl ?_
    show Steps p.tables e below (T14.setTop (mkF m 69 #[iv p0, iv 0, iv 1, iv 0, iv 0, iv 1, iv 1, .unset, .unset, .unset] [(.int p0), (.ref as_NOT_EQUAL)])) _
    exact k
  refine own_lift sg15 ?_
  show own_Go p.tables e below (T14.setTop (mkF m 69 #[iv p0, iv 0, iv 1, iv 0, iv 0, iv 1, iv 1, .unset, .unset, .unset] [(.int p0), (.ref as_NOT_EQUAL)])) _
  obtain ⟨cq16, kq16, q16a, q16b, q16c⟩ := isOf hZ e14 E_NOT_EQUAL
  obtain ⟨_, _, ⟨T16, Lx16, kx16, nx16⟩, -, X16, ⟨Lc16, hQ16, lx16, yx16, zx16⟩, st16⟩ := X14.virtualBack hx (y := (⟨"com/example/ophion/ophion/runtime/CompareOp", "holds", "(I)Z"⟩ : MethodName)) (z := (⟨"com/example/ophion/ophion/runtime/CompareOp", "holds", "(I)Z"⟩ : MethodName)) hown (mvT hZ (wd hw 3 rfl)) (mvT hZ (wd hw 4 rfl)) (notFace_of_selects (args := #[]) (mvT hZ (wd hw 6 rfl))) (mvT hZ (wd hw 6 rfl)) (mvT hZ (wd hw 5 rfl)) (by decide) (backOf (W := 0) (rmHolds3t l Z a0 hw [] as_NOT_EQUAL p0 h0 n0 Z0 O_NOT_EQUAL E_NOT_EQUAL c2) hZ (wd hw 7 rfl) (wd hw 1 rfl) (by decide) (by decide)) q16a q16c (g := (mkF m 69 #[iv p0, iv 0, iv 1, iv 0, iv 0, iv 1, iv 1, .unset, .unset, .unset] [(.int p0), (.ref as_NOT_EQUAL)])) rfl (by rw [hml]; rfl) (Steps.refl _) (argsL := [(.int p0)]) (rest := []) (lenOf pd_1 rfl) rfl (by show 2 * 0 + _ ≤ _; exact Nat.le_of_eq rfl) (hb hby at_69) (fun _ _ => ⟨rfl, e14, (by decide : 0 + 0 ≤ _), (by decide : 0 + 0 ≤ _)⟩)
  dsimp only [Pt.U, Pt.locs, Pt.cells, Pt.slots] at X16 lx16 yx16 zx16 st16 hQ16
  subst lx16 yx16 zx16
  obtain ⟨rfl, N16q, e16⟩ := hQ16
  have N16 := Fr.app N12 N16q
  refine own_lift (fun t k => st16.trans k) ?_
  show own_Go p.tables e below (T16.setTop (mkF m 72 #[iv p0, iv 0, iv 1, iv 0, iv 0, iv 1, iv 1, .unset, .unset, .unset] [(.int 0)])) _
  have sg17 : ∀ t, Steps p.tables e below (T16.setTop (mkF m 74 #[iv p0, iv 0, iv 1, iv 0, iv 0, iv 1, iv 1, iv 0, .unset, .unset] [])) t → Steps p.tables e below (T16.setTop (mkF m 72 #[iv p0, iv 0, iv 1, iv 0, iv 0, iv 1, iv 1, .unset, .unset, .unset] [(.int 0)])) t := by
    intro t k
    refine XS.istore X16.here hx rfl (hb hby at_72) rfl (l' := #[iv p0, iv 0, iv 1, iv 0, iv 0, iv 1, iv 1, iv 0, .unset, .unset]) rfl ?_
    show Steps p.tables e below (T16.setTop (mkF m 74 #[iv p0, iv 0, iv 1, iv 0, iv 0, iv 1, iv 1, iv 0, .unset, .unset] [])) _
    exact k
  refine own_lift sg17 ?_
  show own_Go p.tables e below (T16.setTop (mkF m 74 #[iv p0, iv 0, iv 1, iv 0, iv 0, iv 1, iv 1, iv 0, .unset, .unset] [])) _
  obtain ⟨T18, X18, e18, st18⟩ := getS X16 hx hZ hown (host := "") (wd hw 23 rfl) Via.refl e16 S_GREATER (g := (mkF m 74 #[iv p0, iv 0, iv 1, iv 0, iv 0, iv 1, iv 1, iv 0, .unset, .unset] [])) rfl (hb hby at_74)
  refine own_lift st18 ?_
  show own_Go p.tables e below (T18.setTop (mkF m 77 #[iv p0, iv 0, iv 1, iv 0, iv 0, iv 1, iv 1, iv 0, .unset, .unset] [(.ref as_GREATER)])) _
  have sg19 : ∀ t, Steps p.tables e below (T18.setTop (mkF m 78 #[iv p0, iv 0, iv 1, iv 0, iv 0, iv 1, iv 1, iv 0, .unset, .unset] [(.int p0), (.ref as_GREATER)])) t → Steps p.tables e below (T18.setTop (mkF m 77 #[iv p0, iv 0, iv 1, iv 0, iv 0, iv 1, iv 1, iv 0, .unset, .unset] [(.ref as_GREATER)])) t := by
    intro t k
    refine XS.iloadN X18.here hx rfl (hb hby at_77) rfl ?_
    show Steps p.tables e below (T18.setTop (mkF m 78 #[iv p0, iv 0, iv 1, iv 0, iv 0, iv 1, iv 1, iv 0, .unset, .unset] [(.int p0), (.ref as_GREATER)])) _
    exact k
  refine own_lift sg19 ?_
  show own_Go p.tables e below (T18.setTop (mkF m 78 #[iv p0, iv 0, iv 1, iv 0, iv 0, iv 1, iv 1, iv 0, .unset, .unset] [(.int p0), (.ref as_GREATER)])) _
  obtain ⟨cq20, kq20, q20a, q20b, q20c⟩ := isOf hZ e18 E_GREATER
  obtain ⟨_, _, ⟨T20, Lx20, kx20, nx20⟩, -, X20, ⟨Lc20, hQ20, lx20, yx20, zx20⟩, st20⟩ := X18.virtualBack hx (y := (⟨"com/example/ophion/ophion/runtime/CompareOp", "holds", "(I)Z"⟩ : MethodName)) (z := (⟨"com/example/ophion/ophion/runtime/CompareOp", "holds", "(I)Z"⟩ : MethodName)) hown (mvT hZ (wd hw 3 rfl)) (mvT hZ (wd hw 4 rfl)) (notFace_of_selects (args := #[]) (mvT hZ (wd hw 6 rfl))) (mvT hZ (wd hw 6 rfl)) (mvT hZ (wd hw 5 rfl)) (by decide) (backOf (W := 0) (rmHolds4f l Z a0 hw [] as_GREATER p0 h0 n0 Z0 O_GREATER E_GREATER c4) hZ (wd hw 7 rfl) (wd hw 1 rfl) (by decide) (by decide)) q20a q20c (g := (mkF m 78 #[iv p0, iv 0, iv 1, iv 0, iv 0, iv 1, iv 1, iv 0, .unset, .unset] [(.int p0), (.ref as_GREATER)])) rfl (by rw [hml]; rfl) (Steps.refl _) (argsL := [(.int p0)]) (rest := []) (lenOf pd_1 rfl) rfl (by show 2 * 0 + _ ≤ _; exact Nat.le_of_eq rfl) (hb hby at_78) (fun _ _ => ⟨rfl, e18, (by decide : 0 + 0 ≤ _), (by decide : 0 + 0 ≤ _)⟩)
  dsimp only [Pt.U, Pt.locs, Pt.cells, Pt.slots] at X20 lx20 yx20 zx20 st20 hQ20
  subst lx20 yx20 zx20
  obtain ⟨rfl, N20q, e20⟩ := hQ20
  have N20 := Fr.app N16 N20q
  refine own_lift (fun t k => st20.trans k) ?_
  show own_Go p.tables e below (T20.setTop (mkF m 81 #[iv p0, iv 0, iv 1, iv 0, iv 0, iv 1, iv 1, iv 0, .unset, .unset] [(.int 0)])) _
  have sg21 : ∀ t, Steps p.tables e below (T20.setTop (mkF m 83 #[iv p0, iv 0, iv 1, iv 0, iv 0, iv 1, iv 1, iv 0, iv 0, .unset] [])) t → Steps p.tables e below (T20.setTop (mkF m 81 #[iv p0, iv 0, iv 1, iv 0, iv 0, iv 1, iv 1, iv 0, .unset, .unset] [(.int 0)])) t := by
    intro t k
    refine XS.istore X20.here hx rfl (hb hby at_81) rfl (l' := #[iv p0, iv 0, iv 1, iv 0, iv 0, iv 1, iv 1, iv 0, iv 0, .unset]) rfl ?_
    show Steps p.tables e below (T20.setTop (mkF m 83 #[iv p0, iv 0, iv 1, iv 0, iv 0, iv 1, iv 1, iv 0, iv 0, .unset] [])) _
    exact k
  refine own_lift sg21 ?_
  show own_Go p.tables e below (T20.setTop (mkF m 83 #[iv p0, iv 0, iv 1, iv 0, iv 0, iv 1, iv 1, iv 0, iv 0, .unset] [])) _
  obtain ⟨T22, X22, e22, st22⟩ := getS X20 hx hZ hown (host := "") (wd hw 25 rfl) Via.refl e20 S_GREATER_EQUAL (g := (mkF m 83 #[iv p0, iv 0, iv 1, iv 0, iv 0, iv 1, iv 1, iv 0, iv 0, .unset] [])) rfl (hb hby at_83)
  refine own_lift st22 ?_
  show own_Go p.tables e below (T22.setTop (mkF m 86 #[iv p0, iv 0, iv 1, iv 0, iv 0, iv 1, iv 1, iv 0, iv 0, .unset] [(.ref as_GREATER_EQUAL)])) _
  have sg23 : ∀ t, Steps p.tables e below (T22.setTop (mkF m 87 #[iv p0, iv 0, iv 1, iv 0, iv 0, iv 1, iv 1, iv 0, iv 0, .unset] [(.int p0), (.ref as_GREATER_EQUAL)])) t → Steps p.tables e below (T22.setTop (mkF m 86 #[iv p0, iv 0, iv 1, iv 0, iv 0, iv 1, iv 1, iv 0, iv 0, .unset] [(.ref as_GREATER_EQUAL)])) t := by
    intro t k
    refine XS.iloadN X22.here hx rfl (hb hby at_86) rfl ?_
    show Steps p.tables e below (T22.setTop (mkF m 87 #[iv p0, iv 0, iv 1, iv 0, iv 0, iv 1, iv 1, iv 0, iv 0, .unset] [(.int p0), (.ref as_GREATER_EQUAL)])) _
    exact k
  refine own_lift sg23 ?_
  show own_Go p.tables e below (T22.setTop (mkF m 87 #[iv p0, iv 0, iv 1, iv 0, iv 0, iv 1, iv 1, iv 0, iv 0, .unset] [(.int p0), (.ref as_GREATER_EQUAL)])) _
  obtain ⟨cq24, kq24, q24a, q24b, q24c⟩ := isOf hZ e22 E_GREATER_EQUAL
  obtain ⟨_, _, ⟨T24, Lx24, kx24, nx24⟩, -, X24, ⟨Lc24, hQ24, lx24, yx24, zx24⟩, st24⟩ := X22.virtualBack hx (y := (⟨"com/example/ophion/ophion/runtime/CompareOp", "holds", "(I)Z"⟩ : MethodName)) (z := (⟨"com/example/ophion/ophion/runtime/CompareOp", "holds", "(I)Z"⟩ : MethodName)) hown (mvT hZ (wd hw 3 rfl)) (mvT hZ (wd hw 4 rfl)) (notFace_of_selects (args := #[]) (mvT hZ (wd hw 6 rfl))) (mvT hZ (wd hw 6 rfl)) (mvT hZ (wd hw 5 rfl)) (by decide) (backOf (W := 0) (rmHolds5f l Z a0 hw [] as_GREATER_EQUAL p0 h0 n0 Z0 O_GREATER_EQUAL E_GREATER_EQUAL c3) hZ (wd hw 7 rfl) (wd hw 1 rfl) (by decide) (by decide)) q24a q24c (g := (mkF m 87 #[iv p0, iv 0, iv 1, iv 0, iv 0, iv 1, iv 1, iv 0, iv 0, .unset] [(.int p0), (.ref as_GREATER_EQUAL)])) rfl (by rw [hml]; rfl) (Steps.refl _) (argsL := [(.int p0)]) (rest := []) (lenOf pd_1 rfl) rfl (by show 2 * 0 + _ ≤ _; exact Nat.le_of_eq rfl) (hb hby at_87) (fun _ _ => ⟨rfl, e22, (by decide : 0 + 0 ≤ _), (by decide : 0 + 0 ≤ _)⟩)
  dsimp only [Pt.U, Pt.locs, Pt.cells, Pt.slots] at X24 lx24 yx24 zx24 st24 hQ24
  subst lx24 yx24 zx24
  obtain ⟨rfl, N24q, e24⟩ := hQ24
  have N24 := Fr.app N20 N24q
  refine own_lift (fun t k => st24.trans k) ?_
  show own_Go p.tables e below (T24.setTop (mkF m 90 #[iv p0, iv 0, iv 1, iv 0, iv 0, iv 1, iv 1, iv 0, iv 0, .unset] [(.int 1)])) _
  have sg25 : ∀ t, Steps p.tables e below (T24.setTop (mkF m 161 #[iv p0, iv 0, iv 1, iv 0, iv 0, iv 1, iv 1, iv 0, iv 0, iv 1] [(.int 1)])) t → Steps p.tables e below (T24.setTop (mkF m 90 #[iv p0, iv 0, iv 1, iv 0, iv 0, iv 1, iv 1, iv 0, iv 0, .unset] [(.int 1)])) t := by
    intro t k
    refine XS.istore X24.here hx rfl (hb hby at_90) rfl (l' := #[iv p0, iv 0, iv 1, iv 0, iv 0, iv 1, iv 1, iv 0, iv 0, iv 1]) rfl ?_
    show Steps p.tables e below (T24.setTop (mkF m 92 #[iv p0, iv 0, iv 1, iv 0, iv 0, iv 1, iv 1, iv 0, iv 0, iv 1] [])) _
    refine XS.iload X24.here hx rfl (hb hby at_92) rfl ?_
    show Steps p.tables e below (T24.setTop (mkF m 94 #[iv p0, iv 0, iv 1, iv 0, iv 0, iv 1, iv 1, iv 0, iv 0, iv 1] [(.int 0)])) _
    refine XS.iloadN X24.here hx rfl (hb hby at_94) rfl ?_
    show Steps p.tables e below (T24.setTop (mkF m 95 #[iv p0, iv 0, iv 1, iv 0, iv 0, iv 1, iv 1, iv 0, iv 0, iv 1] [(.int 0), (.int 0)])) _
    refine XS.icmpNo X24.here hx rfl (hb hby at_95) rfl (teq (by decide : (0 : Int32) = (0 : Int32))).2 ?_
    show Steps p.tables e below (T24.setTop (mkF m 98 #[iv p0, iv 0, iv 1, iv 0, iv 0, iv 1, iv 1, iv 0, iv 0, iv 1] [])) _
    refine XS.iload X24.here hx rfl (hb hby at_98) rfl ?_
    show Steps p.tables e below (T24.setTop (mkF m 100 #[iv p0, iv 0, iv 1, iv 0, iv 0, iv 1, iv 1, iv 0, iv 0, iv 1] [(.int 1)])) _
    refine XS.iloadN X24.here hx rfl (hb hby at_100) rfl ?_
    show Steps p.tables e below (T24.setTop (mkF m 101 #[iv p0, iv 0, iv 1, iv 0, iv 0, iv 1, iv 1, iv 0, iv 0, iv 1] [(.int 0), (.int 1)])) _
    refine XS.ifNo X24.here hx rfl (hb hby at_101) rfl ((if0 _ _).trans (teq (by decide : (0 : Int32) = (0 : Int32))).2) ?_
    show Steps p.tables e below (T24.setTop (mkF m 104 #[iv p0, iv 0, iv 1, iv 0, iv 0, iv 1, iv 1, iv 0, iv 0, iv 1] [(.int 1)])) _
    refine XS.iloadN X24.here hx rfl (hb hby at_104) rfl ?_
    show Steps p.tables e below (T24.setTop (mkF m 105 #[iv p0, iv 0, iv 1, iv 0, iv 0, iv 1, iv 1, iv 0, iv 0, iv 1] [(.int 1), (.int 1)])) _
    refine XS.ifNo X24.here hx rfl (hb hby at_105) rfl ((if0 _ _).trans (feq (by decide : ¬ ((1 : Int32) = (0 : Int32)))).1) ?_
    show Steps p.tables e below (T24.setTop (mkF m 108 #[iv p0, iv 0, iv 1, iv 0, iv 0, iv 1, iv 1, iv 0, iv 0, iv 1] [(.int 1)])) _
    refine XS.iconst X24.here hx rfl (hb hby at_108) ?_
    show Steps p.tables e below (T24.setTop (mkF m 109 #[iv p0, iv 0, iv 1, iv 0, iv 0, iv 1, iv 1, iv 0, iv 0, iv 1] [(.int 1), (.int 1)])) _
    refine XS.goto X24.here hx rfl (pc0 := 109) (pc' := 113) rfl (hb hby at_109) (by decide) (by decide) ?_
    show Steps p.tables e below (T24.setTop (mkF m 113 #[iv p0, iv 0, iv 1, iv 0, iv 0, iv 1, iv 1, iv 0, iv 0, iv 1] [(.int 1), (.int 1)])) _
    refine XS.icmpNo X24.here hx rfl (hb hby at_113) rfl (teq (by decide : (1 : Int32) = (1 : Int32))).2 ?_
    show Steps p.tables e below (T24.setTop (mkF m 116 #[iv p0, iv 0, iv 1, iv 0, iv 0, iv 1, iv 1, iv 0, iv 0, iv 1] [])) _
    refine XS.iload X24.here hx rfl (hb hby at_116) rfl ?_
    show Steps p.tables e below (T24.setTop (mkF m 118 #[iv p0, iv 0, iv 1, iv 0, iv 0, iv 1, iv 1, iv 0, iv 0, iv 1] [(.int 1)])) _
    refine XS.iloadN X24.here hx rfl (hb hby at_118) rfl ?_
    show Steps p.tables e below (T24.setTop (mkF m 119 #[iv p0, iv 0, iv 1, iv 0, iv 0, iv 1, iv 1, iv 0, iv 0, iv 1] [(.int 1), (.int 1)])) _
    refine XS.icmpNo X24.here hx rfl (hb hby at_119) rfl (teq (by decide : (1 : Int32) = (1 : Int32))).2 ?_
    show Steps p.tables e below (T24.setTop (mkF m 122 #[iv p0, iv 0, iv 1, iv 0, iv 0, iv 1, iv 1, iv 0, iv 0, iv 1] [])) _
    refine XS.iload X24.here hx rfl (hb hby at_122) rfl ?_
    show Steps p.tables e below (T24.setTop (mkF m 124 #[iv p0, iv 0, iv 1, iv 0, iv 0, iv 1, iv 1, iv 0, iv 0, iv 1] [(.int 0)])) _
    refine XS.iloadN X24.here hx rfl (hb hby at_124) rfl ?_
    show Steps p.tables e below (T24.setTop (mkF m 125 #[iv p0, iv 0, iv 1, iv 0, iv 0, iv 1, iv 1, iv 0, iv 0, iv 1] [(.int 1), (.int 0)])) _
    refine XS.ifYes X24.here hx rfl (pc0 := 125) (pc' := 132) rfl (hb hby at_125) rfl ((if0 _ _).trans (feq (by decide : ¬ ((1 : Int32) = (0 : Int32)))).2) (by decide) (by decide) ?_
    show Steps p.tables e below (T24.setTop (mkF m 132 #[iv p0, iv 0, iv 1, iv 0, iv 0, iv 1, iv 1, iv 0, iv 0, iv 1] [(.int 0)])) _
    refine XS.iconst X24.here hx rfl (hb hby at_132) ?_
    show Steps p.tables e below (T24.setTop (mkF m 133 #[iv p0, iv 0, iv 1, iv 0, iv 0, iv 1, iv 1, iv 0, iv 0, iv 1] [(.int 0), (.int 0)])) _
    refine XS.icmpNo X24.here hx rfl (hb hby at_133) rfl (teq (by decide : (0 : Int32) = (0 : Int32))).2 ?_
    show Steps p.tables e below (T24.setTop (mkF m 136 #[iv p0, iv 0, iv 1, iv 0, iv 0, iv 1, iv 1, iv 0, iv 0, iv 1] [])) _
    refine XS.iload X24.here hx rfl (hb hby at_136) rfl ?_
    show Steps p.tables e below (T24.setTop (mkF m 138 #[iv p0, iv 0, iv 1, iv 0, iv 0, iv 1, iv 1, iv 0, iv 0, iv 1] [(.int 0)])) _
    refine XS.iloadN X24.here hx rfl (hb hby at_138) rfl ?_
    show Steps p.tables e below (T24.setTop (mkF m 139 #[iv p0, iv 0, iv 1, iv 0, iv 0, iv 1, iv 1, iv 0, iv 0, iv 1] [(.int 0), (.int 0)])) _
    refine XS.icmpNo X24.here hx rfl (hb hby at_139) rfl (teq (by decide : (0 : Int32) = (0 : Int32))).2 ?_
    show Steps p.tables e below (T24.setTop (mkF m 142 #[iv p0, iv 0, iv 1, iv 0, iv 0, iv 1, iv 1, iv 0, iv 0, iv 1] [])) _
    refine XS.iload X24.here hx rfl (hb hby at_142) rfl ?_
    show Steps p.tables e below (T24.setTop (mkF m 144 #[iv p0, iv 0, iv 1, iv 0, iv 0, iv 1, iv 1, iv 0, iv 0, iv 1] [(.int 1)])) _
    refine XS.iloadN X24.here hx rfl (hb hby at_144) rfl ?_
    show Steps p.tables e below (T24.setTop (mkF m 145 #[iv p0, iv 0, iv 1, iv 0, iv 0, iv 1, iv 1, iv 0, iv 0, iv 1] [(.int 0), (.int 1)])) _
    refine XS.ifNo X24.here hx rfl (hb hby at_145) rfl ((if0 _ _).trans (teq (by decide : (0 : Int32) = (0 : Int32))).2) ?_
    show Steps p.tables e below (T24.setTop (mkF m 148 #[iv p0, iv 0, iv 1, iv 0, iv 0, iv 1, iv 1, iv 0, iv 0, iv 1] [(.int 1)])) _
    refine XS.iconst X24.here hx rfl (hb hby at_148) ?_
    show Steps p.tables e below (T24.setTop (mkF m 149 #[iv p0, iv 0, iv 1, iv 0, iv 0, iv 1, iv 1, iv 0, iv 0, iv 1] [(.int 1), (.int 1)])) _
    refine XS.goto X24.here hx rfl (pc0 := 149) (pc' := 153) rfl (hb hby at_149) (by decide) (by decide) ?_
    show Steps p.tables e below (T24.setTop (mkF m 153 #[iv p0, iv 0, iv 1, iv 0, iv 0, iv 1, iv 1, iv 0, iv 0, iv 1] [(.int 1), (.int 1)])) _
    refine XS.icmpNo X24.here hx rfl (hb hby at_153) rfl (teq (by decide : (1 : Int32) = (1 : Int32))).2 ?_
    show Steps p.tables e below (T24.setTop (mkF m 156 #[iv p0, iv 0, iv 1, iv 0, iv 0, iv 1, iv 1, iv 0, iv 0, iv 1] [])) _
    refine XS.iconst X24.here hx rfl (hb hby at_156) ?_
    show Steps p.tables e below (T24.setTop (mkF m 157 #[iv p0, iv 0, iv 1, iv 0, iv 0, iv 1, iv 1, iv 0, iv 0, iv 1] [(.int 1)])) _
    refine XS.goto X24.here hx rfl (pc0 := 157) (pc' := 161) rfl (hb hby at_157) (by decide) (by decide) ?_
    show Steps p.tables e below (T24.setTop (mkF m 161 #[iv p0, iv 0, iv 1, iv 0, iv 0, iv 1, iv 1, iv 0, iv 0, iv 1] [(.int 1)])) _
    exact k
  refine own_lift sg25 ?_
  show own_Go p.tables e below (T24.setTop (mkF m 161 #[iv p0, iv 0, iv 1, iv 0, iv 0, iv 1, iv 1, iv 0, iv 0, iv 1] [(.int 1)])) _
  obtain ⟨fs, hr, hrun, hended, hW, hsame⟩ := X24.leave (v := some (.int 1)) (fun h => by rw [Bd.returns] at h; cases h)
  refine ⟨_, _, ?_, hrun, hended, _, _, rfl, ?_, ⟨_, rfl⟩, hW, hsame.mono (by decide) (by decide)⟩
  · exact retN X24 hx (t := .boolean) Bd.returns (by simp) (hb hby at_161) hr
  · show Q0 Z  h0 n0 _ T24.heap _
    rw [e24]
    exact ⟨rfl, N24⟩
theorem ef_rm0_3 (m : MethodId) (x0 : Int32) : entryFrame m #[(.int x0)] maxLocals = mkF m 0 #[.val (.int x0), .unset, .unset, .unset, .unset, .unset, .unset, .unset, .unset, .unset] [] := by first | (simp [entryFrame, mkF, argsToLocals, Value.category, maxLocals]; done) | rfl
set_option maxRecDepth 65536 in
set_option maxHeartbeats 40000000 in
theorem rm0_3 (l : Launch) (Z : State) (a0 : Array Value) (hw : ∀ d ∈ tables_1, d.before a0 Z = true) (ws : List Jvm.Cond) (p0 : Int32) (as_LESS : Addr) (as_LESS_EQUAL : Addr) (as_EQUAL : Addr) (as_NOT_EQUAL : Addr) (as_GREATER : Addr) (as_GREATER_EQUAL : Addr) (h0 : Heap) (n0 : Nat) (Z0 : n0 ≤ h0.size) (S_LESS : Sta Z h0 "com/example/ophion/ophion/runtime/CompareOp" "LESS" "Lcom/example/ophion/ophion/runtime/CompareOp;" (.ref as_LESS)) (E_LESS : Exa Z h0 as_LESS "com/example/ophion/ophion/runtime/CompareOp") (O_LESS : Fld Z h0 as_LESS "java/lang/Enum" "ordinal" "I" (.int 0)) (S_LESS_EQUAL : Sta Z h0 "com/example/ophion/ophion/runtime/CompareOp" "LESS_EQUAL" "Lcom/example/ophion/ophion/runtime/CompareOp;" (.ref as_LESS_EQUAL)) (E_LESS_EQUAL : Exa Z h0 as_LESS_EQUAL "com/example/ophion/ophion/runtime/CompareOp") (O_LESS_EQUAL : Fld Z h0 as_LESS_EQUAL "java/lang/Enum" "ordinal" "I" (.int 1)) (S_EQUAL : Sta Z h0 "com/example/ophion/ophion/runtime/CompareOp" "EQUAL" "Lcom/example/ophion/ophion/runtime/CompareOp;" (.ref as_EQUAL)) (E_EQUAL : Exa Z h0 as_EQUAL "com/example/ophion/ophion/runtime/CompareOp") (O_EQUAL : Fld Z h0 as_EQUAL "java/lang/Enum" "ordinal" "I" (.int 2)) (S_NOT_EQUAL : Sta Z h0 "com/example/ophion/ophion/runtime/CompareOp" "NOT_EQUAL" "Lcom/example/ophion/ophion/runtime/CompareOp;" (.ref as_NOT_EQUAL)) (E_NOT_EQUAL : Exa Z h0 as_NOT_EQUAL "com/example/ophion/ophion/runtime/CompareOp") (O_NOT_EQUAL : Fld Z h0 as_NOT_EQUAL "java/lang/Enum" "ordinal" "I" (.int 3)) (S_GREATER : Sta Z h0 "com/example/ophion/ophion/runtime/CompareOp" "GREATER" "Lcom/example/ophion/ophion/runtime/CompareOp;" (.ref as_GREATER)) (E_GREATER : Exa Z h0 as_GREATER "com/example/ophion/ophion/runtime/CompareOp") (O_GREATER : Fld Z h0 as_GREATER "java/lang/Enum" "ordinal" "I" (.int 4)) (S_GREATER_EQUAL : Sta Z h0 "com/example/ophion/ophion/runtime/CompareOp" "GREATER_EQUAL" "Lcom/example/ophion/ophion/runtime/CompareOp;" (.ref as_GREATER_EQUAL)) (E_GREATER_EQUAL : Exa Z h0 as_GREATER_EQUAL "com/example/ophion/ophion/runtime/CompareOp") (O_GREATER_EQUAL : Fld Z h0 as_GREATER_EQUAL "java/lang/Enum" "ordinal" "I" (.int 5)) (c1 : ¬ (((p0.toUInt32 >>> ((31 : Int32) &&& 31).toUInt32).toInt32) = (1 : Int32))) (c2 : ¬ (p0 = (0 : Int32))) (c3 : ¬ (p0 < (0 : Int32))) (c4 : (0 : Int32) < p0) :
    MetFree l x (head1 (Jvm.Cond.code x code maxLocals ret :: ws) room_1) (fun a U => a = #[(.int p0)] ∧ Z.Warmed39 U.vm ∧ U.heap = h0) (fun _ _ _ _ _ => True) (fun _ U o U' => ∃ v L, o = .returned v ∧ Q0 Z  h0 n0 v U'.heap L ∧ FrameEnd U o U' L 0 0) := by
  refine MetFree.of_bodySF (plainFor_of_name pn_2) hisR ?_
  intro p e s m args below meth c s₁ Bd hml0 hP hK
  obtain ⟨rfl, hZ, hh⟩ := hP
  have hx := Bd.exec
  have hby := Bd.bytes
  have hml : c.maxLocals = 10 := hml0
  have hown : s.vm.findClass "com/example/ophion/ophion/runtime/CompareOpHoldsPinLaw" = some m.cls := findClass_of_methodNamed Bd.named
  have hnm := (name_of_methodNamed Bd.named Bd.method).1
  have X0 : Stand p l e room_1 s m #[(.int p0)] below meth c s₁ [] 0 0 := Stand.of_body Bd
  have e0 : s₁.heap = h0 := by rw [← hh, Bd.state]; rfl
  have N0 := Fr.nil n0
  refine own_go (own_lift (fun t k => castTop (ef_rm0_3 m p0) k) ?_)
  show own_Go p.tables e below (s₁.setTop (mkF m 0 #[iv p0, .unset, .unset, .unset, .unset, .unset, .unset, .unset, .unset, .unset] [])) _
  have sg1 : ∀ t, Steps p.tables e below (s₁.setTop (mkF m 38 #[iv p0, iv 0, iv 0, iv 1, .unset, .unset, .unset, .unset, .unset, .unset] [])) t → Steps p.tables e below (s₁.setTop (mkF m 0 #[iv p0, .unset, .unset, .unset, .unset, .unset, .unset, .unset, .unset, .unset] [])) t := by
    intro t k
    refine XS.iloadN X0.here hx rfl (hb hby at_0) rfl ?_
    show Steps p.tables e below (s₁.setTop (mkF m 1 #[iv p0, .unset, .unset, .unset, .unset, .unset, .unset, .unset, .unset, .unset] [(.int p0)])) _
    refine XS.bipush X0.here hx rfl (hb hby at_1) ?_
    show Steps p.tables e below (s₁.setTop (mkF m 3 #[iv p0, .unset, .unset, .unset, .unset, .unset, .unset, .unset, .unset, .unset] [(.int 31), (.int p0)])) _
    refine XS.iushr X0.here hx rfl (hb hby at_3) rfl ?_
    show Steps p.tables e below (s₁.setTop (mkF m 4 #[iv p0, .unset, .unset, .unset, .unset, .unset, .unset, .unset, .unset, .unset] [(.int ((p0.toUInt32 >>> ((31 : Int32) &&& 31).toUInt32).toInt32))])) _
    refine XS.iconst X0.here hx rfl (hb hby at_4) ?_
    show Steps p.tables e below (s₁.setTop (mkF m 5 #[iv p0, .unset, .unset, .unset, .unset, .unset, .unset, .unset, .unset, .unset] [(.int 1), (.int ((p0.toUInt32 >>> ((31 : Int32) &&& 31).toUInt32).toInt32))])) _
    refine XS.icmpYes X0.here hx rfl (pc0 := 5) (pc' := 12) rfl (hb hby at_5) rfl (feq c1).2 (by decide) (by decide) ?_
    show Steps p.tables e below (s₁.setTop (mkF m 12 #[iv p0, .unset, .unset, .unset, .unset, .unset, .unset, .unset, .unset, .unset] [])) _
    refine XS.iconst X0.here hx rfl (hb hby at_12) ?_
    show Steps p.tables e below (s₁.setTop (mkF m 13 #[iv p0, .unset, .unset, .unset, .unset, .unset, .unset, .unset, .unset, .unset] [(.int 0)])) _
    refine XS.istoreN X0.here hx rfl (hb hby at_13) rfl (l' := #[iv p0, iv 0, .unset, .unset, .unset, .unset, .unset, .unset, .unset, .unset]) rfl ?_
    show Steps p.tables e below (s₁.setTop (mkF m 14 #[iv p0, iv 0, .unset, .unset, .unset, .unset, .unset, .unset, .unset, .unset] [])) _
    refine XS.iloadN X0.here hx rfl (hb hby at_14) rfl ?_
    show Steps p.tables e below (s₁.setTop (mkF m 15 #[iv p0, iv 0, .unset, .unset, .unset, .unset, .unset, .unset, .unset, .unset] [(.int p0)])) _
    refine XS.ifYes X0.here hx rfl (pc0 := 15) (pc' := 22) rfl (hb hby at_15) rfl ((if0 _ _).trans (feq c2).2) (by decide) (by decide) ?_
    show Steps p.tables e below (s₁.setTop (mkF m 22 #[iv p0, iv 0, .unset, .unset, .unset, .unset, .unset, .unset, .unset, .unset] [])) _
    refine XS.iconst X0.here hx rfl (hb hby at_22) ?_
    show Steps p.tables e below (s₁.setTop (mkF m 23 #[iv p0, iv 0, .unset, .unset, .unset, .unset, .unset, .unset, .unset, .unset] [(.int 0)])) _
    refine XS.istoreN X0.here hx rfl (hb hby at_23) rfl (l' := #[iv p0, iv 0, iv 0, .unset, .unset, .unset, .unset, .unset, .unset, .unset]) rfl ?_
    show Steps p.tables e below (s₁.setTop (mkF m 24 #[iv p0, iv 0, iv 0, .unset, .unset, .unset, .unset, .unset, .unset, .unset] [])) _
    refine XS.iloadN X0.here hx rfl (hb hby at_24) rfl ?_
    show Steps p.tables e below (s₁.setTop (mkF m 25 #[iv p0, iv 0, iv 0, .unset, .unset, .unset, .unset, .unset, .unset, .unset] [(.int 0)])) _
    refine XS.ifNo X0.here hx rfl (hb hby at_25) rfl ((if0 _ _).trans (teq (by decide : (0 : Int32) = (0 : Int32))).2) ?_
    show Steps p.tables e below (s₁.setTop (mkF m 28 #[iv p0, iv 0, iv 0, .unset, .unset, .unset, .unset, .unset, .unset, .unset] [])) _
    refine XS.iloadN X0.here hx rfl (hb hby at_28) rfl ?_
    show Steps p.tables e below (s₁.setTop (mkF m 29 #[iv p0, iv 0, iv 0, .unset, .unset, .unset, .unset, .unset, .unset, .unset] [(.int 0)])) _
    refine XS.ifNo X0.here hx rfl (hb hby at_29) rfl ((if0 _ _).trans (teq (by decide : (0 : Int32) = (0 : Int32))).2) ?_
    show Steps p.tables e below (s₁.setTop (mkF m 32 #[iv p0, iv 0, iv 0, .unset, .unset, .unset, .unset, .unset, .unset, .unset] [])) _
    refine XS.iconst X0.here hx rfl (hb hby at_32) ?_
    show Steps p.tables e below (s₁.setTop (mkF m 33 #[iv p0, iv 0, iv 0, .unset, .unset, .unset, .unset, .unset, .unset, .unset] [(.int 1)])) _
    refine XS.goto X0.here hx rfl (pc0 := 33) (pc' := 37) rfl (hb hby at_33) (by decide) (by decide) ?_
    show Steps p.tables e below (s₁.setTop (mkF m 37 #[iv p0, iv 0, iv 0, .unset, .unset, .unset, .unset, .unset, .unset, .unset] [(.int 1)])) _
    refine XS.istoreN X0.here hx rfl (hb hby at_37) rfl (l' := #[iv p0, iv 0, iv 0, iv 1, .unset, .unset, .unset, .unset, .unset, .unset]) rfl ?_
    show Steps p.tables e below (s₁.setTop (mkF m 38 #[iv p0, iv 0, iv 0, iv 1, .unset, .unset, .unset, .unset, .unset, .unset] [])) _
    exact k
  refine own_lift sg1 ?_
  show own_Go p.tables e below (s₁.setTop (mkF m 38 #[iv p0, iv 0, iv 0, iv 1, .unset, .unset, .unset, .unset, .unset, .unset] [])) _
  obtain ⟨T2, X2, e2, st2⟩ := getS X0 hx hZ hown (host := "") (wd hw 0 rfl) Via.refl e0 S_LESS (g := (mkF m 38 #[iv p0, iv 0, iv 0, iv 1, .unset, .unset, .unset, .unset, .unset, .unset] [])) rfl (hb hby at_38)
  refine own_lift st2 ?_
  show own_Go p.tables e below (T2.setTop (mkF m 41 #[iv p0, iv 0, iv 0, iv 1, .unset, .unset, .unset, .unset, .unset, .unset] [(.ref as_LESS)])) _
  have sg3 : ∀ t, Steps p.tables e below (T2.setTop (mkF m 42 #[iv p0, iv 0, iv 0, iv 1, .unset, .unset, .unset, .unset, .unset, .unset] [(.int p0), (.ref as_LESS)])) t → Steps p.tables e below (T2.setTop (mkF m 41 #[iv p0, iv 0, iv 0, iv 1, .unset, .unset, .unset, .unset, .unset, .unset] [(.ref as_LESS)])) t := by
    intro t k
    refine XS.iloadN X2.here hx rfl (hb hby at_41) rfl ?_
    show Steps p.tables e below (T2.setTop (mkF m 42 #[iv p0, iv 0, iv 0, iv 1, .unset, .unset, .unset, .unset, .unset, .unset] [(.int p0), (.ref as_LESS)])) _
    exact k
  refine own_lift sg3 ?_
  show own_Go p.tables e below (T2.setTop (mkF m 42 #[iv p0, iv 0, iv 0, iv 1, .unset, .unset, .unset, .unset, .unset, .unset] [(.int p0), (.ref as_LESS)])) _
  obtain ⟨cq4, kq4, q4a, q4b, q4c⟩ := isOf hZ e2 E_LESS
  obtain ⟨_, _, ⟨T4, Lx4, kx4, nx4⟩, -, X4, ⟨Lc4, hQ4, lx4, yx4, zx4⟩, st4⟩ := X2.virtualBack hx (y := (⟨"com/example/ophion/ophion/runtime/CompareOp", "holds", "(I)Z"⟩ : MethodName)) (z := (⟨"com/example/ophion/ophion/runtime/CompareOp", "holds", "(I)Z"⟩ : MethodName)) hown (mvT hZ (wd hw 3 rfl)) (mvT hZ (wd hw 4 rfl)) (notFace_of_selects (args := #[]) (mvT hZ (wd hw 6 rfl))) (mvT hZ (wd hw 6 rfl)) (mvT hZ (wd hw 5 rfl)) (by decide) (backOf (W := 0) (rmHolds0f l Z a0 hw [] as_LESS p0 h0 n0 Z0 O_LESS E_LESS c3) hZ (wd hw 7 rfl) (wd hw 1 rfl) (by decide) (by decide)) q4a q4c (g := (mkF m 42 #[iv p0, iv 0, iv 0, iv 1, .unset, .unset, .unset, .unset, .unset, .unset] [(.int p0), (.ref as_LESS)])) rfl (by rw [hml]; rfl) (Steps.refl _) (argsL := [(.int p0)]) (rest := []) (lenOf pd_1 rfl) rfl (by show 2 * 0 + _ ≤ _; exact Nat.le_of_eq rfl) (hb hby at_42) (fun _ _ => ⟨rfl, e2, (by decide : 0 + 0 ≤ _), (by decide : 0 + 0 ≤ _)⟩)
  dsimp only [Pt.U, Pt.locs, Pt.cells, Pt.slots] at X4 lx4 yx4 zx4 st4 hQ4
  subst lx4 yx4 zx4
  obtain ⟨rfl, N4q, e4⟩ := hQ4
  have N4 := Fr.app N0 N4q
  refine own_lift (fun t k => st4.trans k) ?_
  show own_Go p.tables e below (T4.setTop (mkF m 45 #[iv p0, iv 0, iv 0, iv 1, .unset, .unset, .unset, .unset, .unset, .unset] [(.int 0)])) _
  have sg5 : ∀ t, Steps p.tables e below (T4.setTop (mkF m 47 #[iv p0, iv 0, iv 0, iv 1, iv 0, .unset, .unset, .unset, .unset, .unset] [])) t → Steps p.tables e below (T4.setTop (mkF m 45 #[iv p0, iv 0, iv 0, iv 1, .unset, .unset, .unset, .unset, .unset, .unset] [(.int 0)])) t := by
    intro t k
    refine XS.istore X4.here hx rfl (hb hby at_45) rfl (l' := #[iv p0, iv 0, iv 0, iv 1, iv 0, .unset, .unset, .unset, .unset, .unset]) rfl ?_
    show Steps p.tables e below (T4.setTop (mkF m 47 #[iv p0, iv 0, iv 0, iv 1, iv 0, .unset, .unset, .unset, .unset, .unset] [])) _
    exact k
  refine own_lift sg5 ?_
  show own_Go p.tables e below (T4.setTop (mkF m 47 #[iv p0, iv 0, iv 0, iv 1, iv 0, .unset, .unset, .unset, .unset, .unset] [])) _
  obtain ⟨T6, X6, e6, st6⟩ := getS X4 hx hZ hown (host := "") (wd hw 17 rfl) Via.refl e4 S_LESS_EQUAL (g := (mkF m 47 #[iv p0, iv 0, iv 0, iv 1, iv 0, .unset, .unset, .unset, .unset, .unset] [])) rfl (hb hby at_47)
  refine own_lift st6 ?_
  show own_Go p.tables e below (T6.setTop (mkF m 50 #[iv p0, iv 0, iv 0, iv 1, iv 0, .unset, .unset, .unset, .unset, .unset] [(.ref as_LESS_EQUAL)])) _
  have sg7 : ∀ t, Steps p.tables e below (T6.setTop (mkF m 51 #[iv p0, iv 0, iv 0, iv 1, iv 0, .unset, .unset, .unset, .unset, .unset] [(.int p0), (.ref as_LESS_EQUAL)])) t → Steps p.tables e below (T6.setTop (mkF m 50 #[iv p0, iv 0, iv 0, iv 1, iv 0, .unset, .unset, .unset, .unset, .unset] [(.ref as_LESS_EQUAL)])) t := by
    intro t k
    refine XS.iloadN X6.here hx rfl (hb hby at_50) rfl ?_
    show Steps p.tables e below (T6.setTop (mkF m 51 #[iv p0, iv 0, iv 0, iv 1, iv 0, .unset, .unset, .unset, .unset, .unset] [(.int p0), (.ref as_LESS_EQUAL)])) _
    exact k
  refine own_lift sg7 ?_
  show own_Go p.tables e below (T6.setTop (mkF m 51 #[iv p0, iv 0, iv 0, iv 1, iv 0, .unset, .unset, .unset, .unset, .unset] [(.int p0), (.ref as_LESS_EQUAL)])) _
  obtain ⟨cq8, kq8, q8a, q8b, q8c⟩ := isOf hZ e6 E_LESS_EQUAL
  obtain ⟨_, _, ⟨T8, Lx8, kx8, nx8⟩, -, X8, ⟨Lc8, hQ8, lx8, yx8, zx8⟩, st8⟩ := X6.virtualBack hx (y := (⟨"com/example/ophion/ophion/runtime/CompareOp", "holds", "(I)Z"⟩ : MethodName)) (z := (⟨"com/example/ophion/ophion/runtime/CompareOp", "holds", "(I)Z"⟩ : MethodName)) hown (mvT hZ (wd hw 3 rfl)) (mvT hZ (wd hw 4 rfl)) (notFace_of_selects (args := #[]) (mvT hZ (wd hw 6 rfl))) (mvT hZ (wd hw 6 rfl)) (mvT hZ (wd hw 5 rfl)) (by decide) (backOf (W := 0) (rmHolds1t l Z a0 hw [] as_LESS_EQUAL p0 h0 n0 Z0 O_LESS_EQUAL E_LESS_EQUAL c4) hZ (wd hw 7 rfl) (wd hw 1 rfl) (by decide) (by decide)) q8a q8c (g := (mkF m 51 #[iv p0, iv 0, iv 0, iv 1, iv 0, .unset, .unset, .unset, .unset, .unset] [(.int p0), (.ref as_LESS_EQUAL)])) rfl (by rw [hml]; rfl) (Steps.refl _) (argsL := [(.int p0)]) (rest := []) (lenOf pd_1 rfl) rfl (by show 2 * 0 + _ ≤ _; exact Nat.le_of_eq rfl) (hb hby at_51) (fun _ _ => ⟨rfl, e6, (by decide : 0 + 0 ≤ _), (by decide : 0 + 0 ≤ _)⟩)
  dsimp only [Pt.U, Pt.locs, Pt.cells, Pt.slots] at X8 lx8 yx8 zx8 st8 hQ8
  subst lx8 yx8 zx8
  obtain ⟨rfl, N8q, e8⟩ := hQ8
  have N8 := Fr.app N4 N8q
  refine own_lift (fun t k => st8.trans k) ?_
  show own_Go p.tables e below (T8.setTop (mkF m 54 #[iv p0, iv 0, iv 0, iv 1, iv 0, .unset, .unset, .unset, .unset, .unset] [(.int 0)])) _
  have sg9 : ∀ t, Steps p.tables e below (T8.setTop (mkF m 56 #[iv p0, iv 0, iv 0, iv 1, iv 0, iv 0, .unset, .unset, .unset, .unset] [])) t → Steps p.tables e below (T8.setTop (mkF m 54 #[iv p0, iv 0, iv 0, iv 1, iv 0, .unset, .unset, .unset, .unset, .unset] [(.int 0)])) t := by
    intro t k
    refine XS.istore X8.here hx rfl (hb hby at_54) rfl (l' := #[iv p0, iv 0, iv 0, iv 1, iv 0, iv 0, .unset, .unset, .unset, .unset]) rfl ?_
    show Steps p.tables e below (T8.setTop (mkF m 56 #[iv p0, iv 0, iv 0, iv 1, iv 0, iv 0, .unset, .unset, .unset, .unset] [])) _
    exact k
  refine own_lift sg9 ?_
  show own_Go p.tables e below (T8.setTop (mkF m 56 #[iv p0, iv 0, iv 0, iv 1, iv 0, iv 0, .unset, .unset, .unset, .unset] [])) _
  obtain ⟨T10, X10, e10, st10⟩ := getS X8 hx hZ hown (host := "") (wd hw 19 rfl) Via.refl e8 S_EQUAL (g := (mkF m 56 #[iv p0, iv 0, iv 0, iv 1, iv 0, iv 0, .unset, .unset, .unset, .unset] [])) rfl (hb hby at_56)
  refine own_lift st10 ?_
  show own_Go p.tables e below (T10.setTop (mkF m 59 #[iv p0, iv 0, iv 0, iv 1, iv 0, iv 0, .unset, .unset, .unset, .unset] [(.ref as_EQUAL)])) _
  have sg11 : ∀ t, Steps p.tables e below (T10.setTop (mkF m 60 #[iv p0, iv 0, iv 0, iv 1, iv 0, iv 0, .unset, .unset, .unset, .unset] [(.int p0), (.ref as_EQUAL)])) t → Steps p.tables e below (T10.setTop (mkF m 59 #[iv p0, iv 0, iv 0, iv 1, iv 0, iv 0, .unset, .unset, .unset, .unset] [(.ref as_EQUAL)])) t := by
    intro t k
    refine XS.iloadN X10.here hx rfl (hb hby at_59) rfl ?_
    show Steps p.tables e below (T10.setTop (mkF m 60 #[iv p0, iv 0, iv 0, iv 1, iv 0, iv 0, .unset, .unset, .unset, .unset] [(.int p0), (.ref as_EQUAL)])) _
    exact k
  refine own_lift sg11 ?_
  show own_Go p.tables e below (T10.setTop (mkF m 60 #[iv p0, iv 0, iv 0, iv 1, iv 0, iv 0, .unset, .unset, .unset, .unset] [(.int p0), (.ref as_EQUAL)])) _
  obtain ⟨cq12, kq12, q12a, q12b, q12c⟩ := isOf hZ e10 E_EQUAL
  obtain ⟨_, _, ⟨T12, Lx12, kx12, nx12⟩, -, X12, ⟨Lc12, hQ12, lx12, yx12, zx12⟩, st12⟩ := X10.virtualBack hx (y := (⟨"com/example/ophion/ophion/runtime/CompareOp", "holds", "(I)Z"⟩ : MethodName)) (z := (⟨"com/example/ophion/ophion/runtime/CompareOp", "holds", "(I)Z"⟩ : MethodName)) hown (mvT hZ (wd hw 3 rfl)) (mvT hZ (wd hw 4 rfl)) (notFace_of_selects (args := #[]) (mvT hZ (wd hw 6 rfl))) (mvT hZ (wd hw 6 rfl)) (mvT hZ (wd hw 5 rfl)) (by decide) (backOf (W := 0) (rmHolds2f l Z a0 hw [] as_EQUAL p0 h0 n0 Z0 O_EQUAL E_EQUAL c2) hZ (wd hw 7 rfl) (wd hw 1 rfl) (by decide) (by decide)) q12a q12c (g := (mkF m 60 #[iv p0, iv 0, iv 0, iv 1, iv 0, iv 0, .unset, .unset, .unset, .unset] [(.int p0), (.ref as_EQUAL)])) rfl (by rw [hml]; rfl) (Steps.refl _) (argsL := [(.int p0)]) (rest := []) (lenOf pd_1 rfl) rfl (by show 2 * 0 + _ ≤ _; exact Nat.le_of_eq rfl) (hb hby at_60) (fun _ _ => ⟨rfl, e10, (by decide : 0 + 0 ≤ _), (by decide : 0 + 0 ≤ _)⟩)
  dsimp only [Pt.U, Pt.locs, Pt.cells, Pt.slots] at X12 lx12 yx12 zx12 st12 hQ12
  subst lx12 yx12 zx12
  obtain ⟨rfl, N12q, e12⟩ := hQ12
  have N12 := Fr.app N8 N12q
  refine own_lift (fun t k => st12.trans k) ?_
  show own_Go p.tables e below (T12.setTop (mkF m 63 #[iv p0, iv 0, iv 0, iv 1, iv 0, iv 0, .unset, .unset, .unset, .unset] [(.int 0)])) _
  have sg13 : ∀ t, Steps p.tables e below (T12.setTop (mkF m 65 #[iv p0, iv 0, iv 0, iv 1, iv 0, iv 0, iv 0, .unset, .unset, .unset] [])) t → Steps p.tables e below (T12.setTop (mkF m 63 #[iv p0, iv 0, iv 0, iv 1, iv 0, iv 0, .unset, .unset, .unset, .unset] [(.int 0)])) t := by
    intro t k
    refine XS.istore X12.here hx rfl (hb hby at_63) rfl (l' := #[iv p0, iv 0, iv 0, iv 1, iv 0, iv 0, iv 0, .unset, .unset, .unset]) rfl ?_
    show Steps p.tables e below (T12.setTop (mkF m 65 #[iv p0, iv 0, iv 0, iv 1, iv 0, iv 0, iv 0, .unset, .unset, .unset] [])) _
    exact k
  refine own_lift sg13 ?_
  show own_Go p.tables e below (T12.setTop (mkF m 65 #[iv p0, iv 0, iv 0, iv 1, iv 0, iv 0, iv 0, .unset, .unset, .unset] [])) _
  obtain ⟨T14, X14, e14, st14⟩ := getS X12 hx hZ hown (host := "") (wd hw 21 rfl) Via.refl e12 S_NOT_EQUAL (g := (mkF m 65 #[iv p0, iv 0, iv 0, iv 1, iv 0, iv 0, iv 0, .unset, .unset, .unset] [])) rfl (hb hby at_65)
  refine own_lift st14 ?_
  show own_Go p.tables e below (T14.setTop (mkF m 68 #[iv p0, iv 0, iv 0, iv 1, iv 0, iv 0, iv 0, .unset, .unset, .unset] [(.ref as_NOT_EQUAL)])) _
  have sg15 : ∀ t, Steps p.tables e below (T14.setTop (mkF m 69 #[iv p0, iv 0, iv 0, iv 1, iv 0, iv 0, iv 0, .unset, .unset, .unset] [(.int p0), (.ref as_NOT_EQUAL)])) t → Steps p.tables e below (T14.setTop (mkF m 68 #[iv p0, iv 0, iv 0, iv 1, iv 0, iv 0, iv 0, .unset, .unset, .unset] [(.ref as_NOT_EQUAL)])) t := by
    intro t k
    refine XS.iloadN X14.here hx rfl (hb hby at_68) rfl ?_
    show Steps p.tables e below (T14.setTop (mkF m 69 #[iv p0, iv 0, iv 0, iv 1, iv 0, iv 0, iv 0, .unset, .unset, .unset] [(.int p0), (.ref as_NOT_EQUAL)])) _
    exact k
  refine own_lift sg15 ?_
  show own_Go p.tables e below (T14.setTop (mkF m 69 #[iv p0, iv 0, iv 0, iv 1, iv 0, iv 0, iv 0, .unset, .unset, .unset] [(.int p0), (.ref as_NOT_EQUAL)])) _
  obtain ⟨cq16, kq16, q16a, q16b, q16c⟩ := isOf hZ e14 E_NOT_EQUAL
  obtain ⟨_, _, ⟨T16, Lx16, kx16, nx16⟩, -, X16, ⟨Lc16, hQ16, lx16, yx16, zx16⟩, st16⟩ := X14.virtualBack hx (y := (⟨"com/example/ophion/ophion/runtime/CompareOp", "holds", "(I)Z"⟩ : MethodName)) (z := (⟨"com/example/ophion/ophion/runtime/CompareOp", "holds", "(I)Z"⟩ : MethodName)) hown (mvT hZ (wd hw 3 rfl)) (mvT hZ (wd hw 4 rfl)) (notFace_of_selects (args := #[]) (mvT hZ (wd hw 6 rfl))) (mvT hZ (wd hw 6 rfl)) (mvT hZ (wd hw 5 rfl)) (by decide) (backOf (W := 0) (rmHolds3f l Z a0 hw [] as_NOT_EQUAL p0 h0 n0 Z0 O_NOT_EQUAL E_NOT_EQUAL c2) hZ (wd hw 7 rfl) (wd hw 1 rfl) (by decide) (by decide)) q16a q16c (g := (mkF m 69 #[iv p0, iv 0, iv 0, iv 1, iv 0, iv 0, iv 0, .unset, .unset, .unset] [(.int p0), (.ref as_NOT_EQUAL)])) rfl (by rw [hml]; rfl) (Steps.refl _) (argsL := [(.int p0)]) (rest := []) (lenOf pd_1 rfl) rfl (by show 2 * 0 + _ ≤ _; exact Nat.le_of_eq rfl) (hb hby at_69) (fun _ _ => ⟨rfl, e14, (by decide : 0 + 0 ≤ _), (by decide : 0 + 0 ≤ _)⟩)
  dsimp only [Pt.U, Pt.locs, Pt.cells, Pt.slots] at X16 lx16 yx16 zx16 st16 hQ16
  subst lx16 yx16 zx16
  obtain ⟨rfl, N16q, e16⟩ := hQ16
  have N16 := Fr.app N12 N16q
  refine own_lift (fun t k => st16.trans k) ?_
  show own_Go p.tables e below (T16.setTop (mkF m 72 #[iv p0, iv 0, iv 0, iv 1, iv 0, iv 0, iv 0, .unset, .unset, .unset] [(.int 1)])) _
  have sg17 : ∀ t, Steps p.tables e below (T16.setTop (mkF m 74 #[iv p0, iv 0, iv 0, iv 1, iv 0, iv 0, iv 0, iv 1, .unset, .unset] [])) t → Steps p.tables e below (T16.setTop (mkF m 72 #[iv p0, iv 0, iv 0, iv 1, iv 0, iv 0, iv 0, .unset, .unset, .unset] [(.int 1)])) t := by
    intro t k
    refine XS.istore X16.here hx rfl (hb hby at_72) rfl (l' := #[iv p0, iv 0, iv 0, iv 1, iv 0, iv 0, iv 0, iv 1, .unset, .unset]) rfl ?_
    show Steps p.tables e below (T16.setTop (mkF m 74 #[iv p0, iv 0, iv 0, iv 1, iv 0, iv 0, iv 0, iv 1, .unset, .unset] [])) _
    exact k
  refine own_lift sg17 ?_
  show own_Go p.tables e below (T16.setTop (mkF m 74 #[iv p0, iv 0, iv 0, iv 1, iv 0, iv 0, iv 0, iv 1, .unset, .unset] [])) _
  obtain ⟨T18, X18, e18, st18⟩ := getS X16 hx hZ hown (host := "") (wd hw 23 rfl) Via.refl e16 S_GREATER (g := (mkF m 74 #[iv p0, iv 0, iv 0, iv 1, iv 0, iv 0, iv 0, iv 1, .unset, .unset] [])) rfl (hb hby at_74)
  refine own_lift st18 ?_
  show own_Go p.tables e below (T18.setTop (mkF m 77 #[iv p0, iv 0, iv 0, iv 1, iv 0, iv 0, iv 0, iv 1, .unset, .unset] [(.ref as_GREATER)])) _
  have sg19 : ∀ t, Steps p.tables e below (T18.setTop (mkF m 78 #[iv p0, iv 0, iv 0, iv 1, iv 0, iv 0, iv 0, iv 1, .unset, .unset] [(.int p0), (.ref as_GREATER)])) t → Steps p.tables e below (T18.setTop (mkF m 77 #[iv p0, iv 0, iv 0, iv 1, iv 0, iv 0, iv 0, iv 1, .unset, .unset] [(.ref as_GREATER)])) t := by
    intro t k
    refine XS.iloadN X18.here hx rfl (hb hby at_77) rfl ?_
    show Steps p.tables e below (T18.setTop (mkF m 78 #[iv p0, iv 0, iv 0, iv 1, iv 0, iv 0, iv 0, iv 1, .unset, .unset] [(.int p0), (.ref as_GREATER)])) _
    exact k
  refine own_lift sg19 ?_
  show own_Go p.tables e below (T18.setTop (mkF m 78 #[iv p0, iv 0, iv 0, iv 1, iv 0, iv 0, iv 0, iv 1, .unset, .unset] [(.int p0), (.ref as_GREATER)])) _
  obtain ⟨cq20, kq20, q20a, q20b, q20c⟩ := isOf hZ e18 E_GREATER
  obtain ⟨_, _, ⟨T20, Lx20, kx20, nx20⟩, -, X20, ⟨Lc20, hQ20, lx20, yx20, zx20⟩, st20⟩ := X18.virtualBack hx (y := (⟨"com/example/ophion/ophion/runtime/CompareOp", "holds", "(I)Z"⟩ : MethodName)) (z := (⟨"com/example/ophion/ophion/runtime/CompareOp", "holds", "(I)Z"⟩ : MethodName)) hown (mvT hZ (wd hw 3 rfl)) (mvT hZ (wd hw 4 rfl)) (notFace_of_selects (args := #[]) (mvT hZ (wd hw 6 rfl))) (mvT hZ (wd hw 6 rfl)) (mvT hZ (wd hw 5 rfl)) (by decide) (backOf (W := 0) (rmHolds4t l Z a0 hw [] as_GREATER p0 h0 n0 Z0 O_GREATER E_GREATER c4) hZ (wd hw 7 rfl) (wd hw 1 rfl) (by decide) (by decide)) q20a q20c (g := (mkF m 78 #[iv p0, iv 0, iv 0, iv 1, iv 0, iv 0, iv 0, iv 1, .unset, .unset] [(.int p0), (.ref as_GREATER)])) rfl (by rw [hml]; rfl) (Steps.refl _) (argsL := [(.int p0)]) (rest := []) (lenOf pd_1 rfl) rfl (by show 2 * 0 + _ ≤ _; exact Nat.le_of_eq rfl) (hb hby at_78) (fun _ _ => ⟨rfl, e18, (by decide : 0 + 0 ≤ _), (by decide : 0 + 0 ≤ _)⟩)
  dsimp only [Pt.U, Pt.locs, Pt.cells, Pt.slots] at X20 lx20 yx20 zx20 st20 hQ20
  subst lx20 yx20 zx20
  obtain ⟨rfl, N20q, e20⟩ := hQ20
  have N20 := Fr.app N16 N20q
  refine own_lift (fun t k => st20.trans k) ?_
  show own_Go p.tables e below (T20.setTop (mkF m 81 #[iv p0, iv 0, iv 0, iv 1, iv 0, iv 0, iv 0, iv 1, .unset, .unset] [(.int 1)])) _
  have sg21 : ∀ t, Steps p.tables e below (T20.setTop (mkF m 83 #[iv p0, iv 0, iv 0, iv 1, iv 0, iv 0, iv 0, iv 1, iv 1, .unset] [])) t → Steps p.tables e below (T20.setTop (mkF m 81 #[iv p0, iv 0, iv 0, iv 1, iv 0, iv 0, iv 0, iv 1, .unset, .unset] [(.int 1)])) t := by
    intro t k
    refine XS.istore X20.here hx rfl (hb hby at_81) rfl (l' := #[iv p0, iv 0, iv 0, iv 1, iv 0, iv 0, iv 0, iv 1, iv 1, .unset]) rfl ?_
    show Steps p.tables e below (T20.setTop (mkF m 83 #[iv p0, iv 0, iv 0, iv 1, iv 0, iv 0, iv 0, iv 1, iv 1, .unset] [])) _
    exact k
  refine own_lift sg21 ?_
  show own_Go p.tables e below (T20.setTop (mkF m 83 #[iv p0, iv 0, iv 0, iv 1, iv 0, iv 0, iv 0, iv 1, iv 1, .unset] [])) _
  obtain ⟨T22, X22, e22, st22⟩ := getS X20 hx hZ hown (host := "") (wd hw 25 rfl) Via.refl e20 S_GREATER_EQUAL (g := (mkF m 83 #[iv p0, iv 0, iv 0, iv 1, iv 0, iv 0, iv 0, iv 1, iv 1, .unset] [])) rfl (hb hby at_83)
  refine own_lift st22 ?_
  show own_Go p.tables e below (T22.setTop (mkF m 86 #[iv p0, iv 0, iv 0, iv 1, iv 0, iv 0, iv 0, iv 1, iv 1, .unset] [(.ref as_GREATER_EQUAL)])) _
  have sg23 : ∀ t, Steps p.tables e below (T22.setTop (mkF m 87 #[iv p0, iv 0, iv 0, iv 1, iv 0, iv 0, iv 0, iv 1, iv 1, .unset] [(.int p0), (.ref as_GREATER_EQUAL)])) t → Steps p.tables e below (T22.setTop (mkF m 86 #[iv p0, iv 0, iv 0, iv 1, iv 0, iv 0, iv 0, iv 1, iv 1, .unset] [(.ref as_GREATER_EQUAL)])) t := by
    intro t k
    refine XS.iloadN X22.here hx rfl (hb hby at_86) rfl ?_
    show Steps p.tables e below (T22.setTop (mkF m 87 #[iv p0, iv 0, iv 0, iv 1, iv 0, iv 0, iv 0, iv 1, iv 1, .unset] [(.int p0), (.ref as_GREATER_EQUAL)])) _
    exact k
  refine own_lift sg23 ?_
  show own_Go p.tables e below (T22.setTop (mkF m 87 #[iv p0, iv 0, iv 0, iv 1, iv 0, iv 0, iv 0, iv 1, iv 1, .unset] [(.int p0), (.ref as_GREATER_EQUAL)])) _
  obtain ⟨cq24, kq24, q24a, q24b, q24c⟩ := isOf hZ e22 E_GREATER_EQUAL
  obtain ⟨_, _, ⟨T24, Lx24, kx24, nx24⟩, -, X24, ⟨Lc24, hQ24, lx24, yx24, zx24⟩, st24⟩ := X22.virtualBack hx (y := (⟨"com/example/ophion/ophion/runtime/CompareOp", "holds", "(I)Z"⟩ : MethodName)) (z := (⟨"com/example/ophion/ophion/runtime/CompareOp", "holds", "(I)Z"⟩ : MethodName)) hown (mvT hZ (wd hw 3 rfl)) (mvT hZ (wd hw 4 rfl)) (notFace_of_selects (args := #[]) (mvT hZ (wd hw 6 rfl))) (mvT hZ (wd hw 6 rfl)) (mvT hZ (wd hw 5 rfl)) (by decide) (backOf (W := 0) (rmHolds5f l Z a0 hw [] as_GREATER_EQUAL p0 h0 n0 Z0 O_GREATER_EQUAL E_GREATER_EQUAL c3) hZ (wd hw 7 rfl) (wd hw 1 rfl) (by decide) (by decide)) q24a q24c (g := (mkF m 87 #[iv p0, iv 0, iv 0, iv 1, iv 0, iv 0, iv 0, iv 1, iv 1, .unset] [(.int p0), (.ref as_GREATER_EQUAL)])) rfl (by rw [hml]; rfl) (Steps.refl _) (argsL := [(.int p0)]) (rest := []) (lenOf pd_1 rfl) rfl (by show 2 * 0 + _ ≤ _; exact Nat.le_of_eq rfl) (hb hby at_87) (fun _ _ => ⟨rfl, e22, (by decide : 0 + 0 ≤ _), (by decide : 0 + 0 ≤ _)⟩)
  dsimp only [Pt.U, Pt.locs, Pt.cells, Pt.slots] at X24 lx24 yx24 zx24 st24 hQ24
  subst lx24 yx24 zx24
  obtain ⟨rfl, N24q, e24⟩ := hQ24
  have N24 := Fr.app N20 N24q
  refine own_lift (fun t k => st24.trans k) ?_
  show own_Go p.tables e below (T24.setTop (mkF m 90 #[iv p0, iv 0, iv 0, iv 1, iv 0, iv 0, iv 0, iv 1, iv 1, .unset] [(.int 1)])) _
  have sg25 : ∀ t, Steps p.tables e below (T24.setTop (mkF m 161 #[iv p0, iv 0, iv 0, iv 1, iv 0, iv 0, iv 0, iv 1, iv 1, iv 1] [(.int 1)])) t → Steps p.tables e below (T24.setTop (mkF m 90 #[iv p0, iv 0, iv 0, iv 1, iv 0, iv 0, iv 0, iv 1, iv 1, .unset] [(.int 1)])) t := by
    intro t k
    refine XS.istore X24.here hx rfl (hb hby at_90) rfl (l' := #[iv p0, iv 0, iv 0, iv 1, iv 0, iv 0, iv 0, iv 1, iv 1, iv 1]) rfl ?_
    show Steps p.tables e below (T24.setTop (mkF m 92 #[iv p0, iv 0, iv 0, iv 1, iv 0, iv 0, iv 0, iv 1, iv 1, iv 1] [])) _
    refine XS.iload X24.here hx rfl (hb hby at_92) rfl ?_
    show Steps p.tables e below (T24.setTop (mkF m 94 #[iv p0, iv 0, iv 0, iv 1, iv 0, iv 0, iv 0, iv 1, iv 1, iv 1] [(.int 0)])) _
    refine XS.iloadN X24.here hx rfl (hb hby at_94) rfl ?_
    show Steps p.tables e below (T24.setTop (mkF m 95 #[iv p0, iv 0, iv 0, iv 1, iv 0, iv 0, iv 0, iv 1, iv 1, iv 1] [(.int 0), (.int 0)])) _
    refine XS.icmpNo X24.here hx rfl (hb hby at_95) rfl (teq (by decide : (0 : Int32) = (0 : Int32))).2 ?_
    show Steps p.tables e below (T24.setTop (mkF m 98 #[iv p0, iv 0, iv 0, iv 1, iv 0, iv 0, iv 0, iv 1, iv 1, iv 1] [])) _
    refine XS.iload X24.here hx rfl (hb hby at_98) rfl ?_
    show Steps p.tables e below (T24.setTop (mkF m 100 #[iv p0, iv 0, iv 0, iv 1, iv 0, iv 0, iv 0, iv 1, iv 1, iv 1] [(.int 0)])) _
    refine XS.iloadN X24.here hx rfl (hb hby at_100) rfl ?_
    show Steps p.tables e below (T24.setTop (mkF m 101 #[iv p0, iv 0, iv 0, iv 1, iv 0, iv 0, iv 0, iv 1, iv 1, iv 1] [(.int 0), (.int 0)])) _
    refine XS.ifNo X24.here hx rfl (hb hby at_101) rfl ((if0 _ _).trans (teq (by decide : (0 : Int32) = (0 : Int32))).2) ?_
    show Steps p.tables e below (T24.setTop (mkF m 104 #[iv p0, iv 0, iv 0, iv 1, iv 0, iv 0, iv 0, iv 1, iv 1, iv 1] [(.int 0)])) _
    refine XS.iloadN X24.here hx rfl (hb hby at_104) rfl ?_
    show Steps p.tables e below (T24.setTop (mkF m 105 #[iv p0, iv 0, iv 0, iv 1, iv 0, iv 0, iv 0, iv 1, iv 1, iv 1] [(.int 0), (.int 0)])) _
    refine XS.ifYes X24.here hx rfl (pc0 := 105) (pc' := 112) rfl (hb hby at_105) rfl ((if0 _ _).trans (teq (by decide : (0 : Int32) = (0 : Int32))).1) (by decide) (by decide) ?_
    show Steps p.tables e below (T24.setTop (mkF m 112 #[iv p0, iv 0, iv 0, iv 1, iv 0, iv 0, iv 0, iv 1, iv 1, iv 1] [(.int 0)])) _
    refine XS.iconst X24.here hx rfl (hb hby at_112) ?_
    show Steps p.tables e below (T24.setTop (mkF m 113 #[iv p0, iv 0, iv 0, iv 1, iv 0, iv 0, iv 0, iv 1, iv 1, iv 1] [(.int 0), (.int 0)])) _
    refine XS.icmpNo X24.here hx rfl (hb hby at_113) rfl (teq (by decide : (0 : Int32) = (0 : Int32))).2 ?_
    show Steps p.tables e below (T24.setTop (mkF m 116 #[iv p0, iv 0, iv 0, iv 1, iv 0, iv 0, iv 0, iv 1, iv 1, iv 1] [])) _
    refine XS.iload X24.here hx rfl (hb hby at_116) rfl ?_
    show Steps p.tables e below (T24.setTop (mkF m 118 #[iv p0, iv 0, iv 0, iv 1, iv 0, iv 0, iv 0, iv 1, iv 1, iv 1] [(.int 0)])) _
    refine XS.iloadN X24.here hx rfl (hb hby at_118) rfl ?_
    show Steps p.tables e below (T24.setTop (mkF m 119 #[iv p0, iv 0, iv 0, iv 1, iv 0, iv 0, iv 0, iv 1, iv 1, iv 1] [(.int 0), (.int 0)])) _
    refine XS.icmpNo X24.here hx rfl (hb hby at_119) rfl (teq (by decide : (0 : Int32) = (0 : Int32))).2 ?_
    show Steps p.tables e below (T24.setTop (mkF m 122 #[iv p0, iv 0, iv 0, iv 1, iv 0, iv 0, iv 0, iv 1, iv 1, iv 1] [])) _
    refine XS.iload X24.here hx rfl (hb hby at_122) rfl ?_
    show Steps p.tables e below (T24.setTop (mkF m 124 #[iv p0, iv 0, iv 0, iv 1, iv 0, iv 0, iv 0, iv 1, iv 1, iv 1] [(.int 1)])) _
    refine XS.iloadN X24.here hx rfl (hb hby at_124) rfl ?_
    show Steps p.tables e below (T24.setTop (mkF m 125 #[iv p0, iv 0, iv 0, iv 1, iv 0, iv 0, iv 0, iv 1, iv 1, iv 1] [(.int 0), (.int 1)])) _
    refine XS.ifNo X24.here hx rfl (hb hby at_125) rfl ((if0 _ _).trans (teq (by decide : (0 : Int32) = (0 : Int32))).2) ?_
    show Steps p.tables e below (T24.setTop (mkF m 128 #[iv p0, iv 0, iv 0, iv 1, iv 0, iv 0, iv 0, iv 1, iv 1, iv 1] [(.int 1)])) _
    refine XS.iconst X24.here hx rfl (hb hby at_128) ?_
    show Steps p.tables e below (T24.setTop (mkF m 129 #[iv p0, iv 0, iv 0, iv 1, iv 0, iv 0, iv 0, iv 1, iv 1, iv 1] [(.int 1), (.int 1)])) _
    refine XS.goto X24.here hx rfl (pc0 := 129) (pc' := 133) rfl (hb hby at_129) (by decide) (by decide) ?_
    show Steps p.tables e below (T24.setTop (mkF m 133 #[iv p0, iv 0, iv 0, iv 1, iv 0, iv 0, iv 0, iv 1, iv 1, iv 1] [(.int 1), (.int 1)])) _
    refine XS.icmpNo X24.here hx rfl (hb hby at_133) rfl (teq (by decide : (1 : Int32) = (1 : Int32))).2 ?_
    show Steps p.tables e below (T24.setTop (mkF m 136 #[iv p0, iv 0, iv 0, iv 1, iv 0, iv 0, iv 0, iv 1, iv 1, iv 1] [])) _
    refine XS.iload X24.here hx rfl (hb hby at_136) rfl ?_
    show Steps p.tables e below (T24.setTop (mkF m 138 #[iv p0, iv 0, iv 0, iv 1, iv 0, iv 0, iv 0, iv 1, iv 1, iv 1] [(.int 1)])) _
    refine XS.iloadN X24.here hx rfl (hb hby at_138) rfl ?_
    show Steps p.tables e below (T24.setTop (mkF m 139 #[iv p0, iv 0, iv 0, iv 1, iv 0, iv 0, iv 0, iv 1, iv 1, iv 1] [(.int 1), (.int 1)])) _
    refine XS.icmpNo X24.here hx rfl (hb hby at_139) rfl (teq (by decide : (1 : Int32) = (1 : Int32))).2 ?_
    show Steps p.tables e below (T24.setTop (mkF m 142 #[iv p0, iv 0, iv 0, iv 1, iv 0, iv 0, iv 0, iv 1, iv 1, iv 1] [])) _
    refine XS.iload X24.here hx rfl (hb hby at_142) rfl ?_
    show Steps p.tables e below (T24.setTop (mkF m 144 #[iv p0, iv 0, iv 0, iv 1, iv 0, iv 0, iv 0, iv 1, iv 1, iv 1] [(.int 1)])) _
    refine XS.iloadN X24.here hx rfl (hb hby at_144) rfl ?_
    show Steps p.tables e below (T24.setTop (mkF m 145 #[iv p0, iv 0, iv 0, iv 1, iv 0, iv 0, iv 0, iv 1, iv 1, iv 1] [(.int 0), (.int 1)])) _
    refine XS.ifNo X24.here hx rfl (hb hby at_145) rfl ((if0 _ _).trans (teq (by decide : (0 : Int32) = (0 : Int32))).2) ?_
    show Steps p.tables e below (T24.setTop (mkF m 148 #[iv p0, iv 0, iv 0, iv 1, iv 0, iv 0, iv 0, iv 1, iv 1, iv 1] [(.int 1)])) _
    refine XS.iconst X24.here hx rfl (hb hby at_148) ?_
    show Steps p.tables e below (T24.setTop (mkF m 149 #[iv p0, iv 0, iv 0, iv 1, iv 0, iv 0, iv 0, iv 1, iv 1, iv 1] [(.int 1), (.int 1)])) _
    refine XS.goto X24.here hx rfl (pc0 := 149) (pc' := 153) rfl (hb hby at_149) (by decide) (by decide) ?_
    show Steps p.tables e below (T24.setTop (mkF m 153 #[iv p0, iv 0, iv 0, iv 1, iv 0, iv 0, iv 0, iv 1, iv 1, iv 1] [(.int 1), (.int 1)])) _
    refine XS.icmpNo X24.here hx rfl (hb hby at_153) rfl (teq (by decide : (1 : Int32) = (1 : Int32))).2 ?_
    show Steps p.tables e below (T24.setTop (mkF m 156 #[iv p0, iv 0, iv 0, iv 1, iv 0, iv 0, iv 0, iv 1, iv 1, iv 1] [])) _
    refine XS.iconst X24.here hx rfl (hb hby at_156) ?_
    show Steps p.tables e below (T24.setTop (mkF m 157 #[iv p0, iv 0, iv 0, iv 1, iv 0, iv 0, iv 0, iv 1, iv 1, iv 1] [(.int 1)])) _
    refine XS.goto X24.here hx rfl (pc0 := 157) (pc' := 161) rfl (hb hby at_157) (by decide) (by decide) ?_
    show Steps p.tables e below (T24.setTop (mkF m 161 #[iv p0, iv 0, iv 0, iv 1, iv 0, iv 0, iv 0, iv 1, iv 1, iv 1] [(.int 1)])) _
    exact k
  refine own_lift sg25 ?_
  show own_Go p.tables e below (T24.setTop (mkF m 161 #[iv p0, iv 0, iv 0, iv 1, iv 0, iv 0, iv 0, iv 1, iv 1, iv 1] [(.int 1)])) _
  obtain ⟨fs, hr, hrun, hended, hW, hsame⟩ := X24.leave (v := some (.int 1)) (fun h => by rw [Bd.returns] at h; cases h)
  refine ⟨_, _, ?_, hrun, hended, _, _, rfl, ?_, ⟨_, rfl⟩, hW, hsame.mono (by decide) (by decide)⟩
  · exact retN X24 hx (t := .boolean) Bd.returns (by simp) (hb hby at_161) hr
  · show Q0 Z  h0 n0 _ T24.heap _
    rw [e24]
    exact ⟨rfl, N24⟩
set_option maxRecDepth 65536 in
theorem rm0 (l : Launch) (Z : State) (a0 : Array Value) (hw : ∀ d ∈ tables_1, d.before a0 Z = true) (ws : List Jvm.Cond) (p0 : Int32) (as_LESS : Addr) (as_LESS_EQUAL : Addr) (as_EQUAL : Addr) (as_NOT_EQUAL : Addr) (as_GREATER : Addr) (as_GREATER_EQUAL : Addr) (h0 : Heap) (n0 : Nat) (Z0 : n0 ≤ h0.size) (S_LESS : Sta Z h0 "com/example/ophion/ophion/runtime/CompareOp" "LESS" "Lcom/example/ophion/ophion/runtime/CompareOp;" (.ref as_LESS)) (E_LESS : Exa Z h0 as_LESS "com/example/ophion/ophion/runtime/CompareOp") (O_LESS : Fld Z h0 as_LESS "java/lang/Enum" "ordinal" "I" (.int 0)) (S_LESS_EQUAL : Sta Z h0 "com/example/ophion/ophion/runtime/CompareOp" "LESS_EQUAL" "Lcom/example/ophion/ophion/runtime/CompareOp;" (.ref as_LESS_EQUAL)) (E_LESS_EQUAL : Exa Z h0 as_LESS_EQUAL "com/example/ophion/ophion/runtime/CompareOp") (O_LESS_EQUAL : Fld Z h0 as_LESS_EQUAL "java/lang/Enum" "ordinal" "I" (.int 1)) (S_EQUAL : Sta Z h0 "com/example/ophion/ophion/runtime/CompareOp" "EQUAL" "Lcom/example/ophion/ophion/runtime/CompareOp;" (.ref as_EQUAL)) (E_EQUAL : Exa Z h0 as_EQUAL "com/example/ophion/ophion/runtime/CompareOp") (O_EQUAL : Fld Z h0 as_EQUAL "java/lang/Enum" "ordinal" "I" (.int 2)) (S_NOT_EQUAL : Sta Z h0 "com/example/ophion/ophion/runtime/CompareOp" "NOT_EQUAL" "Lcom/example/ophion/ophion/runtime/CompareOp;" (.ref as_NOT_EQUAL)) (E_NOT_EQUAL : Exa Z h0 as_NOT_EQUAL "com/example/ophion/ophion/runtime/CompareOp") (O_NOT_EQUAL : Fld Z h0 as_NOT_EQUAL "java/lang/Enum" "ordinal" "I" (.int 3)) (S_GREATER : Sta Z h0 "com/example/ophion/ophion/runtime/CompareOp" "GREATER" "Lcom/example/ophion/ophion/runtime/CompareOp;" (.ref as_GREATER)) (E_GREATER : Exa Z h0 as_GREATER "com/example/ophion/ophion/runtime/CompareOp") (O_GREATER : Fld Z h0 as_GREATER "java/lang/Enum" "ordinal" "I" (.int 4)) (S_GREATER_EQUAL : Sta Z h0 "com/example/ophion/ophion/runtime/CompareOp" "GREATER_EQUAL" "Lcom/example/ophion/ophion/runtime/CompareOp;" (.ref as_GREATER_EQUAL)) (E_GREATER_EQUAL : Exa Z h0 as_GREATER_EQUAL "com/example/ophion/ophion/runtime/CompareOp") (O_GREATER_EQUAL : Fld Z h0 as_GREATER_EQUAL "java/lang/Enum" "ordinal" "I" (.int 5))  :
    MetFree l x (head1 (Jvm.Cond.code x code maxLocals ret :: ws) room_1) (fun a U => a = #[(.int p0)] ∧ Z.Warmed39 U.vm ∧ U.heap = h0) (fun _ _ _ _ _ => True) (fun _ U o U' => ∃ v L, o = .returned v ∧ Q0 Z h0 n0 v U'.heap L ∧ FrameEnd U o U' L 0 0) := by
  rcases own_cases p0 with ⟨c1, c2, c3, c4⟩ | ⟨c1, c2, c3, c4⟩ | ⟨c1, c2, c3, c4⟩
  · exact rm0_1 l Z a0 hw ws p0 as_LESS as_LESS_EQUAL as_EQUAL as_NOT_EQUAL as_GREATER as_GREATER_EQUAL  h0 n0 Z0 S_LESS E_LESS O_LESS S_LESS_EQUAL E_LESS_EQUAL O_LESS_EQUAL S_EQUAL E_EQUAL O_EQUAL S_NOT_EQUAL E_NOT_EQUAL O_NOT_EQUAL S_GREATER E_GREATER O_GREATER S_GREATER_EQUAL E_GREATER_EQUAL O_GREATER_EQUAL c1 c2 c3 c4
  · exact rm0_2 l Z a0 hw ws p0 as_LESS as_LESS_EQUAL as_EQUAL as_NOT_EQUAL as_GREATER as_GREATER_EQUAL  h0 n0 Z0 S_LESS E_LESS O_LESS S_LESS_EQUAL E_LESS_EQUAL O_LESS_EQUAL S_EQUAL E_EQUAL O_EQUAL S_NOT_EQUAL E_NOT_EQUAL O_NOT_EQUAL S_GREATER E_GREATER O_GREATER S_GREATER_EQUAL E_GREATER_EQUAL O_GREATER_EQUAL c1 c2 c3 c4
  · exact rm0_3 l Z a0 hw ws p0 as_LESS as_LESS_EQUAL as_EQUAL as_NOT_EQUAL as_GREATER as_GREATER_EQUAL  h0 n0 Z0 S_LESS E_LESS O_LESS S_LESS_EQUAL E_LESS_EQUAL O_LESS_EQUAL S_EQUAL E_EQUAL O_EQUAL S_NOT_EQUAL E_NOT_EQUAL O_NOT_EQUAL S_GREATER E_GREATER O_GREATER S_GREATER_EQUAL E_GREATER_EQUAL O_GREATER_EQUAL c1 c2 c3 c4
set_option maxRecDepth 65536 in
set_option maxHeartbeats 40000000 in
theorem comes_1 {Post : Tables → Env → Array Value → State → Outcome → State → Prop} (hpost : ∀ tb e args s v u, (limb_1_1.after args s (.returned v) u = true ∧ limb_1_2.after args s (.returned v) u = true ∧ True) → FrameEnd s (.returned v) u (Jvm.fieldLocs frame_1_writes args s ++ Jvm.arrayLocs frame_1_arrays args s ++ Jvm.staticLocs frame_1_statics s) 0 0 → Post tb e args s (.returned v) u) :
    ArmFor flags0 classFile x code maxLocals ret World_1 tables_1 room_1 Calls_1 rest_1 Pre_1 Post := by
  intro l hfl _ _ p e ha hc hk s m args below hf hA hF happ hP
  obtain ⟨hcalls, hrest, hpre⟩ := hP
  obtain ⟨-, -, -, hnamed, -, -, -, hat⟩ := (Spec.applies_iff hf).mp happ
  obtain ⟨hg, hn⟩ := and_e (Cond.before_iff.mp (show (Jvm.Cond.and given_1 narrow_1).before args s = true from hpre))
  obtain ⟨gv0, gr0⟩ := and_e hg
  obtain ⟨w0, rfl⟩ : ∃ w0 : Value, args = #[w0] := by
    have hs : args.size = 1 := by simpa [Cond.value, given_1] using gv0
    obtain ⟨L⟩ := args
    match L, hs with
    | [w0], _ => exact ⟨w0, rfl⟩
  have hw := fun d (hd : d ∈ tables_1) => atoms_spec (ws := Jvm.Cond.code x code maxLocals ret :: tables_1) hat d (List.mem_cons_of_mem _ hd)
  have hfit : Fit s := fun {y c} hc i hi => by
    obtain ⟨ha, rfl⟩ := Array.getElem?_eq_some_iff.mp hc
    have q := List.all_eq_true.mp ((Array.all_eq_true_iff_forall_mem.mp hF) _ (Array.getElem_mem ha)) i (List.mem_range.mpr hi)
    simpa [Array.getElem?_eq_getElem hi] using q
  obtain ⟨i0, ei0⟩ := is_v gr0
  obtain rfl : w0 = (.int i0) := Option.some.inj ei0
  obtain ⟨nw0, nr0⟩ := and_e hn
  obtain ⟨nw1, nr1⟩ := and_e nr0
  obtain ⟨nw2, nr2⟩ := and_e nr1
  obtain ⟨nw3, nr3⟩ := and_e nr2
  obtain ⟨nw4, nr4⟩ := and_e nr3
  obtain ⟨nw5, nr5⟩ := and_e nr4
  obtain ⟨nw6, nr6⟩ := and_e nr5
  obtain ⟨nw7, nr7⟩ := and_e nr6
  obtain ⟨nw8, nr8⟩ := and_e nr7
  obtain ⟨nw9, nr9⟩ := and_e nr8
  obtain ⟨nw10, nr10⟩ := and_e nr9
  obtain ⟨as_LESS, ev_LESS⟩ := exa_v nw0
  have S_LESS := Sta.start ev_LESS (Or.inr ⟨(wd hw 1 rfl), (wd hw 2 rfl)⟩)
  have E_LESS := Exa.start ev_LESS nw0
  have O_LESS := own_fld ev_LESS nw1
  obtain ⟨as_LESS_EQUAL, ev_LESS_EQUAL⟩ := exa_v nw2
  have S_LESS_EQUAL := Sta.start ev_LESS_EQUAL (Or.inr ⟨(wd hw 1 rfl), (wd hw 18 rfl)⟩)
  have E_LESS_EQUAL := Exa.start ev_LESS_EQUAL nw2
  have O_LESS_EQUAL := own_fld ev_LESS_EQUAL nw3
  obtain ⟨as_EQUAL, ev_EQUAL⟩ := exa_v nw4
  have S_EQUAL := Sta.start ev_EQUAL (Or.inr ⟨(wd hw 1 rfl), (wd hw 20 rfl)⟩)
  have E_EQUAL := Exa.start ev_EQUAL nw4
  have O_EQUAL := own_fld ev_EQUAL nw5
  obtain ⟨as_NOT_EQUAL, ev_NOT_EQUAL⟩ := exa_v nw6
  have S_NOT_EQUAL := Sta.start ev_NOT_EQUAL (Or.inr ⟨(wd hw 1 rfl), (wd hw 22 rfl)⟩)
  have E_NOT_EQUAL := Exa.start ev_NOT_EQUAL nw6
  have O_NOT_EQUAL := own_fld ev_NOT_EQUAL nw7
  obtain ⟨as_GREATER, ev_GREATER⟩ := exa_v nw8
  have S_GREATER := Sta.start ev_GREATER (Or.inr ⟨(wd hw 1 rfl), (wd hw 24 rfl)⟩)
  have E_GREATER := Exa.start ev_GREATER nw8
  have O_GREATER := own_fld ev_GREATER nw9
  obtain ⟨as_GREATER_EQUAL, ev_GREATER_EQUAL⟩ := exa_v nw10
  have S_GREATER_EQUAL := Sta.start ev_GREATER_EQUAL (Or.inr ⟨(wd hw 1 rfl), (wd hw 26 rfl)⟩)
  have E_GREATER_EQUAL := Exa.start ev_GREATER_EQUAL nw10
  have O_GREATER_EQUAL := own_fld ev_GREATER_EQUAL nr10
  obtain ⟨n, o, h1, h2, h3, _, L, rfl, ⟨rfl, N⟩, hq⟩ := rm0 l s _ hw tables_1 i0 as_LESS as_LESS_EQUAL as_EQUAL as_NOT_EQUAL as_GREATER as_GREATER_EQUAL s.heap s.heap.size (Nat.le_refl _) S_LESS E_LESS O_LESS S_LESS_EQUAL E_LESS_EQUAL O_LESS_EQUAL S_EQUAL E_EQUAL O_EQUAL S_NOT_EQUAL E_NOT_EQUAL O_NOT_EQUAL S_GREATER E_GREATER O_GREATER S_GREATER_EQUAL E_GREATER_EQUAL O_GREATER_EQUAL p e ha hc hk s m _ below hf ((Spec.applies_iff_loose hf).mp happ).1 ⟨rfl, State.Warmed39.refl s, rfl⟩ trivial
  refine ⟨n, _, h1, h2, h3, hpost _ _ _ _ _ _ ⟨Cond.after_iff.mpr rfl, Cond.after_iff.mpr (eq_i res_at (Term.int_eval (1)) rfl), trivial⟩ ⟨hq.1, hq.2.1, (hq.2.2.sift fun y hy => Or.inr (N y hy)).mono (by decide) (by decide)⟩⟩
theorem main_1_1 : Claimed_1_1 := comes_1 fun _ _ _ _ _ _ h hF => ⟨h.1, hF⟩
theorem main_1_2 : Claimed_1_2 := comes_1 fun _ _ _ _ _ _ h hF => ⟨h.2.1, hF⟩
end Jvm.Pilot.@@N@@
namespace Jvm.Pilot.@@N@@
open Jvm Jvm.ClassFile Sem Op Lib Jvm.Free Jvm.Stand Jvm.Pilot.@@N@@.Jvm.D
/-! MADE BY PROGRAM (witnessworld.py) out of the Statement's table words and the real class files: 12 classes; the members and pool entries that the words name. The judged class is class 1, her method 1. -/
namespace start1
open Jvm.ClassFile
def u (s : String) : CpInfo := .utf8 (stringToUtf16 s)
/-- a pool by its gaps: so many unusable entries, then the entry; so many at the end -/
def gap : Nat → List CpInfo → List CpInfo
  | 0, r => r
  | n + 1, r => .unusable :: gap n r
def poolList (es : List (Nat × CpInfo)) (last : Nat) : List CpInfo := es.foldr (fun e r => gap e.1 (e.2 :: r)) (gap last [])
def pool (es : List (Nat × CpInfo)) (last : Nat) : Array CpInfo := ⟨poolList es last⟩
def fileOf (pool : Array CpInfo) (this : Nat) (attrs : Array Attribute := #[]) (ms : Array MethodInfo := #[]) (fl : Nat := 33) (sup : Nat := 0) (ifs : Array Nat := #[]) (fds : Array FieldInfo := #[]) : ClassFile where
  minorVersion := 0
  majorVersion := 65
  constantPool := pool
  accessFlags := fl
  thisClass := this
  superClass := sup
  interfaces := ifs
  fields := fds
  methods := ms
  attributes := attrs
def plain (name : String) (sup : Option ClassId) : Class where
  name := name
  kind := .ordinary
  loader := none
  accessFlags := 33
  super := sup
  interfaces := #[]
  cf := none
  fields := #[]
  methods := #[]
  instanceTypes := #[]
  staticTypes := #[]
  resolved := #[]
  callSites := []
  init := .initialized
  statics := none
  mirror := none

def pool0 : Array CpInfo := pool [(5, u "<init>"), (0, u "()V"), (1, .class_ 10), (1, u "java/lang/Object")] 113

def k0m0 : Method := { name := "<init>", desc := "()V", sig := { parameters := [], returnType := none }, accessFlags := 1, code := none }
/-- java/lang/Object -/
def k0 : Class := { plain "java/lang/Object" none with
  accessFlags := 33
  interfaces := #[]
  cf := some (fileOf pool0 8 #[] #[{ accessFlags := 1, nameIndex := 5, descriptorIndex := 6, attributes := #[] }] 33 0 #[] #[])
  fields := #[]
  methods := #[k0m0]
  instanceTypes := #[]
  staticTypes := #[]
  resolved := Array.replicate 124 none
  statics := none }

def pool1 : Array CpInfo := pool [(2, .class_ 4), (1, u "java/lang/Object"), (0, u "<init>"), (0, u "()V"), (0, .fieldref 8 9), (0, .class_ 10), (0, .nameAndType 11 12), (0, u "com/example/ophion/ophion/runtime/CompareOp"), (0, u "LESS"), (0, u "Lcom/example/ophion/ophion/runtime/CompareOp;"), (0, .methodref 8 14), (0, .nameAndType 15 16), (0, u "holds"), (0, u "(I)Z"), (0, .fieldref 8 18), (0, .nameAndType 19 12), (0, u "LESS_EQUAL"), (0, .fieldref 8 21), (0, .nameAndType 22 12), (0, u "EQUAL"), (0, .fieldref 8 24), (0, .nameAndType 25 12), (0, u "NOT_EQUAL"), (0, .fieldref 8 27), (0, .nameAndType 28 12), (0, u "GREATER"), (0, .fieldref 8 30), (0, .nameAndType 31 12), (0, u "GREATER_EQUAL"), (0, .class_ 33), (0, u "com/example/ophion/ophion/runtime/CompareOpHoldsPinLaw"), (2, u "law")] 3

def k1m0 : Method := { name := "<init>", desc := "()V", sig := { parameters := [], returnType := none }, accessFlags := 1, code := none }
def k1c1 : Code := { maxStack := 2, maxLocals := 10, code := code, exceptionTable := #[], attributes := #[] }
def k1m1 : Method := { name := "law", desc := "(I)Z", sig := { parameters := [.int], returnType := some .boolean }, accessFlags := 9, code := some k1c1 }
/-- com/example/ophion/ophion/runtime/CompareOpHoldsPinLaw -/
def k1 : Class := { plain "com/example/ophion/ophion/runtime/CompareOpHoldsPinLaw" (some 0) with
  accessFlags := 49
  interfaces := #[]
  cf := some (fileOf pool1 32 #[] #[{ accessFlags := 1, nameIndex := 5, descriptorIndex := 6, attributes := #[] }, { accessFlags := 9, nameIndex := 36, descriptorIndex := 16, attributes := #[] }] 49 2 #[] #[])
  fields := #[]
  methods := #[k1m0, k1m1]
  instanceTypes := #[]
  staticTypes := #[]
  resolved := Array.replicate 40 none
  statics := none }

def pool2 : Array CpInfo := pool [(1, .class_ 2), (0, u "java/lang/constant/Constable"), (0, .class_ 4), (0, u "java/lang/Object")] 6

/-- java/lang/constant/Constable -/
def k2 : Class := { plain "java/lang/constant/Constable" (some 0) with
  accessFlags := 1537
  interfaces := #[]
  cf := some (fileOf pool2 1 #[] #[] 1537 3 #[] #[])
  fields := #[]
  methods := #[]
  instanceTypes := #[]
  staticTypes := #[]
  resolved := Array.replicate 11 none
  statics := none }

def pool3 : Array CpInfo := pool [(1, .class_ 2), (0, u "java/lang/Comparable"), (0, .class_ 4), (0, u "java/lang/Object")] 7

/-- java/lang/Comparable -/
def k3 : Class := { plain "java/lang/Comparable" (some 0) with
  accessFlags := 1537
  interfaces := #[]
  cf := some (fileOf pool3 1 #[] #[] 1537 3 #[] #[])
  fields := #[]
  methods := #[]
  instanceTypes := #[]
  staticTypes := #[]
  resolved := Array.replicate 12 none
  statics := none }

def pool4 : Array CpInfo := pool [(1, .class_ 2), (0, u "java/io/Serializable"), (0, .class_ 4), (0, u "java/lang/Object")] 2

/-- java/io/Serializable -/
def k4 : Class := { plain "java/io/Serializable" (some 0) with
  accessFlags := 1537
  interfaces := #[]
  cf := some (fileOf pool4 1 #[] #[] 1537 3 #[] #[])
  fields := #[]
  methods := #[]
  instanceTypes := #[]
  staticTypes := #[]
  resolved := Array.replicate 7 none
  statics := none }

def pool5 : Array CpInfo := pool [(2, .class_ 4), (1, u "java/lang/Enum"), (0, u "name"), (0, u "Ljava/lang/String;"), (0, .fieldref 2 8), (0, .nameAndType 9 10), (0, u "ordinal"), (0, u "I"), (1, .class_ 14), (1, u "java/lang/Object"), (4, u "hash"), (86, .class_ 108), (1, u "java/lang/Enum$EnumDesc"), (2, .class_ 112), (0, u "java/lang/constant/Constable"), (0, .class_ 114), (0, u "java/lang/Comparable"), (0, .class_ 116), (0, u "java/io/Serializable"), (9, u "()I")] 77

def k5c0 : Code := { maxStack := 1, maxLocals := 1, code := jdk_37_method_2_code, exceptionTable := #[], attributes := #[] }
def k5m0 : Method := { name := "ordinal", desc := "()I", sig := { parameters := [], returnType := some .int }, accessFlags := 17, code := some k5c0 }
/-- java/lang/Enum -/
def k5 : Class := { plain "java/lang/Enum" (some 0) with
  accessFlags := 1057
  interfaces := #[2, 3, 4]
  cf := some (fileOf pool5 2 #[.nestMembers #[106]] #[{ accessFlags := 17, nameIndex := 9, descriptorIndex := 126, attributes := #[] }] 1057 12 #[111, 113, 115] #[{ accessFlags := 18, nameIndex := 5, descriptorIndex := 6, attributes := #[] }, { accessFlags := 18, nameIndex := 9, descriptorIndex := 10, attributes := #[] }, { accessFlags := 2, nameIndex := 19, descriptorIndex := 10, attributes := #[] }])
  fields := #[{ name := "name", type := (.object "java/lang/String"), accessFlags := 18, slot := 0, constantValue := 0 }, { name := "ordinal", type := .int, accessFlags := 18, slot := 1, constantValue := 0 }, { name := "hash", type := .int, accessFlags := 2, slot := 2, constantValue := 0 }]
  methods := #[k5m0]
  instanceTypes := #[(.object "java/lang/String"), .int, .int]
  staticTypes := #[]
  resolved := Array.replicate 204 none
  statics := none }

def pool6 : Array CpInfo := pool [(1, .class_ 2), (0, u "com/example/ophion/ophion/runtime/CompareOp"), (2, u "LESS"), (0, u "Lcom/example/ophion/ophion/runtime/CompareOp;"), (2, u "LESS_EQUAL"), (2, u "EQUAL"), (2, u "NOT_EQUAL"), (2, u "GREATER"), (2, u "GREATER_EQUAL"), (2, u "$VALUES"), (0, u "[Lcom/example/ophion/ophion/runtime/CompareOp;"), (6, .class_ 34), (1, u "java/lang/Enum"), (8, u "symbol"), (0, u "Ljava/lang/String;"), (2, u "method"), (0, .methodref 1 49), (0, .nameAndType 50 51), (0, u "ordinal"), (0, u "()I"), (65, u "holds"), (0, u "(I)Z")] 21

def k6c0 : Code := { maxStack := 1, maxLocals := 2, code := prog_5_method_7_code, exceptionTable := #[], attributes := #[] }
def k6m0 : Method := { name := "holds", desc := "(I)Z", sig := { parameters := [.int], returnType := some .boolean }, accessFlags := 1, code := some k6c0 }
/-- com/example/ophion/ophion/runtime/CompareOp -/
def k6 : Class := { plain "com/example/ophion/ophion/runtime/CompareOp" (some 5) with
  accessFlags := 16433
  interfaces := #[]
  cf := some (fileOf pool6 1 #[] #[{ accessFlags := 1, nameIndex := 117, descriptorIndex := 118, attributes := #[] }] 16433 32 #[] #[{ accessFlags := 16409, nameIndex := 5, descriptorIndex := 6, attributes := #[] }, { accessFlags := 16409, nameIndex := 9, descriptorIndex := 6, attributes := #[] }, { accessFlags := 16409, nameIndex := 12, descriptorIndex := 6, attributes := #[] }, { accessFlags := 16409, nameIndex := 15, descriptorIndex := 6, attributes := #[] }, { accessFlags := 16409, nameIndex := 18, descriptorIndex := 6, attributes := #[] }, { accessFlags := 16409, nameIndex := 21, descriptorIndex := 6, attributes := #[] }, { accessFlags := 18, nameIndex := 43, descriptorIndex := 44, attributes := #[] }, { accessFlags := 18, nameIndex := 47, descriptorIndex := 44, attributes := #[] }, { accessFlags := 4122, nameIndex := 24, descriptorIndex := 25, attributes := #[] }])
  fields := #[{ name := "LESS", type := (.object "com/example/ophion/ophion/runtime/CompareOp"), accessFlags := 16409, slot := 0, constantValue := 0 }, { name := "LESS_EQUAL", type := (.object "com/example/ophion/ophion/runtime/CompareOp"), accessFlags := 16409, slot := 1, constantValue := 0 }, { name := "EQUAL", type := (.object "com/example/ophion/ophion/runtime/CompareOp"), accessFlags := 16409, slot := 2, constantValue := 0 }, { name := "NOT_EQUAL", type := (.object "com/example/ophion/ophion/runtime/CompareOp"), accessFlags := 16409, slot := 3, constantValue := 0 }, { name := "GREATER", type := (.object "com/example/ophion/ophion/runtime/CompareOp"), accessFlags := 16409, slot := 4, constantValue := 0 }, { name := "GREATER_EQUAL", type := (.object "com/example/ophion/ophion/runtime/CompareOp"), accessFlags := 16409, slot := 5, constantValue := 0 }, { name := "symbol", type := (.object "java/lang/String"), accessFlags := 18, slot := 3, constantValue := 0 }, { name := "method", type := (.object "java/lang/String"), accessFlags := 18, slot := 4, constantValue := 0 }, { name := "$VALUES", type := (.array (.object "com/example/ophion/ophion/runtime/CompareOp")), accessFlags := 4122, slot := 6, constantValue := 0 }]
  methods := #[k6m0]
  instanceTypes := #[(.object "java/lang/String"), .int, .int, (.object "java/lang/String"), (.object "java/lang/String")]
  staticTypes := #[(.object "com/example/ophion/ophion/runtime/CompareOp"), (.object "com/example/ophion/ophion/runtime/CompareOp"), (.object "com/example/ophion/ophion/runtime/CompareOp"), (.object "com/example/ophion/ophion/runtime/CompareOp"), (.object "com/example/ophion/ophion/runtime/CompareOp"), (.object "com/example/ophion/ophion/runtime/CompareOp"), (.array (.object "com/example/ophion/ophion/runtime/CompareOp"))]
  resolved := Array.replicate 140 none
  statics := some 0 }

def pool7 : Array CpInfo := pool [(1, u "java/lang/Cloneable"), (0, .class_ 1), (0, u "java/lang/Object"), (0, .class_ 3)] 3

/-- java/lang/Cloneable -/
def k7 : Class := { plain "java/lang/Cloneable" (some 0) with
  accessFlags := 1537
  interfaces := #[]
  cf := some (fileOf pool7 2 #[] #[] 1537 4 #[] #[])
  fields := #[]
  methods := #[]
  instanceTypes := #[]
  staticTypes := #[]
  resolved := Array.replicate 8 none
  statics := none }

/-- the primitive byte -/
def k8 : Class := { plain "byte" none with kind := .primitive 'B', accessFlags := 0x411 }
/-- [B -/
def k9 : Class := { plain "[B" (some 0) with kind := .array 8 .byte, interfaces := #[7, 4], accessFlags := 1041 }

/-- the primitive int -/
def k10 : Class := { plain "int" none with kind := .primitive 'I', accessFlags := 0x411 }
/-- [I -/
def k11 : Class := { plain "[I" (some 0) with kind := .array 10 .int, interfaces := #[7, 4], accessFlags := 1041 }

def heap : Heap := #[{ cls := 6, slots := #[.ref 1, .ref 2, .ref 3, .ref 4, .ref 5, .ref 6, .null], vm := .statics 6 },
  { cls := 6, slots := #[.null, .int 0, .int 0, .null, .null], vm := .none },
  { cls := 6, slots := #[.null, .int 1, .int 0, .null, .null], vm := .none },
  { cls := 6, slots := #[.null, .int 2, .int 0, .null, .null], vm := .none },
  { cls := 6, slots := #[.null, .int 3, .int 0, .null, .null], vm := .none },
  { cls := 6, slots := #[.null, .int 4, .int 0, .null, .null], vm := .none },
  { cls := 6, slots := #[.null, .int 5, .int 0, .null, .null], vm := .none }]
def classes : Array Class := #[k0, k1, k2, k3, k4, k5, k6, k7, k8, k9, k10, k11]
def interned : List (Array UInt16 × Addr) := []
def slotsUsed : Nat := 37
def theMethod : MethodId := ⟨1, 1⟩
def args0 : Array Value := #[.int 5]
def aboutOver (below : List Frame) : State where
  vm := { classes := classes, interned := interned.toArray }
  heap := heap
  slotsUsed := slotsUsed
  threads := #[{ frames := .invoking theMethod args0 :: below }]
def below0 : List Frame := [.native { method := ⟨0, 0⟩, args := #[] }]
def about1 : State := aboutOver below0
def p0 : Program := .bare "" "" ""
def e0 : Env := launch0.env 0 0 0
theorem w_frames : about1.frames = Frame.invoking theMethod args0 :: below0 := rfl
set_option maxRecDepth 65536 in
theorem w_args : argsFit about1.vm theMethod args0 = true := by decide +kernel
set_option maxRecDepth 65536 in
theorem w_heap : heapFits about1 = true := by decide +kernel
set_option maxRecDepth 65536 in
theorem w_runnable : about1.curStatus? = some .runnable := by decide +kernel
set_option maxRecDepth 65536 in
theorem w_alone : about1.alone = true := by decide +kernel
set_option maxRecDepth 65536 in
theorem w_named : about1.methodNamed? x = some theMethod := by decide +kernel
set_option maxRecDepth 65536 in
theorem w_hears : about1.hears theMethod below0 = true := by decide +kernel
set_option maxRecDepth 65536 in
theorem w_ripe : about1.ripe theMethod args0 below0 = true := by decide +kernel
theorem w_running : about1.status = .running := rfl
set_option maxRecDepth 65536 in
theorem w_room : about1.hasRoom e0.platform room_1 = true :=
  launch0.hasRoom_least _ room_1 (by decide +kernel) (by decide +kernel) (by decide +kernel) (by decide +kernel) (by decide +kernel) (by decide +kernel)
theorem allAtoms_all (ts : List Jvm.Cond) (a : Array Jvm.Value) (st : Jvm.State) : (allAtoms ts).before a st = ts.all (fun c => c.before a st) := by
  induction ts with
  | nil => rfl
  | cons c t ih =>
    show (Jvm.Cond.and c (allAtoms t)).before a st = _
    rw [Jvm.Cond.before_and, ih, List.all_cons]
def words1 : List Jvm.Cond := Jvm.Cond.code x code maxLocals ret :: tables_1
/-- a 'code' word, met by the world's own term for the bytes: nothing is compared byte by byte -/
theorem code_word {y : MethodName} {bytes : ByteArray} {mx : Nat} {rt : Option FieldType} {a : Array Value} {s : State} {m : MethodId} {meth : Method} {c : Code} (h1 : s.methodNamed? y = some m) (h2 : s.vm.method? m = some meth) (h3 : meth.code = some c) (h4 : c.code = bytes)
    (h5 : (c.maxLocals == mx && c.exceptionTable.isEmpty && decide (c.maxStack ≤ mostOperands) && decide (meth.sig.returnType = rt) && !meth.locks && decide (parseMethodDescriptor y.desc = some meth.sig)) = true) : (Jvm.Cond.code y bytes mx rt).before a s = true := by
  simp only [Bool.and_eq_true, beq_iff_eq, Bool.not_eq_true', decide_eq_true_eq] at h5
  obtain ⟨⟨⟨⟨⟨g1, g2⟩, g3⟩, g4⟩, g5⟩, g6⟩ := h5
  simp [Cond.before, Cond.holds, Cond.value, h1, h2, h3, h4, g1, g2, g3, g4, g5, g6]
def isCode : Jvm.Cond → Bool
  | .code _ _ _ _ => true
  | _ => false
theorem all_split {L : List Jvm.Cond} {P : Jvm.Cond → Bool} (h1 : L.all (fun c => isCode c || P c) = true) (h2 : ∀ c ∈ L.filter isCode, P c = true) : L.all P = true := by
  refine List.all_eq_true.mpr fun c hc => ?_
  have h := List.all_eq_true.mp h1 c hc
  rcases Bool.eq_false_or_eq_true (isCode c) with hi | hi
  · exact h2 c (List.mem_filter.mpr ⟨hc, hi⟩)
  · simpa [hi] using h
set_option maxRecDepth 65536 in
theorem w_c0 : (Jvm.Cond.code x code maxLocals ret).before args0 about1 = true := code_word (m := ⟨1, 1⟩) (meth := k1m1) (c := k1c1) (by decide +kernel) rfl rfl rfl (by decide +kernel)
set_option maxRecDepth 65536 in
theorem w_c1 : (Jvm.Cond.code ({ cls := "com/example/ophion/ophion/runtime/CompareOp", name := "holds", desc := "(I)Z" } : Jvm.MethodName) prog_5_method_7_code (2 : Nat) (Option.some Jvm.ClassFile.FieldType.boolean)).before args0 about1 = true := code_word (m := ⟨6, 0⟩) (meth := k6m0) (c := k6c0) (by decide +kernel) rfl rfl rfl (by decide +kernel)
set_option maxRecDepth 65536 in
theorem w_c2 : (Jvm.Cond.code ({ cls := "java/lang/Enum", name := "ordinal", desc := "()I" } : Jvm.MethodName) jdk_37_method_2_code (1 : Nat) (Option.some Jvm.ClassFile.FieldType.int)).before args0 about1 = true := code_word (m := ⟨5, 0⟩) (meth := k5m0) (c := k5c0) (by decide +kernel) rfl rfl rfl (by decide +kernel)
def codes1 : List Jvm.Cond := [Jvm.Cond.code x code maxLocals ret, Jvm.Cond.code ({ cls := "com/example/ophion/ophion/runtime/CompareOp", name := "holds", desc := "(I)Z" } : Jvm.MethodName) prog_5_method_7_code (2 : Nat) (Option.some Jvm.ClassFile.FieldType.boolean), Jvm.Cond.code ({ cls := "java/lang/Enum", name := "ordinal", desc := "()I" } : Jvm.MethodName) jdk_37_method_2_code (1 : Nat) (Option.some Jvm.ClassFile.FieldType.int)]
set_option maxRecDepth 65536 in
theorem codes_eq : words1.filter isCode = codes1 := rfl
theorem w_codes : ∀ c ∈ words1.filter isCode, c.before args0 about1 = true := by
  rw [codes_eq]
  intro c hc
  simp only [codes1, List.mem_cons, List.not_mem_nil, or_false] at hc
  rcases hc with rfl | rfl | rfl
  · exact w_c0
  · exact w_c1
  · exact w_c2
set_option maxRecDepth 65536 in
theorem w_t1 : (words1.take 24).all (fun c => isCode c || c.before args0 about1) = true := by decide +kernel
set_option maxRecDepth 65536 in
theorem w_t2 : (words1.drop 24).all (fun c => isCode c || c.before args0 about1) = true := by decide +kernel
theorem w_tables : (allAtoms (Jvm.Cond.code x code maxLocals ret :: tables_1)).before args0 about1 = true := by
  rw [allAtoms_all]
  show words1.all (fun c => c.before args0 about1) = true
  refine all_split ?_ w_codes
  rw [← List.take_append_drop 24 words1, List.all_append, w_t1, w_t2]
  rfl
set_option maxRecDepth 65536 in
theorem w_case : (Jvm.Cond.and given_1 narrow_1).before args0 about1 = true := by decide +kernel
theorem w_applies : (headSpec (Jvm.Cond.code x code maxLocals ret :: tables_1) room_1).applies x e0.platform about1 = true :=
  (Spec.applies_iff w_frames).mpr ⟨w_running, w_runnable, w_alone, w_named, w_hears, w_ripe, w_room, w_tables⟩
theorem atStart : AtStart classFile x code maxLocals ret World_1 tables_1 room_1 Calls_1 rest_1 Pre_1 launch0 p0 e0 about1 theMethod args0 below0 :=
  ⟨lists_1, trivial, launch0.admits_env _ _ _, launch0.least_env, fairChoices_fair.cas, fairChoices_fair.clock, w_frames, w_args, w_heap, w_applies, trivial, trivial, w_case⟩
end start1
theorem witness_1 : WitnessClaimed_1 := ⟨start1.p0, start1.e0, start1.about1, start1.theMethod, start1.args0, start1.below0, start1.atStart⟩
end Jvm.Pilot.@@N@@
