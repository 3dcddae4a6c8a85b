import JvmDerived
import JvmDerived.Pilot.@@N@@Statement
import JvmDerived.Pilot.@@N@@Code
set_option linter.unusedVariables false
set_option linter.unusedSimpArgs false
@@BLOCK:NumsL.lean.txt@@
namespace Jvm.RoadKit
open Sem ClassFile Op Lib Jvm.Stand Jvm.Free Jvm.LawKit
section New
variable {p : Program} {l : Launch} {e : Env} {R : Room} {s : State} {m : MethodId} {args : Array Value} {below : List Frame} {meth : Method} {c : Code} {T : State} {locs : List Loc} {cells slots : Nat}
theorem retI (X : Stand p l e R s m args below meth c T locs cells slots) (hx : p.tables.exec = Jvm.exec) {pc : Nat} {Ls : Array Slot} {z : Int32} {rest : List Value} (hret : meth.sig.returnType = some .int) (hd : decode c.code pc = .ok (.ireturn, 1)) {fs : List Frame}
    (hl : ∀ (f : JFrame) (acts : List Action), f.method = m → f.locked = none → f.entered = [] → (doReturn e (T.setTop f) acts (some (.int z))).1 = T.setFrames fs) : Steps p.tables e below (T.setTop (mkF m pc Ls (.int z :: rest))) (T.setFrames fs) := by
  have hm' : T.vm.method? m = some meth := X.method'
  have hn : narrow .int (.int z) = .int z := rfl
  show Steps p.tables e below (T.setTop { method := m, pc := pc, locals := Ls, stack := _ :: rest, locked := none }) _
  jvm_step X.here [X.here.top, hx, hd, hm', hret, hn]
  first | (intro acts; rw [hl _ acts rfl rfl rfl]) | rw [hl _ _ rfl rfl rfl]
  exact Steps.refl _
end New
end Jvm.RoadKit
namespace Jvm.Pilot.@@N@@
open Jvm Jvm.ClassFile Sem Op Lib Jvm.Free Jvm.Stand Jvm.LawKit Jvm.RoadKit Bundle Jvm.Pilot.@@N@@.Jvm.D
theorem wd {Z : State} {a0 : Array Value} (hw : ∀ d ∈ tables_1, d.before a0 Z = true) (i : Nat) {d : Jvm.Cond} (h : tables_1[i]? = some d) : d.before a0 Z = true := hw _ (List.mem_of_getElem? h)
abbrev jv (x : Int64) : Slot := .val (.long x)
/-- from A the run comes to an end that R speaks of -/
abbrev own_Go (tb : Tables) (e : Env) (below : List Frame) (A : State) (R : State → Outcome → Prop) : Prop := ∃ s₂ o, Steps tb e below A s₂ ∧ R s₂ o
theorem own_go {tb : Tables} {e : Env} {below : List Frame} {A : State} {R : State → Outcome → Prop} (h : own_Go tb e below A R) : ∃ s₂ o, Steps tb e below A s₂ ∧ R s₂ o := h
theorem own_lift {tb : Tables} {e : Env} {below : List Frame} {A B : State} {R : State → Outcome → Prop} (h : ∀ t, Steps tb e below A t → Steps tb e below B t) (k : own_Go tb e below A R) : own_Go tb e below B R := by
  obtain ⟨t, o, k1, k2⟩ := k
  exact ⟨t, o, h t k1, k2⟩
theorem own_plain {Z : State} {h : Heap} {a : Addr} {C : String} (F : Exa Z h a C) : ∃ c : Cell, h[a]? = some c ∧ c.vm.isStatics = false := by
  obtain ⟨c, _, h1, -, -, h4, -⟩ := F
  exact ⟨c, h1, h4⟩
theorem own_Arr_keep {Z : State} {h h' : Heap} {a : Addr} {c : Cell} {ty : FieldType} {ws : List Addr} (F : Arr Z h a c ty) (K : Keep h h' ws) (q : a ∉ ws) : Arr Z h' a c ty := ⟨K.2.1 a c F.1 q, F.2⟩
theorem own_asymm {a b : Int32} (h : a < b) : ¬ b < a := Int32.not_lt.mpr (Int32.le_of_lt h)
theorem own_Sta_keep {Z : State} {h h' : Heap} {C n d : String} {v : Value} {ws : List Addr} (F : Sta Z h C n d v) (K : Keep h h' ws) (q : ∀ x ∈ ws, ∃ c : Cell, h[x]? = some c ∧ c.vm.isStatics = false) : Sta Z h' C n d v := by
  obtain ⟨cf, i, k, f, st, cell, h1, h2, h3, h4, h5, h6, h7⟩ := F
  refine ⟨cf, i, k, f, st, cell, h1, h2, h3, h4, K.2.1 st cell h5 fun z => ?_, h6, h7⟩
  obtain ⟨c, g1, g2⟩ := q st z
  cases h5.symm.trans g1
  rw [h6] at g2
  cases g2
theorem own_fld {args : Array Value} {s : State} {t : Term} {a : Addr} {C n d : String} {k : Int32} (ev : t.eval args s none [] s = some (.ref a)) (h : (Cond.eq (.field t C n d) (.int k)).value args s none s [] = some true) : Fld s s.heap a C n d (.int k) := by
  obtain ⟨x, y, hx, hy, -, hk⟩ := cmp_v (Or.inl h)
  obtain rfl : y = .int k := (Option.some.inj ((Term.int_eval k).symm.trans hy)).symm
  obtain ⟨z, rfl⟩ := hk
  have q : z = k := gotT (Cond.eq_ints hx hy) h
  subst q
  rw [fld_at ev] at hx
  exact Fld.start hx
theorem own_mul3 (a b c : Int64) : (a * b) * c = (a * c) * b := by
  rw [Int64.mul_assoc, Int64.mul_comm b c, ← Int64.mul_assoc]
theorem own_cases (p0 : Int32) : (((p0.toUInt32 >>> ((1 : Int32) &&& 31).toUInt32).toInt32) &&& (3 : Int32)) = (0 : Int32) ∨ (((p0.toUInt32 >>> ((1 : Int32) &&& 31).toUInt32).toInt32) &&& (3 : Int32)) = (1 : Int32) ∨ (((p0.toUInt32 >>> ((1 : Int32) &&& 31).toUInt32).toInt32) &&& (3 : Int32)) = (2 : Int32) ∨ (((p0.toUInt32 >>> ((1 : Int32) &&& 31).toUInt32).toInt32) &&& (3 : Int32)) = (3 : Int32) := by
  have m : (((p0.toUInt32 >>> ((1 : Int32) &&& 31).toUInt32).toInt32) &&& (3 : Int32)).toInt = ((p0.toUInt32 >>> ((1 : Int32) &&& 31).toUInt32).toInt32).toInt % 2 ^ 2 := Jvm.Kit.i32_mask _ 3 (k := 2) (by decide) (by decide)
  simp only [← Int32.toInt_inj]
  have e0 : (0 : Int32).toInt = 0 := rfl
  have e1 : (1 : Int32).toInt = 1 := rfl
  have e2 : (2 : Int32).toInt = 2 := rfl
  have e3 : (3 : Int32).toInt = 3 := rfl
  omega
theorem pn_0 : plainName "com/example/halyard/halyard/east/ArrayStorage" = true := by first | (simp [plainName, overriddenIn]; done) | decide +kernel
theorem d1_0 : decode prog_65_method_4_code 0 = .ok (.aload_n 1, 1) := by decide +kernel
theorem d1_1 : decode prog_65_method_4_code 1 = .ok (.arraylength, 1) := by decide +kernel
theorem d1_2 : decode prog_65_method_4_code 2 = .ok (.newarray .long, 2) := by decide +kernel
theorem d1_4 : decode prog_65_method_4_code 4 = .ok (.astore 4, 2) := by decide +kernel
theorem d1_6 : decode prog_65_method_4_code 6 = .ok (.lload_n 2, 1) := by decide +kernel
theorem d1_7 : decode prog_65_method_4_code 7 = .ok (.lstore 5, 2) := by decide +kernel
theorem d1_9 : decode prog_65_method_4_code 9 = .ok (.iconst 0, 1) := by decide +kernel
theorem d1_10 : decode prog_65_method_4_code 10 = .ok (.istore 7, 2) := by decide +kernel
theorem d1_12 : decode prog_65_method_4_code 12 = .ok (.iload 7, 2) := by decide +kernel
theorem d1_14 : decode prog_65_method_4_code 14 = .ok (.aload_n 1, 1) := by decide +kernel
theorem d1_15 : decode prog_65_method_4_code 15 = .ok (.arraylength, 1) := by decide +kernel
theorem d1_16 : decode prog_65_method_4_code 16 = .ok (.if_icmp .ge 46, 3) := by decide +kernel
theorem d1_62 : decode prog_65_method_4_code 62 = .ok (.aload 4, 2) := by decide +kernel
theorem d1_64 : decode prog_65_method_4_code 64 = .ok (.areturn, 1) := by decide +kernel
def Q_rmStr0F (Z : State) (a1 : Addr) (ar : Addr) (q1 : Int64) (kc : ClassId) (h0 : Heap) (n0 : Nat) (v : Option Value) (h : Heap) (L : List Loc) : Prop := ∃ b : Addr, ∃ kb : ClassId, v = some (.ref b) ∧ Fr n0 L ∧ Keep h0 h [] ∧ h0.size ≤ b ∧ Arv Z h b kb .long (0 : Int32) [] (.long (0 : Int64))
theorem ef_rmStr0F (m : MethodId) (x0 : Addr) (x1 : Addr) (x2 : Int64) : entryFrame m #[(.ref x0), (.ref x1), (.long x2)] 9 = mkF m 0 #[.val (.ref x0), .val (.ref x1), .val (.long x2), .second, .unset, .unset, .unset, .unset, .unset] [] := by first | (simp [entryFrame, mkF, argsToLocals, Value.category]; done) | rfl
set_option maxRecDepth 65536 in
set_option maxHeartbeats 40000000 in
theorem rmStr0F (l : Launch) (Z : State) (a0 : Array Value) (hw : ∀ d ∈ tables_1, d.before a0 Z = true) (ws : List Jvm.Cond) (a1 : Addr) (ar : Addr) (q1 : Int64) (kc : ClassId) (h0 : Heap) (n0 : Nat) (Z0 : n0 ≤ h0.size) (V1 : Arv Z h0 ar kc .long (0 : Int32) [] (.long (0 : Int64))) (S1 : Sta Z h0 "com/example/halyard/halyard/east/ArrayStorage" "FIRST_INDEX_FIRST" "Lcom/example/halyard/halyard/east/ArrayStorage;" (.ref a1))  :
    MetFree l (⟨"com/example/halyard/halyard/east/ArrayStorage", "strides", "([JJ)[J"⟩ : MethodName) (head1 (Jvm.Cond.code (⟨"com/example/halyard/halyard/east/ArrayStorage", "strides", "([JJ)[J"⟩ : MethodName) prog_65_method_4_code 9 (some (.array .long)) :: ws) ({ frames := 0, cells := 1, slots := 0, locals := 0 } : Room)) (fun a U => a = #[(.ref a1), (.ref ar), (.long q1)] ∧ Z.Warmed39 U.vm ∧ U.heap = h0) (fun _ _ _ _ _ => True) (fun _ U o U' => ∃ v L, o = .returned v ∧ Q_rmStr0F Z a1 ar q1 kc h0 n0 v U'.heap L ∧ FrameEnd U o U' L ({ frames := 0, cells := 1, slots := 0, locals := 0 } : Room).cells ({ frames := 0, cells := 1, slots := 0, locals := 0 } : Room).slots) := by
  refine MetFree.of_bodySF (plainFor_of_name pn_0) hisR ?_
  intro p e s m args below meth c s₁ Bd hml0 hP hK
  obtain ⟨rfl, hZ, hh⟩ := hP
  have hx := Bd.exec
  have hby := Bd.bytes
  have hml : c.maxLocals = 9 := hml0
  have hown : s.vm.findClass "com/example/halyard/halyard/east/ArrayStorage" = some m.cls := findClass_of_methodNamed Bd.named
  have hnm := (name_of_methodNamed Bd.named Bd.method).1
  have X0 : Stand p l e ({ frames := 0, cells := 1, slots := 0, locals := 0 } : Room) s m #[(.ref a1), (.ref ar), (.long q1)] below meth c s₁ [] 0 0 := Stand.of_body Bd
  have e0 : s₁.heap = h0 := by rw [← hh, Bd.state]; rfl
  have N0 := Fr.nil n0
  refine own_go (own_lift (fun t k => castTop (ef_rmStr0F m a1 ar q1) k) ?_)
  show own_Go p.tables e below (s₁.setTop (mkF m 0 #[rv a1, rv ar, jv q1, .second, .unset, .unset, .unset, .unset, .unset] [])) _
  have sg1 : ∀ t, Steps p.tables e below (s₁.setTop (mkF m 1 #[rv a1, rv ar, jv q1, .second, .unset, .unset, .unset, .unset, .unset] [(.ref ar)])) t → Steps p.tables e below (s₁.setTop (mkF m 0 #[rv a1, rv ar, jv q1, .second, .unset, .unset, .unset, .unset, .unset] [])) t := by
    intro t k
    refine XS.aloadN X0.here hx rfl (hb hby d1_0) rfl rfl ?_
    show Steps p.tables e below (s₁.setTop (mkF m 1 #[rv a1, rv ar, jv q1, .second, .unset, .unset, .unset, .unset, .unset] [(.ref ar)])) _
    exact k
  refine own_lift sg1 ?_
  show own_Go p.tables e below (s₁.setTop (mkF m 1 #[rv a1, rv ar, jv q1, .second, .unset, .unset, .unset, .unset, .unset] [(.ref ar)])) _
  obtain ⟨cl2, Ar2, -, Sx2, N2', -, -⟩ := id (V1)
  have st2 : ∀ t, Steps p.tables e below (s₁.setTop (mkF m 2 #[rv a1, rv ar, jv q1, .second, .unset, .unset, .unset, .unset, .unset] [(.int 0)])) t → Steps p.tables e below (s₁.setTop (mkF m 1 #[rv a1, rv ar, jv q1, .second, .unset, .unset, .unset, .unset, .unset] [(.ref ar)])) t := by
    intro t k
    refine X0.arraylength hx (by rw [e0]; exact Ar2.1) (State.isArrayOf_alike hZ.alike Ar2.2.1) (g := (mkF m 1 #[rv a1, rv ar, jv q1, .second, .unset, .unset, .unset, .unset, .unset] [(.ref ar)])) rfl rfl (hb hby d1_1) _ ?_
    rw [len_of Sx2 N2']
    exact k
  refine own_lift st2 ?_
  show own_Go p.tables e below (s₁.setTop (mkF m 2 #[rv a1, rv ar, jv q1, .second, .unset, .unset, .unset, .unset, .unset] [(.int 0)])) _
  obtain ⟨T3, h3, ka3, X3, e3, Ex3, Ax3, st3⟩ := newP X0 hx hZ (wd hw 2 rfl) e0 (g := (mkF m 2 #[rv a1, rv ar, jv q1, .second, .unset, .unset, .unset, .unset, .unset] [(.int 0)])) rfl (hb hby d1_2) rfl (by decide) (cap := 0) (by decide) (by decide) (by decide) (by decide)
  obtain ⟨ob3, g3⟩ : ∃ z, z = h0.size := ⟨_, rfl⟩
  rw [← g3] at Ax3 st3
  have ne4 : ar ≠ ob3 := Nat.ne_of_lt (Nat.lt_of_lt_of_le V1.lt (Nat.le_of_eq g3.symm))
  have Z3 : n0 ≤ h3.size := Nat.le_trans Z0 Ex3.1
  have ge3 : n0 ≤ ob3 := Nat.le_trans Z0 (Nat.le_of_eq g3.symm)
  have gh3 : h0.size ≤ ob3 := Nat.le_trans (Keep.refl h0 []).1 (Nat.le_of_eq g3.symm)
  have K3 : Keep h0 h3 [] := (Keep.refl h0 []).ext Ex3
  have Vn3 : Arv Z h3 ob3 ka3 .long (0 : Int32) [] (.long 0) := (Arv.new Ax3 (by decide)).pad (pad_rep [] (.long 0) 0)
  refine own_lift st3 ?_
  show own_Go p.tables e below (T3.setTop (mkF m 4 #[rv a1, rv ar, jv q1, .second, .unset, .unset, .unset, .unset, .unset] [(.ref ob3)])) _
  have sg5 : ∀ t, Steps p.tables e below (T3.setTop (mkF m 15 #[rv a1, rv ar, jv q1, .second, rv ob3, jv q1, .second, iv 0, .unset] [(.ref ar), (.int 0)])) t → Steps p.tables e below (T3.setTop (mkF m 4 #[rv a1, rv ar, jv q1, .second, .unset, .unset, .unset, .unset, .unset] [(.ref ob3)])) t := by
    intro t k
    refine XS.astore X3.here hx rfl (hb hby d1_4) rfl rfl (l' := #[rv a1, rv ar, jv q1, .second, rv ob3, .unset, .unset, .unset, .unset]) rfl ?_
    show Steps p.tables e below (T3.setTop (mkF m 6 #[rv a1, rv ar, jv q1, .second, rv ob3, .unset, .unset, .unset, .unset] [])) _
    refine XS.lloadN X3.here hx rfl (hb hby d1_6) rfl ?_
    refine XS.lstore X3.here hx rfl (hb hby d1_7) rfl (l' := #[rv a1, rv ar, jv q1, .second, rv ob3, jv q1, .second, .unset, .unset]) rfl ?_
    show Steps p.tables e below (T3.setTop (mkF m 9 #[rv a1, rv ar, jv q1, .second, rv ob3, jv q1, .second, .unset, .unset] [])) _
    refine XS.iconst X3.here hx rfl (hb hby d1_9) ?_
    refine XS.istore X3.here hx rfl (hb hby d1_10) rfl (l' := #[rv a1, rv ar, jv q1, .second, rv ob3, jv q1, .second, iv 0, .unset]) rfl ?_
    show Steps p.tables e below (T3.setTop (mkF m 12 #[rv a1, rv ar, jv q1, .second, rv ob3, jv q1, .second, iv 0, .unset] [])) _
    refine XS.iload X3.here hx rfl (hb hby d1_12) rfl ?_
    refine XS.aloadN X3.here hx rfl (hb hby d1_14) rfl rfl ?_
    show Steps p.tables e below (T3.setTop (mkF m 15 #[rv a1, rv ar, jv q1, .second, rv ob3, jv q1, .second, iv 0, .unset] [(.ref ar), (.int 0)])) _
    exact k
  refine own_lift sg5 ?_
  show own_Go p.tables e below (T3.setTop (mkF m 15 #[rv a1, rv ar, jv q1, .second, rv ob3, jv q1, .second, iv 0, .unset] [(.ref ar), (.int 0)])) _
  have Fc6 : Arv Z h3 ar kc .long (0 : Int32) [] (.long (0 : Int64)) := (V1.ext Ex3)
  obtain ⟨cl7, Ar7, -, Sx7, N7', -, -⟩ := id (Fc6)
  have st7 : ∀ t, Steps p.tables e below (T3.setTop (mkF m 16 #[rv a1, rv ar, jv q1, .second, rv ob3, jv q1, .second, iv 0, .unset] [(.int 0), (.int 0)])) t → Steps p.tables e below (T3.setTop (mkF m 15 #[rv a1, rv ar, jv q1, .second, rv ob3, jv q1, .second, iv 0, .unset] [(.ref ar), (.int 0)])) t := by
    intro t k
    refine X3.arraylength hx (by rw [e3]; exact Ar7.1) (State.isArrayOf_alike hZ.alike Ar7.2.1) (g := (mkF m 15 #[rv a1, rv ar, jv q1, .second, rv ob3, jv q1, .second, iv 0, .unset] [(.ref ar), (.int 0)])) rfl rfl (hb hby d1_15) _ ?_
    rw [len_of Sx7 N7']
    exact k
  refine own_lift st7 ?_
  show own_Go p.tables e below (T3.setTop (mkF m 16 #[rv a1, rv ar, jv q1, .second, rv ob3, jv q1, .second, iv 0, .unset] [(.int 0), (.int 0)])) _
  have sg8 : ∀ t, Steps p.tables e below (T3.setTop (mkF m 64 #[rv a1, rv ar, jv q1, .second, rv ob3, jv q1, .second, iv 0, .unset] [(.ref ob3)])) t → Steps p.tables e below (T3.setTop (mkF m 16 #[rv a1, rv ar, jv q1, .second, rv ob3, jv q1, .second, iv 0, .unset] [(.int 0), (.int 0)])) t := by
    intro t k
    refine XS.icmpYes X3.here hx rfl (pc0 := 16) (pc' := 62) rfl (hb hby d1_16) rfl (flt (by decide : ¬ ((0 : Int32) < (0 : Int32)))).2.1 (by decide) (by decide) ?_
    show Steps p.tables e below (T3.setTop (mkF m 62 #[rv a1, rv ar, jv q1, .second, rv ob3, jv q1, .second, iv 0, .unset] [])) _
    refine XS.aload X3.here hx rfl (hb hby d1_62) rfl rfl ?_
    show Steps p.tables e below (T3.setTop (mkF m 64 #[rv a1, rv ar, jv q1, .second, rv ob3, jv q1, .second, iv 0, .unset] [(.ref ob3)])) _
    exact k
  refine own_lift sg8 ?_
  show own_Go p.tables e below (T3.setTop (mkF m 64 #[rv a1, rv ar, jv q1, .second, rv ob3, jv q1, .second, iv 0, .unset] [(.ref ob3)])) _
  obtain ⟨fs, hr, hrun, hended, hW, hsame⟩ := X3.leave (v := some (.ref ob3)) (fun h => by rw [Bd.returns] at h; cases h)
  refine ⟨_, _, ?_, hrun, hended, _, _, rfl, ?_, ⟨_, rfl⟩, hW, hsame.mono (by decide) (by decide)⟩
  · exact retOut X3 hx Bd.returns rfl (Or.inr (Or.inr (Or.inr (Or.inr ⟨rfl, rfl, rfl⟩)))) (hb hby d1_64) hr
  · show Q_rmStr0F Z a1 ar q1 kc h0 n0 _ T3.heap _
    rw [e3]
    exact ⟨ob3, ka3, rfl, N0, K3, gh3, Vn3⟩
def Q_rmStr0L (Z : State) (a1 : Addr) (ar : Addr) (q1 : Int64) (fa : Addr) (kc : ClassId) (h0 : Heap) (n0 : Nat) (v : Option Value) (h : Heap) (L : List Loc) : Prop := ∃ b : Addr, ∃ kb : ClassId, v = some (.ref b) ∧ Fr n0 L ∧ Keep h0 h [] ∧ h0.size ≤ b ∧ Arv Z h b kb .long (0 : Int32) [] (.long (0 : Int64))
theorem ef_rmStr0L (m : MethodId) (x0 : Addr) (x1 : Addr) (x2 : Int64) : entryFrame m #[(.ref x0), (.ref x1), (.long x2)] 9 = mkF m 0 #[.val (.ref x0), .val (.ref x1), .val (.long x2), .second, .unset, .unset, .unset, .unset, .unset] [] := by first | (simp [entryFrame, mkF, argsToLocals, Value.category]; done) | rfl
set_option maxRecDepth 65536 in
set_option maxHeartbeats 40000000 in
theorem rmStr0L (l : Launch) (Z : State) (a0 : Array Value) (hw : ∀ d ∈ tables_1, d.before a0 Z = true) (ws : List Jvm.Cond) (a1 : Addr) (ar : Addr) (q1 : Int64) (fa : Addr) (kc : ClassId) (h0 : Heap) (n0 : Nat) (Z0 : n0 ≤ h0.size) (V1 : Arv Z h0 ar kc .long (0 : Int32) [] (.long (0 : Int64))) (S1 : Sta Z h0 "com/example/halyard/halyard/east/ArrayStorage" "FIRST_INDEX_FIRST" "Lcom/example/halyard/halyard/east/ArrayStorage;" (.ref fa)) (c_ne : ¬ (a1 = fa)) :
    MetFree l (⟨"com/example/halyard/halyard/east/ArrayStorage", "strides", "([JJ)[J"⟩ : MethodName) (head1 (Jvm.Cond.code (⟨"com/example/halyard/halyard/east/ArrayStorage", "strides", "([JJ)[J"⟩ : MethodName) prog_65_method_4_code 9 (some (.array .long)) :: ws) ({ frames := 0, cells := 1, slots := 0, locals := 0 } : Room)) (fun a U => a = #[(.ref a1), (.ref ar), (.long q1)] ∧ Z.Warmed39 U.vm ∧ U.heap = h0) (fun _ _ _ _ _ => True) (fun _ U o U' => ∃ v L, o = .returned v ∧ Q_rmStr0L Z a1 ar q1 fa kc h0 n0 v U'.heap L ∧ FrameEnd U o U' L ({ frames := 0, cells := 1, slots := 0, locals := 0 } : Room).cells ({ frames := 0, cells := 1, slots := 0, locals := 0 } : Room).slots) := by
  refine MetFree.of_bodySF (plainFor_of_name pn_0) hisR ?_
  intro p e s m args below meth c s₁ Bd hml0 hP hK
  obtain ⟨rfl, hZ, hh⟩ := hP
  have hx := Bd.exec
  have hby := Bd.bytes
  have hml : c.maxLocals = 9 := hml0
  have hown : s.vm.findClass "com/example/halyard/halyard/east/ArrayStorage" = some m.cls := findClass_of_methodNamed Bd.named
  have hnm := (name_of_methodNamed Bd.named Bd.method).1
  have X0 : Stand p l e ({ frames := 0, cells := 1, slots := 0, locals := 0 } : Room) s m #[(.ref a1), (.ref ar), (.long q1)] below meth c s₁ [] 0 0 := Stand.of_body Bd
  have e0 : s₁.heap = h0 := by rw [← hh, Bd.state]; rfl
  have N0 := Fr.nil n0
  refine own_go (own_lift (fun t k => castTop (ef_rmStr0L m a1 ar q1) k) ?_)
  show own_Go p.tables e below (s₁.setTop (mkF m 0 #[rv a1, rv ar, jv q1, .second, .unset, .unset, .unset, .unset, .unset] [])) _
  have sg1 : ∀ t, Steps p.tables e below (s₁.setTop (mkF m 1 #[rv a1, rv ar, jv q1, .second, .unset, .unset, .unset, .unset, .unset] [(.ref ar)])) t → Steps p.tables e below (s₁.setTop (mkF m 0 #[rv a1, rv ar, jv q1, .second, .unset, .unset, .unset, .unset, .unset] [])) t := by
    intro t k
    refine XS.aloadN X0.here hx rfl (hb hby d1_0) rfl rfl ?_
    show Steps p.tables e below (s₁.setTop (mkF m 1 #[rv a1, rv ar, jv q1, .second, .unset, .unset, .unset, .unset, .unset] [(.ref ar)])) _
    exact k
  refine own_lift sg1 ?_
  show own_Go p.tables e below (s₁.setTop (mkF m 1 #[rv a1, rv ar, jv q1, .second, .unset, .unset, .unset, .unset, .unset] [(.ref ar)])) _
  obtain ⟨cl2, Ar2, -, Sx2, N2', -, -⟩ := id (V1)
  have st2 : ∀ t, Steps p.tables e below (s₁.setTop (mkF m 2 #[rv a1, rv ar, jv q1, .second, .unset, .unset, .unset, .unset, .unset] [(.int 0)])) t → Steps p.tables e below (s₁.setTop (mkF m 1 #[rv a1, rv ar, jv q1, .second, .unset, .unset, .unset, .unset, .unset] [(.ref ar)])) t := by
    intro t k
    refine X0.arraylength hx (by rw [e0]; exact Ar2.1) (State.isArrayOf_alike hZ.alike Ar2.2.1) (g := (mkF m 1 #[rv a1, rv ar, jv q1, .second, .unset, .unset, .unset, .unset, .unset] [(.ref ar)])) rfl rfl (hb hby d1_1) _ ?_
    rw [len_of Sx2 N2']
    exact k
  refine own_lift st2 ?_
  show own_Go p.tables e below (s₁.setTop (mkF m 2 #[rv a1, rv ar, jv q1, .second, .unset, .unset, .unset, .unset, .unset] [(.int 0)])) _
  obtain ⟨T3, h3, ka3, X3, e3, Ex3, Ax3, st3⟩ := newP X0 hx hZ (wd hw 2 rfl) e0 (g := (mkF m 2 #[rv a1, rv ar, jv q1, .second, .unset, .unset, .unset, .unset, .unset] [(.int 0)])) rfl (hb hby d1_2) rfl (by decide) (cap := 0) (by decide) (by decide) (by decide) (by decide)
  obtain ⟨ob3, g3⟩ : ∃ z, z = h0.size := ⟨_, rfl⟩
  rw [← g3] at Ax3 st3
  have ne4 : ar ≠ ob3 := Nat.ne_of_lt (Nat.lt_of_lt_of_le V1.lt (Nat.le_of_eq g3.symm))
  have Z3 : n0 ≤ h3.size := Nat.le_trans Z0 Ex3.1
  have ge3 : n0 ≤ ob3 := Nat.le_trans Z0 (Nat.le_of_eq g3.symm)
  have gh3 : h0.size ≤ ob3 := Nat.le_trans (Keep.refl h0 []).1 (Nat.le_of_eq g3.symm)
  have K3 : Keep h0 h3 [] := (Keep.refl h0 []).ext Ex3
  have Vn3 : Arv Z h3 ob3 ka3 .long (0 : Int32) [] (.long 0) := (Arv.new Ax3 (by decide)).pad (pad_rep [] (.long 0) 0)
  refine own_lift st3 ?_
  show own_Go p.tables e below (T3.setTop (mkF m 4 #[rv a1, rv ar, jv q1, .second, .unset, .unset, .unset, .unset, .unset] [(.ref ob3)])) _
  have sg5 : ∀ t, Steps p.tables e below (T3.setTop (mkF m 15 #[rv a1, rv ar, jv q1, .second, rv ob3, jv q1, .second, iv 0, .unset] [(.ref ar), (.int 0)])) t → Steps p.tables e below (T3.setTop (mkF m 4 #[rv a1, rv ar, jv q1, .second, .unset, .unset, .unset, .unset, .unset] [(.ref ob3)])) t := by
    intro t k
    refine XS.astore X3.here hx rfl (hb hby d1_4) rfl rfl (l' := #[rv a1, rv ar, jv q1, .second, rv ob3, .unset, .unset, .unset, .unset]) rfl ?_
    show Steps p.tables e below (T3.setTop (mkF m 6 #[rv a1, rv ar, jv q1, .second, rv ob3, .unset, .unset, .unset, .unset] [])) _
    refine XS.lloadN X3.here hx rfl (hb hby d1_6) rfl ?_
    refine XS.lstore X3.here hx rfl (hb hby d1_7) rfl (l' := #[rv a1, rv ar, jv q1, .second, rv ob3, jv q1, .second, .unset, .unset]) rfl ?_
    show Steps p.tables e below (T3.setTop (mkF m 9 #[rv a1, rv ar, jv q1, .second, rv ob3, jv q1, .second, .unset, .unset] [])) _
    refine XS.iconst X3.here hx rfl (hb hby d1_9) ?_
    refine XS.istore X3.here hx rfl (hb hby d1_10) rfl (l' := #[rv a1, rv ar, jv q1, .second, rv ob3, jv q1, .second, iv 0, .unset]) rfl ?_
    show Steps p.tables e below (T3.setTop (mkF m 12 #[rv a1, rv ar, jv q1, .second, rv ob3, jv q1, .second, iv 0, .unset] [])) _
    refine XS.iload X3.here hx rfl (hb hby d1_12) rfl ?_
    refine XS.aloadN X3.here hx rfl (hb hby d1_14) rfl rfl ?_
    show Steps p.tables e below (T3.setTop (mkF m 15 #[rv a1, rv ar, jv q1, .second, rv ob3, jv q1, .second, iv 0, .unset] [(.ref ar), (.int 0)])) _
    exact k
  refine own_lift sg5 ?_
  show own_Go p.tables e below (T3.setTop (mkF m 15 #[rv a1, rv ar, jv q1, .second, rv ob3, jv q1, .second, iv 0, .unset] [(.ref ar), (.int 0)])) _
  have Fc6 : Arv Z h3 ar kc .long (0 : Int32) [] (.long (0 : Int64)) := (V1.ext Ex3)
  obtain ⟨cl7, Ar7, -, Sx7, N7', -, -⟩ := id (Fc6)
  have st7 : ∀ t, Steps p.tables e below (T3.setTop (mkF m 16 #[rv a1, rv ar, jv q1, .second, rv ob3, jv q1, .second, iv 0, .unset] [(.int 0), (.int 0)])) t → Steps p.tables e below (T3.setTop (mkF m 15 #[rv a1, rv ar, jv q1, .second, rv ob3, jv q1, .second, iv 0, .unset] [(.ref ar), (.int 0)])) t := by
    intro t k
    refine X3.arraylength hx (by rw [e3]; exact Ar7.1) (State.isArrayOf_alike hZ.alike Ar7.2.1) (g := (mkF m 15 #[rv a1, rv ar, jv q1, .second, rv ob3, jv q1, .second, iv 0, .unset] [(.ref ar), (.int 0)])) rfl rfl (hb hby d1_15) _ ?_
    rw [len_of Sx7 N7']
    exact k
  refine own_lift st7 ?_
  show own_Go p.tables e below (T3.setTop (mkF m 16 #[rv a1, rv ar, jv q1, .second, rv ob3, jv q1, .second, iv 0, .unset] [(.int 0), (.int 0)])) _
  have sg8 : ∀ t, Steps p.tables e below (T3.setTop (mkF m 64 #[rv a1, rv ar, jv q1, .second, rv ob3, jv q1, .second, iv 0, .unset] [(.ref ob3)])) t → Steps p.tables e below (T3.setTop (mkF m 16 #[rv a1, rv ar, jv q1, .second, rv ob3, jv q1, .second, iv 0, .unset] [(.int 0), (.int 0)])) t := by
    intro t k
    refine XS.icmpYes X3.here hx rfl (pc0 := 16) (pc' := 62) rfl (hb hby d1_16) rfl (flt (by decide : ¬ ((0 : Int32) < (0 : Int32)))).2.1 (by decide) (by decide) ?_
    show Steps p.tables e below (T3.setTop (mkF m 62 #[rv a1, rv ar, jv q1, .second, rv ob3, jv q1, .second, iv 0, .unset] [])) _
    refine XS.aload X3.here hx rfl (hb hby d1_62) rfl rfl ?_
    show Steps p.tables e below (T3.setTop (mkF m 64 #[rv a1, rv ar, jv q1, .second, rv ob3, jv q1, .second, iv 0, .unset] [(.ref ob3)])) _
    exact k
  refine own_lift sg8 ?_
  show own_Go p.tables e below (T3.setTop (mkF m 64 #[rv a1, rv ar, jv q1, .second, rv ob3, jv q1, .second, iv 0, .unset] [(.ref ob3)])) _
  obtain ⟨fs, hr, hrun, hended, hW, hsame⟩ := X3.leave (v := some (.ref ob3)) (fun h => by rw [Bd.returns] at h; cases h)
  refine ⟨_, _, ?_, hrun, hended, _, _, rfl, ?_, ⟨_, rfl⟩, hW, hsame.mono (by decide) (by decide)⟩
  · exact retOut X3 hx Bd.returns rfl (Or.inr (Or.inr (Or.inr (Or.inr ⟨rfl, rfl, rfl⟩)))) (hb hby d1_64) hr
  · show Q_rmStr0L Z a1 ar q1 fa kc h0 n0 _ T3.heap _
    rw [e3]
    exact ⟨ob3, ka3, rfl, N0, K3, gh3, Vn3⟩
theorem d1_19 : decode prog_65_method_4_code 19 = .ok (.aload_n 0, 1) := by decide +kernel
theorem d1_20 : decode prog_65_method_4_code 20 = .ok (.getstatic 3, 3) := by decide +kernel
theorem d1_23 : decode prog_65_method_4_code 23 = .ok (.if_acmp .ne 13, 3) := by decide +kernel
theorem d1_26 : decode prog_65_method_4_code 26 = .ok (.aload_n 1, 1) := by decide +kernel
theorem d1_27 : decode prog_65_method_4_code 27 = .ok (.arraylength, 1) := by decide +kernel
theorem d1_28 : decode prog_65_method_4_code 28 = .ok (.iconst 1, 1) := by decide +kernel
theorem d1_29 : decode prog_65_method_4_code 29 = .ok (.isub, 1) := by decide +kernel
theorem d1_30 : decode prog_65_method_4_code 30 = .ok (.iload 7, 2) := by decide +kernel
theorem d1_32 : decode prog_65_method_4_code 32 = .ok (.isub, 1) := by decide +kernel
theorem d1_33 : decode prog_65_method_4_code 33 = .ok (.goto 5, 3) := by decide +kernel
theorem d1_38 : decode prog_65_method_4_code 38 = .ok (.istore 8, 2) := by decide +kernel
theorem d1_40 : decode prog_65_method_4_code 40 = .ok (.aload 4, 2) := by decide +kernel
theorem d1_42 : decode prog_65_method_4_code 42 = .ok (.iload 8, 2) := by decide +kernel
theorem d1_44 : decode prog_65_method_4_code 44 = .ok (.lload 5, 2) := by decide +kernel
theorem d1_46 : decode prog_65_method_4_code 46 = .ok (.lastore, 1) := by decide +kernel
theorem d1_47 : decode prog_65_method_4_code 47 = .ok (.lload 5, 2) := by decide +kernel
theorem d1_49 : decode prog_65_method_4_code 49 = .ok (.aload_n 1, 1) := by decide +kernel
theorem d1_50 : decode prog_65_method_4_code 50 = .ok (.iload 8, 2) := by decide +kernel
theorem d1_52 : decode prog_65_method_4_code 52 = .ok (.laload, 1) := by decide +kernel
theorem d1_53 : decode prog_65_method_4_code 53 = .ok (.lmul, 1) := by decide +kernel
theorem d1_54 : decode prog_65_method_4_code 54 = .ok (.lstore 5, 2) := by decide +kernel
theorem d1_56 : decode prog_65_method_4_code 56 = .ok (.iinc 7 1, 3) := by decide +kernel
theorem d1_59 : decode prog_65_method_4_code 59 = .ok (.goto (-47), 3) := by decide +kernel
def Q_rmStr1F (Z : State) (a1 : Addr) (ar : Addr) (q1 : Int64) (kc : ClassId) (c0 : Int64) (h0 : Heap) (n0 : Nat) (v : Option Value) (h : Heap) (L : List Loc) : Prop := ∃ b : Addr, ∃ kb : ClassId, v = some (.ref b) ∧ Fr n0 L ∧ Keep h0 h [] ∧ h0.size ≤ b ∧ Arv Z h b kb .long (1 : Int32) [(.long q1)] (.long (0 : Int64))
theorem ef_rmStr1F (m : MethodId) (x0 : Addr) (x1 : Addr) (x2 : Int64) : entryFrame m #[(.ref x0), (.ref x1), (.long x2)] 9 = mkF m 0 #[.val (.ref x0), .val (.ref x1), .val (.long x2), .second, .unset, .unset, .unset, .unset, .unset] [] := by first | (simp [entryFrame, mkF, argsToLocals, Value.category]; done) | rfl
set_option maxRecDepth 65536 in
set_option maxHeartbeats 40000000 in
theorem rmStr1F (l : Launch) (Z : State) (a0 : Array Value) (hw : ∀ d ∈ tables_1, d.before a0 Z = true) (ws : List Jvm.Cond) (a1 : Addr) (ar : Addr) (q1 : Int64) (kc : ClassId) (c0 : Int64) (h0 : Heap) (n0 : Nat) (Z0 : n0 ≤ h0.size) (V1 : Arv Z h0 ar kc .long (1 : Int32) [(.long c0)] (.long (0 : Int64))) (S1 : Sta Z h0 "com/example/halyard/halyard/east/ArrayStorage" "FIRST_INDEX_FIRST" "Lcom/example/halyard/halyard/east/ArrayStorage;" (.ref a1))  :
    MetFree l (⟨"com/example/halyard/halyard/east/ArrayStorage", "strides", "([JJ)[J"⟩ : MethodName) (head1 (Jvm.Cond.code (⟨"com/example/halyard/halyard/east/ArrayStorage", "strides", "([JJ)[J"⟩ : MethodName) prog_65_method_4_code 9 (some (.array .long)) :: ws) ({ frames := 0, cells := 1, slots := 1, locals := 0 } : Room)) (fun a U => a = #[(.ref a1), (.ref ar), (.long q1)] ∧ Z.Warmed39 U.vm ∧ U.heap = h0) (fun _ _ _ _ _ => True) (fun _ U o U' => ∃ v L, o = .returned v ∧ Q_rmStr1F Z a1 ar q1 kc c0 h0 n0 v U'.heap L ∧ FrameEnd U o U' L ({ frames := 0, cells := 1, slots := 1, locals := 0 } : Room).cells ({ frames := 0, cells := 1, slots := 1, locals := 0 } : Room).slots) := by
  refine MetFree.of_bodySF (plainFor_of_name pn_0) hisR ?_
  intro p e s m args below meth c s₁ Bd hml0 hP hK
  obtain ⟨rfl, hZ, hh⟩ := hP
  have hx := Bd.exec
  have hby := Bd.bytes
  have hml : c.maxLocals = 9 := hml0
  have hown : s.vm.findClass "com/example/halyard/halyard/east/ArrayStorage" = some m.cls := findClass_of_methodNamed Bd.named
  have hnm := (name_of_methodNamed Bd.named Bd.method).1
  have X0 : Stand p l e ({ frames := 0, cells := 1, slots := 1, locals := 0 } : Room) s m #[(.ref a1), (.ref ar), (.long q1)] below meth c s₁ [] 0 0 := Stand.of_body Bd
  have e0 : s₁.heap = h0 := by rw [← hh, Bd.state]; rfl
  have N0 := Fr.nil n0
  refine own_go (own_lift (fun t k => castTop (ef_rmStr1F m a1 ar q1) k) ?_)
  show own_Go p.tables e below (s₁.setTop (mkF m 0 #[rv a1, rv ar, jv q1, .second, .unset, .unset, .unset, .unset, .unset] [])) _
  have sg1 : ∀ t, Steps p.tables e below (s₁.setTop (mkF m 1 #[rv a1, rv ar, jv q1, .second, .unset, .unset, .unset, .unset, .unset] [(.ref ar)])) t → Steps p.tables e below (s₁.setTop (mkF m 0 #[rv a1, rv ar, jv q1, .second, .unset, .unset, .unset, .unset, .unset] [])) t := by
    intro t k
    refine XS.aloadN X0.here hx rfl (hb hby d1_0) rfl rfl ?_
    show Steps p.tables e below (s₁.setTop (mkF m 1 #[rv a1, rv ar, jv q1, .second, .unset, .unset, .unset, .unset, .unset] [(.ref ar)])) _
    exact k
  refine own_lift sg1 ?_
  show own_Go p.tables e below (s₁.setTop (mkF m 1 #[rv a1, rv ar, jv q1, .second, .unset, .unset, .unset, .unset, .unset] [(.ref ar)])) _
  obtain ⟨cl2, Ar2, -, Sx2, N2', -, -⟩ := id (V1)
  have st2 : ∀ t, Steps p.tables e below (s₁.setTop (mkF m 2 #[rv a1, rv ar, jv q1, .second, .unset, .unset, .unset, .unset, .unset] [(.int 1)])) t → Steps p.tables e below (s₁.setTop (mkF m 1 #[rv a1, rv ar, jv q1, .second, .unset, .unset, .unset, .unset, .unset] [(.ref ar)])) t := by
    intro t k
    refine X0.arraylength hx (by rw [e0]; exact Ar2.1) (State.isArrayOf_alike hZ.alike Ar2.2.1) (g := (mkF m 1 #[rv a1, rv ar, jv q1, .second, .unset, .unset, .unset, .unset, .unset] [(.ref ar)])) rfl rfl (hb hby d1_1) _ ?_
    rw [len_of Sx2 N2']
    exact k
  refine own_lift st2 ?_
  show own_Go p.tables e below (s₁.setTop (mkF m 2 #[rv a1, rv ar, jv q1, .second, .unset, .unset, .unset, .unset, .unset] [(.int 1)])) _
  obtain ⟨T3, h3, ka3, X3, e3, Ex3, Ax3, st3⟩ := newP X0 hx hZ (wd hw 2 rfl) e0 (g := (mkF m 2 #[rv a1, rv ar, jv q1, .second, .unset, .unset, .unset, .unset, .unset] [(.int 1)])) rfl (hb hby d1_2) rfl (by decide) (cap := 1) (by decide) (by decide) (by decide) (by decide)
  obtain ⟨ob3, g3⟩ : ∃ z, z = h0.size := ⟨_, rfl⟩
  rw [← g3] at Ax3 st3
  have ne4 : ar ≠ ob3 := Nat.ne_of_lt (Nat.lt_of_lt_of_le V1.lt (Nat.le_of_eq g3.symm))
  have Z3 : n0 ≤ h3.size := Nat.le_trans Z0 Ex3.1
  have ge3 : n0 ≤ ob3 := Nat.le_trans Z0 (Nat.le_of_eq g3.symm)
  have gh3 : h0.size ≤ ob3 := Nat.le_trans (Keep.refl h0 []).1 (Nat.le_of_eq g3.symm)
  have K3 : Keep h0 h3 [] := (Keep.refl h0 []).ext Ex3
  have Vn3 : Arv Z h3 ob3 ka3 .long (1 : Int32) [(.long 0)] (.long 0) := (Arv.new Ax3 (by decide)).pad (pad_rep [] (.long 0) 1)
  refine own_lift st3 ?_
  show own_Go p.tables e below (T3.setTop (mkF m 4 #[rv a1, rv ar, jv q1, .second, .unset, .unset, .unset, .unset, .unset] [(.ref ob3)])) _
  have sg5 : ∀ t, Steps p.tables e below (T3.setTop (mkF m 15 #[rv a1, rv ar, jv q1, .second, rv ob3, jv q1, .second, iv 0, .unset] [(.ref ar), (.int 0)])) t → Steps p.tables e below (T3.setTop (mkF m 4 #[rv a1, rv ar, jv q1, .second, .unset, .unset, .unset, .unset, .unset] [(.ref ob3)])) t := by
    intro t k
    refine XS.astore X3.here hx rfl (hb hby d1_4) rfl rfl (l' := #[rv a1, rv ar, jv q1, .second, rv ob3, .unset, .unset, .unset, .unset]) rfl ?_
    show Steps p.tables e below (T3.setTop (mkF m 6 #[rv a1, rv ar, jv q1, .second, rv ob3, .unset, .unset, .unset, .unset] [])) _
    refine XS.lloadN X3.here hx rfl (hb hby d1_6) rfl ?_
    refine XS.lstore X3.here hx rfl (hb hby d1_7) rfl (l' := #[rv a1, rv ar, jv q1, .second, rv ob3, jv q1, .second, .unset, .unset]) rfl ?_
    show Steps p.tables e below (T3.setTop (mkF m 9 #[rv a1, rv ar, jv q1, .second, rv ob3, jv q1, .second, .unset, .unset] [])) _
    refine XS.iconst X3.here hx rfl (hb hby d1_9) ?_
    refine XS.istore X3.here hx rfl (hb hby d1_10) rfl (l' := #[rv a1, rv ar, jv q1, .second, rv ob3, jv q1, .second, iv 0, .unset]) rfl ?_
    show Steps p.tables e below (T3.setTop (mkF m 12 #[rv a1, rv ar, jv q1, .second, rv ob3, jv q1, .second, iv 0, .unset] [])) _
    refine XS.iload X3.here hx rfl (hb hby d1_12) rfl ?_
    refine XS.aloadN X3.here hx rfl (hb hby d1_14) rfl rfl ?_
    show Steps p.tables e below (T3.setTop (mkF m 15 #[rv a1, rv ar, jv q1, .second, rv ob3, jv q1, .second, iv 0, .unset] [(.ref ar), (.int 0)])) _
    exact k
  refine own_lift sg5 ?_
  show own_Go p.tables e below (T3.setTop (mkF m 15 #[rv a1, rv ar, jv q1, .second, rv ob3, jv q1, .second, iv 0, .unset] [(.ref ar), (.int 0)])) _
  have Fc6 : Arv Z h3 ar kc .long (1 : Int32) [(.long c0)] (.long (0 : Int64)) := (V1.ext Ex3)
  obtain ⟨cl7, Ar7, -, Sx7, N7', -, -⟩ := id (Fc6)
  have st7 : ∀ t, Steps p.tables e below (T3.setTop (mkF m 16 #[rv a1, rv ar, jv q1, .second, rv ob3, jv q1, .second, iv 0, .unset] [(.int 1), (.int 0)])) t → Steps p.tables e below (T3.setTop (mkF m 15 #[rv a1, rv ar, jv q1, .second, rv ob3, jv q1, .second, iv 0, .unset] [(.ref ar), (.int 0)])) t := by
    intro t k
    refine X3.arraylength hx (by rw [e3]; exact Ar7.1) (State.isArrayOf_alike hZ.alike Ar7.2.1) (g := (mkF m 15 #[rv a1, rv ar, jv q1, .second, rv ob3, jv q1, .second, iv 0, .unset] [(.ref ar), (.int 0)])) rfl rfl (hb hby d1_15) _ ?_
    rw [len_of Sx7 N7']
    exact k
  refine own_lift st7 ?_
  show own_Go p.tables e below (T3.setTop (mkF m 16 #[rv a1, rv ar, jv q1, .second, rv ob3, jv q1, .second, iv 0, .unset] [(.int 1), (.int 0)])) _
  have sg8 : ∀ t, Steps p.tables e below (T3.setTop (mkF m 20 #[rv a1, rv ar, jv q1, .second, rv ob3, jv q1, .second, iv 0, .unset] [(.ref a1)])) t → Steps p.tables e below (T3.setTop (mkF m 16 #[rv a1, rv ar, jv q1, .second, rv ob3, jv q1, .second, iv 0, .unset] [(.int 1), (.int 0)])) t := by
    intro t k
    refine XS.icmpNo X3.here hx rfl (hb hby d1_16) rfl (tlt (by decide : (0 : Int32) < (1 : Int32))).2.1 ?_
    show Steps p.tables e below (T3.setTop (mkF m 19 #[rv a1, rv ar, jv q1, .second, rv ob3, jv q1, .second, iv 0, .unset] [])) _
    refine XS.aloadN X3.here hx rfl (hb hby d1_19) rfl rfl ?_
    show Steps p.tables e below (T3.setTop (mkF m 20 #[rv a1, rv ar, jv q1, .second, rv ob3, jv q1, .second, iv 0, .unset] [(.ref a1)])) _
    exact k
  refine own_lift sg8 ?_
  show own_Go p.tables e below (T3.setTop (mkF m 20 #[rv a1, rv ar, jv q1, .second, rv ob3, jv q1, .second, iv 0, .unset] [(.ref a1)])) _
  have Fc9 : Sta Z h3 "com/example/halyard/halyard/east/ArrayStorage" "FIRST_INDEX_FIRST" "Lcom/example/halyard/halyard/east/ArrayStorage;" (.ref a1) := (S1.ext Ex3)
  obtain ⟨T10, X10, e10, st10⟩ := getS X3 hx hZ hown (host := "") (wd hw 13 rfl) Via.refl e3 Fc9 (g := (mkF m 20 #[rv a1, rv ar, jv q1, .second, rv ob3, jv q1, .second, iv 0, .unset] [(.ref a1)])) rfl (hb hby d1_20)
  refine own_lift st10 ?_
  show own_Go p.tables e below (T10.setTop (mkF m 23 #[rv a1, rv ar, jv q1, .second, rv ob3, jv q1, .second, iv 0, .unset] [(.ref a1), (.ref a1)])) _
  have sg11 : ∀ t, Steps p.tables e below (T10.setTop (mkF m 27 #[rv a1, rv ar, jv q1, .second, rv ob3, jv q1, .second, iv 0, .unset] [(.ref ar)])) t → Steps p.tables e below (T10.setTop (mkF m 23 #[rv a1, rv ar, jv q1, .second, rv ob3, jv q1, .second, iv 0, .unset] [(.ref a1), (.ref a1)])) t := by
    intro t k
    refine Jvm.RoadKit.acmp (g := (mkF m 23 #[rv a1, rv ar, jv q1, .second, rv ob3, jv q1, .second, iv 0, .unset] [(.ref a1), (.ref a1)])) X10 hx rfl rfl rfl (pc0 := 23) (pc' := 26) (same := true) rfl (hb hby d1_23) rfl (decide_eq_true rfl) (by decide) (by decide) ?_
    show Steps p.tables e below (T10.setTop (mkF m 26 #[rv a1, rv ar, jv q1, .second, rv ob3, jv q1, .second, iv 0, .unset] [])) _
    refine XS.aloadN X10.here hx rfl (hb hby d1_26) rfl rfl ?_
    show Steps p.tables e below (T10.setTop (mkF m 27 #[rv a1, rv ar, jv q1, .second, rv ob3, jv q1, .second, iv 0, .unset] [(.ref ar)])) _
    exact k
  refine own_lift sg11 ?_
  show own_Go p.tables e below (T10.setTop (mkF m 27 #[rv a1, rv ar, jv q1, .second, rv ob3, jv q1, .second, iv 0, .unset] [(.ref ar)])) _
  obtain ⟨cl12, Ar12, -, Sx12, N12', -, -⟩ := id (Fc6)
  have st12 : ∀ t, Steps p.tables e below (T10.setTop (mkF m 28 #[rv a1, rv ar, jv q1, .second, rv ob3, jv q1, .second, iv 0, .unset] [(.int 1)])) t → Steps p.tables e below (T10.setTop (mkF m 27 #[rv a1, rv ar, jv q1, .second, rv ob3, jv q1, .second, iv 0, .unset] [(.ref ar)])) t := by
    intro t k
    refine X10.arraylength hx (by rw [e10]; exact Ar12.1) (State.isArrayOf_alike hZ.alike Ar12.2.1) (g := (mkF m 27 #[rv a1, rv ar, jv q1, .second, rv ob3, jv q1, .second, iv 0, .unset] [(.ref ar)])) rfl rfl (hb hby d1_27) _ ?_
    rw [len_of Sx12 N12']
    exact k
  refine own_lift st12 ?_
  show own_Go p.tables e below (T10.setTop (mkF m 28 #[rv a1, rv ar, jv q1, .second, rv ob3, jv q1, .second, iv 0, .unset] [(.int 1)])) _
  have sg13 : ∀ t, Steps p.tables e below (T10.setTop (mkF m 46 #[rv a1, rv ar, jv q1, .second, rv ob3, jv q1, .second, iv 0, iv 0] [(.long q1), (.int 0), (.ref ob3)])) t → Steps p.tables e below (T10.setTop (mkF m 28 #[rv a1, rv ar, jv q1, .second, rv ob3, jv q1, .second, iv 0, .unset] [(.int 1)])) t := by
    intro t k
    refine XS.iconst X10.here hx rfl (hb hby d1_28) ?_
    show Steps p.tables e below (T10.setTop (mkF m 29 #[rv a1, rv ar, jv q1, .second, rv ob3, jv q1, .second, iv 0, .unset] [(.int 1), (.int 1)])) _
    refine XS.isub X10.here hx rfl (hb hby d1_29) rfl ?_
    refine XS.iload X10.here hx rfl (hb hby d1_30) rfl ?_
    show Steps p.tables e below (T10.setTop (mkF m 32 #[rv a1, rv ar, jv q1, .second, rv ob3, jv q1, .second, iv 0, .unset] [(.int 0), (.int 0)])) _
    refine XS.isub X10.here hx rfl (hb hby d1_32) rfl ?_
    refine XS.goto X10.here hx rfl (pc0 := 33) (pc' := 38) rfl (hb hby d1_33) (by decide) (by decide) ?_
    show Steps p.tables e below (T10.setTop (mkF m 38 #[rv a1, rv ar, jv q1, .second, rv ob3, jv q1, .second, iv 0, .unset] [(.int 0)])) _
    refine XS.istore X10.here hx rfl (hb hby d1_38) rfl (l' := #[rv a1, rv ar, jv q1, .second, rv ob3, jv q1, .second, iv 0, iv 0]) rfl ?_
    refine XS.aload X10.here hx rfl (hb hby d1_40) rfl rfl ?_
    show Steps p.tables e below (T10.setTop (mkF m 42 #[rv a1, rv ar, jv q1, .second, rv ob3, jv q1, .second, iv 0, iv 0] [(.ref ob3)])) _
    refine XS.iload X10.here hx rfl (hb hby d1_42) rfl ?_
    refine XS.lload X10.here hx rfl (hb hby d1_44) rfl ?_
    show Steps p.tables e below (T10.setTop (mkF m 46 #[rv a1, rv ar, jv q1, .second, rv ob3, jv q1, .second, iv 0, iv 0] [(.long q1), (.int 0), (.ref ob3)])) _
    exact k
  refine own_lift sg13 ?_
  show own_Go p.tables e below (T10.setTop (mkF m 46 #[rv a1, rv ar, jv q1, .second, rv ob3, jv q1, .second, iv 0, iv 0] [(.long q1), (.int 0), (.ref ob3)])) _
  obtain ⟨cl14, Ar14, qx14, Sx14, N14', H14', G14'⟩ := id (Vn3)
  have hin14 : ¬ ((0 : Int32) < 0 ∨ cl14.slots.size ≤ ((0 : Int32)).toNatClampNeg) := inb_of Sx14 ⟨(by decide : ¬ ((0 : Int32) < (0 : Int32))), (by decide : (0 : Int32) < (1 : Int32))⟩
  obtain ⟨T15, h15, X15, e15, W15, st15⟩ := stJ X10 hx hZ e10 Ar14 (j := (0 : Int32)) hin14 (g := (mkF m 46 #[rv a1, rv ar, jv q1, .second, rv ob3, jv q1, .second, iv 0, iv 0] [(.long q1), (.int 0), (.ref ob3)])) rfl rfl (hb hby d1_46)
  have N15 := Fr.snoc X15 N0 ge3
  have Z15 : n0 ≤ h15.size := Nat.le_trans Z3 (Nat.le_of_eq W15.size.symm)
  have K15 : Keep h0 h15 [] := K3.wr W15 (Or.inr gh3)
  have Vn15 : Arv Z h15 ob3 ka3 .long (1 : Int32) [(.long q1)] (.long 0) := Arv.set Ar14 qx14 Sx14 N14' H14' G14' rfl W15 0 rfl (Nat.le_of_ble_eq_true rfl)
  refine own_lift st15 ?_
  show own_Go p.tables e below (T15.setTop (mkF m 47 #[rv a1, rv ar, jv q1, .second, rv ob3, jv q1, .second, iv 0, iv 0] [])) _
  have sg16 : ∀ t, Steps p.tables e below (T15.setTop (mkF m 52 #[rv a1, rv ar, jv q1, .second, rv ob3, jv q1, .second, iv 0, iv 0] [(.int 0), (.ref ar), (.long q1)])) t → Steps p.tables e below (T15.setTop (mkF m 47 #[rv a1, rv ar, jv q1, .second, rv ob3, jv q1, .second, iv 0, iv 0] [])) t := by
    intro t k
    refine XS.lload X15.here hx rfl (hb hby d1_47) rfl ?_
    show Steps p.tables e below (T15.setTop (mkF m 49 #[rv a1, rv ar, jv q1, .second, rv ob3, jv q1, .second, iv 0, iv 0] [(.long q1)])) _
    refine XS.aloadN X15.here hx rfl (hb hby d1_49) rfl rfl ?_
    refine XS.iload X15.here hx rfl (hb hby d1_50) rfl ?_
    show Steps p.tables e below (T15.setTop (mkF m 52 #[rv a1, rv ar, jv q1, .second, rv ob3, jv q1, .second, iv 0, iv 0] [(.int 0), (.ref ar), (.long q1)])) _
    exact k
  refine own_lift sg16 ?_
  show own_Go p.tables e below (T15.setTop (mkF m 52 #[rv a1, rv ar, jv q1, .second, rv ob3, jv q1, .second, iv 0, iv 0] [(.int 0), (.ref ar), (.long q1)])) _
  have Fc17 : Arv Z h15 ar kc .long (1 : Int32) [(.long c0)] (.long (0 : Int64)) := (Fc6.other W15 ne4)
  obtain ⟨cl18, Ar18, qx18, Sx18, N18', H18', G18'⟩ := id (Fc17)
  have hin18 : ¬ ((0 : Int32) < 0 ∨ cl18.slots.size ≤ ((0 : Int32)).toNatClampNeg) := inb_of Sx18 ⟨(by decide : ¬ ((0 : Int32) < (0 : Int32))), (by decide : (0 : Int32) < (1 : Int32))⟩
  have hat18 : cl18.slots[((0 : Int32)).toNatClampNeg]? = some (.long c0) := Has.at H18' hin18 rfl
  have sg19 : ∀ t, Steps p.tables e below (T15.setTop (mkF m 15 #[rv a1, rv ar, jv q1, .second, rv ob3, jv (q1 * c0), .second, iv 1, iv 0] [(.ref ar), (.int 1)])) t → Steps p.tables e below (T15.setTop (mkF m 52 #[rv a1, rv ar, jv q1, .second, rv ob3, jv q1, .second, iv 0, iv 0] [(.int 0), (.ref ar), (.long q1)])) t := by
    intro t k
    refine X15.laload hx (j := (0 : Int32)) (v := (.long c0)) (by rw [e15]; exact Ar18.1) (State.isArrayOf_alike hZ.alike Ar18.2.1) Ar18.2.2 hin18 hat18 (g := (mkF m 52 #[rv a1, rv ar, jv q1, .second, rv ob3, jv q1, .second, iv 0, iv 0] [(.int 0), (.ref ar), (.long q1)])) rfl rfl (hb hby d1_52) _ ?_
    show Steps p.tables e below (T15.setTop (mkF m 53 #[rv a1, rv ar, jv q1, .second, rv ob3, jv q1, .second, iv 0, iv 0] [(.long c0), (.long q1)])) _
    refine XS.lmul X15.here hx rfl (hb hby d1_53) rfl ?_
    refine XS.lstore X15.here hx rfl (hb hby d1_54) rfl (l' := #[rv a1, rv ar, jv q1, .second, rv ob3, jv (q1 * c0), .second, iv 0, iv 0]) rfl ?_
    show Steps p.tables e below (T15.setTop (mkF m 56 #[rv a1, rv ar, jv q1, .second, rv ob3, jv (q1 * c0), .second, iv 0, iv 0] [])) _
    refine XS.iinc X15.here hx rfl (hb hby d1_56) rfl (l' := #[rv a1, rv ar, jv q1, .second, rv ob3, jv (q1 * c0), .second, iv 1, iv 0]) rfl ?_
    refine XS.goto X15.here hx rfl (pc0 := 59) (pc' := 12) rfl (hb hby d1_59) (by decide) (by decide) ?_
    show Steps p.tables e below (T15.setTop (mkF m 12 #[rv a1, rv ar, jv q1, .second, rv ob3, jv (q1 * c0), .second, iv 1, iv 0] [])) _
    refine XS.iload X15.here hx rfl (hb hby d1_12) rfl ?_
    refine XS.aloadN X15.here hx rfl (hb hby d1_14) rfl rfl ?_
    show Steps p.tables e below (T15.setTop (mkF m 15 #[rv a1, rv ar, jv q1, .second, rv ob3, jv (q1 * c0), .second, iv 1, iv 0] [(.ref ar), (.int 1)])) _
    exact k
  refine own_lift sg19 ?_
  show own_Go p.tables e below (T15.setTop (mkF m 15 #[rv a1, rv ar, jv q1, .second, rv ob3, jv (q1 * c0), .second, iv 1, iv 0] [(.ref ar), (.int 1)])) _
  obtain ⟨cl20, Ar20, -, Sx20, N20', -, -⟩ := id (Fc17)
  have st20 : ∀ t, Steps p.tables e below (T15.setTop (mkF m 16 #[rv a1, rv ar, jv q1, .second, rv ob3, jv (q1 * c0), .second, iv 1, iv 0] [(.int 1), (.int 1)])) t → Steps p.tables e below (T15.setTop (mkF m 15 #[rv a1, rv ar, jv q1, .second, rv ob3, jv (q1 * c0), .second, iv 1, iv 0] [(.ref ar), (.int 1)])) t := by
    intro t k
    refine X15.arraylength hx (by rw [e15]; exact Ar20.1) (State.isArrayOf_alike hZ.alike Ar20.2.1) (g := (mkF m 15 #[rv a1, rv ar, jv q1, .second, rv ob3, jv (q1 * c0), .second, iv 1, iv 0] [(.ref ar), (.int 1)])) rfl rfl (hb hby d1_15) _ ?_
    rw [len_of Sx20 N20']
    exact k
  refine own_lift st20 ?_
  show own_Go p.tables e below (T15.setTop (mkF m 16 #[rv a1, rv ar, jv q1, .second, rv ob3, jv (q1 * c0), .second, iv 1, iv 0] [(.int 1), (.int 1)])) _
  have sg21 : ∀ t, Steps p.tables e below (T15.setTop (mkF m 64 #[rv a1, rv ar, jv q1, .second, rv ob3, jv (q1 * c0), .second, iv 1, iv 0] [(.ref ob3)])) t → Steps p.tables e below (T15.setTop (mkF m 16 #[rv a1, rv ar, jv q1, .second, rv ob3, jv (q1 * c0), .second, iv 1, iv 0] [(.int 1), (.int 1)])) t := by
    intro t k
    refine XS.icmpYes X15.here hx rfl (pc0 := 16) (pc' := 62) rfl (hb hby d1_16) rfl (flt (by decide : ¬ ((1 : Int32) < (1 : Int32)))).2.1 (by decide) (by decide) ?_
    show Steps p.tables e below (T15.setTop (mkF m 62 #[rv a1, rv ar, jv q1, .second, rv ob3, jv (q1 * c0), .second, iv 1, iv 0] [])) _
    refine XS.aload X15.here hx rfl (hb hby d1_62) rfl rfl ?_
    show Steps p.tables e below (T15.setTop (mkF m 64 #[rv a1, rv ar, jv q1, .second, rv ob3, jv (q1 * c0), .second, iv 1, iv 0] [(.ref ob3)])) _
    exact k
  refine own_lift sg21 ?_
  show own_Go p.tables e below (T15.setTop (mkF m 64 #[rv a1, rv ar, jv q1, .second, rv ob3, jv (q1 * c0), .second, iv 1, iv 0] [(.ref ob3)])) _
  obtain ⟨fs, hr, hrun, hended, hW, hsame⟩ := X15.leave (v := some (.ref ob3)) (fun h => by rw [Bd.returns] at h; cases h)
  refine ⟨_, _, ?_, hrun, hended, _, _, rfl, ?_, ⟨_, rfl⟩, hW, hsame.mono (by decide) (by decide)⟩
  · exact retOut X15 hx Bd.returns rfl (Or.inr (Or.inr (Or.inr (Or.inr ⟨rfl, rfl, rfl⟩)))) (hb hby d1_64) hr
  · show Q_rmStr1F Z a1 ar q1 kc c0 h0 n0 _ T15.heap _
    rw [e15]
    exact ⟨ob3, ka3, rfl, N15, K15, gh3, Vn15⟩
theorem d1_36 : decode prog_65_method_4_code 36 = .ok (.iload 7, 2) := by decide +kernel
def Q_rmStr1L (Z : State) (a1 : Addr) (ar : Addr) (q1 : Int64) (fa : Addr) (kc : ClassId) (c0 : Int64) (h0 : Heap) (n0 : Nat) (v : Option Value) (h : Heap) (L : List Loc) : Prop := ∃ b : Addr, ∃ kb : ClassId, v = some (.ref b) ∧ Fr n0 L ∧ Keep h0 h [] ∧ h0.size ≤ b ∧ Arv Z h b kb .long (1 : Int32) [(.long q1)] (.long (0 : Int64))
theorem ef_rmStr1L (m : MethodId) (x0 : Addr) (x1 : Addr) (x2 : Int64) : entryFrame m #[(.ref x0), (.ref x1), (.long x2)] 9 = mkF m 0 #[.val (.ref x0), .val (.ref x1), .val (.long x2), .second, .unset, .unset, .unset, .unset, .unset] [] := by first | (simp [entryFrame, mkF, argsToLocals, Value.category]; done) | rfl
set_option maxRecDepth 65536 in
set_option maxHeartbeats 40000000 in
theorem rmStr1L (l : Launch) (Z : State) (a0 : Array Value) (hw : ∀ d ∈ tables_1, d.before a0 Z = true) (ws : List Jvm.Cond) (a1 : Addr) (ar : Addr) (q1 : Int64) (fa : Addr) (kc : ClassId) (c0 : Int64) (h0 : Heap) (n0 : Nat) (Z0 : n0 ≤ h0.size) (V1 : Arv Z h0 ar kc .long (1 : Int32) [(.long c0)] (.long (0 : Int64))) (S1 : Sta Z h0 "com/example/halyard/halyard/east/ArrayStorage" "FIRST_INDEX_FIRST" "Lcom/example/halyard/halyard/east/ArrayStorage;" (.ref fa)) (c_ne : ¬ (a1 = fa)) :
    MetFree l (⟨"com/example/halyard/halyard/east/ArrayStorage", "strides", "([JJ)[J"⟩ : MethodName) (head1 (Jvm.Cond.code (⟨"com/example/halyard/halyard/east/ArrayStorage", "strides", "([JJ)[J"⟩ : MethodName) prog_65_method_4_code 9 (some (.array .long)) :: ws) ({ frames := 0, cells := 1, slots := 1, locals := 0 } : Room)) (fun a U => a = #[(.ref a1), (.ref ar), (.long q1)] ∧ Z.Warmed39 U.vm ∧ U.heap = h0) (fun _ _ _ _ _ => True) (fun _ U o U' => ∃ v L, o = .returned v ∧ Q_rmStr1L Z a1 ar q1 fa kc c0 h0 n0 v U'.heap L ∧ FrameEnd U o U' L ({ frames := 0, cells := 1, slots := 1, locals := 0 } : Room).cells ({ frames := 0, cells := 1, slots := 1, locals := 0 } : Room).slots) := by
  refine MetFree.of_bodySF (plainFor_of_name pn_0) hisR ?_
  intro p e s m args below meth c s₁ Bd hml0 hP hK
  obtain ⟨rfl, hZ, hh⟩ := hP
  have hx := Bd.exec
  have hby := Bd.bytes
  have hml : c.maxLocals = 9 := hml0
  have hown : s.vm.findClass "com/example/halyard/halyard/east/ArrayStorage" = some m.cls := findClass_of_methodNamed Bd.named
  have hnm := (name_of_methodNamed Bd.named Bd.method).1
  have X0 : Stand p l e ({ frames := 0, cells := 1, slots := 1, locals := 0 } : Room) s m #[(.ref a1), (.ref ar), (.long q1)] below meth c s₁ [] 0 0 := Stand.of_body Bd
  have e0 : s₁.heap = h0 := by rw [← hh, Bd.state]; rfl
  have N0 := Fr.nil n0
  refine own_go (own_lift (fun t k => castTop (ef_rmStr1L m a1 ar q1) k) ?_)
  show own_Go p.tables e below (s₁.setTop (mkF m 0 #[rv a1, rv ar, jv q1, .second, .unset, .unset, .unset, .unset, .unset] [])) _
  have sg1 : ∀ t, Steps p.tables e below (s₁.setTop (mkF m 1 #[rv a1, rv ar, jv q1, .second, .unset, .unset, .unset, .unset, .unset] [(.ref ar)])) t → Steps p.tables e below (s₁.setTop (mkF m 0 #[rv a1, rv ar, jv q1, .second, .unset, .unset, .unset, .unset, .unset] [])) t := by
    intro t k
    refine XS.aloadN X0.here hx rfl (hb hby d1_0) rfl rfl ?_
    show Steps p.tables e below (s₁.setTop (mkF m 1 #[rv a1, rv ar, jv q1, .second, .unset, .unset, .unset, .unset, .unset] [(.ref ar)])) _
    exact k
  refine own_lift sg1 ?_
  show own_Go p.tables e below (s₁.setTop (mkF m 1 #[rv a1, rv ar, jv q1, .second, .unset, .unset, .unset, .unset, .unset] [(.ref ar)])) _
  obtain ⟨cl2, Ar2, -, Sx2, N2', -, -⟩ := id (V1)
  have st2 : ∀ t, Steps p.tables e below (s₁.setTop (mkF m 2 #[rv a1, rv ar, jv q1, .second, .unset, .unset, .unset, .unset, .unset] [(.int 1)])) t → Steps p.tables e below (s₁.setTop (mkF m 1 #[rv a1, rv ar, jv q1, .second, .unset, .unset, .unset, .unset, .unset] [(.ref ar)])) t := by
    intro t k
    refine X0.arraylength hx (by rw [e0]; exact Ar2.1) (State.isArrayOf_alike hZ.alike Ar2.2.1) (g := (mkF m 1 #[rv a1, rv ar, jv q1, .second, .unset, .unset, .unset, .unset, .unset] [(.ref ar)])) rfl rfl (hb hby d1_1) _ ?_
    rw [len_of Sx2 N2']
    exact k
  refine own_lift st2 ?_
  show own_Go p.tables e below (s₁.setTop (mkF m 2 #[rv a1, rv ar, jv q1, .second, .unset, .unset, .unset, .unset, .unset] [(.int 1)])) _
  obtain ⟨T3, h3, ka3, X3, e3, Ex3, Ax3, st3⟩ := newP X0 hx hZ (wd hw 2 rfl) e0 (g := (mkF m 2 #[rv a1, rv ar, jv q1, .second, .unset, .unset, .unset, .unset, .unset] [(.int 1)])) rfl (hb hby d1_2) rfl (by decide) (cap := 1) (by decide) (by decide) (by decide) (by decide)
  obtain ⟨ob3, g3⟩ : ∃ z, z = h0.size := ⟨_, rfl⟩
  rw [← g3] at Ax3 st3
  have ne4 : ar ≠ ob3 := Nat.ne_of_lt (Nat.lt_of_lt_of_le V1.lt (Nat.le_of_eq g3.symm))
  have Z3 : n0 ≤ h3.size := Nat.le_trans Z0 Ex3.1
  have ge3 : n0 ≤ ob3 := Nat.le_trans Z0 (Nat.le_of_eq g3.symm)
  have gh3 : h0.size ≤ ob3 := Nat.le_trans (Keep.refl h0 []).1 (Nat.le_of_eq g3.symm)
  have K3 : Keep h0 h3 [] := (Keep.refl h0 []).ext Ex3
  have Vn3 : Arv Z h3 ob3 ka3 .long (1 : Int32) [(.long 0)] (.long 0) := (Arv.new Ax3 (by decide)).pad (pad_rep [] (.long 0) 1)
  refine own_lift st3 ?_
  show own_Go p.tables e below (T3.setTop (mkF m 4 #[rv a1, rv ar, jv q1, .second, .unset, .unset, .unset, .unset, .unset] [(.ref ob3)])) _
  have sg5 : ∀ t, Steps p.tables e below (T3.setTop (mkF m 15 #[rv a1, rv ar, jv q1, .second, rv ob3, jv q1, .second, iv 0, .unset] [(.ref ar), (.int 0)])) t → Steps p.tables e below (T3.setTop (mkF m 4 #[rv a1, rv ar, jv q1, .second, .unset, .unset, .unset, .unset, .unset] [(.ref ob3)])) t := by
    intro t k
    refine XS.astore X3.here hx rfl (hb hby d1_4) rfl rfl (l' := #[rv a1, rv ar, jv q1, .second, rv ob3, .unset, .unset, .unset, .unset]) rfl ?_
    show Steps p.tables e below (T3.setTop (mkF m 6 #[rv a1, rv ar, jv q1, .second, rv ob3, .unset, .unset, .unset, .unset] [])) _
    refine XS.lloadN X3.here hx rfl (hb hby d1_6) rfl ?_
    refine XS.lstore X3.here hx rfl (hb hby d1_7) rfl (l' := #[rv a1, rv ar, jv q1, .second, rv ob3, jv q1, .second, .unset, .unset]) rfl ?_
    show Steps p.tables e below (T3.setTop (mkF m 9 #[rv a1, rv ar, jv q1, .second, rv ob3, jv q1, .second, .unset, .unset] [])) _
    refine XS.iconst X3.here hx rfl (hb hby d1_9) ?_
    refine XS.istore X3.here hx rfl (hb hby d1_10) rfl (l' := #[rv a1, rv ar, jv q1, .second, rv ob3, jv q1, .second, iv 0, .unset]) rfl ?_
    show Steps p.tables e below (T3.setTop (mkF m 12 #[rv a1, rv ar, jv q1, .second, rv ob3, jv q1, .second, iv 0, .unset] [])) _
    refine XS.iload X3.here hx rfl (hb hby d1_12) rfl ?_
    refine XS.aloadN X3.here hx rfl (hb hby d1_14) rfl rfl ?_
    show Steps p.tables e below (T3.setTop (mkF m 15 #[rv a1, rv ar, jv q1, .second, rv ob3, jv q1, .second, iv 0, .unset] [(.ref ar), (.int 0)])) _
    exact k
  refine own_lift sg5 ?_
  show own_Go p.tables e below (T3.setTop (mkF m 15 #[rv a1, rv ar, jv q1, .second, rv ob3, jv q1, .second, iv 0, .unset] [(.ref ar), (.int 0)])) _
  have Fc6 : Arv Z h3 ar kc .long (1 : Int32) [(.long c0)] (.long (0 : Int64)) := (V1.ext Ex3)
  obtain ⟨cl7, Ar7, -, Sx7, N7', -, -⟩ := id (Fc6)
  have st7 : ∀ t, Steps p.tables e below (T3.setTop (mkF m 16 #[rv a1, rv ar, jv q1, .second, rv ob3, jv q1, .second, iv 0, .unset] [(.int 1), (.int 0)])) t → Steps p.tables e below (T3.setTop (mkF m 15 #[rv a1, rv ar, jv q1, .second, rv ob3, jv q1, .second, iv 0, .unset] [(.ref ar), (.int 0)])) t := by
    intro t k
    refine X3.arraylength hx (by rw [e3]; exact Ar7.1) (State.isArrayOf_alike hZ.alike Ar7.2.1) (g := (mkF m 15 #[rv a1, rv ar, jv q1, .second, rv ob3, jv q1, .second, iv 0, .unset] [(.ref ar), (.int 0)])) rfl rfl (hb hby d1_15) _ ?_
    rw [len_of Sx7 N7']
    exact k
  refine own_lift st7 ?_
  show own_Go p.tables e below (T3.setTop (mkF m 16 #[rv a1, rv ar, jv q1, .second, rv ob3, jv q1, .second, iv 0, .unset] [(.int 1), (.int 0)])) _
  have sg8 : ∀ t, Steps p.tables e below (T3.setTop (mkF m 20 #[rv a1, rv ar, jv q1, .second, rv ob3, jv q1, .second, iv 0, .unset] [(.ref a1)])) t → Steps p.tables e below (T3.setTop (mkF m 16 #[rv a1, rv ar, jv q1, .second, rv ob3, jv q1, .second, iv 0, .unset] [(.int 1), (.int 0)])) t := by
    intro t k
    refine XS.icmpNo X3.here hx rfl (hb hby d1_16) rfl (tlt (by decide : (0 : Int32) < (1 : Int32))).2.1 ?_
    show Steps p.tables e below (T3.setTop (mkF m 19 #[rv a1, rv ar, jv q1, .second, rv ob3, jv q1, .second, iv 0, .unset] [])) _
    refine XS.aloadN X3.here hx rfl (hb hby d1_19) rfl rfl ?_
    show Steps p.tables e below (T3.setTop (mkF m 20 #[rv a1, rv ar, jv q1, .second, rv ob3, jv q1, .second, iv 0, .unset] [(.ref a1)])) _
    exact k
  refine own_lift sg8 ?_
  show own_Go p.tables e below (T3.setTop (mkF m 20 #[rv a1, rv ar, jv q1, .second, rv ob3, jv q1, .second, iv 0, .unset] [(.ref a1)])) _
  have Fc9 : Sta Z h3 "com/example/halyard/halyard/east/ArrayStorage" "FIRST_INDEX_FIRST" "Lcom/example/halyard/halyard/east/ArrayStorage;" (.ref fa) := (S1.ext Ex3)
  obtain ⟨T10, X10, e10, st10⟩ := getS X3 hx hZ hown (host := "") (wd hw 13 rfl) Via.refl e3 Fc9 (g := (mkF m 20 #[rv a1, rv ar, jv q1, .second, rv ob3, jv q1, .second, iv 0, .unset] [(.ref a1)])) rfl (hb hby d1_20)
  refine own_lift st10 ?_
  show own_Go p.tables e below (T10.setTop (mkF m 23 #[rv a1, rv ar, jv q1, .second, rv ob3, jv q1, .second, iv 0, .unset] [(.ref fa), (.ref a1)])) _
  have sg11 : ∀ t, Steps p.tables e below (T10.setTop (mkF m 46 #[rv a1, rv ar, jv q1, .second, rv ob3, jv q1, .second, iv 0, iv 0] [(.long q1), (.int 0), (.ref ob3)])) t → Steps p.tables e below (T10.setTop (mkF m 23 #[rv a1, rv ar, jv q1, .second, rv ob3, jv q1, .second, iv 0, .unset] [(.ref fa), (.ref a1)])) t := by
    intro t k
    refine Jvm.RoadKit.acmp (g := (mkF m 23 #[rv a1, rv ar, jv q1, .second, rv ob3, jv q1, .second, iv 0, .unset] [(.ref fa), (.ref a1)])) X10 hx rfl rfl rfl (pc0 := 23) (pc' := 36) (same := false) rfl (hb hby d1_23) rfl (decide_eq_false fun q => c_ne (Value.ref.inj q)) (by decide) (by decide) ?_
    show Steps p.tables e below (T10.setTop (mkF m 36 #[rv a1, rv ar, jv q1, .second, rv ob3, jv q1, .second, iv 0, .unset] [])) _
    refine XS.iload X10.here hx rfl (hb hby d1_36) rfl ?_
    refine XS.istore X10.here hx rfl (hb hby d1_38) rfl (l' := #[rv a1, rv ar, jv q1, .second, rv ob3, jv q1, .second, iv 0, iv 0]) rfl ?_
    show Steps p.tables e below (T10.setTop (mkF m 40 #[rv a1, rv ar, jv q1, .second, rv ob3, jv q1, .second, iv 0, iv 0] [])) _
    refine XS.aload X10.here hx rfl (hb hby d1_40) rfl rfl ?_
    refine XS.iload X10.here hx rfl (hb hby d1_42) rfl ?_
    show Steps p.tables e below (T10.setTop (mkF m 44 #[rv a1, rv ar, jv q1, .second, rv ob3, jv q1, .second, iv 0, iv 0] [(.int 0), (.ref ob3)])) _
    refine XS.lload X10.here hx rfl (hb hby d1_44) rfl ?_
    show Steps p.tables e below (T10.setTop (mkF m 46 #[rv a1, rv ar, jv q1, .second, rv ob3, jv q1, .second, iv 0, iv 0] [(.long q1), (.int 0), (.ref ob3)])) _
    exact k
  refine own_lift sg11 ?_
  show own_Go p.tables e below (T10.setTop (mkF m 46 #[rv a1, rv ar, jv q1, .second, rv ob3, jv q1, .second, iv 0, iv 0] [(.long q1), (.int 0), (.ref ob3)])) _
  obtain ⟨cl12, Ar12, qx12, Sx12, N12', H12', G12'⟩ := id (Vn3)
  have hin12 : ¬ ((0 : Int32) < 0 ∨ cl12.slots.size ≤ ((0 : Int32)).toNatClampNeg) := inb_of Sx12 ⟨(by decide : ¬ ((0 : Int32) < (0 : Int32))), (by decide : (0 : Int32) < (1 : Int32))⟩
  obtain ⟨T13, h13, X13, e13, W13, st13⟩ := stJ X10 hx hZ e10 Ar12 (j := (0 : Int32)) hin12 (g := (mkF m 46 #[rv a1, rv ar, jv q1, .second, rv ob3, jv q1, .second, iv 0, iv 0] [(.long q1), (.int 0), (.ref ob3)])) rfl rfl (hb hby d1_46)
  have N13 := Fr.snoc X13 N0 ge3
  have Z13 : n0 ≤ h13.size := Nat.le_trans Z3 (Nat.le_of_eq W13.size.symm)
  have K13 : Keep h0 h13 [] := K3.wr W13 (Or.inr gh3)
  have Vn13 : Arv Z h13 ob3 ka3 .long (1 : Int32) [(.long q1)] (.long 0) := Arv.set Ar12 qx12 Sx12 N12' H12' G12' rfl W13 0 rfl (Nat.le_of_ble_eq_true rfl)
  refine own_lift st13 ?_
  show own_Go p.tables e below (T13.setTop (mkF m 47 #[rv a1, rv ar, jv q1, .second, rv ob3, jv q1, .second, iv 0, iv 0] [])) _
  have sg14 : ∀ t, Steps p.tables e below (T13.setTop (mkF m 52 #[rv a1, rv ar, jv q1, .second, rv ob3, jv q1, .second, iv 0, iv 0] [(.int 0), (.ref ar), (.long q1)])) t → Steps p.tables e below (T13.setTop (mkF m 47 #[rv a1, rv ar, jv q1, .second, rv ob3, jv q1, .second, iv 0, iv 0] [])) t := by
    intro t k
    refine XS.lload X13.here hx rfl (hb hby d1_47) rfl ?_
    show Steps p.tables e below (T13.setTop (mkF m 49 #[rv a1, rv ar, jv q1, .second, rv ob3, jv q1, .second, iv 0, iv 0] [(.long q1)])) _
    refine XS.aloadN X13.here hx rfl (hb hby d1_49) rfl rfl ?_
    refine XS.iload X13.here hx rfl (hb hby d1_50) rfl ?_
    show Steps p.tables e below (T13.setTop (mkF m 52 #[rv a1, rv ar, jv q1, .second, rv ob3, jv q1, .second, iv 0, iv 0] [(.int 0), (.ref ar), (.long q1)])) _
    exact k
  refine own_lift sg14 ?_
  show own_Go p.tables e below (T13.setTop (mkF m 52 #[rv a1, rv ar, jv q1, .second, rv ob3, jv q1, .second, iv 0, iv 0] [(.int 0), (.ref ar), (.long q1)])) _
  have Fc15 : Arv Z h13 ar kc .long (1 : Int32) [(.long c0)] (.long (0 : Int64)) := (Fc6.other W13 ne4)
  obtain ⟨cl16, Ar16, qx16, Sx16, N16', H16', G16'⟩ := id (Fc15)
  have hin16 : ¬ ((0 : Int32) < 0 ∨ cl16.slots.size ≤ ((0 : Int32)).toNatClampNeg) := inb_of Sx16 ⟨(by decide : ¬ ((0 : Int32) < (0 : Int32))), (by decide : (0 : Int32) < (1 : Int32))⟩
  have hat16 : cl16.slots[((0 : Int32)).toNatClampNeg]? = some (.long c0) := Has.at H16' hin16 rfl
  have sg17 : ∀ t, Steps p.tables e below (T13.setTop (mkF m 15 #[rv a1, rv ar, jv q1, .second, rv ob3, jv (q1 * c0), .second, iv 1, iv 0] [(.ref ar), (.int 1)])) t → Steps p.tables e below (T13.setTop (mkF m 52 #[rv a1, rv ar, jv q1, .second, rv ob3, jv q1, .second, iv 0, iv 0] [(.int 0), (.ref ar), (.long q1)])) t := by
    intro t k
    refine X13.laload hx (j := (0 : Int32)) (v := (.long c0)) (by rw [e13]; exact Ar16.1) (State.isArrayOf_alike hZ.alike Ar16.2.1) Ar16.2.2 hin16 hat16 (g := (mkF m 52 #[rv a1, rv ar, jv q1, .second, rv ob3, jv q1, .second, iv 0, iv 0] [(.int 0), (.ref ar), (.long q1)])) rfl rfl (hb hby d1_52) _ ?_
    show Steps p.tables e below (T13.setTop (mkF m 53 #[rv a1, rv ar, jv q1, .second, rv ob3, jv q1, .second, iv 0, iv 0] [(.long c0), (.long q1)])) _
    refine XS.lmul X13.here hx rfl (hb hby d1_53) rfl ?_
    refine XS.lstore X13.here hx rfl (hb hby d1_54) rfl (l' := #[rv a1, rv ar, jv q1, .second, rv ob3, jv (q1 * c0), .second, iv 0, iv 0]) rfl ?_
    show Steps p.tables e below (T13.setTop (mkF m 56 #[rv a1, rv ar, jv q1, .second, rv ob3, jv (q1 * c0), .second, iv 0, iv 0] [])) _
    refine XS.iinc X13.here hx rfl (hb hby d1_56) rfl (l' := #[rv a1, rv ar, jv q1, .second, rv ob3, jv (q1 * c0), .second, iv 1, iv 0]) rfl ?_
    refine XS.goto X13.here hx rfl (pc0 := 59) (pc' := 12) rfl (hb hby d1_59) (by decide) (by decide) ?_
    show Steps p.tables e below (T13.setTop (mkF m 12 #[rv a1, rv ar, jv q1, .second, rv ob3, jv (q1 * c0), .second, iv 1, iv 0] [])) _
    refine XS.iload X13.here hx rfl (hb hby d1_12) rfl ?_
    refine XS.aloadN X13.here hx rfl (hb hby d1_14) rfl rfl ?_
    show Steps p.tables e below (T13.setTop (mkF m 15 #[rv a1, rv ar, jv q1, .second, rv ob3, jv (q1 * c0), .second, iv 1, iv 0] [(.ref ar), (.int 1)])) _
    exact k
  refine own_lift sg17 ?_
  show own_Go p.tables e below (T13.setTop (mkF m 15 #[rv a1, rv ar, jv q1, .second, rv ob3, jv (q1 * c0), .second, iv 1, iv 0] [(.ref ar), (.int 1)])) _
  obtain ⟨cl18, Ar18, -, Sx18, N18', -, -⟩ := id (Fc15)
  have st18 : ∀ t, Steps p.tables e below (T13.setTop (mkF m 16 #[rv a1, rv ar, jv q1, .second, rv ob3, jv (q1 * c0), .second, iv 1, iv 0] [(.int 1), (.int 1)])) t → Steps p.tables e below (T13.setTop (mkF m 15 #[rv a1, rv ar, jv q1, .second, rv ob3, jv (q1 * c0), .second, iv 1, iv 0] [(.ref ar), (.int 1)])) t := by
    intro t k
    refine X13.arraylength hx (by rw [e13]; exact Ar18.1) (State.isArrayOf_alike hZ.alike Ar18.2.1) (g := (mkF m 15 #[rv a1, rv ar, jv q1, .second, rv ob3, jv (q1 * c0), .second, iv 1, iv 0] [(.ref ar), (.int 1)])) rfl rfl (hb hby d1_15) _ ?_
    rw [len_of Sx18 N18']
    exact k
  refine own_lift st18 ?_
  show own_Go p.tables e below (T13.setTop (mkF m 16 #[rv a1, rv ar, jv q1, .second, rv ob3, jv (q1 * c0), .second, iv 1, iv 0] [(.int 1), (.int 1)])) _
  have sg19 : ∀ t, Steps p.tables e below (T13.setTop (mkF m 64 #[rv a1, rv ar, jv q1, .second, rv ob3, jv (q1 * c0), .second, iv 1, iv 0] [(.ref ob3)])) t → Steps p.tables e below (T13.setTop (mkF m 16 #[rv a1, rv ar, jv q1, .second, rv ob3, jv (q1 * c0), .second, iv 1, iv 0] [(.int 1), (.int 1)])) t := by
    intro t k
    refine XS.icmpYes X13.here hx rfl (pc0 := 16) (pc' := 62) rfl (hb hby d1_16) rfl (flt (by decide : ¬ ((1 : Int32) < (1 : Int32)))).2.1 (by decide) (by decide) ?_
    show Steps p.tables e below (T13.setTop (mkF m 62 #[rv a1, rv ar, jv q1, .second, rv ob3, jv (q1 * c0), .second, iv 1, iv 0] [])) _
    refine XS.aload X13.here hx rfl (hb hby d1_62) rfl rfl ?_
    show Steps p.tables e below (T13.setTop (mkF m 64 #[rv a1, rv ar, jv q1, .second, rv ob3, jv (q1 * c0), .second, iv 1, iv 0] [(.ref ob3)])) _
    exact k
  refine own_lift sg19 ?_
  show own_Go p.tables e below (T13.setTop (mkF m 64 #[rv a1, rv ar, jv q1, .second, rv ob3, jv (q1 * c0), .second, iv 1, iv 0] [(.ref ob3)])) _
  obtain ⟨fs, hr, hrun, hended, hW, hsame⟩ := X13.leave (v := some (.ref ob3)) (fun h => by rw [Bd.returns] at h; cases h)
  refine ⟨_, _, ?_, hrun, hended, _, _, rfl, ?_, ⟨_, rfl⟩, hW, hsame.mono (by decide) (by decide)⟩
  · exact retOut X13 hx Bd.returns rfl (Or.inr (Or.inr (Or.inr (Or.inr ⟨rfl, rfl, rfl⟩)))) (hb hby d1_64) hr
  · show Q_rmStr1L Z a1 ar q1 fa kc c0 h0 n0 _ T13.heap _
    rw [e13]
    exact ⟨ob3, ka3, rfl, N13, K13, gh3, Vn13⟩
def Q_rmStr2F (Z : State) (a1 : Addr) (ar : Addr) (q1 : Int64) (kc : ClassId) (c0 : Int64) (c1 : Int64) (h0 : Heap) (n0 : Nat) (v : Option Value) (h : Heap) (L : List Loc) : Prop := ∃ b : Addr, ∃ kb : ClassId, v = some (.ref b) ∧ Fr n0 L ∧ Keep h0 h [] ∧ h0.size ≤ b ∧ Arv Z h b kb .long (2 : Int32) [(.long (q1 * c1)), (.long q1)] (.long (0 : Int64))
theorem ef_rmStr2F (m : MethodId) (x0 : Addr) (x1 : Addr) (x2 : Int64) : entryFrame m #[(.ref x0), (.ref x1), (.long x2)] 9 = mkF m 0 #[.val (.ref x0), .val (.ref x1), .val (.long x2), .second, .unset, .unset, .unset, .unset, .unset] [] := by first | (simp [entryFrame, mkF, argsToLocals, Value.category]; done) | rfl
set_option maxRecDepth 65536 in
set_option maxHeartbeats 40000000 in
theorem rmStr2F (l : Launch) (Z : State) (a0 : Array Value) (hw : ∀ d ∈ tables_1, d.before a0 Z = true) (ws : List Jvm.Cond) (a1 : Addr) (ar : Addr) (q1 : Int64) (kc : ClassId) (c0 : Int64) (c1 : Int64) (h0 : Heap) (n0 : Nat) (Z0 : n0 ≤ h0.size) (V1 : Arv Z h0 ar kc .long (2 : Int32) [(.long c0), (.long c1)] (.long (0 : Int64))) (S1 : Sta Z h0 "com/example/halyard/halyard/east/ArrayStorage" "FIRST_INDEX_FIRST" "Lcom/example/halyard/halyard/east/ArrayStorage;" (.ref a1))  :
    MetFree l (⟨"com/example/halyard/halyard/east/ArrayStorage", "strides", "([JJ)[J"⟩ : MethodName) (head1 (Jvm.Cond.code (⟨"com/example/halyard/halyard/east/ArrayStorage", "strides", "([JJ)[J"⟩ : MethodName) prog_65_method_4_code 9 (some (.array .long)) :: ws) ({ frames := 0, cells := 1, slots := 2, locals := 0 } : Room)) (fun a U => a = #[(.ref a1), (.ref ar), (.long q1)] ∧ Z.Warmed39 U.vm ∧ U.heap = h0) (fun _ _ _ _ _ => True) (fun _ U o U' => ∃ v L, o = .returned v ∧ Q_rmStr2F Z a1 ar q1 kc c0 c1 h0 n0 v U'.heap L ∧ FrameEnd U o U' L ({ frames := 0, cells := 1, slots := 2, locals := 0 } : Room).cells ({ frames := 0, cells := 1, slots := 2, locals := 0 } : Room).slots) := by
  refine MetFree.of_bodySF (plainFor_of_name pn_0) hisR ?_
  intro p e s m args below meth c s₁ Bd hml0 hP hK
  obtain ⟨rfl, hZ, hh⟩ := hP
  have hx := Bd.exec
  have hby := Bd.bytes
  have hml : c.maxLocals = 9 := hml0
  have hown : s.vm.findClass "com/example/halyard/halyard/east/ArrayStorage" = some m.cls := findClass_of_methodNamed Bd.named
  have hnm := (name_of_methodNamed Bd.named Bd.method).1
  have X0 : Stand p l e ({ frames := 0, cells := 1, slots := 2, locals := 0 } : Room) s m #[(.ref a1), (.ref ar), (.long q1)] below meth c s₁ [] 0 0 := Stand.of_body Bd
  have e0 : s₁.heap = h0 := by rw [← hh, Bd.state]; rfl
  have N0 := Fr.nil n0
  refine own_go (own_lift (fun t k => castTop (ef_rmStr2F m a1 ar q1) k) ?_)
  show own_Go p.tables e below (s₁.setTop (mkF m 0 #[rv a1, rv ar, jv q1, .second, .unset, .unset, .unset, .unset, .unset] [])) _
  have sg1 : ∀ t, Steps p.tables e below (s₁.setTop (mkF m 1 #[rv a1, rv ar, jv q1, .second, .unset, .unset, .unset, .unset, .unset] [(.ref ar)])) t → Steps p.tables e below (s₁.setTop (mkF m 0 #[rv a1, rv ar, jv q1, .second, .unset, .unset, .unset, .unset, .unset] [])) t := by
    intro t k
    refine XS.aloadN X0.here hx rfl (hb hby d1_0) rfl rfl ?_
    show Steps p.tables e below (s₁.setTop (mkF m 1 #[rv a1, rv ar, jv q1, .second, .unset, .unset, .unset, .unset, .unset] [(.ref ar)])) _
    exact k
  refine own_lift sg1 ?_
  show own_Go p.tables e below (s₁.setTop (mkF m 1 #[rv a1, rv ar, jv q1, .second, .unset, .unset, .unset, .unset, .unset] [(.ref ar)])) _
  obtain ⟨cl2, Ar2, -, Sx2, N2', -, -⟩ := id (V1)
  have st2 : ∀ t, Steps p.tables e below (s₁.setTop (mkF m 2 #[rv a1, rv ar, jv q1, .second, .unset, .unset, .unset, .unset, .unset] [(.int 2)])) t → Steps p.tables e below (s₁.setTop (mkF m 1 #[rv a1, rv ar, jv q1, .second, .unset, .unset, .unset, .unset, .unset] [(.ref ar)])) t := by
    intro t k
    refine X0.arraylength hx (by rw [e0]; exact Ar2.1) (State.isArrayOf_alike hZ.alike Ar2.2.1) (g := (mkF m 1 #[rv a1, rv ar, jv q1, .second, .unset, .unset, .unset, .unset, .unset] [(.ref ar)])) rfl rfl (hb hby d1_1) _ ?_
    rw [len_of Sx2 N2']
    exact k
  refine own_lift st2 ?_
  show own_Go p.tables e below (s₁.setTop (mkF m 2 #[rv a1, rv ar, jv q1, .second, .unset, .unset, .unset, .unset, .unset] [(.int 2)])) _
  obtain ⟨T3, h3, ka3, X3, e3, Ex3, Ax3, st3⟩ := newP X0 hx hZ (wd hw 2 rfl) e0 (g := (mkF m 2 #[rv a1, rv ar, jv q1, .second, .unset, .unset, .unset, .unset, .unset] [(.int 2)])) rfl (hb hby d1_2) rfl (by decide) (cap := 2) (by decide) (by decide) (by decide) (by decide)
  obtain ⟨ob3, g3⟩ : ∃ z, z = h0.size := ⟨_, rfl⟩
  rw [← g3] at Ax3 st3
  have ne4 : ar ≠ ob3 := Nat.ne_of_lt (Nat.lt_of_lt_of_le V1.lt (Nat.le_of_eq g3.symm))
  have Z3 : n0 ≤ h3.size := Nat.le_trans Z0 Ex3.1
  have ge3 : n0 ≤ ob3 := Nat.le_trans Z0 (Nat.le_of_eq g3.symm)
  have gh3 : h0.size ≤ ob3 := Nat.le_trans (Keep.refl h0 []).1 (Nat.le_of_eq g3.symm)
  have K3 : Keep h0 h3 [] := (Keep.refl h0 []).ext Ex3
  have Vn3 : Arv Z h3 ob3 ka3 .long (2 : Int32) [(.long 0), (.long 0)] (.long 0) := (Arv.new Ax3 (by decide)).pad (pad_rep [] (.long 0) 2)
  refine own_lift st3 ?_
  show own_Go p.tables e below (T3.setTop (mkF m 4 #[rv a1, rv ar, jv q1, .second, .unset, .unset, .unset, .unset, .unset] [(.ref ob3)])) _
  have sg5 : ∀ t, Steps p.tables e below (T3.setTop (mkF m 15 #[rv a1, rv ar, jv q1, .second, rv ob3, jv q1, .second, iv 0, .unset] [(.ref ar), (.int 0)])) t → Steps p.tables e below (T3.setTop (mkF m 4 #[rv a1, rv ar, jv q1, .second, .unset, .unset, .unset, .unset, .unset] [(.ref ob3)])) t := by
    intro t k
    refine XS.astore X3.here hx rfl (hb hby d1_4) rfl rfl (l' := #[rv a1, rv ar, jv q1, .second, rv ob3, .unset, .unset, .unset, .unset]) rfl ?_
    show Steps p.tables e below (T3.setTop (mkF m 6 #[rv a1, rv ar, jv q1, .second, rv ob3, .unset, .unset, .unset, .unset] [])) _
    refine XS.lloadN X3.here hx rfl (hb hby d1_6) rfl ?_
    refine XS.lstore X3.here hx rfl (hb hby d1_7) rfl (l' := #[rv a1, rv ar, jv q1, .second, rv ob3, jv q1, .second, .unset, .unset]) rfl ?_
    show Steps p.tables e below (T3.setTop (mkF m 9 #[rv a1, rv ar, jv q1, .second, rv ob3, jv q1, .second, .unset, .unset] [])) _
    refine XS.iconst X3.here hx rfl (hb hby d1_9) ?_
    refine XS.istore X3.here hx rfl (hb hby d1_10) rfl (l' := #[rv a1, rv ar, jv q1, .second, rv ob3, jv q1, .second, iv 0, .unset]) rfl ?_
    show Steps p.tables e below (T3.setTop (mkF m 12 #[rv a1, rv ar, jv q1, .second, rv ob3, jv q1, .second, iv 0, .unset] [])) _
    refine XS.iload X3.here hx rfl (hb hby d1_12) rfl ?_
    refine XS.aloadN X3.here hx rfl (hb hby d1_14) rfl rfl ?_
    show Steps p.tables e below (T3.setTop (mkF m 15 #[rv a1, rv ar, jv q1, .second, rv ob3, jv q1, .second, iv 0, .unset] [(.ref ar), (.int 0)])) _
    exact k
  refine own_lift sg5 ?_
  show own_Go p.tables e below (T3.setTop (mkF m 15 #[rv a1, rv ar, jv q1, .second, rv ob3, jv q1, .second, iv 0, .unset] [(.ref ar), (.int 0)])) _
  have Fc6 : Arv Z h3 ar kc .long (2 : Int32) [(.long c0), (.long c1)] (.long (0 : Int64)) := (V1.ext Ex3)
  obtain ⟨cl7, Ar7, -, Sx7, N7', -, -⟩ := id (Fc6)
  have st7 : ∀ t, Steps p.tables e below (T3.setTop (mkF m 16 #[rv a1, rv ar, jv q1, .second, rv ob3, jv q1, .second, iv 0, .unset] [(.int 2), (.int 0)])) t → Steps p.tables e below (T3.setTop (mkF m 15 #[rv a1, rv ar, jv q1, .second, rv ob3, jv q1, .second, iv 0, .unset] [(.ref ar), (.int 0)])) t := by
    intro t k
    refine X3.arraylength hx (by rw [e3]; exact Ar7.1) (State.isArrayOf_alike hZ.alike Ar7.2.1) (g := (mkF m 15 #[rv a1, rv ar, jv q1, .second, rv ob3, jv q1, .second, iv 0, .unset] [(.ref ar), (.int 0)])) rfl rfl (hb hby d1_15) _ ?_
    rw [len_of Sx7 N7']
    exact k
  refine own_lift st7 ?_
  show own_Go p.tables e below (T3.setTop (mkF m 16 #[rv a1, rv ar, jv q1, .second, rv ob3, jv q1, .second, iv 0, .unset] [(.int 2), (.int 0)])) _
  have sg8 : ∀ t, Steps p.tables e below (T3.setTop (mkF m 20 #[rv a1, rv ar, jv q1, .second, rv ob3, jv q1, .second, iv 0, .unset] [(.ref a1)])) t → Steps p.tables e below (T3.setTop (mkF m 16 #[rv a1, rv ar, jv q1, .second, rv ob3, jv q1, .second, iv 0, .unset] [(.int 2), (.int 0)])) t := by
    intro t k
    refine XS.icmpNo X3.here hx rfl (hb hby d1_16) rfl (tlt (by decide : (0 : Int32) < (2 : Int32))).2.1 ?_
    show Steps p.tables e below (T3.setTop (mkF m 19 #[rv a1, rv ar, jv q1, .second, rv ob3, jv q1, .second, iv 0, .unset] [])) _
    refine XS.aloadN X3.here hx rfl (hb hby d1_19) rfl rfl ?_
    show Steps p.tables e below (T3.setTop (mkF m 20 #[rv a1, rv ar, jv q1, .second, rv ob3, jv q1, .second, iv 0, .unset] [(.ref a1)])) _
    exact k
  refine own_lift sg8 ?_
  show own_Go p.tables e below (T3.setTop (mkF m 20 #[rv a1, rv ar, jv q1, .second, rv ob3, jv q1, .second, iv 0, .unset] [(.ref a1)])) _
  have Fc9 : Sta Z h3 "com/example/halyard/halyard/east/ArrayStorage" "FIRST_INDEX_FIRST" "Lcom/example/halyard/halyard/east/ArrayStorage;" (.ref a1) := (S1.ext Ex3)
  obtain ⟨T10, X10, e10, st10⟩ := getS X3 hx hZ hown (host := "") (wd hw 13 rfl) Via.refl e3 Fc9 (g := (mkF m 20 #[rv a1, rv ar, jv q1, .second, rv ob3, jv q1, .second, iv 0, .unset] [(.ref a1)])) rfl (hb hby d1_20)
  refine own_lift st10 ?_
  show own_Go p.tables e below (T10.setTop (mkF m 23 #[rv a1, rv ar, jv q1, .second, rv ob3, jv q1, .second, iv 0, .unset] [(.ref a1), (.ref a1)])) _
  have sg11 : ∀ t, Steps p.tables e below (T10.setTop (mkF m 27 #[rv a1, rv ar, jv q1, .second, rv ob3, jv q1, .second, iv 0, .unset] [(.ref ar)])) t → Steps p.tables e below (T10.setTop (mkF m 23 #[rv a1, rv ar, jv q1, .second, rv ob3, jv q1, .second, iv 0, .unset] [(.ref a1), (.ref a1)])) t := by
    intro t k
    refine Jvm.RoadKit.acmp (g := (mkF m 23 #[rv a1, rv ar, jv q1, .second, rv ob3, jv q1, .second, iv 0, .unset] [(.ref a1), (.ref a1)])) X10 hx rfl rfl rfl (pc0 := 23) (pc' := 26) (same := true) rfl (hb hby d1_23) rfl (decide_eq_true rfl) (by decide) (by decide) ?_
    show Steps p.tables e below (T10.setTop (mkF m 26 #[rv a1, rv ar, jv q1, .second, rv ob3, jv q1, .second, iv 0, .unset] [])) _
    refine XS.aloadN X10.here hx rfl (hb hby d1_26) rfl rfl ?_
    show Steps p.tables e below (T10.setTop (mkF m 27 #[rv a1, rv ar, jv q1, .second, rv ob3, jv q1, .second, iv 0, .unset] [(.ref ar)])) _
    exact k
  refine own_lift sg11 ?_
  show own_Go p.tables e below (T10.setTop (mkF m 27 #[rv a1, rv ar, jv q1, .second, rv ob3, jv q1, .second, iv 0, .unset] [(.ref ar)])) _
  obtain ⟨cl12, Ar12, -, Sx12, N12', -, -⟩ := id (Fc6)
  have st12 : ∀ t, Steps p.tables e below (T10.setTop (mkF m 28 #[rv a1, rv ar, jv q1, .second, rv ob3, jv q1, .second, iv 0, .unset] [(.int 2)])) t → Steps p.tables e below (T10.setTop (mkF m 27 #[rv a1, rv ar, jv q1, .second, rv ob3, jv q1, .second, iv 0, .unset] [(.ref ar)])) t := by
    intro t k
    refine X10.arraylength hx (by rw [e10]; exact Ar12.1) (State.isArrayOf_alike hZ.alike Ar12.2.1) (g := (mkF m 27 #[rv a1, rv ar, jv q1, .second, rv ob3, jv q1, .second, iv 0, .unset] [(.ref ar)])) rfl rfl (hb hby d1_27) _ ?_
    rw [len_of Sx12 N12']
    exact k
  refine own_lift st12 ?_
  show own_Go p.tables e below (T10.setTop (mkF m 28 #[rv a1, rv ar, jv q1, .second, rv ob3, jv q1, .second, iv 0, .unset] [(.int 2)])) _
  have sg13 : ∀ t, Steps p.tables e below (T10.setTop (mkF m 46 #[rv a1, rv ar, jv q1, .second, rv ob3, jv q1, .second, iv 0, iv 1] [(.long q1), (.int 1), (.ref ob3)])) t → Steps p.tables e below (T10.setTop (mkF m 28 #[rv a1, rv ar, jv q1, .second, rv ob3, jv q1, .second, iv 0, .unset] [(.int 2)])) t := by
    intro t k
    refine XS.iconst X10.here hx rfl (hb hby d1_28) ?_
    show Steps p.tables e below (T10.setTop (mkF m 29 #[rv a1, rv ar, jv q1, .second, rv ob3, jv q1, .second, iv 0, .unset] [(.int 1), (.int 2)])) _
    refine XS.isub X10.here hx rfl (hb hby d1_29) rfl ?_
    refine XS.iload X10.here hx rfl (hb hby d1_30) rfl ?_
    show Steps p.tables e below (T10.setTop (mkF m 32 #[rv a1, rv ar, jv q1, .second, rv ob3, jv q1, .second, iv 0, .unset] [(.int 0), (.int 1)])) _
    refine XS.isub X10.here hx rfl (hb hby d1_32) rfl ?_
    refine XS.goto X10.here hx rfl (pc0 := 33) (pc' := 38) rfl (hb hby d1_33) (by decide) (by decide) ?_
    show Steps p.tables e below (T10.setTop (mkF m 38 #[rv a1, rv ar, jv q1, .second, rv ob3, jv q1, .second, iv 0, .unset] [(.int 1)])) _
    refine XS.istore X10.here hx rfl (hb hby d1_38) rfl (l' := #[rv a1, rv ar, jv q1, .second, rv ob3, jv q1, .second, iv 0, iv 1]) rfl ?_
    refine XS.aload X10.here hx rfl (hb hby d1_40) rfl rfl ?_
    show Steps p.tables e below (T10.setTop (mkF m 42 #[rv a1, rv ar, jv q1, .second, rv ob3, jv q1, .second, iv 0, iv 1] [(.ref ob3)])) _
    refine XS.iload X10.here hx rfl (hb hby d1_42) rfl ?_
    refine XS.lload X10.here hx rfl (hb hby d1_44) rfl ?_
    show Steps p.tables e below (T10.setTop (mkF m 46 #[rv a1, rv ar, jv q1, .second, rv ob3, jv q1, .second, iv 0, iv 1] [(.long q1), (.int 1), (.ref ob3)])) _
    exact k
  refine own_lift sg13 ?_
  show own_Go p.tables e below (T10.setTop (mkF m 46 #[rv a1, rv ar, jv q1, .second, rv ob3, jv q1, .second, iv 0, iv 1] [(.long q1), (.int 1), (.ref ob3)])) _
  obtain ⟨cl14, Ar14, qx14, Sx14, N14', H14', G14'⟩ := id (Vn3)
  have hin14 : ¬ ((1 : Int32) < 0 ∨ cl14.slots.size ≤ ((1 : Int32)).toNatClampNeg) := inb_of Sx14 ⟨(by decide : ¬ ((1 : Int32) < (0 : Int32))), (by decide : (1 : Int32) < (2 : Int32))⟩
  obtain ⟨T15, h15, X15, e15, W15, st15⟩ := stJ X10 hx hZ e10 Ar14 (j := (1 : Int32)) hin14 (g := (mkF m 46 #[rv a1, rv ar, jv q1, .second, rv ob3, jv q1, .second, iv 0, iv 1] [(.long q1), (.int 1), (.ref ob3)])) rfl rfl (hb hby d1_46)
  have N15 := Fr.snoc X15 N0 ge3
  have Z15 : n0 ≤ h15.size := Nat.le_trans Z3 (Nat.le_of_eq W15.size.symm)
  have K15 : Keep h0 h15 [] := K3.wr W15 (Or.inr gh3)
  have Vn15 : Arv Z h15 ob3 ka3 .long (2 : Int32) [(.long 0), (.long q1)] (.long 0) := Arv.set Ar14 qx14 Sx14 N14' H14' G14' rfl W15 1 rfl (Nat.le_of_ble_eq_true rfl)
  refine own_lift st15 ?_
  show own_Go p.tables e below (T15.setTop (mkF m 47 #[rv a1, rv ar, jv q1, .second, rv ob3, jv q1, .second, iv 0, iv 1] [])) _
  have sg16 : ∀ t, Steps p.tables e below (T15.setTop (mkF m 52 #[rv a1, rv ar, jv q1, .second, rv ob3, jv q1, .second, iv 0, iv 1] [(.int 1), (.ref ar), (.long q1)])) t → Steps p.tables e below (T15.setTop (mkF m 47 #[rv a1, rv ar, jv q1, .second, rv ob3, jv q1, .second, iv 0, iv 1] [])) t := by
    intro t k
    refine XS.lload X15.here hx rfl (hb hby d1_47) rfl ?_
    show Steps p.tables e below (T15.setTop (mkF m 49 #[rv a1, rv ar, jv q1, .second, rv ob3, jv q1, .second, iv 0, iv 1] [(.long q1)])) _
    refine XS.aloadN X15.here hx rfl (hb hby d1_49) rfl rfl ?_
    refine XS.iload X15.here hx rfl (hb hby d1_50) rfl ?_
    show Steps p.tables e below (T15.setTop (mkF m 52 #[rv a1, rv ar, jv q1, .second, rv ob3, jv q1, .second, iv 0, iv 1] [(.int 1), (.ref ar), (.long q1)])) _
    exact k
  refine own_lift sg16 ?_
  show own_Go p.tables e below (T15.setTop (mkF m 52 #[rv a1, rv ar, jv q1, .second, rv ob3, jv q1, .second, iv 0, iv 1] [(.int 1), (.ref ar), (.long q1)])) _
  have Fc17 : Arv Z h15 ar kc .long (2 : Int32) [(.long c0), (.long c1)] (.long (0 : Int64)) := (Fc6.other W15 ne4)
  obtain ⟨cl18, Ar18, qx18, Sx18, N18', H18', G18'⟩ := id (Fc17)
  have hin18 : ¬ ((1 : Int32) < 0 ∨ cl18.slots.size ≤ ((1 : Int32)).toNatClampNeg) := inb_of Sx18 ⟨(by decide : ¬ ((1 : Int32) < (0 : Int32))), (by decide : (1 : Int32) < (2 : Int32))⟩
  have hat18 : cl18.slots[((1 : Int32)).toNatClampNeg]? = some (.long c1) := Has.at H18' hin18 rfl
  have sg19 : ∀ t, Steps p.tables e below (T15.setTop (mkF m 15 #[rv a1, rv ar, jv q1, .second, rv ob3, jv (q1 * c1), .second, iv 1, iv 1] [(.ref ar), (.int 1)])) t → Steps p.tables e below (T15.setTop (mkF m 52 #[rv a1, rv ar, jv q1, .second, rv ob3, jv q1, .second, iv 0, iv 1] [(.int 1), (.ref ar), (.long q1)])) t := by
    intro t k
    refine X15.laload hx (j := (1 : Int32)) (v := (.long c1)) (by rw [e15]; exact Ar18.1) (State.isArrayOf_alike hZ.alike Ar18.2.1) Ar18.2.2 hin18 hat18 (g := (mkF m 52 #[rv a1, rv ar, jv q1, .second, rv ob3, jv q1, .second, iv 0, iv 1] [(.int 1), (.ref ar), (.long q1)])) rfl rfl (hb hby d1_52) _ ?_
    show Steps p.tables e below (T15.setTop (mkF m 53 #[rv a1, rv ar, jv q1, .second, rv ob3, jv q1, .second, iv 0, iv 1] [(.long c1), (.long q1)])) _
    refine XS.lmul X15.here hx rfl (hb hby d1_53) rfl ?_
    refine XS.lstore X15.here hx rfl (hb hby d1_54) rfl (l' := #[rv a1, rv ar, jv q1, .second, rv ob3, jv (q1 * c1), .second, iv 0, iv 1]) rfl ?_
    show Steps p.tables e below (T15.setTop (mkF m 56 #[rv a1, rv ar, jv q1, .second, rv ob3, jv (q1 * c1), .second, iv 0, iv 1] [])) _
    refine XS.iinc X15.here hx rfl (hb hby d1_56) rfl (l' := #[rv a1, rv ar, jv q1, .second, rv ob3, jv (q1 * c1), .second, iv 1, iv 1]) rfl ?_
    refine XS.goto X15.here hx rfl (pc0 := 59) (pc' := 12) rfl (hb hby d1_59) (by decide) (by decide) ?_
    show Steps p.tables e below (T15.setTop (mkF m 12 #[rv a1, rv ar, jv q1, .second, rv ob3, jv (q1 * c1), .second, iv 1, iv 1] [])) _
    refine XS.iload X15.here hx rfl (hb hby d1_12) rfl ?_
    refine XS.aloadN X15.here hx rfl (hb hby d1_14) rfl rfl ?_
    show Steps p.tables e below (T15.setTop (mkF m 15 #[rv a1, rv ar, jv q1, .second, rv ob3, jv (q1 * c1), .second, iv 1, iv 1] [(.ref ar), (.int 1)])) _
    exact k
  refine own_lift sg19 ?_
  show own_Go p.tables e below (T15.setTop (mkF m 15 #[rv a1, rv ar, jv q1, .second, rv ob3, jv (q1 * c1), .second, iv 1, iv 1] [(.ref ar), (.int 1)])) _
  obtain ⟨cl20, Ar20, -, Sx20, N20', -, -⟩ := id (Fc17)
  have st20 : ∀ t, Steps p.tables e below (T15.setTop (mkF m 16 #[rv a1, rv ar, jv q1, .second, rv ob3, jv (q1 * c1), .second, iv 1, iv 1] [(.int 2), (.int 1)])) t → Steps p.tables e below (T15.setTop (mkF m 15 #[rv a1, rv ar, jv q1, .second, rv ob3, jv (q1 * c1), .second, iv 1, iv 1] [(.ref ar), (.int 1)])) t := by
    intro t k
    refine X15.arraylength hx (by rw [e15]; exact Ar20.1) (State.isArrayOf_alike hZ.alike Ar20.2.1) (g := (mkF m 15 #[rv a1, rv ar, jv q1, .second, rv ob3, jv (q1 * c1), .second, iv 1, iv 1] [(.ref ar), (.int 1)])) rfl rfl (hb hby d1_15) _ ?_
    rw [len_of Sx20 N20']
    exact k
  refine own_lift st20 ?_
  show own_Go p.tables e below (T15.setTop (mkF m 16 #[rv a1, rv ar, jv q1, .second, rv ob3, jv (q1 * c1), .second, iv 1, iv 1] [(.int 2), (.int 1)])) _
  have sg21 : ∀ t, Steps p.tables e below (T15.setTop (mkF m 20 #[rv a1, rv ar, jv q1, .second, rv ob3, jv (q1 * c1), .second, iv 1, iv 1] [(.ref a1)])) t → Steps p.tables e below (T15.setTop (mkF m 16 #[rv a1, rv ar, jv q1, .second, rv ob3, jv (q1 * c1), .second, iv 1, iv 1] [(.int 2), (.int 1)])) t := by
    intro t k
    refine XS.icmpNo X15.here hx rfl (hb hby d1_16) rfl (tlt (by decide : (1 : Int32) < (2 : Int32))).2.1 ?_
    show Steps p.tables e below (T15.setTop (mkF m 19 #[rv a1, rv ar, jv q1, .second, rv ob3, jv (q1 * c1), .second, iv 1, iv 1] [])) _
    refine XS.aloadN X15.here hx rfl (hb hby d1_19) rfl rfl ?_
    show Steps p.tables e below (T15.setTop (mkF m 20 #[rv a1, rv ar, jv q1, .second, rv ob3, jv (q1 * c1), .second, iv 1, iv 1] [(.ref a1)])) _
    exact k
  refine own_lift sg21 ?_
  show own_Go p.tables e below (T15.setTop (mkF m 20 #[rv a1, rv ar, jv q1, .second, rv ob3, jv (q1 * c1), .second, iv 1, iv 1] [(.ref a1)])) _
  have Fc22 : Sta Z h15 "com/example/halyard/halyard/east/ArrayStorage" "FIRST_INDEX_FIRST" "Lcom/example/halyard/halyard/east/ArrayStorage;" (.ref a1) := (Fc9.wr W15)
  obtain ⟨T23, X23, e23, st23⟩ := getS X15 hx hZ hown (host := "") (wd hw 13 rfl) Via.refl e15 Fc22 (g := (mkF m 20 #[rv a1, rv ar, jv q1, .second, rv ob3, jv (q1 * c1), .second, iv 1, iv 1] [(.ref a1)])) rfl (hb hby d1_20)
  refine own_lift st23 ?_
  show own_Go p.tables e below (T23.setTop (mkF m 23 #[rv a1, rv ar, jv q1, .second, rv ob3, jv (q1 * c1), .second, iv 1, iv 1] [(.ref a1), (.ref a1)])) _
  have sg24 : ∀ t, Steps p.tables e below (T23.setTop (mkF m 27 #[rv a1, rv ar, jv q1, .second, rv ob3, jv (q1 * c1), .second, iv 1, iv 1] [(.ref ar)])) t → Steps p.tables e below (T23.setTop (mkF m 23 #[rv a1, rv ar, jv q1, .second, rv ob3, jv (q1 * c1), .second, iv 1, iv 1] [(.ref a1), (.ref a1)])) t := by
    intro t k
    refine Jvm.RoadKit.acmp (g := (mkF m 23 #[rv a1, rv ar, jv q1, .second, rv ob3, jv (q1 * c1), .second, iv 1, iv 1] [(.ref a1), (.ref a1)])) X23 hx rfl rfl rfl (pc0 := 23) (pc' := 26) (same := true) rfl (hb hby d1_23) rfl (decide_eq_true rfl) (by decide) (by decide) ?_
    show Steps p.tables e below (T23.setTop (mkF m 26 #[rv a1, rv ar, jv q1, .second, rv ob3, jv (q1 * c1), .second, iv 1, iv 1] [])) _
    refine XS.aloadN X23.here hx rfl (hb hby d1_26) rfl rfl ?_
    show Steps p.tables e below (T23.setTop (mkF m 27 #[rv a1, rv ar, jv q1, .second, rv ob3, jv (q1 * c1), .second, iv 1, iv 1] [(.ref ar)])) _
    exact k
  refine own_lift sg24 ?_
  show own_Go p.tables e below (T23.setTop (mkF m 27 #[rv a1, rv ar, jv q1, .second, rv ob3, jv (q1 * c1), .second, iv 1, iv 1] [(.ref ar)])) _
  obtain ⟨cl25, Ar25, -, Sx25, N25', -, -⟩ := id (Fc17)
  have st25 : ∀ t, Steps p.tables e below (T23.setTop (mkF m 28 #[rv a1, rv ar, jv q1, .second, rv ob3, jv (q1 * c1), .second, iv 1, iv 1] [(.int 2)])) t → Steps p.tables e below (T23.setTop (mkF m 27 #[rv a1, rv ar, jv q1, .second, rv ob3, jv (q1 * c1), .second, iv 1, iv 1] [(.ref ar)])) t := by
    intro t k
    refine X23.arraylength hx (by rw [e23]; exact Ar25.1) (State.isArrayOf_alike hZ.alike Ar25.2.1) (g := (mkF m 27 #[rv a1, rv ar, jv q1, .second, rv ob3, jv (q1 * c1), .second, iv 1, iv 1] [(.ref ar)])) rfl rfl (hb hby d1_27) _ ?_
    rw [len_of Sx25 N25']
    exact k
  refine own_lift st25 ?_
  show own_Go p.tables e below (T23.setTop (mkF m 28 #[rv a1, rv ar, jv q1, .second, rv ob3, jv (q1 * c1), .second, iv 1, iv 1] [(.int 2)])) _
  have sg26 : ∀ t, Steps p.tables e below (T23.setTop (mkF m 46 #[rv a1, rv ar, jv q1, .second, rv ob3, jv (q1 * c1), .second, iv 1, iv 0] [(.long (q1 * c1)), (.int 0), (.ref ob3)])) t → Steps p.tables e below (T23.setTop (mkF m 28 #[rv a1, rv ar, jv q1, .second, rv ob3, jv (q1 * c1), .second, iv 1, iv 1] [(.int 2)])) t := by
    intro t k
    refine XS.iconst X23.here hx rfl (hb hby d1_28) ?_
    show Steps p.tables e below (T23.setTop (mkF m 29 #[rv a1, rv ar, jv q1, .second, rv ob3, jv (q1 * c1), .second, iv 1, iv 1] [(.int 1), (.int 2)])) _
    refine XS.isub X23.here hx rfl (hb hby d1_29) rfl ?_
    refine XS.iload X23.here hx rfl (hb hby d1_30) rfl ?_
    show Steps p.tables e below (T23.setTop (mkF m 32 #[rv a1, rv ar, jv q1, .second, rv ob3, jv (q1 * c1), .second, iv 1, iv 1] [(.int 1), (.int 1)])) _
    refine XS.isub X23.here hx rfl (hb hby d1_32) rfl ?_
    refine XS.goto X23.here hx rfl (pc0 := 33) (pc' := 38) rfl (hb hby d1_33) (by decide) (by decide) ?_
    show Steps p.tables e below (T23.setTop (mkF m 38 #[rv a1, rv ar, jv q1, .second, rv ob3, jv (q1 * c1), .second, iv 1, iv 1] [(.int 0)])) _
    refine XS.istore X23.here hx rfl (hb hby d1_38) rfl (l' := #[rv a1, rv ar, jv q1, .second, rv ob3, jv (q1 * c1), .second, iv 1, iv 0]) rfl ?_
    refine XS.aload X23.here hx rfl (hb hby d1_40) rfl rfl ?_
    show Steps p.tables e below (T23.setTop (mkF m 42 #[rv a1, rv ar, jv q1, .second, rv ob3, jv (q1 * c1), .second, iv 1, iv 0] [(.ref ob3)])) _
    refine XS.iload X23.here hx rfl (hb hby d1_42) rfl ?_
    refine XS.lload X23.here hx rfl (hb hby d1_44) rfl ?_
    show Steps p.tables e below (T23.setTop (mkF m 46 #[rv a1, rv ar, jv q1, .second, rv ob3, jv (q1 * c1), .second, iv 1, iv 0] [(.long (q1 * c1)), (.int 0), (.ref ob3)])) _
    exact k
  refine own_lift sg26 ?_
  show own_Go p.tables e below (T23.setTop (mkF m 46 #[rv a1, rv ar, jv q1, .second, rv ob3, jv (q1 * c1), .second, iv 1, iv 0] [(.long (q1 * c1)), (.int 0), (.ref ob3)])) _
  obtain ⟨cl27, Ar27, qx27, Sx27, N27', H27', G27'⟩ := id (Vn15)
  have hin27 : ¬ ((0 : Int32) < 0 ∨ cl27.slots.size ≤ ((0 : Int32)).toNatClampNeg) := inb_of Sx27 ⟨(by decide : ¬ ((0 : Int32) < (0 : Int32))), (by decide : (0 : Int32) < (2 : Int32))⟩
  obtain ⟨T28, h28, X28, e28, W28, st28⟩ := stJ X23 hx hZ e23 Ar27 (j := (0 : Int32)) hin27 (g := (mkF m 46 #[rv a1, rv ar, jv q1, .second, rv ob3, jv (q1 * c1), .second, iv 1, iv 0] [(.long (q1 * c1)), (.int 0), (.ref ob3)])) rfl rfl (hb hby d1_46)
  have N28 := Fr.snoc X28 N15 ge3
  have Z28 : n0 ≤ h28.size := Nat.le_trans Z15 (Nat.le_of_eq W28.size.symm)
  have K28 : Keep h0 h28 [] := K15.wr W28 (Or.inr gh3)
  have Vn28 : Arv Z h28 ob3 ka3 .long (2 : Int32) [(.long (q1 * c1)), (.long q1)] (.long 0) := Arv.set Ar27 qx27 Sx27 N27' H27' G27' rfl W28 0 rfl (Nat.le_of_ble_eq_true rfl)
  refine own_lift st28 ?_
  show own_Go p.tables e below (T28.setTop (mkF m 47 #[rv a1, rv ar, jv q1, .second, rv ob3, jv (q1 * c1), .second, iv 1, iv 0] [])) _
  have sg29 : ∀ t, Steps p.tables e below (T28.setTop (mkF m 52 #[rv a1, rv ar, jv q1, .second, rv ob3, jv (q1 * c1), .second, iv 1, iv 0] [(.int 0), (.ref ar), (.long (q1 * c1))])) t → Steps p.tables e below (T28.setTop (mkF m 47 #[rv a1, rv ar, jv q1, .second, rv ob3, jv (q1 * c1), .second, iv 1, iv 0] [])) t := by
    intro t k
    refine XS.lload X28.here hx rfl (hb hby d1_47) rfl ?_
    show Steps p.tables e below (T28.setTop (mkF m 49 #[rv a1, rv ar, jv q1, .second, rv ob3, jv (q1 * c1), .second, iv 1, iv 0] [(.long (q1 * c1))])) _
    refine XS.aloadN X28.here hx rfl (hb hby d1_49) rfl rfl ?_
    refine XS.iload X28.here hx rfl (hb hby d1_50) rfl ?_
    show Steps p.tables e below (T28.setTop (mkF m 52 #[rv a1, rv ar, jv q1, .second, rv ob3, jv (q1 * c1), .second, iv 1, iv 0] [(.int 0), (.ref ar), (.long (q1 * c1))])) _
    exact k
  refine own_lift sg29 ?_
  show own_Go p.tables e below (T28.setTop (mkF m 52 #[rv a1, rv ar, jv q1, .second, rv ob3, jv (q1 * c1), .second, iv 1, iv 0] [(.int 0), (.ref ar), (.long (q1 * c1))])) _
  have Fc30 : Arv Z h28 ar kc .long (2 : Int32) [(.long c0), (.long c1)] (.long (0 : Int64)) := (Fc17.other W28 ne4)
  obtain ⟨cl31, Ar31, qx31, Sx31, N31', H31', G31'⟩ := id (Fc30)
  have hin31 : ¬ ((0 : Int32) < 0 ∨ cl31.slots.size ≤ ((0 : Int32)).toNatClampNeg) := inb_of Sx31 ⟨(by decide : ¬ ((0 : Int32) < (0 : Int32))), (by decide : (0 : Int32) < (2 : Int32))⟩
  have hat31 : cl31.slots[((0 : Int32)).toNatClampNeg]? = some (.long c0) := Has.at H31' hin31 rfl
  have sg32 : ∀ t, Steps p.tables e below (T28.setTop (mkF m 15 #[rv a1, rv ar, jv q1, .second, rv ob3, jv ((q1 * c1) * c0), .second, iv 2, iv 0] [(.ref ar), (.int 2)])) t → Steps p.tables e below (T28.setTop (mkF m 52 #[rv a1, rv ar, jv q1, .second, rv ob3, jv (q1 * c1), .second, iv 1, iv 0] [(.int 0), (.ref ar), (.long (q1 * c1))])) t := by
    intro t k
    refine X28.laload hx (j := (0 : Int32)) (v := (.long c0)) (by rw [e28]; exact Ar31.1) (State.isArrayOf_alike hZ.alike Ar31.2.1) Ar31.2.2 hin31 hat31 (g := (mkF m 52 #[rv a1, rv ar, jv q1, .second, rv ob3, jv (q1 * c1), .second, iv 1, iv 0] [(.int 0), (.ref ar), (.long (q1 * c1))])) rfl rfl (hb hby d1_52) _ ?_
    show Steps p.tables e below (T28.setTop (mkF m 53 #[rv a1, rv ar, jv q1, .second, rv ob3, jv (q1 * c1), .second, iv 1, iv 0] [(.long c0), (.long (q1 * c1))])) _
    refine XS.lmul X28.here hx rfl (hb hby d1_53) rfl ?_
    refine XS.lstore X28.here hx rfl (hb hby d1_54) rfl (l' := #[rv a1, rv ar, jv q1, .second, rv ob3, jv ((q1 * c1) * c0), .second, iv 1, iv 0]) rfl ?_
    show Steps p.tables e below (T28.setTop (mkF m 56 #[rv a1, rv ar, jv q1, .second, rv ob3, jv ((q1 * c1) * c0), .second, iv 1, iv 0] [])) _
    refine XS.iinc X28.here hx rfl (hb hby d1_56) rfl (l' := #[rv a1, rv ar, jv q1, .second, rv ob3, jv ((q1 * c1) * c0), .second, iv 2, iv 0]) rfl ?_
    refine XS.goto X28.here hx rfl (pc0 := 59) (pc' := 12) rfl (hb hby d1_59) (by decide) (by decide) ?_
    show Steps p.tables e below (T28.setTop (mkF m 12 #[rv a1, rv ar, jv q1, .second, rv ob3, jv ((q1 * c1) * c0), .second, iv 2, iv 0] [])) _
    refine XS.iload X28.here hx rfl (hb hby d1_12) rfl ?_
    refine XS.aloadN X28.here hx rfl (hb hby d1_14) rfl rfl ?_
    show Steps p.tables e below (T28.setTop (mkF m 15 #[rv a1, rv ar, jv q1, .second, rv ob3, jv ((q1 * c1) * c0), .second, iv 2, iv 0] [(.ref ar), (.int 2)])) _
    exact k
  refine own_lift sg32 ?_
  show own_Go p.tables e below (T28.setTop (mkF m 15 #[rv a1, rv ar, jv q1, .second, rv ob3, jv ((q1 * c1) * c0), .second, iv 2, iv 0] [(.ref ar), (.int 2)])) _
  obtain ⟨cl33, Ar33, -, Sx33, N33', -, -⟩ := id (Fc30)
  have st33 : ∀ t, Steps p.tables e below (T28.setTop (mkF m 16 #[rv a1, rv ar, jv q1, .second, rv ob3, jv ((q1 * c1) * c0), .second, iv 2, iv 0] [(.int 2), (.int 2)])) t → Steps p.tables e below (T28.setTop (mkF m 15 #[rv a1, rv ar, jv q1, .second, rv ob3, jv ((q1 * c1) * c0), .second, iv 2, iv 0] [(.ref ar), (.int 2)])) t := by
    intro t k
    refine X28.arraylength hx (by rw [e28]; exact Ar33.1) (State.isArrayOf_alike hZ.alike Ar33.2.1) (g := (mkF m 15 #[rv a1, rv ar, jv q1, .second, rv ob3, jv ((q1 * c1) * c0), .second, iv 2, iv 0] [(.ref ar), (.int 2)])) rfl rfl (hb hby d1_15) _ ?_
    rw [len_of Sx33 N33']
    exact k
  refine own_lift st33 ?_
  show own_Go p.tables e below (T28.setTop (mkF m 16 #[rv a1, rv ar, jv q1, .second, rv ob3, jv ((q1 * c1) * c0), .second, iv 2, iv 0] [(.int 2), (.int 2)])) _
  have sg34 : ∀ t, Steps p.tables e below (T28.setTop (mkF m 64 #[rv a1, rv ar, jv q1, .second, rv ob3, jv ((q1 * c1) * c0), .second, iv 2, iv 0] [(.ref ob3)])) t → Steps p.tables e below (T28.setTop (mkF m 16 #[rv a1, rv ar, jv q1, .second, rv ob3, jv ((q1 * c1) * c0), .second, iv 2, iv 0] [(.int 2), (.int 2)])) t := by
    intro t k
    refine XS.icmpYes X28.here hx rfl (pc0 := 16) (pc' := 62) rfl (hb hby d1_16) rfl (flt (by decide : ¬ ((2 : Int32) < (2 : Int32)))).2.1 (by decide) (by decide) ?_
    show Steps p.tables e below (T28.setTop (mkF m 62 #[rv a1, rv ar, jv q1, .second, rv ob3, jv ((q1 * c1) * c0), .second, iv 2, iv 0] [])) _
    refine XS.aload X28.here hx rfl (hb hby d1_62) rfl rfl ?_
    show Steps p.tables e below (T28.setTop (mkF m 64 #[rv a1, rv ar, jv q1, .second, rv ob3, jv ((q1 * c1) * c0), .second, iv 2, iv 0] [(.ref ob3)])) _
    exact k
  refine own_lift sg34 ?_
  show own_Go p.tables e below (T28.setTop (mkF m 64 #[rv a1, rv ar, jv q1, .second, rv ob3, jv ((q1 * c1) * c0), .second, iv 2, iv 0] [(.ref ob3)])) _
  obtain ⟨fs, hr, hrun, hended, hW, hsame⟩ := X28.leave (v := some (.ref ob3)) (fun h => by rw [Bd.returns] at h; cases h)
  refine ⟨_, _, ?_, hrun, hended, _, _, rfl, ?_, ⟨_, rfl⟩, hW, hsame.mono (by decide) (by decide)⟩
  · exact retOut X28 hx Bd.returns rfl (Or.inr (Or.inr (Or.inr (Or.inr ⟨rfl, rfl, rfl⟩)))) (hb hby d1_64) hr
  · show Q_rmStr2F Z a1 ar q1 kc c0 c1 h0 n0 _ T28.heap _
    rw [e28]
    exact ⟨ob3, ka3, rfl, N28, K28, gh3, Vn28⟩
def Q_rmStr2L (Z : State) (a1 : Addr) (ar : Addr) (q1 : Int64) (fa : Addr) (kc : ClassId) (c0 : Int64) (c1 : Int64) (h0 : Heap) (n0 : Nat) (v : Option Value) (h : Heap) (L : List Loc) : Prop := ∃ b : Addr, ∃ kb : ClassId, v = some (.ref b) ∧ Fr n0 L ∧ Keep h0 h [] ∧ h0.size ≤ b ∧ Arv Z h b kb .long (2 : Int32) [(.long q1), (.long (q1 * c0))] (.long (0 : Int64))
theorem ef_rmStr2L (m : MethodId) (x0 : Addr) (x1 : Addr) (x2 : Int64) : entryFrame m #[(.ref x0), (.ref x1), (.long x2)] 9 = mkF m 0 #[.val (.ref x0), .val (.ref x1), .val (.long x2), .second, .unset, .unset, .unset, .unset, .unset] [] := by first | (simp [entryFrame, mkF, argsToLocals, Value.category]; done) | rfl
set_option maxRecDepth 65536 in
set_option maxHeartbeats 40000000 in
theorem rmStr2L (l : Launch) (Z : State) (a0 : Array Value) (hw : ∀ d ∈ tables_1, d.before a0 Z = true) (ws : List Jvm.Cond) (a1 : Addr) (ar : Addr) (q1 : Int64) (fa : Addr) (kc : ClassId) (c0 : Int64) (c1 : Int64) (h0 : Heap) (n0 : Nat) (Z0 : n0 ≤ h0.size) (V1 : Arv Z h0 ar kc .long (2 : Int32) [(.long c0), (.long c1)] (.long (0 : Int64))) (S1 : Sta Z h0 "com/example/halyard/halyard/east/ArrayStorage" "FIRST_INDEX_FIRST" "Lcom/example/halyard/halyard/east/ArrayStorage;" (.ref fa)) (c_ne : ¬ (a1 = fa)) :
    MetFree l (⟨"com/example/halyard/halyard/east/ArrayStorage", "strides", "([JJ)[J"⟩ : MethodName) (head1 (Jvm.Cond.code (⟨"com/example/halyard/halyard/east/ArrayStorage", "strides", "([JJ)[J"⟩ : MethodName) prog_65_method_4_code 9 (some (.array .long)) :: ws) ({ frames := 0, cells := 1, slots := 2, locals := 0 } : Room)) (fun a U => a = #[(.ref a1), (.ref ar), (.long q1)] ∧ Z.Warmed39 U.vm ∧ U.heap = h0) (fun _ _ _ _ _ => True) (fun _ U o U' => ∃ v L, o = .returned v ∧ Q_rmStr2L Z a1 ar q1 fa kc c0 c1 h0 n0 v U'.heap L ∧ FrameEnd U o U' L ({ frames := 0, cells := 1, slots := 2, locals := 0 } : Room).cells ({ frames := 0, cells := 1, slots := 2, locals := 0 } : Room).slots) := by
  refine MetFree.of_bodySF (plainFor_of_name pn_0) hisR ?_
  intro p e s m args below meth c s₁ Bd hml0 hP hK
  obtain ⟨rfl, hZ, hh⟩ := hP
  have hx := Bd.exec
  have hby := Bd.bytes
  have hml : c.maxLocals = 9 := hml0
  have hown : s.vm.findClass "com/example/halyard/halyard/east/ArrayStorage" = some m.cls := findClass_of_methodNamed Bd.named
  have hnm := (name_of_methodNamed Bd.named Bd.method).1
  have X0 : Stand p l e ({ frames := 0, cells := 1, slots := 2, locals := 0 } : Room) s m #[(.ref a1), (.ref ar), (.long q1)] below meth c s₁ [] 0 0 := Stand.of_body Bd
  have e0 : s₁.heap = h0 := by rw [← hh, Bd.state]; rfl
  have N0 := Fr.nil n0
  refine own_go (own_lift (fun t k => castTop (ef_rmStr2L m a1 ar q1) k) ?_)
  show own_Go p.tables e below (s₁.setTop (mkF m 0 #[rv a1, rv ar, jv q1, .second, .unset, .unset, .unset, .unset, .unset] [])) _
  have sg1 : ∀ t, Steps p.tables e below (s₁.setTop (mkF m 1 #[rv a1, rv ar, jv q1, .second, .unset, .unset, .unset, .unset, .unset] [(.ref ar)])) t → Steps p.tables e below (s₁.setTop (mkF m 0 #[rv a1, rv ar, jv q1, .second, .unset, .unset, .unset, .unset, .unset] [])) t := by
    intro t k
    refine XS.aloadN X0.here hx rfl (hb hby d1_0) rfl rfl ?_
    show Steps p.tables e below (s₁.setTop (mkF m 1 #[rv a1, rv ar, jv q1, .second, .unset, .unset, .unset, .unset, .unset] [(.ref ar)])) _
    exact k
  refine own_lift sg1 ?_
  show own_Go p.tables e below (s₁.setTop (mkF m 1 #[rv a1, rv ar, jv q1, .second, .unset, .unset, .unset, .unset, .unset] [(.ref ar)])) _
  obtain ⟨cl2, Ar2, -, Sx2, N2', -, -⟩ := id (V1)
  have st2 : ∀ t, Steps p.tables e below (s₁.setTop (mkF m 2 #[rv a1, rv ar, jv q1, .second, .unset, .unset, .unset, .unset, .unset] [(.int 2)])) t → Steps p.tables e below (s₁.setTop (mkF m 1 #[rv a1, rv ar, jv q1, .second, .unset, .unset, .unset, .unset, .unset] [(.ref ar)])) t := by
    intro t k
    refine X0.arraylength hx (by rw [e0]; exact Ar2.1) (State.isArrayOf_alike hZ.alike Ar2.2.1) (g := (mkF m 1 #[rv a1, rv ar, jv q1, .second, .unset, .unset, .unset, .unset, .unset] [(.ref ar)])) rfl rfl (hb hby d1_1) _ ?_
    rw [len_of Sx2 N2']
    exact k
  refine own_lift st2 ?_
  show own_Go p.tables e below (s₁.setTop (mkF m 2 #[rv a1, rv ar, jv q1, .second, .unset, .unset, .unset, .unset, .unset] [(.int 2)])) _
  obtain ⟨T3, h3, ka3, X3, e3, Ex3, Ax3, st3⟩ := newP X0 hx hZ (wd hw 2 rfl) e0 (g := (mkF m 2 #[rv a1, rv ar, jv q1, .second, .unset, .unset, .unset, .unset, .unset] [(.int 2)])) rfl (hb hby d1_2) rfl (by decide) (cap := 2) (by decide) (by decide) (by decide) (by decide)
  obtain ⟨ob3, g3⟩ : ∃ z, z = h0.size := ⟨_, rfl⟩
  rw [← g3] at Ax3 st3
  have ne4 : ar ≠ ob3 := Nat.ne_of_lt (Nat.lt_of_lt_of_le V1.lt (Nat.le_of_eq g3.symm))
  have Z3 : n0 ≤ h3.size := Nat.le_trans Z0 Ex3.1
  have ge3 : n0 ≤ ob3 := Nat.le_trans Z0 (Nat.le_of_eq g3.symm)
  have gh3 : h0.size ≤ ob3 := Nat.le_trans (Keep.refl h0 []).1 (Nat.le_of_eq g3.symm)
  have K3 : Keep h0 h3 [] := (Keep.refl h0 []).ext Ex3
  have Vn3 : Arv Z h3 ob3 ka3 .long (2 : Int32) [(.long 0), (.long 0)] (.long 0) := (Arv.new Ax3 (by decide)).pad (pad_rep [] (.long 0) 2)
  refine own_lift st3 ?_
  show own_Go p.tables e below (T3.setTop (mkF m 4 #[rv a1, rv ar, jv q1, .second, .unset, .unset, .unset, .unset, .unset] [(.ref ob3)])) _
  have sg5 : ∀ t, Steps p.tables e below (T3.setTop (mkF m 15 #[rv a1, rv ar, jv q1, .second, rv ob3, jv q1, .second, iv 0, .unset] [(.ref ar), (.int 0)])) t → Steps p.tables e below (T3.setTop (mkF m 4 #[rv a1, rv ar, jv q1, .second, .unset, .unset, .unset, .unset, .unset] [(.ref ob3)])) t := by
    intro t k
    refine XS.astore X3.here hx rfl (hb hby d1_4) rfl rfl (l' := #[rv a1, rv ar, jv q1, .second, rv ob3, .unset, .unset, .unset, .unset]) rfl ?_
    show Steps p.tables e below (T3.setTop (mkF m 6 #[rv a1, rv ar, jv q1, .second, rv ob3, .unset, .unset, .unset, .unset] [])) _
    refine XS.lloadN X3.here hx rfl (hb hby d1_6) rfl ?_
    refine XS.lstore X3.here hx rfl (hb hby d1_7) rfl (l' := #[rv a1, rv ar, jv q1, .second, rv ob3, jv q1, .second, .unset, .unset]) rfl ?_
    show Steps p.tables e below (T3.setTop (mkF m 9 #[rv a1, rv ar, jv q1, .second, rv ob3, jv q1, .second, .unset, .unset] [])) _
    refine XS.iconst X3.here hx rfl (hb hby d1_9) ?_
    refine XS.istore X3.here hx rfl (hb hby d1_10) rfl (l' := #[rv a1, rv ar, jv q1, .second, rv ob3, jv q1, .second, iv 0, .unset]) rfl ?_
    show Steps p.tables e below (T3.setTop (mkF m 12 #[rv a1, rv ar, jv q1, .second, rv ob3, jv q1, .second, iv 0, .unset] [])) _
    refine XS.iload X3.here hx rfl (hb hby d1_12) rfl ?_
    refine XS.aloadN X3.here hx rfl (hb hby d1_14) rfl rfl ?_
    show Steps p.tables e below (T3.setTop (mkF m 15 #[rv a1, rv ar, jv q1, .second, rv ob3, jv q1, .second, iv 0, .unset] [(.ref ar), (.int 0)])) _
    exact k
  refine own_lift sg5 ?_
  show own_Go p.tables e below (T3.setTop (mkF m 15 #[rv a1, rv ar, jv q1, .second, rv ob3, jv q1, .second, iv 0, .unset] [(.ref ar), (.int 0)])) _
  have Fc6 : Arv Z h3 ar kc .long (2 : Int32) [(.long c0), (.long c1)] (.long (0 : Int64)) := (V1.ext Ex3)
  obtain ⟨cl7, Ar7, -, Sx7, N7', -, -⟩ := id (Fc6)
  have st7 : ∀ t, Steps p.tables e below (T3.setTop (mkF m 16 #[rv a1, rv ar, jv q1, .second, rv ob3, jv q1, .second, iv 0, .unset] [(.int 2), (.int 0)])) t → Steps p.tables e below (T3.setTop (mkF m 15 #[rv a1, rv ar, jv q1, .second, rv ob3, jv q1, .second, iv 0, .unset] [(.ref ar), (.int 0)])) t := by
    intro t k
    refine X3.arraylength hx (by rw [e3]; exact Ar7.1) (State.isArrayOf_alike hZ.alike Ar7.2.1) (g := (mkF m 15 #[rv a1, rv ar, jv q1, .second, rv ob3, jv q1, .second, iv 0, .unset] [(.ref ar), (.int 0)])) rfl rfl (hb hby d1_15) _ ?_
    rw [len_of Sx7 N7']
    exact k
  refine own_lift st7 ?_
  show own_Go p.tables e below (T3.setTop (mkF m 16 #[rv a1, rv ar, jv q1, .second, rv ob3, jv q1, .second, iv 0, .unset] [(.int 2), (.int 0)])) _
  have sg8 : ∀ t, Steps p.tables e below (T3.setTop (mkF m 20 #[rv a1, rv ar, jv q1, .second, rv ob3, jv q1, .second, iv 0, .unset] [(.ref a1)])) t → Steps p.tables e below (T3.setTop (mkF m 16 #[rv a1, rv ar, jv q1, .second, rv ob3, jv q1, .second, iv 0, .unset] [(.int 2), (.int 0)])) t := by
    intro t k
    refine XS.icmpNo X3.here hx rfl (hb hby d1_16) rfl (tlt (by decide : (0 : Int32) < (2 : Int32))).2.1 ?_
    show Steps p.tables e below (T3.setTop (mkF m 19 #[rv a1, rv ar, jv q1, .second, rv ob3, jv q1, .second, iv 0, .unset] [])) _
    refine XS.aloadN X3.here hx rfl (hb hby d1_19) rfl rfl ?_
    show Steps p.tables e below (T3.setTop (mkF m 20 #[rv a1, rv ar, jv q1, .second, rv ob3, jv q1, .second, iv 0, .unset] [(.ref a1)])) _
    exact k
  refine own_lift sg8 ?_
  show own_Go p.tables e below (T3.setTop (mkF m 20 #[rv a1, rv ar, jv q1, .second, rv ob3, jv q1, .second, iv 0, .unset] [(.ref a1)])) _
  have Fc9 : Sta Z h3 "com/example/halyard/halyard/east/ArrayStorage" "FIRST_INDEX_FIRST" "Lcom/example/halyard/halyard/east/ArrayStorage;" (.ref fa) := (S1.ext Ex3)
  obtain ⟨T10, X10, e10, st10⟩ := getS X3 hx hZ hown (host := "") (wd hw 13 rfl) Via.refl e3 Fc9 (g := (mkF m 20 #[rv a1, rv ar, jv q1, .second, rv ob3, jv q1, .second, iv 0, .unset] [(.ref a1)])) rfl (hb hby d1_20)
  refine own_lift st10 ?_
  show own_Go p.tables e below (T10.setTop (mkF m 23 #[rv a1, rv ar, jv q1, .second, rv ob3, jv q1, .second, iv 0, .unset] [(.ref fa), (.ref a1)])) _
  have sg11 : ∀ t, Steps p.tables e below (T10.setTop (mkF m 46 #[rv a1, rv ar, jv q1, .second, rv ob3, jv q1, .second, iv 0, iv 0] [(.long q1), (.int 0), (.ref ob3)])) t → Steps p.tables e below (T10.setTop (mkF m 23 #[rv a1, rv ar, jv q1, .second, rv ob3, jv q1, .second, iv 0, .unset] [(.ref fa), (.ref a1)])) t := by
    intro t k
    refine Jvm.RoadKit.acmp (g := (mkF m 23 #[rv a1, rv ar, jv q1, .second, rv ob3, jv q1, .second, iv 0, .unset] [(.ref fa), (.ref a1)])) X10 hx rfl rfl rfl (pc0 := 23) (pc' := 36) (same := false) rfl (hb hby d1_23) rfl (decide_eq_false fun q => c_ne (Value.ref.inj q)) (by decide) (by decide) ?_
    show Steps p.tables e below (T10.setTop (mkF m 36 #[rv a1, rv ar, jv q1, .second, rv ob3, jv q1, .second, iv 0, .unset] [])) _
    refine XS.iload X10.here hx rfl (hb hby d1_36) rfl ?_
    refine XS.istore X10.here hx rfl (hb hby d1_38) rfl (l' := #[rv a1, rv ar, jv q1, .second, rv ob3, jv q1, .second, iv 0, iv 0]) rfl ?_
    show Steps p.tables e below (T10.setTop (mkF m 40 #[rv a1, rv ar, jv q1, .second, rv ob3, jv q1, .second, iv 0, iv 0] [])) _
    refine XS.aload X10.here hx rfl (hb hby d1_40) rfl rfl ?_
    refine XS.iload X10.here hx rfl (hb hby d1_42) rfl ?_
    show Steps p.tables e below (T10.setTop (mkF m 44 #[rv a1, rv ar, jv q1, .second, rv ob3, jv q1, .second, iv 0, iv 0] [(.int 0), (.ref ob3)])) _
    refine XS.lload X10.here hx rfl (hb hby d1_44) rfl ?_
    show Steps p.tables e below (T10.setTop (mkF m 46 #[rv a1, rv ar, jv q1, .second, rv ob3, jv q1, .second, iv 0, iv 0] [(.long q1), (.int 0), (.ref ob3)])) _
    exact k
  refine own_lift sg11 ?_
  show own_Go p.tables e below (T10.setTop (mkF m 46 #[rv a1, rv ar, jv q1, .second, rv ob3, jv q1, .second, iv 0, iv 0] [(.long q1), (.int 0), (.ref ob3)])) _
  obtain ⟨cl12, Ar12, qx12, Sx12, N12', H12', G12'⟩ := id (Vn3)
  have hin12 : ¬ ((0 : Int32) < 0 ∨ cl12.slots.size ≤ ((0 : Int32)).toNatClampNeg) := inb_of Sx12 ⟨(by decide : ¬ ((0 : Int32) < (0 : Int32))), (by decide : (0 : Int32) < (2 : Int32))⟩
  obtain ⟨T13, h13, X13, e13, W13, st13⟩ := stJ X10 hx hZ e10 Ar12 (j := (0 : Int32)) hin12 (g := (mkF m 46 #[rv a1, rv ar, jv q1, .second, rv ob3, jv q1, .second, iv 0, iv 0] [(.long q1), (.int 0), (.ref ob3)])) rfl rfl (hb hby d1_46)
  have N13 := Fr.snoc X13 N0 ge3
  have Z13 : n0 ≤ h13.size := Nat.le_trans Z3 (Nat.le_of_eq W13.size.symm)
  have K13 : Keep h0 h13 [] := K3.wr W13 (Or.inr gh3)
  have Vn13 : Arv Z h13 ob3 ka3 .long (2 : Int32) [(.long q1), (.long 0)] (.long 0) := Arv.set Ar12 qx12 Sx12 N12' H12' G12' rfl W13 0 rfl (Nat.le_of_ble_eq_true rfl)
  refine own_lift st13 ?_
  show own_Go p.tables e below (T13.setTop (mkF m 47 #[rv a1, rv ar, jv q1, .second, rv ob3, jv q1, .second, iv 0, iv 0] [])) _
  have sg14 : ∀ t, Steps p.tables e below (T13.setTop (mkF m 52 #[rv a1, rv ar, jv q1, .second, rv ob3, jv q1, .second, iv 0, iv 0] [(.int 0), (.ref ar), (.long q1)])) t → Steps p.tables e below (T13.setTop (mkF m 47 #[rv a1, rv ar, jv q1, .second, rv ob3, jv q1, .second, iv 0, iv 0] [])) t := by
    intro t k
    refine XS.lload X13.here hx rfl (hb hby d1_47) rfl ?_
    show Steps p.tables e below (T13.setTop (mkF m 49 #[rv a1, rv ar, jv q1, .second, rv ob3, jv q1, .second, iv 0, iv 0] [(.long q1)])) _
    refine XS.aloadN X13.here hx rfl (hb hby d1_49) rfl rfl ?_
    refine XS.iload X13.here hx rfl (hb hby d1_50) rfl ?_
    show Steps p.tables e below (T13.setTop (mkF m 52 #[rv a1, rv ar, jv q1, .second, rv ob3, jv q1, .second, iv 0, iv 0] [(.int 0), (.ref ar), (.long q1)])) _
    exact k
  refine own_lift sg14 ?_
  show own_Go p.tables e below (T13.setTop (mkF m 52 #[rv a1, rv ar, jv q1, .second, rv ob3, jv q1, .second, iv 0, iv 0] [(.int 0), (.ref ar), (.long q1)])) _
  have Fc15 : Arv Z h13 ar kc .long (2 : Int32) [(.long c0), (.long c1)] (.long (0 : Int64)) := (Fc6.other W13 ne4)
  obtain ⟨cl16, Ar16, qx16, Sx16, N16', H16', G16'⟩ := id (Fc15)
  have hin16 : ¬ ((0 : Int32) < 0 ∨ cl16.slots.size ≤ ((0 : Int32)).toNatClampNeg) := inb_of Sx16 ⟨(by decide : ¬ ((0 : Int32) < (0 : Int32))), (by decide : (0 : Int32) < (2 : Int32))⟩
  have hat16 : cl16.slots[((0 : Int32)).toNatClampNeg]? = some (.long c0) := Has.at H16' hin16 rfl
  have sg17 : ∀ t, Steps p.tables e below (T13.setTop (mkF m 15 #[rv a1, rv ar, jv q1, .second, rv ob3, jv (q1 * c0), .second, iv 1, iv 0] [(.ref ar), (.int 1)])) t → Steps p.tables e below (T13.setTop (mkF m 52 #[rv a1, rv ar, jv q1, .second, rv ob3, jv q1, .second, iv 0, iv 0] [(.int 0), (.ref ar), (.long q1)])) t := by
    intro t k
    refine X13.laload hx (j := (0 : Int32)) (v := (.long c0)) (by rw [e13]; exact Ar16.1) (State.isArrayOf_alike hZ.alike Ar16.2.1) Ar16.2.2 hin16 hat16 (g := (mkF m 52 #[rv a1, rv ar, jv q1, .second, rv ob3, jv q1, .second, iv 0, iv 0] [(.int 0), (.ref ar), (.long q1)])) rfl rfl (hb hby d1_52) _ ?_
    show Steps p.tables e below (T13.setTop (mkF m 53 #[rv a1, rv ar, jv q1, .second, rv ob3, jv q1, .second, iv 0, iv 0] [(.long c0), (.long q1)])) _
    refine XS.lmul X13.here hx rfl (hb hby d1_53) rfl ?_
    refine XS.lstore X13.here hx rfl (hb hby d1_54) rfl (l' := #[rv a1, rv ar, jv q1, .second, rv ob3, jv (q1 * c0), .second, iv 0, iv 0]) rfl ?_
    show Steps p.tables e below (T13.setTop (mkF m 56 #[rv a1, rv ar, jv q1, .second, rv ob3, jv (q1 * c0), .second, iv 0, iv 0] [])) _
    refine XS.iinc X13.here hx rfl (hb hby d1_56) rfl (l' := #[rv a1, rv ar, jv q1, .second, rv ob3, jv (q1 * c0), .second, iv 1, iv 0]) rfl ?_
    refine XS.goto X13.here hx rfl (pc0 := 59) (pc' := 12) rfl (hb hby d1_59) (by decide) (by decide) ?_
    show Steps p.tables e below (T13.setTop (mkF m 12 #[rv a1, rv ar, jv q1, .second, rv ob3, jv (q1 * c0), .second, iv 1, iv 0] [])) _
    refine XS.iload X13.here hx rfl (hb hby d1_12) rfl ?_
    refine XS.aloadN X13.here hx rfl (hb hby d1_14) rfl rfl ?_
    show Steps p.tables e below (T13.setTop (mkF m 15 #[rv a1, rv ar, jv q1, .second, rv ob3, jv (q1 * c0), .second, iv 1, iv 0] [(.ref ar), (.int 1)])) _
    exact k
  refine own_lift sg17 ?_
  show own_Go p.tables e below (T13.setTop (mkF m 15 #[rv a1, rv ar, jv q1, .second, rv ob3, jv (q1 * c0), .second, iv 1, iv 0] [(.ref ar), (.int 1)])) _
  obtain ⟨cl18, Ar18, -, Sx18, N18', -, -⟩ := id (Fc15)
  have st18 : ∀ t, Steps p.tables e below (T13.setTop (mkF m 16 #[rv a1, rv ar, jv q1, .second, rv ob3, jv (q1 * c0), .second, iv 1, iv 0] [(.int 2), (.int 1)])) t → Steps p.tables e below (T13.setTop (mkF m 15 #[rv a1, rv ar, jv q1, .second, rv ob3, jv (q1 * c0), .second, iv 1, iv 0] [(.ref ar), (.int 1)])) t := by
    intro t k
    refine X13.arraylength hx (by rw [e13]; exact Ar18.1) (State.isArrayOf_alike hZ.alike Ar18.2.1) (g := (mkF m 15 #[rv a1, rv ar, jv q1, .second, rv ob3, jv (q1 * c0), .second, iv 1, iv 0] [(.ref ar), (.int 1)])) rfl rfl (hb hby d1_15) _ ?_
    rw [len_of Sx18 N18']
    exact k
  refine own_lift st18 ?_
  show own_Go p.tables e below (T13.setTop (mkF m 16 #[rv a1, rv ar, jv q1, .second, rv ob3, jv (q1 * c0), .second, iv 1, iv 0] [(.int 2), (.int 1)])) _
  have sg19 : ∀ t, Steps p.tables e below (T13.setTop (mkF m 20 #[rv a1, rv ar, jv q1, .second, rv ob3, jv (q1 * c0), .second, iv 1, iv 0] [(.ref a1)])) t → Steps p.tables e below (T13.setTop (mkF m 16 #[rv a1, rv ar, jv q1, .second, rv ob3, jv (q1 * c0), .second, iv 1, iv 0] [(.int 2), (.int 1)])) t := by
    intro t k
    refine XS.icmpNo X13.here hx rfl (hb hby d1_16) rfl (tlt (by decide : (1 : Int32) < (2 : Int32))).2.1 ?_
    show Steps p.tables e below (T13.setTop (mkF m 19 #[rv a1, rv ar, jv q1, .second, rv ob3, jv (q1 * c0), .second, iv 1, iv 0] [])) _
    refine XS.aloadN X13.here hx rfl (hb hby d1_19) rfl rfl ?_
    show Steps p.tables e below (T13.setTop (mkF m 20 #[rv a1, rv ar, jv q1, .second, rv ob3, jv (q1 * c0), .second, iv 1, iv 0] [(.ref a1)])) _
    exact k
  refine own_lift sg19 ?_
  show own_Go p.tables e below (T13.setTop (mkF m 20 #[rv a1, rv ar, jv q1, .second, rv ob3, jv (q1 * c0), .second, iv 1, iv 0] [(.ref a1)])) _
  have Fc20 : Sta Z h13 "com/example/halyard/halyard/east/ArrayStorage" "FIRST_INDEX_FIRST" "Lcom/example/halyard/halyard/east/ArrayStorage;" (.ref fa) := (Fc9.wr W13)
  obtain ⟨T21, X21, e21, st21⟩ := getS X13 hx hZ hown (host := "") (wd hw 13 rfl) Via.refl e13 Fc20 (g := (mkF m 20 #[rv a1, rv ar, jv q1, .second, rv ob3, jv (q1 * c0), .second, iv 1, iv 0] [(.ref a1)])) rfl (hb hby d1_20)
  refine own_lift st21 ?_
  show own_Go p.tables e below (T21.setTop (mkF m 23 #[rv a1, rv ar, jv q1, .second, rv ob3, jv (q1 * c0), .second, iv 1, iv 0] [(.ref fa), (.ref a1)])) _
  have sg22 : ∀ t, Steps p.tables e below (T21.setTop (mkF m 46 #[rv a1, rv ar, jv q1, .second, rv ob3, jv (q1 * c0), .second, iv 1, iv 1] [(.long (q1 * c0)), (.int 1), (.ref ob3)])) t → Steps p.tables e below (T21.setTop (mkF m 23 #[rv a1, rv ar, jv q1, .second, rv ob3, jv (q1 * c0), .second, iv 1, iv 0] [(.ref fa), (.ref a1)])) t := by
    intro t k
    refine Jvm.RoadKit.acmp (g := (mkF m 23 #[rv a1, rv ar, jv q1, .second, rv ob3, jv (q1 * c0), .second, iv 1, iv 0] [(.ref fa), (.ref a1)])) X21 hx rfl rfl rfl (pc0 := 23) (pc' := 36) (same := false) rfl (hb hby d1_23) rfl (decide_eq_false fun q => c_ne (Value.ref.inj q)) (by decide) (by decide) ?_
    show Steps p.tables e below (T21.setTop (mkF m 36 #[rv a1, rv ar, jv q1, .second, rv ob3, jv (q1 * c0), .second, iv 1, iv 0] [])) _
    refine XS.iload X21.here hx rfl (hb hby d1_36) rfl ?_
    refine XS.istore X21.here hx rfl (hb hby d1_38) rfl (l' := #[rv a1, rv ar, jv q1, .second, rv ob3, jv (q1 * c0), .second, iv 1, iv 1]) rfl ?_
    show Steps p.tables e below (T21.setTop (mkF m 40 #[rv a1, rv ar, jv q1, .second, rv ob3, jv (q1 * c0), .second, iv 1, iv 1] [])) _
    refine XS.aload X21.here hx rfl (hb hby d1_40) rfl rfl ?_
    refine XS.iload X21.here hx rfl (hb hby d1_42) rfl ?_
    show Steps p.tables e below (T21.setTop (mkF m 44 #[rv a1, rv ar, jv q1, .second, rv ob3, jv (q1 * c0), .second, iv 1, iv 1] [(.int 1), (.ref ob3)])) _
    refine XS.lload X21.here hx rfl (hb hby d1_44) rfl ?_
    show Steps p.tables e below (T21.setTop (mkF m 46 #[rv a1, rv ar, jv q1, .second, rv ob3, jv (q1 * c0), .second, iv 1, iv 1] [(.long (q1 * c0)), (.int 1), (.ref ob3)])) _
    exact k
  refine own_lift sg22 ?_
  show own_Go p.tables e below (T21.setTop (mkF m 46 #[rv a1, rv ar, jv q1, .second, rv ob3, jv (q1 * c0), .second, iv 1, iv 1] [(.long (q1 * c0)), (.int 1), (.ref ob3)])) _
  obtain ⟨cl23, Ar23, qx23, Sx23, N23', H23', G23'⟩ := id (Vn13)
  have hin23 : ¬ ((1 : Int32) < 0 ∨ cl23.slots.size ≤ ((1 : Int32)).toNatClampNeg) := inb_of Sx23 ⟨(by decide : ¬ ((1 : Int32) < (0 : Int32))), (by decide : (1 : Int32) < (2 : Int32))⟩
  obtain ⟨T24, h24, X24, e24, W24, st24⟩ := stJ X21 hx hZ e21 Ar23 (j := (1 : Int32)) hin23 (g := (mkF m 46 #[rv a1, rv ar, jv q1, .second, rv ob3, jv (q1 * c0), .second, iv 1, iv 1] [(.long (q1 * c0)), (.int 1), (.ref ob3)])) rfl rfl (hb hby d1_46)
  have N24 := Fr.snoc X24 N13 ge3
  have Z24 : n0 ≤ h24.size := Nat.le_trans Z13 (Nat.le_of_eq W24.size.symm)
  have K24 : Keep h0 h24 [] := K13.wr W24 (Or.inr gh3)
  have Vn24 : Arv Z h24 ob3 ka3 .long (2 : Int32) [(.long q1), (.long (q1 * c0))] (.long 0) := Arv.set Ar23 qx23 Sx23 N23' H23' G23' rfl W24 1 rfl (Nat.le_of_ble_eq_true rfl)
  refine own_lift st24 ?_
  show own_Go p.tables e below (T24.setTop (mkF m 47 #[rv a1, rv ar, jv q1, .second, rv ob3, jv (q1 * c0), .second, iv 1, iv 1] [])) _
  have sg25 : ∀ t, Steps p.tables e below (T24.setTop (mkF m 52 #[rv a1, rv ar, jv q1, .second, rv ob3, jv (q1 * c0), .second, iv 1, iv 1] [(.int 1), (.ref ar), (.long (q1 * c0))])) t → Steps p.tables e below (T24.setTop (mkF m 47 #[rv a1, rv ar, jv q1, .second, rv ob3, jv (q1 * c0), .second, iv 1, iv 1] [])) t := by
    intro t k
    refine XS.lload X24.here hx rfl (hb hby d1_47) rfl ?_
    show Steps p.tables e below (T24.setTop (mkF m 49 #[rv a1, rv ar, jv q1, .second, rv ob3, jv (q1 * c0), .second, iv 1, iv 1] [(.long (q1 * c0))])) _
    refine XS.aloadN X24.here hx rfl (hb hby d1_49) rfl rfl ?_
    refine XS.iload X24.here hx rfl (hb hby d1_50) rfl ?_
    show Steps p.tables e below (T24.setTop (mkF m 52 #[rv a1, rv ar, jv q1, .second, rv ob3, jv (q1 * c0), .second, iv 1, iv 1] [(.int 1), (.ref ar), (.long (q1 * c0))])) _
    exact k
  refine own_lift sg25 ?_
  show own_Go p.tables e below (T24.setTop (mkF m 52 #[rv a1, rv ar, jv q1, .second, rv ob3, jv (q1 * c0), .second, iv 1, iv 1] [(.int 1), (.ref ar), (.long (q1 * c0))])) _
  have Fc26 : Arv Z h24 ar kc .long (2 : Int32) [(.long c0), (.long c1)] (.long (0 : Int64)) := (Fc15.other W24 ne4)
  obtain ⟨cl27, Ar27, qx27, Sx27, N27', H27', G27'⟩ := id (Fc26)
  have hin27 : ¬ ((1 : Int32) < 0 ∨ cl27.slots.size ≤ ((1 : Int32)).toNatClampNeg) := inb_of Sx27 ⟨(by decide : ¬ ((1 : Int32) < (0 : Int32))), (by decide : (1 : Int32) < (2 : Int32))⟩
  have hat27 : cl27.slots[((1 : Int32)).toNatClampNeg]? = some (.long c1) := Has.at H27' hin27 rfl
  have sg28 : ∀ t, Steps p.tables e below (T24.setTop (mkF m 15 #[rv a1, rv ar, jv q1, .second, rv ob3, jv ((q1 * c0) * c1), .second, iv 2, iv 1] [(.ref ar), (.int 2)])) t → Steps p.tables e below (T24.setTop (mkF m 52 #[rv a1, rv ar, jv q1, .second, rv ob3, jv (q1 * c0), .second, iv 1, iv 1] [(.int 1), (.ref ar), (.long (q1 * c0))])) t := by
    intro t k
    refine X24.laload hx (j := (1 : Int32)) (v := (.long c1)) (by rw [e24]; exact Ar27.1) (State.isArrayOf_alike hZ.alike Ar27.2.1) Ar27.2.2 hin27 hat27 (g := (mkF m 52 #[rv a1, rv ar, jv q1, .second, rv ob3, jv (q1 * c0), .second, iv 1, iv 1] [(.int 1), (.ref ar), (.long (q1 * c0))])) rfl rfl (hb hby d1_52) _ ?_
    show Steps p.tables e below (T24.setTop (mkF m 53 #[rv a1, rv ar, jv q1, .second, rv ob3, jv (q1 * c0), .second, iv 1, iv 1] [(.long c1), (.long (q1 * c0))])) _
    refine XS.lmul X24.here hx rfl (hb hby d1_53) rfl ?_
    refine XS.lstore X24.here hx rfl (hb hby d1_54) rfl (l' := #[rv a1, rv ar, jv q1, .second, rv ob3, jv ((q1 * c0) * c1), .second, iv 1, iv 1]) rfl ?_
    show Steps p.tables e below (T24.setTop (mkF m 56 #[rv a1, rv ar, jv q1, .second, rv ob3, jv ((q1 * c0) * c1), .second, iv 1, iv 1] [])) _
    refine XS.iinc X24.here hx rfl (hb hby d1_56) rfl (l' := #[rv a1, rv ar, jv q1, .second, rv ob3, jv ((q1 * c0) * c1), .second, iv 2, iv 1]) rfl ?_
    refine XS.goto X24.here hx rfl (pc0 := 59) (pc' := 12) rfl (hb hby d1_59) (by decide) (by decide) ?_
    show Steps p.tables e below (T24.setTop (mkF m 12 #[rv a1, rv ar, jv q1, .second, rv ob3, jv ((q1 * c0) * c1), .second, iv 2, iv 1] [])) _
    refine XS.iload X24.here hx rfl (hb hby d1_12) rfl ?_
    refine XS.aloadN X24.here hx rfl (hb hby d1_14) rfl rfl ?_
    show Steps p.tables e below (T24.setTop (mkF m 15 #[rv a1, rv ar, jv q1, .second, rv ob3, jv ((q1 * c0) * c1), .second, iv 2, iv 1] [(.ref ar), (.int 2)])) _
    exact k
  refine own_lift sg28 ?_
  show own_Go p.tables e below (T24.setTop (mkF m 15 #[rv a1, rv ar, jv q1, .second, rv ob3, jv ((q1 * c0) * c1), .second, iv 2, iv 1] [(.ref ar), (.int 2)])) _
  obtain ⟨cl29, Ar29, -, Sx29, N29', -, -⟩ := id (Fc26)
  have st29 : ∀ t, Steps p.tables e below (T24.setTop (mkF m 16 #[rv a1, rv ar, jv q1, .second, rv ob3, jv ((q1 * c0) * c1), .second, iv 2, iv 1] [(.int 2), (.int 2)])) t → Steps p.tables e below (T24.setTop (mkF m 15 #[rv a1, rv ar, jv q1, .second, rv ob3, jv ((q1 * c0) * c1), .second, iv 2, iv 1] [(.ref ar), (.int 2)])) t := by
    intro t k
    refine X24.arraylength hx (by rw [e24]; exact Ar29.1) (State.isArrayOf_alike hZ.alike Ar29.2.1) (g := (mkF m 15 #[rv a1, rv ar, jv q1, .second, rv ob3, jv ((q1 * c0) * c1), .second, iv 2, iv 1] [(.ref ar), (.int 2)])) rfl rfl (hb hby d1_15) _ ?_
    rw [len_of Sx29 N29']
    exact k
  refine own_lift st29 ?_
  show own_Go p.tables e below (T24.setTop (mkF m 16 #[rv a1, rv ar, jv q1, .second, rv ob3, jv ((q1 * c0) * c1), .second, iv 2, iv 1] [(.int 2), (.int 2)])) _
  have sg30 : ∀ t, Steps p.tables e below (T24.setTop (mkF m 64 #[rv a1, rv ar, jv q1, .second, rv ob3, jv ((q1 * c0) * c1), .second, iv 2, iv 1] [(.ref ob3)])) t → Steps p.tables e below (T24.setTop (mkF m 16 #[rv a1, rv ar, jv q1, .second, rv ob3, jv ((q1 * c0) * c1), .second, iv 2, iv 1] [(.int 2), (.int 2)])) t := by
    intro t k
    refine XS.icmpYes X24.here hx rfl (pc0 := 16) (pc' := 62) rfl (hb hby d1_16) rfl (flt (by decide : ¬ ((2 : Int32) < (2 : Int32)))).2.1 (by decide) (by decide) ?_
    show Steps p.tables e below (T24.setTop (mkF m 62 #[rv a1, rv ar, jv q1, .second, rv ob3, jv ((q1 * c0) * c1), .second, iv 2, iv 1] [])) _
    refine XS.aload X24.here hx rfl (hb hby d1_62) rfl rfl ?_
    show Steps p.tables e below (T24.setTop (mkF m 64 #[rv a1, rv ar, jv q1, .second, rv ob3, jv ((q1 * c0) * c1), .second, iv 2, iv 1] [(.ref ob3)])) _
    exact k
  refine own_lift sg30 ?_
  show own_Go p.tables e below (T24.setTop (mkF m 64 #[rv a1, rv ar, jv q1, .second, rv ob3, jv ((q1 * c0) * c1), .second, iv 2, iv 1] [(.ref ob3)])) _
  obtain ⟨fs, hr, hrun, hended, hW, hsame⟩ := X24.leave (v := some (.ref ob3)) (fun h => by rw [Bd.returns] at h; cases h)
  refine ⟨_, _, ?_, hrun, hended, _, _, rfl, ?_, ⟨_, rfl⟩, hW, hsame.mono (by decide) (by decide)⟩
  · exact retOut X24 hx Bd.returns rfl (Or.inr (Or.inr (Or.inr (Or.inr ⟨rfl, rfl, rfl⟩)))) (hb hby d1_64) hr
  · show Q_rmStr2L Z a1 ar q1 fa kc c0 c1 h0 n0 _ T24.heap _
    rw [e24]
    exact ⟨ob3, ka3, rfl, N24, K24, gh3, Vn24⟩
def Q_rmStr3F (Z : State) (a1 : Addr) (ar : Addr) (q1 : Int64) (kc : ClassId) (c0 : Int64) (c1 : Int64) (c2 : Int64) (h0 : Heap) (n0 : Nat) (v : Option Value) (h : Heap) (L : List Loc) : Prop := ∃ b : Addr, ∃ kb : ClassId, v = some (.ref b) ∧ Fr n0 L ∧ Keep h0 h [] ∧ h0.size ≤ b ∧ Arv Z h b kb .long (3 : Int32) [(.long ((q1 * c2) * c1)), (.long (q1 * c2)), (.long q1)] (.long (0 : Int64))
theorem ef_rmStr3F (m : MethodId) (x0 : Addr) (x1 : Addr) (x2 : Int64) : entryFrame m #[(.ref x0), (.ref x1), (.long x2)] 9 = mkF m 0 #[.val (.ref x0), .val (.ref x1), .val (.long x2), .second, .unset, .unset, .unset, .unset, .unset] [] := by first | (simp [entryFrame, mkF, argsToLocals, Value.category]; done) | rfl
set_option maxRecDepth 65536 in
set_option maxHeartbeats 40000000 in
theorem rmStr3F (l : Launch) (Z : State) (a0 : Array Value) (hw : ∀ d ∈ tables_1, d.before a0 Z = true) (ws : List Jvm.Cond) (a1 : Addr) (ar : Addr) (q1 : Int64) (kc : ClassId) (c0 : Int64) (c1 : Int64) (c2 : Int64) (h0 : Heap) (n0 : Nat) (Z0 : n0 ≤ h0.size) (V1 : Arv Z h0 ar kc .long (3 : Int32) [(.long c0), (.long c1), (.long c2)] (.long (0 : Int64))) (S1 : Sta Z h0 "com/example/halyard/halyard/east/ArrayStorage" "FIRST_INDEX_FIRST" "Lcom/example/halyard/halyard/east/ArrayStorage;" (.ref a1))  :
    MetFree l (⟨"com/example/halyard/halyard/east/ArrayStorage", "strides", "([JJ)[J"⟩ : MethodName) (head1 (Jvm.Cond.code (⟨"com/example/halyard/halyard/east/ArrayStorage", "strides", "([JJ)[J"⟩ : MethodName) prog_65_method_4_code 9 (some (.array .long)) :: ws) ({ frames := 0, cells := 1, slots := 3, locals := 0 } : Room)) (fun a U => a = #[(.ref a1), (.ref ar), (.long q1)] ∧ Z.Warmed39 U.vm ∧ U.heap = h0) (fun _ _ _ _ _ => True) (fun _ U o U' => ∃ v L, o = .returned v ∧ Q_rmStr3F Z a1 ar q1 kc c0 c1 c2 h0 n0 v U'.heap L ∧ FrameEnd U o U' L ({ frames := 0, cells := 1, slots := 3, locals := 0 } : Room).cells ({ frames := 0, cells := 1, slots := 3, locals := 0 } : Room).slots) := by
  refine MetFree.of_bodySF (plainFor_of_name pn_0) hisR ?_
  intro p e s m args below meth c s₁ Bd hml0 hP hK
  obtain ⟨rfl, hZ, hh⟩ := hP
  have hx := Bd.exec
  have hby := Bd.bytes
  have hml : c.maxLocals = 9 := hml0
  have hown : s.vm.findClass "com/example/halyard/halyard/east/ArrayStorage" = some m.cls := findClass_of_methodNamed Bd.named
  have hnm := (name_of_methodNamed Bd.named Bd.method).1
  have X0 : Stand p l e ({ frames := 0, cells := 1, slots := 3, locals := 0 } : Room) s m #[(.ref a1), (.ref ar), (.long q1)] below meth c s₁ [] 0 0 := Stand.of_body Bd
  have e0 : s₁.heap = h0 := by rw [← hh, Bd.state]; rfl
  have N0 := Fr.nil n0
  refine own_go (own_lift (fun t k => castTop (ef_rmStr3F m a1 ar q1) k) ?_)
  show own_Go p.tables e below (s₁.setTop (mkF m 0 #[rv a1, rv ar, jv q1, .second, .unset, .unset, .unset, .unset, .unset] [])) _
  have sg1 : ∀ t, Steps p.tables e below (s₁.setTop (mkF m 1 #[rv a1, rv ar, jv q1, .second, .unset, .unset, .unset, .unset, .unset] [(.ref ar)])) t → Steps p.tables e below (s₁.setTop (mkF m 0 #[rv a1, rv ar, jv q1, .second, .unset, .unset, .unset, .unset, .unset] [])) t := by
    intro t k
    refine XS.aloadN X0.here hx rfl (hb hby d1_0) rfl rfl ?_
    show Steps p.tables e below (s₁.setTop (mkF m 1 #[rv a1, rv ar, jv q1, .second, .unset, .unset, .unset, .unset, .unset] [(.ref ar)])) _
    exact k
  refine own_lift sg1 ?_
  show own_Go p.tables e below (s₁.setTop (mkF m 1 #[rv a1, rv ar, jv q1, .second, .unset, .unset, .unset, .unset, .unset] [(.ref ar)])) _
  obtain ⟨cl2, Ar2, -, Sx2, N2', -, -⟩ := id (V1)
  have st2 : ∀ t, Steps p.tables e below (s₁.setTop (mkF m 2 #[rv a1, rv ar, jv q1, .second, .unset, .unset, .unset, .unset, .unset] [(.int 3)])) t → Steps p.tables e below (s₁.setTop (mkF m 1 #[rv a1, rv ar, jv q1, .second, .unset, .unset, .unset, .unset, .unset] [(.ref ar)])) t := by
    intro t k
    refine X0.arraylength hx (by rw [e0]; exact Ar2.1) (State.isArrayOf_alike hZ.alike Ar2.2.1) (g := (mkF m 1 #[rv a1, rv ar, jv q1, .second, .unset, .unset, .unset, .unset, .unset] [(.ref ar)])) rfl rfl (hb hby d1_1) _ ?_
    rw [len_of Sx2 N2']
    exact k
  refine own_lift st2 ?_
  show own_Go p.tables e below (s₁.setTop (mkF m 2 #[rv a1, rv ar, jv q1, .second, .unset, .unset, .unset, .unset, .unset] [(.int 3)])) _
  obtain ⟨T3, h3, ka3, X3, e3, Ex3, Ax3, st3⟩ := newP X0 hx hZ (wd hw 2 rfl) e0 (g := (mkF m 2 #[rv a1, rv ar, jv q1, .second, .unset, .unset, .unset, .unset, .unset] [(.int 3)])) rfl (hb hby d1_2) rfl (by decide) (cap := 3) (by decide) (by decide) (by decide) (by decide)
  obtain ⟨ob3, g3⟩ : ∃ z, z = h0.size := ⟨_, rfl⟩
  rw [← g3] at Ax3 st3
  have ne4 : ar ≠ ob3 := Nat.ne_of_lt (Nat.lt_of_lt_of_le V1.lt (Nat.le_of_eq g3.symm))
  have Z3 : n0 ≤ h3.size := Nat.le_trans Z0 Ex3.1
  have ge3 : n0 ≤ ob3 := Nat.le_trans Z0 (Nat.le_of_eq g3.symm)
  have gh3 : h0.size ≤ ob3 := Nat.le_trans (Keep.refl h0 []).1 (Nat.le_of_eq g3.symm)
  have K3 : Keep h0 h3 [] := (Keep.refl h0 []).ext Ex3
  have Vn3 : Arv Z h3 ob3 ka3 .long (3 : Int32) [(.long 0), (.long 0), (.long 0)] (.long 0) := (Arv.new Ax3 (by decide)).pad (pad_rep [] (.long 0) 3)
  refine own_lift st3 ?_
  show own_Go p.tables e below (T3.setTop (mkF m 4 #[rv a1, rv ar, jv q1, .second, .unset, .unset, .unset, .unset, .unset] [(.ref ob3)])) _
  have sg5 : ∀ t, Steps p.tables e below (T3.setTop (mkF m 15 #[rv a1, rv ar, jv q1, .second, rv ob3, jv q1, .second, iv 0, .unset] [(.ref ar), (.int 0)])) t → Steps p.tables e below (T3.setTop (mkF m 4 #[rv a1, rv ar, jv q1, .second, .unset, .unset, .unset, .unset, .unset] [(.ref ob3)])) t := by
    intro t k
    refine XS.astore X3.here hx rfl (hb hby d1_4) rfl rfl (l' := #[rv a1, rv ar, jv q1, .second, rv ob3, .unset, .unset, .unset, .unset]) rfl ?_
    show Steps p.tables e below (T3.setTop (mkF m 6 #[rv a1, rv ar, jv q1, .second, rv ob3, .unset, .unset, .unset, .unset] [])) _
    refine XS.lloadN X3.here hx rfl (hb hby d1_6) rfl ?_
    refine XS.lstore X3.here hx rfl (hb hby d1_7) rfl (l' := #[rv a1, rv ar, jv q1, .second, rv ob3, jv q1, .second, .unset, .unset]) rfl ?_
    show Steps p.tables e below (T3.setTop (mkF m 9 #[rv a1, rv ar, jv q1, .second, rv ob3, jv q1, .second, .unset, .unset] [])) _
    refine XS.iconst X3.here hx rfl (hb hby d1_9) ?_
    refine XS.istore X3.here hx rfl (hb hby d1_10) rfl (l' := #[rv a1, rv ar, jv q1, .second, rv ob3, jv q1, .second, iv 0, .unset]) rfl ?_
    show Steps p.tables e below (T3.setTop (mkF m 12 #[rv a1, rv ar, jv q1, .second, rv ob3, jv q1, .second, iv 0, .unset] [])) _
    refine XS.iload X3.here hx rfl (hb hby d1_12) rfl ?_
    refine XS.aloadN X3.here hx rfl (hb hby d1_14) rfl rfl ?_
    show Steps p.tables e below (T3.setTop (mkF m 15 #[rv a1, rv ar, jv q1, .second, rv ob3, jv q1, .second, iv 0, .unset] [(.ref ar), (.int 0)])) _
    exact k
  refine own_lift sg5 ?_
  show own_Go p.tables e below (T3.setTop (mkF m 15 #[rv a1, rv ar, jv q1, .second, rv ob3, jv q1, .second, iv 0, .unset] [(.ref ar), (.int 0)])) _
  have Fc6 : Arv Z h3 ar kc .long (3 : Int32) [(.long c0), (.long c1), (.long c2)] (.long (0 : Int64)) := (V1.ext Ex3)
  obtain ⟨cl7, Ar7, -, Sx7, N7', -, -⟩ := id (Fc6)
  have st7 : ∀ t, Steps p.tables e below (T3.setTop (mkF m 16 #[rv a1, rv ar, jv q1, .second, rv ob3, jv q1, .second, iv 0, .unset] [(.int 3), (.int 0)])) t → Steps p.tables e below (T3.setTop (mkF m 15 #[rv a1, rv ar, jv q1, .second, rv ob3, jv q1, .second, iv 0, .unset] [(.ref ar), (.int 0)])) t := by
    intro t k
    refine X3.arraylength hx (by rw [e3]; exact Ar7.1) (State.isArrayOf_alike hZ.alike Ar7.2.1) (g := (mkF m 15 #[rv a1, rv ar, jv q1, .second, rv ob3, jv q1, .second, iv 0, .unset] [(.ref ar), (.int 0)])) rfl rfl (hb hby d1_15) _ ?_
    rw [len_of Sx7 N7']
    exact k
  refine own_lift st7 ?_
  show own_Go p.tables e below (T3.setTop (mkF m 16 #[rv a1, rv ar, jv q1, .second, rv ob3, jv q1, .second, iv 0, .unset] [(.int 3), (.int 0)])) _
  have sg8 : ∀ t, Steps p.tables e below (T3.setTop (mkF m 20 #[rv a1, rv ar, jv q1, .second, rv ob3, jv q1, .second, iv 0, .unset] [(.ref a1)])) t → Steps p.tables e below (T3.setTop (mkF m 16 #[rv a1, rv ar, jv q1, .second, rv ob3, jv q1, .second, iv 0, .unset] [(.int 3), (.int 0)])) t := by
    intro t k
    refine XS.icmpNo X3.here hx rfl (hb hby d1_16) rfl (tlt (by decide : (0 : Int32) < (3 : Int32))).2.1 ?_
    show Steps p.tables e below (T3.setTop (mkF m 19 #[rv a1, rv ar, jv q1, .second, rv ob3, jv q1, .second, iv 0, .unset] [])) _
    refine XS.aloadN X3.here hx rfl (hb hby d1_19) rfl rfl ?_
    show Steps p.tables e below (T3.setTop (mkF m 20 #[rv a1, rv ar, jv q1, .second, rv ob3, jv q1, .second, iv 0, .unset] [(.ref a1)])) _
    exact k
  refine own_lift sg8 ?_
  show own_Go p.tables e below (T3.setTop (mkF m 20 #[rv a1, rv ar, jv q1, .second, rv ob3, jv q1, .second, iv 0, .unset] [(.ref a1)])) _
  have Fc9 : Sta Z h3 "com/example/halyard/halyard/east/ArrayStorage" "FIRST_INDEX_FIRST" "Lcom/example/halyard/halyard/east/ArrayStorage;" (.ref a1) := (S1.ext Ex3)
  obtain ⟨T10, X10, e10, st10⟩ := getS X3 hx hZ hown (host := "") (wd hw 13 rfl) Via.refl e3 Fc9 (g := (mkF m 20 #[rv a1, rv ar, jv q1, .second, rv ob3, jv q1, .second, iv 0, .unset] [(.ref a1)])) rfl (hb hby d1_20)
  refine own_lift st10 ?_
  show own_Go p.tables e below (T10.setTop (mkF m 23 #[rv a1, rv ar, jv q1, .second, rv ob3, jv q1, .second, iv 0, .unset] [(.ref a1), (.ref a1)])) _
  have sg11 : ∀ t, Steps p.tables e below (T10.setTop (mkF m 27 #[rv a1, rv ar, jv q1, .second, rv ob3, jv q1, .second, iv 0, .unset] [(.ref ar)])) t → Steps p.tables e below (T10.setTop (mkF m 23 #[rv a1, rv ar, jv q1, .second, rv ob3, jv q1, .second, iv 0, .unset] [(.ref a1), (.ref a1)])) t := by
    intro t k
    refine Jvm.RoadKit.acmp (g := (mkF m 23 #[rv a1, rv ar, jv q1, .second, rv ob3, jv q1, .second, iv 0, .unset] [(.ref a1), (.ref a1)])) X10 hx rfl rfl rfl (pc0 := 23) (pc' := 26) (same := true) rfl (hb hby d1_23) rfl (decide_eq_true rfl) (by decide) (by decide) ?_
    show Steps p.tables e below (T10.setTop (mkF m 26 #[rv a1, rv ar, jv q1, .second, rv ob3, jv q1, .second, iv 0, .unset] [])) _
    refine XS.aloadN X10.here hx rfl (hb hby d1_26) rfl rfl ?_
    show Steps p.tables e below (T10.setTop (mkF m 27 #[rv a1, rv ar, jv q1, .second, rv ob3, jv q1, .second, iv 0, .unset] [(.ref ar)])) _
    exact k
  refine own_lift sg11 ?_
  show own_Go p.tables e below (T10.setTop (mkF m 27 #[rv a1, rv ar, jv q1, .second, rv ob3, jv q1, .second, iv 0, .unset] [(.ref ar)])) _
  obtain ⟨cl12, Ar12, -, Sx12, N12', -, -⟩ := id (Fc6)
  have st12 : ∀ t, Steps p.tables e below (T10.setTop (mkF m 28 #[rv a1, rv ar, jv q1, .second, rv ob3, jv q1, .second, iv 0, .unset] [(.int 3)])) t → Steps p.tables e below (T10.setTop (mkF m 27 #[rv a1, rv ar, jv q1, .second, rv ob3, jv q1, .second, iv 0, .unset] [(.ref ar)])) t := by
    intro t k
    refine X10.arraylength hx (by rw [e10]; exact Ar12.1) (State.isArrayOf_alike hZ.alike Ar12.2.1) (g := (mkF m 27 #[rv a1, rv ar, jv q1, .second, rv ob3, jv q1, .second, iv 0, .unset] [(.ref ar)])) rfl rfl (hb hby d1_27) _ ?_
    rw [len_of Sx12 N12']
    exact k
  refine own_lift st12 ?_
  show own_Go p.tables e below (T10.setTop (mkF m 28 #[rv a1, rv ar, jv q1, .second, rv ob3, jv q1, .second, iv 0, .unset] [(.int 3)])) _
  have sg13 : ∀ t, Steps p.tables e below (T10.setTop (mkF m 46 #[rv a1, rv ar, jv q1, .second, rv ob3, jv q1, .second, iv 0, iv 2] [(.long q1), (.int 2), (.ref ob3)])) t → Steps p.tables e below (T10.setTop (mkF m 28 #[rv a1, rv ar, jv q1, .second, rv ob3, jv q1, .second, iv 0, .unset] [(.int 3)])) t := by
    intro t k
    refine XS.iconst X10.here hx rfl (hb hby d1_28) ?_
    show Steps p.tables e below (T10.setTop (mkF m 29 #[rv a1, rv ar, jv q1, .second, rv ob3, jv q1, .second, iv 0, .unset] [(.int 1), (.int 3)])) _
    refine XS.isub X10.here hx rfl (hb hby d1_29) rfl ?_
    refine XS.iload X10.here hx rfl (hb hby d1_30) rfl ?_
    show Steps p.tables e below (T10.setTop (mkF m 32 #[rv a1, rv ar, jv q1, .second, rv ob3, jv q1, .second, iv 0, .unset] [(.int 0), (.int 2)])) _
    refine XS.isub X10.here hx rfl (hb hby d1_32) rfl ?_
    refine XS.goto X10.here hx rfl (pc0 := 33) (pc' := 38) rfl (hb hby d1_33) (by decide) (by decide) ?_
    show Steps p.tables e below (T10.setTop (mkF m 38 #[rv a1, rv ar, jv q1, .second, rv ob3, jv q1, .second, iv 0, .unset] [(.int 2)])) _
    refine XS.istore X10.here hx rfl (hb hby d1_38) rfl (l' := #[rv a1, rv ar, jv q1, .second, rv ob3, jv q1, .second, iv 0, iv 2]) rfl ?_
    refine XS.aload X10.here hx rfl (hb hby d1_40) rfl rfl ?_
    show Steps p.tables e below (T10.setTop (mkF m 42 #[rv a1, rv ar, jv q1, .second, rv ob3, jv q1, .second, iv 0, iv 2] [(.ref ob3)])) _
    refine XS.iload X10.here hx rfl (hb hby d1_42) rfl ?_
    refine XS.lload X10.here hx rfl (hb hby d1_44) rfl ?_
    show Steps p.tables e below (T10.setTop (mkF m 46 #[rv a1, rv ar, jv q1, .second, rv ob3, jv q1, .second, iv 0, iv 2] [(.long q1), (.int 2), (.ref ob3)])) _
    exact k
  refine own_lift sg13 ?_
  show own_Go p.tables e below (T10.setTop (mkF m 46 #[rv a1, rv ar, jv q1, .second, rv ob3, jv q1, .second, iv 0, iv 2] [(.long q1), (.int 2), (.ref ob3)])) _
  obtain ⟨cl14, Ar14, qx14, Sx14, N14', H14', G14'⟩ := id (Vn3)
  have hin14 : ¬ ((2 : Int32) < 0 ∨ cl14.slots.size ≤ ((2 : Int32)).toNatClampNeg) := inb_of Sx14 ⟨(by decide : ¬ ((2 : Int32) < (0 : Int32))), (by decide : (2 : Int32) < (3 : Int32))⟩
  obtain ⟨T15, h15, X15, e15, W15, st15⟩ := stJ X10 hx hZ e10 Ar14 (j := (2 : Int32)) hin14 (g := (mkF m 46 #[rv a1, rv ar, jv q1, .second, rv ob3, jv q1, .second, iv 0, iv 2] [(.long q1), (.int 2), (.ref ob3)])) rfl rfl (hb hby d1_46)
  have N15 := Fr.snoc X15 N0 ge3
  have Z15 : n0 ≤ h15.size := Nat.le_trans Z3 (Nat.le_of_eq W15.size.symm)
  have K15 : Keep h0 h15 [] := K3.wr W15 (Or.inr gh3)
  have Vn15 : Arv Z h15 ob3 ka3 .long (3 : Int32) [(.long 0), (.long 0), (.long q1)] (.long 0) := Arv.set Ar14 qx14 Sx14 N14' H14' G14' rfl W15 2 rfl (Nat.le_of_ble_eq_true rfl)
  refine own_lift st15 ?_
  show own_Go p.tables e below (T15.setTop (mkF m 47 #[rv a1, rv ar, jv q1, .second, rv ob3, jv q1, .second, iv 0, iv 2] [])) _
  have sg16 : ∀ t, Steps p.tables e below (T15.setTop (mkF m 52 #[rv a1, rv ar, jv q1, .second, rv ob3, jv q1, .second, iv 0, iv 2] [(.int 2), (.ref ar), (.long q1)])) t → Steps p.tables e below (T15.setTop (mkF m 47 #[rv a1, rv ar, jv q1, .second, rv ob3, jv q1, .second, iv 0, iv 2] [])) t := by
    intro t k
    refine XS.lload X15.here hx rfl (hb hby d1_47) rfl ?_
    show Steps p.tables e below (T15.setTop (mkF m 49 #[rv a1, rv ar, jv q1, .second, rv ob3, jv q1, .second, iv 0, iv 2] [(.long q1)])) _
    refine XS.aloadN X15.here hx rfl (hb hby d1_49) rfl rfl ?_
    refine XS.iload X15.here hx rfl (hb hby d1_50) rfl ?_
    show Steps p.tables e below (T15.setTop (mkF m 52 #[rv a1, rv ar, jv q1, .second, rv ob3, jv q1, .second, iv 0, iv 2] [(.int 2), (.ref ar), (.long q1)])) _
    exact k
  refine own_lift sg16 ?_
  show own_Go p.tables e below (T15.setTop (mkF m 52 #[rv a1, rv ar, jv q1, .second, rv ob3, jv q1, .second, iv 0, iv 2] [(.int 2), (.ref ar), (.long q1)])) _
  have Fc17 : Arv Z h15 ar kc .long (3 : Int32) [(.long c0), (.long c1), (.long c2)] (.long (0 : Int64)) := (Fc6.other W15 ne4)
  obtain ⟨cl18, Ar18, qx18, Sx18, N18', H18', G18'⟩ := id (Fc17)
  have hin18 : ¬ ((2 : Int32) < 0 ∨ cl18.slots.size ≤ ((2 : Int32)).toNatClampNeg) := inb_of Sx18 ⟨(by decide : ¬ ((2 : Int32) < (0 : Int32))), (by decide : (2 : Int32) < (3 : Int32))⟩
  have hat18 : cl18.slots[((2 : Int32)).toNatClampNeg]? = some (.long c2) := Has.at H18' hin18 rfl
  have sg19 : ∀ t, Steps p.tables e below (T15.setTop (mkF m 15 #[rv a1, rv ar, jv q1, .second, rv ob3, jv (q1 * c2), .second, iv 1, iv 2] [(.ref ar), (.int 1)])) t → Steps p.tables e below (T15.setTop (mkF m 52 #[rv a1, rv ar, jv q1, .second, rv ob3, jv q1, .second, iv 0, iv 2] [(.int 2), (.ref ar), (.long q1)])) t := by
    intro t k
    refine X15.laload hx (j := (2 : Int32)) (v := (.long c2)) (by rw [e15]; exact Ar18.1) (State.isArrayOf_alike hZ.alike Ar18.2.1) Ar18.2.2 hin18 hat18 (g := (mkF m 52 #[rv a1, rv ar, jv q1, .second, rv ob3, jv q1, .second, iv 0, iv 2] [(.int 2), (.ref ar), (.long q1)])) rfl rfl (hb hby d1_52) _ ?_
    show Steps p.tables e below (T15.setTop (mkF m 53 #[rv a1, rv ar, jv q1, .second, rv ob3, jv q1, .second, iv 0, iv 2] [(.long c2), (.long q1)])) _
    refine XS.lmul X15.here hx rfl (hb hby d1_53) rfl ?_
    refine XS.lstore X15.here hx rfl (hb hby d1_54) rfl (l' := #[rv a1, rv ar, jv q1, .second, rv ob3, jv (q1 * c2), .second, iv 0, iv 2]) rfl ?_
    show Steps p.tables e below (T15.setTop (mkF m 56 #[rv a1, rv ar, jv q1, .second, rv ob3, jv (q1 * c2), .second, iv 0, iv 2] [])) _
    refine XS.iinc X15.here hx rfl (hb hby d1_56) rfl (l' := #[rv a1, rv ar, jv q1, .second, rv ob3, jv (q1 * c2), .second, iv 1, iv 2]) rfl ?_
    refine XS.goto X15.here hx rfl (pc0 := 59) (pc' := 12) rfl (hb hby d1_59) (by decide) (by decide) ?_
    show Steps p.tables e below (T15.setTop (mkF m 12 #[rv a1, rv ar, jv q1, .second, rv ob3, jv (q1 * c2), .second, iv 1, iv 2] [])) _
    refine XS.iload X15.here hx rfl (hb hby d1_12) rfl ?_
    refine XS.aloadN X15.here hx rfl (hb hby d1_14) rfl rfl ?_
    show Steps p.tables e below (T15.setTop (mkF m 15 #[rv a1, rv ar, jv q1, .second, rv ob3, jv (q1 * c2), .second, iv 1, iv 2] [(.ref ar), (.int 1)])) _
    exact k
  refine own_lift sg19 ?_
  show own_Go p.tables e below (T15.setTop (mkF m 15 #[rv a1, rv ar, jv q1, .second, rv ob3, jv (q1 * c2), .second, iv 1, iv 2] [(.ref ar), (.int 1)])) _
  obtain ⟨cl20, Ar20, -, Sx20, N20', -, -⟩ := id (Fc17)
  have st20 : ∀ t, Steps p.tables e below (T15.setTop (mkF m 16 #[rv a1, rv ar, jv q1, .second, rv ob3, jv (q1 * c2), .second, iv 1, iv 2] [(.int 3), (.int 1)])) t → Steps p.tables e below (T15.setTop (mkF m 15 #[rv a1, rv ar, jv q1, .second, rv ob3, jv (q1 * c2), .second, iv 1, iv 2] [(.ref ar), (.int 1)])) t := by
    intro t k
    refine X15.arraylength hx (by rw [e15]; exact Ar20.1) (State.isArrayOf_alike hZ.alike Ar20.2.1) (g := (mkF m 15 #[rv a1, rv ar, jv q1, .second, rv ob3, jv (q1 * c2), .second, iv 1, iv 2] [(.ref ar), (.int 1)])) rfl rfl (hb hby d1_15) _ ?_
    rw [len_of Sx20 N20']
    exact k
  refine own_lift st20 ?_
  show own_Go p.tables e below (T15.setTop (mkF m 16 #[rv a1, rv ar, jv q1, .second, rv ob3, jv (q1 * c2), .second, iv 1, iv 2] [(.int 3), (.int 1)])) _
  have sg21 : ∀ t, Steps p.tables e below (T15.setTop (mkF m 20 #[rv a1, rv ar, jv q1, .second, rv ob3, jv (q1 * c2), .second, iv 1, iv 2] [(.ref a1)])) t → Steps p.tables e below (T15.setTop (mkF m 16 #[rv a1, rv ar, jv q1, .second, rv ob3, jv (q1 * c2), .second, iv 1, iv 2] [(.int 3), (.int 1)])) t := by
    intro t k
    refine XS.icmpNo X15.here hx rfl (hb hby d1_16) rfl (tlt (by decide : (1 : Int32) < (3 : Int32))).2.1 ?_
    show Steps p.tables e below (T15.setTop (mkF m 19 #[rv a1, rv ar, jv q1, .second, rv ob3, jv (q1 * c2), .second, iv 1, iv 2] [])) _
    refine XS.aloadN X15.here hx rfl (hb hby d1_19) rfl rfl ?_
    show Steps p.tables e below (T15.setTop (mkF m 20 #[rv a1, rv ar, jv q1, .second, rv ob3, jv (q1 * c2), .second, iv 1, iv 2] [(.ref a1)])) _
    exact k
  refine own_lift sg21 ?_
  show own_Go p.tables e below (T15.setTop (mkF m 20 #[rv a1, rv ar, jv q1, .second, rv ob3, jv (q1 * c2), .second, iv 1, iv 2] [(.ref a1)])) _
  have Fc22 : Sta Z h15 "com/example/halyard/halyard/east/ArrayStorage" "FIRST_INDEX_FIRST" "Lcom/example/halyard/halyard/east/ArrayStorage;" (.ref a1) := (Fc9.wr W15)
  obtain ⟨T23, X23, e23, st23⟩ := getS X15 hx hZ hown (host := "") (wd hw 13 rfl) Via.refl e15 Fc22 (g := (mkF m 20 #[rv a1, rv ar, jv q1, .second, rv ob3, jv (q1 * c2), .second, iv 1, iv 2] [(.ref a1)])) rfl (hb hby d1_20)
  refine own_lift st23 ?_
  show own_Go p.tables e below (T23.setTop (mkF m 23 #[rv a1, rv ar, jv q1, .second, rv ob3, jv (q1 * c2), .second, iv 1, iv 2] [(.ref a1), (.ref a1)])) _
  have sg24 : ∀ t, Steps p.tables e below (T23.setTop (mkF m 27 #[rv a1, rv ar, jv q1, .second, rv ob3, jv (q1 * c2), .second, iv 1, iv 2] [(.ref ar)])) t → Steps p.tables e below (T23.setTop (mkF m 23 #[rv a1, rv ar, jv q1, .second, rv ob3, jv (q1 * c2), .second, iv 1, iv 2] [(.ref a1), (.ref a1)])) t := by
    intro t k
    refine Jvm.RoadKit.acmp (g := (mkF m 23 #[rv a1, rv ar, jv q1, .second, rv ob3, jv (q1 * c2), .second, iv 1, iv 2] [(.ref a1), (.ref a1)])) X23 hx rfl rfl rfl (pc0 := 23) (pc' := 26) (same := true) rfl (hb hby d1_23) rfl (decide_eq_true rfl) (by decide) (by decide) ?_
    show Steps p.tables e below (T23.setTop (mkF m 26 #[rv a1, rv ar, jv q1, .second, rv ob3, jv (q1 * c2), .second, iv 1, iv 2] [])) _
    refine XS.aloadN X23.here hx rfl (hb hby d1_26) rfl rfl ?_
    show Steps p.tables e below (T23.setTop (mkF m 27 #[rv a1, rv ar, jv q1, .second, rv ob3, jv (q1 * c2), .second, iv 1, iv 2] [(.ref ar)])) _
    exact k
  refine own_lift sg24 ?_
  show own_Go p.tables e below (T23.setTop (mkF m 27 #[rv a1, rv ar, jv q1, .second, rv ob3, jv (q1 * c2), .second, iv 1, iv 2] [(.ref ar)])) _
  obtain ⟨cl25, Ar25, -, Sx25, N25', -, -⟩ := id (Fc17)
  have st25 : ∀ t, Steps p.tables e below (T23.setTop (mkF m 28 #[rv a1, rv ar, jv q1, .second, rv ob3, jv (q1 * c2), .second, iv 1, iv 2] [(.int 3)])) t → Steps p.tables e below (T23.setTop (mkF m 27 #[rv a1, rv ar, jv q1, .second, rv ob3, jv (q1 * c2), .second, iv 1, iv 2] [(.ref ar)])) t := by
    intro t k
    refine X23.arraylength hx (by rw [e23]; exact Ar25.1) (State.isArrayOf_alike hZ.alike Ar25.2.1) (g := (mkF m 27 #[rv a1, rv ar, jv q1, .second, rv ob3, jv (q1 * c2), .second, iv 1, iv 2] [(.ref ar)])) rfl rfl (hb hby d1_27) _ ?_
    rw [len_of Sx25 N25']
    exact k
  refine own_lift st25 ?_
  show own_Go p.tables e below (T23.setTop (mkF m 28 #[rv a1, rv ar, jv q1, .second, rv ob3, jv (q1 * c2), .second, iv 1, iv 2] [(.int 3)])) _
  have sg26 : ∀ t, Steps p.tables e below (T23.setTop (mkF m 46 #[rv a1, rv ar, jv q1, .second, rv ob3, jv (q1 * c2), .second, iv 1, iv 1] [(.long (q1 * c2)), (.int 1), (.ref ob3)])) t → Steps p.tables e below (T23.setTop (mkF m 28 #[rv a1, rv ar, jv q1, .second, rv ob3, jv (q1 * c2), .second, iv 1, iv 2] [(.int 3)])) t := by
    intro t k
    refine XS.iconst X23.here hx rfl (hb hby d1_28) ?_
    show Steps p.tables e below (T23.setTop (mkF m 29 #[rv a1, rv ar, jv q1, .second, rv ob3, jv (q1 * c2), .second, iv 1, iv 2] [(.int 1), (.int 3)])) _
    refine XS.isub X23.here hx rfl (hb hby d1_29) rfl ?_
    refine XS.iload X23.here hx rfl (hb hby d1_30) rfl ?_
    show Steps p.tables e below (T23.setTop (mkF m 32 #[rv a1, rv ar, jv q1, .second, rv ob3, jv (q1 * c2), .second, iv 1, iv 2] [(.int 1), (.int 2)])) _
    refine XS.isub X23.here hx rfl (hb hby d1_32) rfl ?_
    refine XS.goto X23.here hx rfl (pc0 := 33) (pc' := 38) rfl (hb hby d1_33) (by decide) (by decide) ?_
    show Steps p.tables e below (T23.setTop (mkF m 38 #[rv a1, rv ar, jv q1, .second, rv ob3, jv (q1 * c2), .second, iv 1, iv 2] [(.int 1)])) _
    refine XS.istore X23.here hx rfl (hb hby d1_38) rfl (l' := #[rv a1, rv ar, jv q1, .second, rv ob3, jv (q1 * c2), .second, iv 1, iv 1]) rfl ?_
    refine XS.aload X23.here hx rfl (hb hby d1_40) rfl rfl ?_
    show Steps p.tables e below (T23.setTop (mkF m 42 #[rv a1, rv ar, jv q1, .second, rv ob3, jv (q1 * c2), .second, iv 1, iv 1] [(.ref ob3)])) _
    refine XS.iload X23.here hx rfl (hb hby d1_42) rfl ?_
    refine XS.lload X23.here hx rfl (hb hby d1_44) rfl ?_
    show Steps p.tables e below (T23.setTop (mkF m 46 #[rv a1, rv ar, jv q1, .second, rv ob3, jv (q1 * c2), .second, iv 1, iv 1] [(.long (q1 * c2)), (.int 1), (.ref ob3)])) _
    exact k
  refine own_lift sg26 ?_
  show own_Go p.tables e below (T23.setTop (mkF m 46 #[rv a1, rv ar, jv q1, .second, rv ob3, jv (q1 * c2), .second, iv 1, iv 1] [(.long (q1 * c2)), (.int 1), (.ref ob3)])) _
  obtain ⟨cl27, Ar27, qx27, Sx27, N27', H27', G27'⟩ := id (Vn15)
  have hin27 : ¬ ((1 : Int32) < 0 ∨ cl27.slots.size ≤ ((1 : Int32)).toNatClampNeg) := inb_of Sx27 ⟨(by decide : ¬ ((1 : Int32) < (0 : Int32))), (by decide : (1 : Int32) < (3 : Int32))⟩
  obtain ⟨T28, h28, X28, e28, W28, st28⟩ := stJ X23 hx hZ e23 Ar27 (j := (1 : Int32)) hin27 (g := (mkF m 46 #[rv a1, rv ar, jv q1, .second, rv ob3, jv (q1 * c2), .second, iv 1, iv 1] [(.long (q1 * c2)), (.int 1), (.ref ob3)])) rfl rfl (hb hby d1_46)
  have N28 := Fr.snoc X28 N15 ge3
  have Z28 : n0 ≤ h28.size := Nat.le_trans Z15 (Nat.le_of_eq W28.size.symm)
  have K28 : Keep h0 h28 [] := K15.wr W28 (Or.inr gh3)
  have Vn28 : Arv Z h28 ob3 ka3 .long (3 : Int32) [(.long 0), (.long (q1 * c2)), (.long q1)] (.long 0) := Arv.set Ar27 qx27 Sx27 N27' H27' G27' rfl W28 1 rfl (Nat.le_of_ble_eq_true rfl)
  refine own_lift st28 ?_
  show own_Go p.tables e below (T28.setTop (mkF m 47 #[rv a1, rv ar, jv q1, .second, rv ob3, jv (q1 * c2), .second, iv 1, iv 1] [])) _
  have sg29 : ∀ t, Steps p.tables e below (T28.setTop (mkF m 52 #[rv a1, rv ar, jv q1, .second, rv ob3, jv (q1 * c2), .second, iv 1, iv 1] [(.int 1), (.ref ar), (.long (q1 * c2))])) t → Steps p.tables e below (T28.setTop (mkF m 47 #[rv a1, rv ar, jv q1, .second, rv ob3, jv (q1 * c2), .second, iv 1, iv 1] [])) t := by
    intro t k
    refine XS.lload X28.here hx rfl (hb hby d1_47) rfl ?_
    show Steps p.tables e below (T28.setTop (mkF m 49 #[rv a1, rv ar, jv q1, .second, rv ob3, jv (q1 * c2), .second, iv 1, iv 1] [(.long (q1 * c2))])) _
    refine XS.aloadN X28.here hx rfl (hb hby d1_49) rfl rfl ?_
    refine XS.iload X28.here hx rfl (hb hby d1_50) rfl ?_
    show Steps p.tables e below (T28.setTop (mkF m 52 #[rv a1, rv ar, jv q1, .second, rv ob3, jv (q1 * c2), .second, iv 1, iv 1] [(.int 1), (.ref ar), (.long (q1 * c2))])) _
    exact k
  refine own_lift sg29 ?_
  show own_Go p.tables e below (T28.setTop (mkF m 52 #[rv a1, rv ar, jv q1, .second, rv ob3, jv (q1 * c2), .second, iv 1, iv 1] [(.int 1), (.ref ar), (.long (q1 * c2))])) _
  have Fc30 : Arv Z h28 ar kc .long (3 : Int32) [(.long c0), (.long c1), (.long c2)] (.long (0 : Int64)) := (Fc17.other W28 ne4)
  obtain ⟨cl31, Ar31, qx31, Sx31, N31', H31', G31'⟩ := id (Fc30)
  have hin31 : ¬ ((1 : Int32) < 0 ∨ cl31.slots.size ≤ ((1 : Int32)).toNatClampNeg) := inb_of Sx31 ⟨(by decide : ¬ ((1 : Int32) < (0 : Int32))), (by decide : (1 : Int32) < (3 : Int32))⟩
  have hat31 : cl31.slots[((1 : Int32)).toNatClampNeg]? = some (.long c1) := Has.at H31' hin31 rfl
  have sg32 : ∀ t, Steps p.tables e below (T28.setTop (mkF m 15 #[rv a1, rv ar, jv q1, .second, rv ob3, jv ((q1 * c2) * c1), .second, iv 2, iv 1] [(.ref ar), (.int 2)])) t → Steps p.tables e below (T28.setTop (mkF m 52 #[rv a1, rv ar, jv q1, .second, rv ob3, jv (q1 * c2), .second, iv 1, iv 1] [(.int 1), (.ref ar), (.long (q1 * c2))])) t := by
    intro t k
    refine X28.laload hx (j := (1 : Int32)) (v := (.long c1)) (by rw [e28]; exact Ar31.1) (State.isArrayOf_alike hZ.alike Ar31.2.1) Ar31.2.2 hin31 hat31 (g := (mkF m 52 #[rv a1, rv ar, jv q1, .second, rv ob3, jv (q1 * c2), .second, iv 1, iv 1] [(.int 1), (.ref ar), (.long (q1 * c2))])) rfl rfl (hb hby d1_52) _ ?_
    show Steps p.tables e below (T28.setTop (mkF m 53 #[rv a1, rv ar, jv q1, .second, rv ob3, jv (q1 * c2), .second, iv 1, iv 1] [(.long c1), (.long (q1 * c2))])) _
    refine XS.lmul X28.here hx rfl (hb hby d1_53) rfl ?_
    refine XS.lstore X28.here hx rfl (hb hby d1_54) rfl (l' := #[rv a1, rv ar, jv q1, .second, rv ob3, jv ((q1 * c2) * c1), .second, iv 1, iv 1]) rfl ?_
    show Steps p.tables e below (T28.setTop (mkF m 56 #[rv a1, rv ar, jv q1, .second, rv ob3, jv ((q1 * c2) * c1), .second, iv 1, iv 1] [])) _
    refine XS.iinc X28.here hx rfl (hb hby d1_56) rfl (l' := #[rv a1, rv ar, jv q1, .second, rv ob3, jv ((q1 * c2) * c1), .second, iv 2, iv 1]) rfl ?_
    refine XS.goto X28.here hx rfl (pc0 := 59) (pc' := 12) rfl (hb hby d1_59) (by decide) (by decide) ?_
    show Steps p.tables e below (T28.setTop (mkF m 12 #[rv a1, rv ar, jv q1, .second, rv ob3, jv ((q1 * c2) * c1), .second, iv 2, iv 1] [])) _
    refine XS.iload X28.here hx rfl (hb hby d1_12) rfl ?_
    refine XS.aloadN X28.here hx rfl (hb hby d1_14) rfl rfl ?_
    show Steps p.tables e below (T28.setTop (mkF m 15 #[rv a1, rv ar, jv q1, .second, rv ob3, jv ((q1 * c2) * c1), .second, iv 2, iv 1] [(.ref ar), (.int 2)])) _
    exact k
  refine own_lift sg32 ?_
  show own_Go p.tables e below (T28.setTop (mkF m 15 #[rv a1, rv ar, jv q1, .second, rv ob3, jv ((q1 * c2) * c1), .second, iv 2, iv 1] [(.ref ar), (.int 2)])) _
  obtain ⟨cl33, Ar33, -, Sx33, N33', -, -⟩ := id (Fc30)
  have st33 : ∀ t, Steps p.tables e below (T28.setTop (mkF m 16 #[rv a1, rv ar, jv q1, .second, rv ob3, jv ((q1 * c2) * c1), .second, iv 2, iv 1] [(.int 3), (.int 2)])) t → Steps p.tables e below (T28.setTop (mkF m 15 #[rv a1, rv ar, jv q1, .second, rv ob3, jv ((q1 * c2) * c1), .second, iv 2, iv 1] [(.ref ar), (.int 2)])) t := by
    intro t k
    refine X28.arraylength hx (by rw [e28]; exact Ar33.1) (State.isArrayOf_alike hZ.alike Ar33.2.1) (g := (mkF m 15 #[rv a1, rv ar, jv q1, .second, rv ob3, jv ((q1 * c2) * c1), .second, iv 2, iv 1] [(.ref ar), (.int 2)])) rfl rfl (hb hby d1_15) _ ?_
    rw [len_of Sx33 N33']
    exact k
  refine own_lift st33 ?_
  show own_Go p.tables e below (T28.setTop (mkF m 16 #[rv a1, rv ar, jv q1, .second, rv ob3, jv ((q1 * c2) * c1), .second, iv 2, iv 1] [(.int 3), (.int 2)])) _
  have sg34 : ∀ t, Steps p.tables e below (T28.setTop (mkF m 20 #[rv a1, rv ar, jv q1, .second, rv ob3, jv ((q1 * c2) * c1), .second, iv 2, iv 1] [(.ref a1)])) t → Steps p.tables e below (T28.setTop (mkF m 16 #[rv a1, rv ar, jv q1, .second, rv ob3, jv ((q1 * c2) * c1), .second, iv 2, iv 1] [(.int 3), (.int 2)])) t := by
    intro t k
    refine XS.icmpNo X28.here hx rfl (hb hby d1_16) rfl (tlt (by decide : (2 : Int32) < (3 : Int32))).2.1 ?_
    show Steps p.tables e below (T28.setTop (mkF m 19 #[rv a1, rv ar, jv q1, .second, rv ob3, jv ((q1 * c2) * c1), .second, iv 2, iv 1] [])) _
    refine XS.aloadN X28.here hx rfl (hb hby d1_19) rfl rfl ?_
    show Steps p.tables e below (T28.setTop (mkF m 20 #[rv a1, rv ar, jv q1, .second, rv ob3, jv ((q1 * c2) * c1), .second, iv 2, iv 1] [(.ref a1)])) _
    exact k
  refine own_lift sg34 ?_
  show own_Go p.tables e below (T28.setTop (mkF m 20 #[rv a1, rv ar, jv q1, .second, rv ob3, jv ((q1 * c2) * c1), .second, iv 2, iv 1] [(.ref a1)])) _
  have Fc35 : Sta Z h28 "com/example/halyard/halyard/east/ArrayStorage" "FIRST_INDEX_FIRST" "Lcom/example/halyard/halyard/east/ArrayStorage;" (.ref a1) := (Fc22.wr W28)
  obtain ⟨T36, X36, e36, st36⟩ := getS X28 hx hZ hown (host := "") (wd hw 13 rfl) Via.refl e28 Fc35 (g := (mkF m 20 #[rv a1, rv ar, jv q1, .second, rv ob3, jv ((q1 * c2) * c1), .second, iv 2, iv 1] [(.ref a1)])) rfl (hb hby d1_20)
  refine own_lift st36 ?_
  show own_Go p.tables e below (T36.setTop (mkF m 23 #[rv a1, rv ar, jv q1, .second, rv ob3, jv ((q1 * c2) * c1), .second, iv 2, iv 1] [(.ref a1), (.ref a1)])) _
  have sg37 : ∀ t, Steps p.tables e below (T36.setTop (mkF m 27 #[rv a1, rv ar, jv q1, .second, rv ob3, jv ((q1 * c2) * c1), .second, iv 2, iv 1] [(.ref ar)])) t → Steps p.tables e below (T36.setTop (mkF m 23 #[rv a1, rv ar, jv q1, .second, rv ob3, jv ((q1 * c2) * c1), .second, iv 2, iv 1] [(.ref a1), (.ref a1)])) t := by
    intro t k
    refine Jvm.RoadKit.acmp (g := (mkF m 23 #[rv a1, rv ar, jv q1, .second, rv ob3, jv ((q1 * c2) * c1), .second, iv 2, iv 1] [(.ref a1), (.ref a1)])) X36 hx rfl rfl rfl (pc0 := 23) (pc' := 26) (same := true) rfl (hb hby d1_23) rfl (decide_eq_true rfl) (by decide) (by decide) ?_
    show Steps p.tables e below (T36.setTop (mkF m 26 #[rv a1, rv ar, jv q1, .second, rv ob3, jv ((q1 * c2) * c1), .second, iv 2, iv 1] [])) _
    refine XS.aloadN X36.here hx rfl (hb hby d1_26) rfl rfl ?_
    show Steps p.tables e below (T36.setTop (mkF m 27 #[rv a1, rv ar, jv q1, .second, rv ob3, jv ((q1 * c2) * c1), .second, iv 2, iv 1] [(.ref ar)])) _
    exact k
  refine own_lift sg37 ?_
  show own_Go p.tables e below (T36.setTop (mkF m 27 #[rv a1, rv ar, jv q1, .second, rv ob3, jv ((q1 * c2) * c1), .second, iv 2, iv 1] [(.ref ar)])) _
  obtain ⟨cl38, Ar38, -, Sx38, N38', -, -⟩ := id (Fc30)
  have st38 : ∀ t, Steps p.tables e below (T36.setTop (mkF m 28 #[rv a1, rv ar, jv q1, .second, rv ob3, jv ((q1 * c2) * c1), .second, iv 2, iv 1] [(.int 3)])) t → Steps p.tables e below (T36.setTop (mkF m 27 #[rv a1, rv ar, jv q1, .second, rv ob3, jv ((q1 * c2) * c1), .second, iv 2, iv 1] [(.ref ar)])) t := by
    intro t k
    refine X36.arraylength hx (by rw [e36]; exact Ar38.1) (State.isArrayOf_alike hZ.alike Ar38.2.1) (g := (mkF m 27 #[rv a1, rv ar, jv q1, .second, rv ob3, jv ((q1 * c2) * c1), .second, iv 2, iv 1] [(.ref ar)])) rfl rfl (hb hby d1_27) _ ?_
    rw [len_of Sx38 N38']
    exact k
  refine own_lift st38 ?_
  show own_Go p.tables e below (T36.setTop (mkF m 28 #[rv a1, rv ar, jv q1, .second, rv ob3, jv ((q1 * c2) * c1), .second, iv 2, iv 1] [(.int 3)])) _
  have sg39 : ∀ t, Steps p.tables e below (T36.setTop (mkF m 46 #[rv a1, rv ar, jv q1, .second, rv ob3, jv ((q1 * c2) * c1), .second, iv 2, iv 0] [(.long ((q1 * c2) * c1)), (.int 0), (.ref ob3)])) t → Steps p.tables e below (T36.setTop (mkF m 28 #[rv a1, rv ar, jv q1, .second, rv ob3, jv ((q1 * c2) * c1), .second, iv 2, iv 1] [(.int 3)])) t := by
    intro t k
    refine XS.iconst X36.here hx rfl (hb hby d1_28) ?_
    show Steps p.tables e below (T36.setTop (mkF m 29 #[rv a1, rv ar, jv q1, .second, rv ob3, jv ((q1 * c2) * c1), .second, iv 2, iv 1] [(.int 1), (.int 3)])) _
    refine XS.isub X36.here hx rfl (hb hby d1_29) rfl ?_
    refine XS.iload X36.here hx rfl (hb hby d1_30) rfl ?_
    show Steps p.tables e below (T36.setTop (mkF m 32 #[rv a1, rv ar, jv q1, .second, rv ob3, jv ((q1 * c2) * c1), .second, iv 2, iv 1] [(.int 2), (.int 2)])) _
    refine XS.isub X36.here hx rfl (hb hby d1_32) rfl ?_
    refine XS.goto X36.here hx rfl (pc0 := 33) (pc' := 38) rfl (hb hby d1_33) (by decide) (by decide) ?_
    show Steps p.tables e below (T36.setTop (mkF m 38 #[rv a1, rv ar, jv q1, .second, rv ob3, jv ((q1 * c2) * c1), .second, iv 2, iv 1] [(.int 0)])) _
    refine XS.istore X36.here hx rfl (hb hby d1_38) rfl (l' := #[rv a1, rv ar, jv q1, .second, rv ob3, jv ((q1 * c2) * c1), .second, iv 2, iv 0]) rfl ?_
    refine XS.aload X36.here hx rfl (hb hby d1_40) rfl rfl ?_
    show Steps p.tables e below (T36.setTop (mkF m 42 #[rv a1, rv ar, jv q1, .second, rv ob3, jv ((q1 * c2) * c1), .second, iv 2, iv 0] [(.ref ob3)])) _
    refine XS.iload X36.here hx rfl (hb hby d1_42) rfl ?_
    refine XS.lload X36.here hx rfl (hb hby d1_44) rfl ?_
    show Steps p.tables e below (T36.setTop (mkF m 46 #[rv a1, rv ar, jv q1, .second, rv ob3, jv ((q1 * c2) * c1), .second, iv 2, iv 0] [(.long ((q1 * c2) * c1)), (.int 0), (.ref ob3)])) _
    exact k
  refine own_lift sg39 ?_
  show own_Go p.tables e below (T36.setTop (mkF m 46 #[rv a1, rv ar, jv q1, .second, rv ob3, jv ((q1 * c2) * c1), .second, iv 2, iv 0] [(.long ((q1 * c2) * c1)), (.int 0), (.ref ob3)])) _
  obtain ⟨cl40, Ar40, qx40, Sx40, N40', H40', G40'⟩ := id (Vn28)
  have hin40 : ¬ ((0 : Int32) < 0 ∨ cl40.slots.size ≤ ((0 : Int32)).toNatClampNeg) := inb_of Sx40 ⟨(by decide : ¬ ((0 : Int32) < (0 : Int32))), (by decide : (0 : Int32) < (3 : Int32))⟩
  obtain ⟨T41, h41, X41, e41, W41, st41⟩ := stJ X36 hx hZ e36 Ar40 (j := (0 : Int32)) hin40 (g := (mkF m 46 #[rv a1, rv ar, jv q1, .second, rv ob3, jv ((q1 * c2) * c1), .second, iv 2, iv 0] [(.long ((q1 * c2) * c1)), (.int 0), (.ref ob3)])) rfl rfl (hb hby d1_46)
  have N41 := Fr.snoc X41 N28 ge3
  have Z41 : n0 ≤ h41.size := Nat.le_trans Z28 (Nat.le_of_eq W41.size.symm)
  have K41 : Keep h0 h41 [] := K28.wr W41 (Or.inr gh3)
  have Vn41 : Arv Z h41 ob3 ka3 .long (3 : Int32) [(.long ((q1 * c2) * c1)), (.long (q1 * c2)), (.long q1)] (.long 0) := Arv.set Ar40 qx40 Sx40 N40' H40' G40' rfl W41 0 rfl (Nat.le_of_ble_eq_true rfl)
  refine own_lift st41 ?_
  show own_Go p.tables e below (T41.setTop (mkF m 47 #[rv a1, rv ar, jv q1, .second, rv ob3, jv ((q1 * c2) * c1), .second, iv 2, iv 0] [])) _
  have sg42 : ∀ t, Steps p.tables e below (T41.setTop (mkF m 52 #[rv a1, rv ar, jv q1, .second, rv ob3, jv ((q1 * c2) * c1), .second, iv 2, iv 0] [(.int 0), (.ref ar), (.long ((q1 * c2) * c1))])) t → Steps p.tables e below (T41.setTop (mkF m 47 #[rv a1, rv ar, jv q1, .second, rv ob3, jv ((q1 * c2) * c1), .second, iv 2, iv 0] [])) t := by
    intro t k
    refine XS.lload X41.here hx rfl (hb hby d1_47) rfl ?_
    show Steps p.tables e below (T41.setTop (mkF m 49 #[rv a1, rv ar, jv q1, .second, rv ob3, jv ((q1 * c2) * c1), .second, iv 2, iv 0] [(.long ((q1 * c2) * c1))])) _
    refine XS.aloadN X41.here hx rfl (hb hby d1_49) rfl rfl ?_
    refine XS.iload X41.here hx rfl (hb hby d1_50) rfl ?_
    show Steps p.tables e below (T41.setTop (mkF m 52 #[rv a1, rv ar, jv q1, .second, rv ob3, jv ((q1 * c2) * c1), .second, iv 2, iv 0] [(.int 0), (.ref ar), (.long ((q1 * c2) * c1))])) _
    exact k
  refine own_lift sg42 ?_
  show own_Go p.tables e below (T41.setTop (mkF m 52 #[rv a1, rv ar, jv q1, .second, rv ob3, jv ((q1 * c2) * c1), .second, iv 2, iv 0] [(.int 0), (.ref ar), (.long ((q1 * c2) * c1))])) _
  have Fc43 : Arv Z h41 ar kc .long (3 : Int32) [(.long c0), (.long c1), (.long c2)] (.long (0 : Int64)) := (Fc30.other W41 ne4)
  obtain ⟨cl44, Ar44, qx44, Sx44, N44', H44', G44'⟩ := id (Fc43)
  have hin44 : ¬ ((0 : Int32) < 0 ∨ cl44.slots.size ≤ ((0 : Int32)).toNatClampNeg) := inb_of Sx44 ⟨(by decide : ¬ ((0 : Int32) < (0 : Int32))), (by decide : (0 : Int32) < (3 : Int32))⟩
  have hat44 : cl44.slots[((0 : Int32)).toNatClampNeg]? = some (.long c0) := Has.at H44' hin44 rfl
  have sg45 : ∀ t, Steps p.tables e below (T41.setTop (mkF m 15 #[rv a1, rv ar, jv q1, .second, rv ob3, jv (((q1 * c2) * c1) * c0), .second, iv 3, iv 0] [(.ref ar), (.int 3)])) t → Steps p.tables e below (T41.setTop (mkF m 52 #[rv a1, rv ar, jv q1, .second, rv ob3, jv ((q1 * c2) * c1), .second, iv 2, iv 0] [(.int 0), (.ref ar), (.long ((q1 * c2) * c1))])) t := by
    intro t k
    refine X41.laload hx (j := (0 : Int32)) (v := (.long c0)) (by rw [e41]; exact Ar44.1) (State.isArrayOf_alike hZ.alike Ar44.2.1) Ar44.2.2 hin44 hat44 (g := (mkF m 52 #[rv a1, rv ar, jv q1, .second, rv ob3, jv ((q1 * c2) * c1), .second, iv 2, iv 0] [(.int 0), (.ref ar), (.long ((q1 * c2) * c1))])) rfl rfl (hb hby d1_52) _ ?_
    show Steps p.tables e below (T41.setTop (mkF m 53 #[rv a1, rv ar, jv q1, .second, rv ob3, jv ((q1 * c2) * c1), .second, iv 2, iv 0] [(.long c0), (.long ((q1 * c2) * c1))])) _
    refine XS.lmul X41.here hx rfl (hb hby d1_53) rfl ?_
    refine XS.lstore X41.here hx rfl (hb hby d1_54) rfl (l' := #[rv a1, rv ar, jv q1, .second, rv ob3, jv (((q1 * c2) * c1) * c0), .second, iv 2, iv 0]) rfl ?_
    show Steps p.tables e below (T41.setTop (mkF m 56 #[rv a1, rv ar, jv q1, .second, rv ob3, jv (((q1 * c2) * c1) * c0), .second, iv 2, iv 0] [])) _
    refine XS.iinc X41.here hx rfl (hb hby d1_56) rfl (l' := #[rv a1, rv ar, jv q1, .second, rv ob3, jv (((q1 * c2) * c1) * c0), .second, iv 3, iv 0]) rfl ?_
    refine XS.goto X41.here hx rfl (pc0 := 59) (pc' := 12) rfl (hb hby d1_59) (by decide) (by decide) ?_
    show Steps p.tables e below (T41.setTop (mkF m 12 #[rv a1, rv ar, jv q1, .second, rv ob3, jv (((q1 * c2) * c1) * c0), .second, iv 3, iv 0] [])) _
    refine XS.iload X41.here hx rfl (hb hby d1_12) rfl ?_
    refine XS.aloadN X41.here hx rfl (hb hby d1_14) rfl rfl ?_
    show Steps p.tables e below (T41.setTop (mkF m 15 #[rv a1, rv ar, jv q1, .second, rv ob3, jv (((q1 * c2) * c1) * c0), .second, iv 3, iv 0] [(.ref ar), (.int 3)])) _
    exact k
  refine own_lift sg45 ?_
  show own_Go p.tables e below (T41.setTop (mkF m 15 #[rv a1, rv ar, jv q1, .second, rv ob3, jv (((q1 * c2) * c1) * c0), .second, iv 3, iv 0] [(.ref ar), (.int 3)])) _
  obtain ⟨cl46, Ar46, -, Sx46, N46', -, -⟩ := id (Fc43)
  have st46 : ∀ t, Steps p.tables e below (T41.setTop (mkF m 16 #[rv a1, rv ar, jv q1, .second, rv ob3, jv (((q1 * c2) * c1) * c0), .second, iv 3, iv 0] [(.int 3), (.int 3)])) t → Steps p.tables e below (T41.setTop (mkF m 15 #[rv a1, rv ar, jv q1, .second, rv ob3, jv (((q1 * c2) * c1) * c0), .second, iv 3, iv 0] [(.ref ar), (.int 3)])) t := by
    intro t k
    refine X41.arraylength hx (by rw [e41]; exact Ar46.1) (State.isArrayOf_alike hZ.alike Ar46.2.1) (g := (mkF m 15 #[rv a1, rv ar, jv q1, .second, rv ob3, jv (((q1 * c2) * c1) * c0), .second, iv 3, iv 0] [(.ref ar), (.int 3)])) rfl rfl (hb hby d1_15) _ ?_
    rw [len_of Sx46 N46']
    exact k
  refine own_lift st46 ?_
  show own_Go p.tables e below (T41.setTop (mkF m 16 #[rv a1, rv ar, jv q1, .second, rv ob3, jv (((q1 * c2) * c1) * c0), .second, iv 3, iv 0] [(.int 3), (.int 3)])) _
  have sg47 : ∀ t, Steps p.tables e below (T41.setTop (mkF m 64 #[rv a1, rv ar, jv q1, .second, rv ob3, jv (((q1 * c2) * c1) * c0), .second, iv 3, iv 0] [(.ref ob3)])) t → Steps p.tables e below (T41.setTop (mkF m 16 #[rv a1, rv ar, jv q1, .second, rv ob3, jv (((q1 * c2) * c1) * c0), .second, iv 3, iv 0] [(.int 3), (.int 3)])) t := by
    intro t k
    refine XS.icmpYes X41.here hx rfl (pc0 := 16) (pc' := 62) rfl (hb hby d1_16) rfl (flt (by decide : ¬ ((3 : Int32) < (3 : Int32)))).2.1 (by decide) (by decide) ?_
    show Steps p.tables e below (T41.setTop (mkF m 62 #[rv a1, rv ar, jv q1, .second, rv ob3, jv (((q1 * c2) * c1) * c0), .second, iv 3, iv 0] [])) _
    refine XS.aload X41.here hx rfl (hb hby d1_62) rfl rfl ?_
    show Steps p.tables e below (T41.setTop (mkF m 64 #[rv a1, rv ar, jv q1, .second, rv ob3, jv (((q1 * c2) * c1) * c0), .second, iv 3, iv 0] [(.ref ob3)])) _
    exact k
  refine own_lift sg47 ?_
  show own_Go p.tables e below (T41.setTop (mkF m 64 #[rv a1, rv ar, jv q1, .second, rv ob3, jv (((q1 * c2) * c1) * c0), .second, iv 3, iv 0] [(.ref ob3)])) _
  obtain ⟨fs, hr, hrun, hended, hW, hsame⟩ := X41.leave (v := some (.ref ob3)) (fun h => by rw [Bd.returns] at h; cases h)
  refine ⟨_, _, ?_, hrun, hended, _, _, rfl, ?_, ⟨_, rfl⟩, hW, hsame.mono (by decide) (by decide)⟩
  · exact retOut X41 hx Bd.returns rfl (Or.inr (Or.inr (Or.inr (Or.inr ⟨rfl, rfl, rfl⟩)))) (hb hby d1_64) hr
  · show Q_rmStr3F Z a1 ar q1 kc c0 c1 c2 h0 n0 _ T41.heap _
    rw [e41]
    exact ⟨ob3, ka3, rfl, N41, K41, gh3, Vn41⟩
def Q_rmStr3L (Z : State) (a1 : Addr) (ar : Addr) (q1 : Int64) (fa : Addr) (kc : ClassId) (c0 : Int64) (c1 : Int64) (c2 : Int64) (h0 : Heap) (n0 : Nat) (v : Option Value) (h : Heap) (L : List Loc) : Prop := ∃ b : Addr, ∃ kb : ClassId, v = some (.ref b) ∧ Fr n0 L ∧ Keep h0 h [] ∧ h0.size ≤ b ∧ Arv Z h b kb .long (3 : Int32) [(.long q1), (.long (q1 * c0)), (.long ((q1 * c0) * c1))] (.long (0 : Int64))
theorem ef_rmStr3L (m : MethodId) (x0 : Addr) (x1 : Addr) (x2 : Int64) : entryFrame m #[(.ref x0), (.ref x1), (.long x2)] 9 = mkF m 0 #[.val (.ref x0), .val (.ref x1), .val (.long x2), .second, .unset, .unset, .unset, .unset, .unset] [] := by first | (simp [entryFrame, mkF, argsToLocals, Value.category]; done) | rfl
set_option maxRecDepth 65536 in
set_option maxHeartbeats 40000000 in
theorem rmStr3L (l : Launch) (Z : State) (a0 : Array Value) (hw : ∀ d ∈ tables_1, d.before a0 Z = true) (ws : List Jvm.Cond) (a1 : Addr) (ar : Addr) (q1 : Int64) (fa : Addr) (kc : ClassId) (c0 : Int64) (c1 : Int64) (c2 : Int64) (h0 : Heap) (n0 : Nat) (Z0 : n0 ≤ h0.size) (V1 : Arv Z h0 ar kc .long (3 : Int32) [(.long c0), (.long c1), (.long c2)] (.long (0 : Int64))) (S1 : Sta Z h0 "com/example/halyard/halyard/east/ArrayStorage" "FIRST_INDEX_FIRST" "Lcom/example/halyard/halyard/east/ArrayStorage;" (.ref fa)) (c_ne : ¬ (a1 = fa)) :
    MetFree l (⟨"com/example/halyard/halyard/east/ArrayStorage", "strides", "([JJ)[J"⟩ : MethodName) (head1 (Jvm.Cond.code (⟨"com/example/halyard/halyard/east/ArrayStorage", "strides", "([JJ)[J"⟩ : MethodName) prog_65_method_4_code 9 (some (.array .long)) :: ws) ({ frames := 0, cells := 1, slots := 3, locals := 0 } : Room)) (fun a U => a = #[(.ref a1), (.ref ar), (.long q1)] ∧ Z.Warmed39 U.vm ∧ U.heap = h0) (fun _ _ _ _ _ => True) (fun _ U o U' => ∃ v L, o = .returned v ∧ Q_rmStr3L Z a1 ar q1 fa kc c0 c1 c2 h0 n0 v U'.heap L ∧ FrameEnd U o U' L ({ frames := 0, cells := 1, slots := 3, locals := 0 } : Room).cells ({ frames := 0, cells := 1, slots := 3, locals := 0 } : Room).slots) := by
  refine MetFree.of_bodySF (plainFor_of_name pn_0) hisR ?_
  intro p e s m args below meth c s₁ Bd hml0 hP hK
  obtain ⟨rfl, hZ, hh⟩ := hP
  have hx := Bd.exec
  have hby := Bd.bytes
  have hml : c.maxLocals = 9 := hml0
  have hown : s.vm.findClass "com/example/halyard/halyard/east/ArrayStorage" = some m.cls := findClass_of_methodNamed Bd.named
  have hnm := (name_of_methodNamed Bd.named Bd.method).1
  have X0 : Stand p l e ({ frames := 0, cells := 1, slots := 3, locals := 0 } : Room) s m #[(.ref a1), (.ref ar), (.long q1)] below meth c s₁ [] 0 0 := Stand.of_body Bd
  have e0 : s₁.heap = h0 := by rw [← hh, Bd.state]; rfl
  have N0 := Fr.nil n0
  refine own_go (own_lift (fun t k => castTop (ef_rmStr3L m a1 ar q1) k) ?_)
  show own_Go p.tables e below (s₁.setTop (mkF m 0 #[rv a1, rv ar, jv q1, .second, .unset, .unset, .unset, .unset, .unset] [])) _
  have sg1 : ∀ t, Steps p.tables e below (s₁.setTop (mkF m 1 #[rv a1, rv ar, jv q1, .second, .unset, .unset, .unset, .unset, .unset] [(.ref ar)])) t → Steps p.tables e below (s₁.setTop (mkF m 0 #[rv a1, rv ar, jv q1, .second, .unset, .unset, .unset, .unset, .unset] [])) t := by
    intro t k
    refine XS.aloadN X0.here hx rfl (hb hby d1_0) rfl rfl ?_
    show Steps p.tables e below (s₁.setTop (mkF m 1 #[rv a1, rv ar, jv q1, .second, .unset, .unset, .unset, .unset, .unset] [(.ref ar)])) _
    exact k
  refine own_lift sg1 ?_
  show own_Go p.tables e below (s₁.setTop (mkF m 1 #[rv a1, rv ar, jv q1, .second, .unset, .unset, .unset, .unset, .unset] [(.ref ar)])) _
  obtain ⟨cl2, Ar2, -, Sx2, N2', -, -⟩ := id (V1)
  have st2 : ∀ t, Steps p.tables e below (s₁.setTop (mkF m 2 #[rv a1, rv ar, jv q1, .second, .unset, .unset, .unset, .unset, .unset] [(.int 3)])) t → Steps p.tables e below (s₁.setTop (mkF m 1 #[rv a1, rv ar, jv q1, .second, .unset, .unset, .unset, .unset, .unset] [(.ref ar)])) t := by
    intro t k
    refine X0.arraylength hx (by rw [e0]; exact Ar2.1) (State.isArrayOf_alike hZ.alike Ar2.2.1) (g := (mkF m 1 #[rv a1, rv ar, jv q1, .second, .unset, .unset, .unset, .unset, .unset] [(.ref ar)])) rfl rfl (hb hby d1_1) _ ?_
    rw [len_of Sx2 N2']
    exact k
  refine own_lift st2 ?_
  show own_Go p.tables e below (s₁.setTop (mkF m 2 #[rv a1, rv ar, jv q1, .second, .unset, .unset, .unset, .unset, .unset] [(.int 3)])) _
  obtain ⟨T3, h3, ka3, X3, e3, Ex3, Ax3, st3⟩ := newP X0 hx hZ (wd hw 2 rfl) e0 (g := (mkF m 2 #[rv a1, rv ar, jv q1, .second, .unset, .unset, .unset, .unset, .unset] [(.int 3)])) rfl (hb hby d1_2) rfl (by decide) (cap := 3) (by decide) (by decide) (by decide) (by decide)
  obtain ⟨ob3, g3⟩ : ∃ z, z = h0.size := ⟨_, rfl⟩
  rw [← g3] at Ax3 st3
  have ne4 : ar ≠ ob3 := Nat.ne_of_lt (Nat.lt_of_lt_of_le V1.lt (Nat.le_of_eq g3.symm))
  have Z3 : n0 ≤ h3.size := Nat.le_trans Z0 Ex3.1
  have ge3 : n0 ≤ ob3 := Nat.le_trans Z0 (Nat.le_of_eq g3.symm)
  have gh3 : h0.size ≤ ob3 := Nat.le_trans (Keep.refl h0 []).1 (Nat.le_of_eq g3.symm)
  have K3 : Keep h0 h3 [] := (Keep.refl h0 []).ext Ex3
  have Vn3 : Arv Z h3 ob3 ka3 .long (3 : Int32) [(.long 0), (.long 0), (.long 0)] (.long 0) := (Arv.new Ax3 (by decide)).pad (pad_rep [] (.long 0) 3)
  refine own_lift st3 ?_
  show own_Go p.tables e below (T3.setTop (mkF m 4 #[rv a1, rv ar, jv q1, .second, .unset, .unset, .unset, .unset, .unset] [(.ref ob3)])) _
  have sg5 : ∀ t, Steps p.tables e below (T3.setTop (mkF m 15 #[rv a1, rv ar, jv q1, .second, rv ob3, jv q1, .second, iv 0, .unset] [(.ref ar), (.int 0)])) t → Steps p.tables e below (T3.setTop (mkF m 4 #[rv a1, rv ar, jv q1, .second, .unset, .unset, .unset, .unset, .unset] [(.ref ob3)])) t := by
    intro t k
    refine XS.astore X3.here hx rfl (hb hby d1_4) rfl rfl (l' := #[rv a1, rv ar, jv q1, .second, rv ob3, .unset, .unset, .unset, .unset]) rfl ?_
    show Steps p.tables e below (T3.setTop (mkF m 6 #[rv a1, rv ar, jv q1, .second, rv ob3, .unset, .unset, .unset, .unset] [])) _
    refine XS.lloadN X3.here hx rfl (hb hby d1_6) rfl ?_
    refine XS.lstore X3.here hx rfl (hb hby d1_7) rfl (l' := #[rv a1, rv ar, jv q1, .second, rv ob3, jv q1, .second, .unset, .unset]) rfl ?_
    show Steps p.tables e below (T3.setTop (mkF m 9 #[rv a1, rv ar, jv q1, .second, rv ob3, jv q1, .second, .unset, .unset] [])) _
    refine XS.iconst X3.here hx rfl (hb hby d1_9) ?_
    refine XS.istore X3.here hx rfl (hb hby d1_10) rfl (l' := #[rv a1, rv ar, jv q1, .second, rv ob3, jv q1, .second, iv 0, .unset]) rfl ?_
    show Steps p.tables e below (T3.setTop (mkF m 12 #[rv a1, rv ar, jv q1, .second, rv ob3, jv q1, .second, iv 0, .unset] [])) _
    refine XS.iload X3.here hx rfl (hb hby d1_12) rfl ?_
    refine XS.aloadN X3.here hx rfl (hb hby d1_14) rfl rfl ?_
    show Steps p.tables e below (T3.setTop (mkF m 15 #[rv a1, rv ar, jv q1, .second, rv ob3, jv q1, .second, iv 0, .unset] [(.ref ar), (.int 0)])) _
    exact k
  refine own_lift sg5 ?_
  show own_Go p.tables e below (T3.setTop (mkF m 15 #[rv a1, rv ar, jv q1, .second, rv ob3, jv q1, .second, iv 0, .unset] [(.ref ar), (.int 0)])) _
  have Fc6 : Arv Z h3 ar kc .long (3 : Int32) [(.long c0), (.long c1), (.long c2)] (.long (0 : Int64)) := (V1.ext Ex3)
  obtain ⟨cl7, Ar7, -, Sx7, N7', -, -⟩ := id (Fc6)
  have st7 : ∀ t, Steps p.tables e below (T3.setTop (mkF m 16 #[rv a1, rv ar, jv q1, .second, rv ob3, jv q1, .second, iv 0, .unset] [(.int 3), (.int 0)])) t → Steps p.tables e below (T3.setTop (mkF m 15 #[rv a1, rv ar, jv q1, .second, rv ob3, jv q1, .second, iv 0, .unset] [(.ref ar), (.int 0)])) t := by
    intro t k
    refine X3.arraylength hx (by rw [e3]; exact Ar7.1) (State.isArrayOf_alike hZ.alike Ar7.2.1) (g := (mkF m 15 #[rv a1, rv ar, jv q1, .second, rv ob3, jv q1, .second, iv 0, .unset] [(.ref ar), (.int 0)])) rfl rfl (hb hby d1_15) _ ?_
    rw [len_of Sx7 N7']
    exact k
  refine own_lift st7 ?_
  show own_Go p.tables e below (T3.setTop (mkF m 16 #[rv a1, rv ar, jv q1, .second, rv ob3, jv q1, .second, iv 0, .unset] [(.int 3), (.int 0)])) _
  have sg8 : ∀ t, Steps p.tables e below (T3.setTop (mkF m 20 #[rv a1, rv ar, jv q1, .second, rv ob3, jv q1, .second, iv 0, .unset] [(.ref a1)])) t → Steps p.tables e below (T3.setTop (mkF m 16 #[rv a1, rv ar, jv q1, .second, rv ob3, jv q1, .second, iv 0, .unset] [(.int 3), (.int 0)])) t := by
    intro t k
    refine XS.icmpNo X3.here hx rfl (hb hby d1_16) rfl (tlt (by decide : (0 : Int32) < (3 : Int32))).2.1 ?_
    show Steps p.tables e below (T3.setTop (mkF m 19 #[rv a1, rv ar, jv q1, .second, rv ob3, jv q1, .second, iv 0, .unset] [])) _
    refine XS.aloadN X3.here hx rfl (hb hby d1_19) rfl rfl ?_
    show Steps p.tables e below (T3.setTop (mkF m 20 #[rv a1, rv ar, jv q1, .second, rv ob3, jv q1, .second, iv 0, .unset] [(.ref a1)])) _
    exact k
  refine own_lift sg8 ?_
  show own_Go p.tables e below (T3.setTop (mkF m 20 #[rv a1, rv ar, jv q1, .second, rv ob3, jv q1, .second, iv 0, .unset] [(.ref a1)])) _
  have Fc9 : Sta Z h3 "com/example/halyard/halyard/east/ArrayStorage" "FIRST_INDEX_FIRST" "Lcom/example/halyard/halyard/east/ArrayStorage;" (.ref fa) := (S1.ext Ex3)
  obtain ⟨T10, X10, e10, st10⟩ := getS X3 hx hZ hown (host := "") (wd hw 13 rfl) Via.refl e3 Fc9 (g := (mkF m 20 #[rv a1, rv ar, jv q1, .second, rv ob3, jv q1, .second, iv 0, .unset] [(.ref a1)])) rfl (hb hby d1_20)
  refine own_lift st10 ?_
  show own_Go p.tables e below (T10.setTop (mkF m 23 #[rv a1, rv ar, jv q1, .second, rv ob3, jv q1, .second, iv 0, .unset] [(.ref fa), (.ref a1)])) _
  have sg11 : ∀ t, Steps p.tables e below (T10.setTop (mkF m 46 #[rv a1, rv ar, jv q1, .second, rv ob3, jv q1, .second, iv 0, iv 0] [(.long q1), (.int 0), (.ref ob3)])) t → Steps p.tables e below (T10.setTop (mkF m 23 #[rv a1, rv ar, jv q1, .second, rv ob3, jv q1, .second, iv 0, .unset] [(.ref fa), (.ref a1)])) t := by
    intro t k
    refine Jvm.RoadKit.acmp (g := (mkF m 23 #[rv a1, rv ar, jv q1, .second, rv ob3, jv q1, .second, iv 0, .unset] [(.ref fa), (.ref a1)])) X10 hx rfl rfl rfl (pc0 := 23) (pc' := 36) (same := false) rfl (hb hby d1_23) rfl (decide_eq_false fun q => c_ne (Value.ref.inj q)) (by decide) (by decide) ?_
    show Steps p.tables e below (T10.setTop (mkF m 36 #[rv a1, rv ar, jv q1, .second, rv ob3, jv q1, .second, iv 0, .unset] [])) _
    refine XS.iload X10.here hx rfl (hb hby d1_36) rfl ?_
    refine XS.istore X10.here hx rfl (hb hby d1_38) rfl (l' := #[rv a1, rv ar, jv q1, .second, rv ob3, jv q1, .second, iv 0, iv 0]) rfl ?_
    show Steps p.tables e below (T10.setTop (mkF m 40 #[rv a1, rv ar, jv q1, .second, rv ob3, jv q1, .second, iv 0, iv 0] [])) _
    refine XS.aload X10.here hx rfl (hb hby d1_40) rfl rfl ?_
    refine XS.iload X10.here hx rfl (hb hby d1_42) rfl ?_
    show Steps p.tables e below (T10.setTop (mkF m 44 #[rv a1, rv ar, jv q1, .second, rv ob3, jv q1, .second, iv 0, iv 0] [(.int 0), (.ref ob3)])) _
    refine XS.lload X10.here hx rfl (hb hby d1_44) rfl ?_
    show Steps p.tables e below (T10.setTop (mkF m 46 #[rv a1, rv ar, jv q1, .second, rv ob3, jv q1, .second, iv 0, iv 0] [(.long q1), (.int 0), (.ref ob3)])) _
    exact k
  refine own_lift sg11 ?_
  show own_Go p.tables e below (T10.setTop (mkF m 46 #[rv a1, rv ar, jv q1, .second, rv ob3, jv q1, .second, iv 0, iv 0] [(.long q1), (.int 0), (.ref ob3)])) _
  obtain ⟨cl12, Ar12, qx12, Sx12, N12', H12', G12'⟩ := id (Vn3)
  have hin12 : ¬ ((0 : Int32) < 0 ∨ cl12.slots.size ≤ ((0 : Int32)).toNatClampNeg) := inb_of Sx12 ⟨(by decide : ¬ ((0 : Int32) < (0 : Int32))), (by decide : (0 : Int32) < (3 : Int32))⟩
  obtain ⟨T13, h13, X13, e13, W13, st13⟩ := stJ X10 hx hZ e10 Ar12 (j := (0 : Int32)) hin12 (g := (mkF m 46 #[rv a1, rv ar, jv q1, .second, rv ob3, jv q1, .second, iv 0, iv 0] [(.long q1), (.int 0), (.ref ob3)])) rfl rfl (hb hby d1_46)
  have N13 := Fr.snoc X13 N0 ge3
  have Z13 : n0 ≤ h13.size := Nat.le_trans Z3 (Nat.le_of_eq W13.size.symm)
  have K13 : Keep h0 h13 [] := K3.wr W13 (Or.inr gh3)
  have Vn13 : Arv Z h13 ob3 ka3 .long (3 : Int32) [(.long q1), (.long 0), (.long 0)] (.long 0) := Arv.set Ar12 qx12 Sx12 N12' H12' G12' rfl W13 0 rfl (Nat.le_of_ble_eq_true rfl)
  refine own_lift st13 ?_
  show own_Go p.tables e below (T13.setTop (mkF m 47 #[rv a1, rv ar, jv q1, .second, rv ob3, jv q1, .second, iv 0, iv 0] [])) _
  have sg14 : ∀ t, Steps p.tables e below (T13.setTop (mkF m 52 #[rv a1, rv ar, jv q1, .second, rv ob3, jv q1, .second, iv 0, iv 0] [(.int 0), (.ref ar), (.long q1)])) t → Steps p.tables e below (T13.setTop (mkF m 47 #[rv a1, rv ar, jv q1, .second, rv ob3, jv q1, .second, iv 0, iv 0] [])) t := by
    intro t k
    refine XS.lload X13.here hx rfl (hb hby d1_47) rfl ?_
    show Steps p.tables e below (T13.setTop (mkF m 49 #[rv a1, rv ar, jv q1, .second, rv ob3, jv q1, .second, iv 0, iv 0] [(.long q1)])) _
    refine XS.aloadN X13.here hx rfl (hb hby d1_49) rfl rfl ?_
    refine XS.iload X13.here hx rfl (hb hby d1_50) rfl ?_
    show Steps p.tables e below (T13.setTop (mkF m 52 #[rv a1, rv ar, jv q1, .second, rv ob3, jv q1, .second, iv 0, iv 0] [(.int 0), (.ref ar), (.long q1)])) _
    exact k
  refine own_lift sg14 ?_
  show own_Go p.tables e below (T13.setTop (mkF m 52 #[rv a1, rv ar, jv q1, .second, rv ob3, jv q1, .second, iv 0, iv 0] [(.int 0), (.ref ar), (.long q1)])) _
  have Fc15 : Arv Z h13 ar kc .long (3 : Int32) [(.long c0), (.long c1), (.long c2)] (.long (0 : Int64)) := (Fc6.other W13 ne4)
  obtain ⟨cl16, Ar16, qx16, Sx16, N16', H16', G16'⟩ := id (Fc15)
  have hin16 : ¬ ((0 : Int32) < 0 ∨ cl16.slots.size ≤ ((0 : Int32)).toNatClampNeg) := inb_of Sx16 ⟨(by decide : ¬ ((0 : Int32) < (0 : Int32))), (by decide : (0 : Int32) < (3 : Int32))⟩
  have hat16 : cl16.slots[((0 : Int32)).toNatClampNeg]? = some (.long c0) := Has.at H16' hin16 rfl
  have sg17 : ∀ t, Steps p.tables e below (T13.setTop (mkF m 15 #[rv a1, rv ar, jv q1, .second, rv ob3, jv (q1 * c0), .second, iv 1, iv 0] [(.ref ar), (.int 1)])) t → Steps p.tables e below (T13.setTop (mkF m 52 #[rv a1, rv ar, jv q1, .second, rv ob3, jv q1, .second, iv 0, iv 0] [(.int 0), (.ref ar), (.long q1)])) t := by
    intro t k
    refine X13.laload hx (j := (0 : Int32)) (v := (.long c0)) (by rw [e13]; exact Ar16.1) (State.isArrayOf_alike hZ.alike Ar16.2.1) Ar16.2.2 hin16 hat16 (g := (mkF m 52 #[rv a1, rv ar, jv q1, .second, rv ob3, jv q1, .second, iv 0, iv 0] [(.int 0), (.ref ar), (.long q1)])) rfl rfl (hb hby d1_52) _ ?_
    show Steps p.tables e below (T13.setTop (mkF m 53 #[rv a1, rv ar, jv q1, .second, rv ob3, jv q1, .second, iv 0, iv 0] [(.long c0), (.long q1)])) _
    refine XS.lmul X13.here hx rfl (hb hby d1_53) rfl ?_
    refine XS.lstore X13.here hx rfl (hb hby d1_54) rfl (l' := #[rv a1, rv ar, jv q1, .second, rv ob3, jv (q1 * c0), .second, iv 0, iv 0]) rfl ?_
    show Steps p.tables e below (T13.setTop (mkF m 56 #[rv a1, rv ar, jv q1, .second, rv ob3, jv (q1 * c0), .second, iv 0, iv 0] [])) _
    refine XS.iinc X13.here hx rfl (hb hby d1_56) rfl (l' := #[rv a1, rv ar, jv q1, .second, rv ob3, jv (q1 * c0), .second, iv 1, iv 0]) rfl ?_
    refine XS.goto X13.here hx rfl (pc0 := 59) (pc' := 12) rfl (hb hby d1_59) (by decide) (by decide) ?_
    show Steps p.tables e below (T13.setTop (mkF m 12 #[rv a1, rv ar, jv q1, .second, rv ob3, jv (q1 * c0), .second, iv 1, iv 0] [])) _
    refine XS.iload X13.here hx rfl (hb hby d1_12) rfl ?_
    refine XS.aloadN X13.here hx rfl (hb hby d1_14) rfl rfl ?_
    show Steps p.tables e below (T13.setTop (mkF m 15 #[rv a1, rv ar, jv q1, .second, rv ob3, jv (q1 * c0), .second, iv 1, iv 0] [(.ref ar), (.int 1)])) _
    exact k
  refine own_lift sg17 ?_
  show own_Go p.tables e below (T13.setTop (mkF m 15 #[rv a1, rv ar, jv q1, .second, rv ob3, jv (q1 * c0), .second, iv 1, iv 0] [(.ref ar), (.int 1)])) _
  obtain ⟨cl18, Ar18, -, Sx18, N18', -, -⟩ := id (Fc15)
  have st18 : ∀ t, Steps p.tables e below (T13.setTop (mkF m 16 #[rv a1, rv ar, jv q1, .second, rv ob3, jv (q1 * c0), .second, iv 1, iv 0] [(.int 3), (.int 1)])) t → Steps p.tables e below (T13.setTop (mkF m 15 #[rv a1, rv ar, jv q1, .second, rv ob3, jv (q1 * c0), .second, iv 1, iv 0] [(.ref ar), (.int 1)])) t := by
    intro t k
    refine X13.arraylength hx (by rw [e13]; exact Ar18.1) (State.isArrayOf_alike hZ.alike Ar18.2.1) (g := (mkF m 15 #[rv a1, rv ar, jv q1, .second, rv ob3, jv (q1 * c0), .second, iv 1, iv 0] [(.ref ar), (.int 1)])) rfl rfl (hb hby d1_15) _ ?_
    rw [len_of Sx18 N18']
    exact k
  refine own_lift st18 ?_
  show own_Go p.tables e below (T13.setTop (mkF m 16 #[rv a1, rv ar, jv q1, .second, rv ob3, jv (q1 * c0), .second, iv 1, iv 0] [(.int 3), (.int 1)])) _
  have sg19 : ∀ t, Steps p.tables e below (T13.setTop (mkF m 20 #[rv a1, rv ar, jv q1, .second, rv ob3, jv (q1 * c0), .second, iv 1, iv 0] [(.ref a1)])) t → Steps p.tables e below (T13.setTop (mkF m 16 #[rv a1, rv ar, jv q1, .second, rv ob3, jv (q1 * c0), .second, iv 1, iv 0] [(.int 3), (.int 1)])) t := by
    intro t k
    refine XS.icmpNo X13.here hx rfl (hb hby d1_16) rfl (tlt (by decide : (1 : Int32) < (3 : Int32))).2.1 ?_
    show Steps p.tables e below (T13.setTop (mkF m 19 #[rv a1, rv ar, jv q1, .second, rv ob3, jv (q1 * c0), .second, iv 1, iv 0] [])) _
    refine XS.aloadN X13.here hx rfl (hb hby d1_19) rfl rfl ?_
    show Steps p.tables e below (T13.setTop (mkF m 20 #[rv a1, rv ar, jv q1, .second, rv ob3, jv (q1 * c0), .second, iv 1, iv 0] [(.ref a1)])) _
    exact k
  refine own_lift sg19 ?_
  show own_Go p.tables e below (T13.setTop (mkF m 20 #[rv a1, rv ar, jv q1, .second, rv ob3, jv (q1 * c0), .second, iv 1, iv 0] [(.ref a1)])) _
  have Fc20 : Sta Z h13 "com/example/halyard/halyard/east/ArrayStorage" "FIRST_INDEX_FIRST" "Lcom/example/halyard/halyard/east/ArrayStorage;" (.ref fa) := (Fc9.wr W13)
  obtain ⟨T21, X21, e21, st21⟩ := getS X13 hx hZ hown (host := "") (wd hw 13 rfl) Via.refl e13 Fc20 (g := (mkF m 20 #[rv a1, rv ar, jv q1, .second, rv ob3, jv (q1 * c0), .second, iv 1, iv 0] [(.ref a1)])) rfl (hb hby d1_20)
  refine own_lift st21 ?_
  show own_Go p.tables e below (T21.setTop (mkF m 23 #[rv a1, rv ar, jv q1, .second, rv ob3, jv (q1 * c0), .second, iv 1, iv 0] [(.ref fa), (.ref a1)])) _
  have sg22 : ∀ t, Steps p.tables e below (T21.setTop (mkF m 46 #[rv a1, rv ar, jv q1, .second, rv ob3, jv (q1 * c0), .second, iv 1, iv 1] [(.long (q1 * c0)), (.int 1), (.ref ob3)])) t → Steps p.tables e below (T21.setTop (mkF m 23 #[rv a1, rv ar, jv q1, .second, rv ob3, jv (q1 * c0), .second, iv 1, iv 0] [(.ref fa), (.ref a1)])) t := by
    intro t k
    refine Jvm.RoadKit.acmp (g := (mkF m 23 #[rv a1, rv ar, jv q1, .second, rv ob3, jv (q1 * c0), .second, iv 1, iv 0] [(.ref fa), (.ref a1)])) X21 hx rfl rfl rfl (pc0 := 23) (pc' := 36) (same := false) rfl (hb hby d1_23) rfl (decide_eq_false fun q => c_ne (Value.ref.inj q)) (by decide) (by decide) ?_
    show Steps p.tables e below (T21.setTop (mkF m 36 #[rv a1, rv ar, jv q1, .second, rv ob3, jv (q1 * c0), .second, iv 1, iv 0] [])) _
    refine XS.iload X21.here hx rfl (hb hby d1_36) rfl ?_
    refine XS.istore X21.here hx rfl (hb hby d1_38) rfl (l' := #[rv a1, rv ar, jv q1, .second, rv ob3, jv (q1 * c0), .second, iv 1, iv 1]) rfl ?_
    show Steps p.tables e below (T21.setTop (mkF m 40 #[rv a1, rv ar, jv q1, .second, rv ob3, jv (q1 * c0), .second, iv 1, iv 1] [])) _
    refine XS.aload X21.here hx rfl (hb hby d1_40) rfl rfl ?_
    refine XS.iload X21.here hx rfl (hb hby d1_42) rfl ?_
    show Steps p.tables e below (T21.setTop (mkF m 44 #[rv a1, rv ar, jv q1, .second, rv ob3, jv (q1 * c0), .second, iv 1, iv 1] [(.int 1), (.ref ob3)])) _
    refine XS.lload X21.here hx rfl (hb hby d1_44) rfl ?_
    show Steps p.tables e below (T21.setTop (mkF m 46 #[rv a1, rv ar, jv q1, .second, rv ob3, jv (q1 * c0), .second, iv 1, iv 1] [(.long (q1 * c0)), (.int 1), (.ref ob3)])) _
    exact k
  refine own_lift sg22 ?_
  show own_Go p.tables e below (T21.setTop (mkF m 46 #[rv a1, rv ar, jv q1, .second, rv ob3, jv (q1 * c0), .second, iv 1, iv 1] [(.long (q1 * c0)), (.int 1), (.ref ob3)])) _
  obtain ⟨cl23, Ar23, qx23, Sx23, N23', H23', G23'⟩ := id (Vn13)
  have hin23 : ¬ ((1 : Int32) < 0 ∨ cl23.slots.size ≤ ((1 : Int32)).toNatClampNeg) := inb_of Sx23 ⟨(by decide : ¬ ((1 : Int32) < (0 : Int32))), (by decide : (1 : Int32) < (3 : Int32))⟩
  obtain ⟨T24, h24, X24, e24, W24, st24⟩ := stJ X21 hx hZ e21 Ar23 (j := (1 : Int32)) hin23 (g := (mkF m 46 #[rv a1, rv ar, jv q1, .second, rv ob3, jv (q1 * c0), .second, iv 1, iv 1] [(.long (q1 * c0)), (.int 1), (.ref ob3)])) rfl rfl (hb hby d1_46)
  have N24 := Fr.snoc X24 N13 ge3
  have Z24 : n0 ≤ h24.size := Nat.le_trans Z13 (Nat.le_of_eq W24.size.symm)
  have K24 : Keep h0 h24 [] := K13.wr W24 (Or.inr gh3)
  have Vn24 : Arv Z h24 ob3 ka3 .long (3 : Int32) [(.long q1), (.long (q1 * c0)), (.long 0)] (.long 0) := Arv.set Ar23 qx23 Sx23 N23' H23' G23' rfl W24 1 rfl (Nat.le_of_ble_eq_true rfl)
  refine own_lift st24 ?_
  show own_Go p.tables e below (T24.setTop (mkF m 47 #[rv a1, rv ar, jv q1, .second, rv ob3, jv (q1 * c0), .second, iv 1, iv 1] [])) _
  have sg25 : ∀ t, Steps p.tables e below (T24.setTop (mkF m 52 #[rv a1, rv ar, jv q1, .second, rv ob3, jv (q1 * c0), .second, iv 1, iv 1] [(.int 1), (.ref ar), (.long (q1 * c0))])) t → Steps p.tables e below (T24.setTop (mkF m 47 #[rv a1, rv ar, jv q1, .second, rv ob3, jv (q1 * c0), .second, iv 1, iv 1] [])) t := by
    intro t k
    refine XS.lload X24.here hx rfl (hb hby d1_47) rfl ?_
    show Steps p.tables e below (T24.setTop (mkF m 49 #[rv a1, rv ar, jv q1, .second, rv ob3, jv (q1 * c0), .second, iv 1, iv 1] [(.long (q1 * c0))])) _
    refine XS.aloadN X24.here hx rfl (hb hby d1_49) rfl rfl ?_
    refine XS.iload X24.here hx rfl (hb hby d1_50) rfl ?_
    show Steps p.tables e below (T24.setTop (mkF m 52 #[rv a1, rv ar, jv q1, .second, rv ob3, jv (q1 * c0), .second, iv 1, iv 1] [(.int 1), (.ref ar), (.long (q1 * c0))])) _
    exact k
  refine own_lift sg25 ?_
  show own_Go p.tables e below (T24.setTop (mkF m 52 #[rv a1, rv ar, jv q1, .second, rv ob3, jv (q1 * c0), .second, iv 1, iv 1] [(.int 1), (.ref ar), (.long (q1 * c0))])) _
  have Fc26 : Arv Z h24 ar kc .long (3 : Int32) [(.long c0), (.long c1), (.long c2)] (.long (0 : Int64)) := (Fc15.other W24 ne4)
  obtain ⟨cl27, Ar27, qx27, Sx27, N27', H27', G27'⟩ := id (Fc26)
  have hin27 : ¬ ((1 : Int32) < 0 ∨ cl27.slots.size ≤ ((1 : Int32)).toNatClampNeg) := inb_of Sx27 ⟨(by decide : ¬ ((1 : Int32) < (0 : Int32))), (by decide : (1 : Int32) < (3 : Int32))⟩
  have hat27 : cl27.slots[((1 : Int32)).toNatClampNeg]? = some (.long c1) := Has.at H27' hin27 rfl
  have sg28 : ∀ t, Steps p.tables e below (T24.setTop (mkF m 15 #[rv a1, rv ar, jv q1, .second, rv ob3, jv ((q1 * c0) * c1), .second, iv 2, iv 1] [(.ref ar), (.int 2)])) t → Steps p.tables e below (T24.setTop (mkF m 52 #[rv a1, rv ar, jv q1, .second, rv ob3, jv (q1 * c0), .second, iv 1, iv 1] [(.int 1), (.ref ar), (.long (q1 * c0))])) t := by
    intro t k
    refine X24.laload hx (j := (1 : Int32)) (v := (.long c1)) (by rw [e24]; exact Ar27.1) (State.isArrayOf_alike hZ.alike Ar27.2.1) Ar27.2.2 hin27 hat27 (g := (mkF m 52 #[rv a1, rv ar, jv q1, .second, rv ob3, jv (q1 * c0), .second, iv 1, iv 1] [(.int 1), (.ref ar), (.long (q1 * c0))])) rfl rfl (hb hby d1_52) _ ?_
    show Steps p.tables e below (T24.setTop (mkF m 53 #[rv a1, rv ar, jv q1, .second, rv ob3, jv (q1 * c0), .second, iv 1, iv 1] [(.long c1), (.long (q1 * c0))])) _
    refine XS.lmul X24.here hx rfl (hb hby d1_53) rfl ?_
    refine XS.lstore X24.here hx rfl (hb hby d1_54) rfl (l' := #[rv a1, rv ar, jv q1, .second, rv ob3, jv ((q1 * c0) * c1), .second, iv 1, iv 1]) rfl ?_
    show Steps p.tables e below (T24.setTop (mkF m 56 #[rv a1, rv ar, jv q1, .second, rv ob3, jv ((q1 * c0) * c1), .second, iv 1, iv 1] [])) _
    refine XS.iinc X24.here hx rfl (hb hby d1_56) rfl (l' := #[rv a1, rv ar, jv q1, .second, rv ob3, jv ((q1 * c0) * c1), .second, iv 2, iv 1]) rfl ?_
    refine XS.goto X24.here hx rfl (pc0 := 59) (pc' := 12) rfl (hb hby d1_59) (by decide) (by decide) ?_
    show Steps p.tables e below (T24.setTop (mkF m 12 #[rv a1, rv ar, jv q1, .second, rv ob3, jv ((q1 * c0) * c1), .second, iv 2, iv 1] [])) _
    refine XS.iload X24.here hx rfl (hb hby d1_12) rfl ?_
    refine XS.aloadN X24.here hx rfl (hb hby d1_14) rfl rfl ?_
    show Steps p.tables e below (T24.setTop (mkF m 15 #[rv a1, rv ar, jv q1, .second, rv ob3, jv ((q1 * c0) * c1), .second, iv 2, iv 1] [(.ref ar), (.int 2)])) _
    exact k
  refine own_lift sg28 ?_
  show own_Go p.tables e below (T24.setTop (mkF m 15 #[rv a1, rv ar, jv q1, .second, rv ob3, jv ((q1 * c0) * c1), .second, iv 2, iv 1] [(.ref ar), (.int 2)])) _
  obtain ⟨cl29, Ar29, -, Sx29, N29', -, -⟩ := id (Fc26)
  have st29 : ∀ t, Steps p.tables e below (T24.setTop (mkF m 16 #[rv a1, rv ar, jv q1, .second, rv ob3, jv ((q1 * c0) * c1), .second, iv 2, iv 1] [(.int 3), (.int 2)])) t → Steps p.tables e below (T24.setTop (mkF m 15 #[rv a1, rv ar, jv q1, .second, rv ob3, jv ((q1 * c0) * c1), .second, iv 2, iv 1] [(.ref ar), (.int 2)])) t := by
    intro t k
    refine X24.arraylength hx (by rw [e24]; exact Ar29.1) (State.isArrayOf_alike hZ.alike Ar29.2.1) (g := (mkF m 15 #[rv a1, rv ar, jv q1, .second, rv ob3, jv ((q1 * c0) * c1), .second, iv 2, iv 1] [(.ref ar), (.int 2)])) rfl rfl (hb hby d1_15) _ ?_
    rw [len_of Sx29 N29']
    exact k
  refine own_lift st29 ?_
  show own_Go p.tables e below (T24.setTop (mkF m 16 #[rv a1, rv ar, jv q1, .second, rv ob3, jv ((q1 * c0) * c1), .second, iv 2, iv 1] [(.int 3), (.int 2)])) _
  have sg30 : ∀ t, Steps p.tables e below (T24.setTop (mkF m 20 #[rv a1, rv ar, jv q1, .second, rv ob3, jv ((q1 * c0) * c1), .second, iv 2, iv 1] [(.ref a1)])) t → Steps p.tables e below (T24.setTop (mkF m 16 #[rv a1, rv ar, jv q1, .second, rv ob3, jv ((q1 * c0) * c1), .second, iv 2, iv 1] [(.int 3), (.int 2)])) t := by
    intro t k
    refine XS.icmpNo X24.here hx rfl (hb hby d1_16) rfl (tlt (by decide : (2 : Int32) < (3 : Int32))).2.1 ?_
    show Steps p.tables e below (T24.setTop (mkF m 19 #[rv a1, rv ar, jv q1, .second, rv ob3, jv ((q1 * c0) * c1), .second, iv 2, iv 1] [])) _
    refine XS.aloadN X24.here hx rfl (hb hby d1_19) rfl rfl ?_
    show Steps p.tables e below (T24.setTop (mkF m 20 #[rv a1, rv ar, jv q1, .second, rv ob3, jv ((q1 * c0) * c1), .second, iv 2, iv 1] [(.ref a1)])) _
    exact k
  refine own_lift sg30 ?_
  show own_Go p.tables e below (T24.setTop (mkF m 20 #[rv a1, rv ar, jv q1, .second, rv ob3, jv ((q1 * c0) * c1), .second, iv 2, iv 1] [(.ref a1)])) _
  have Fc31 : Sta Z h24 "com/example/halyard/halyard/east/ArrayStorage" "FIRST_INDEX_FIRST" "Lcom/example/halyard/halyard/east/ArrayStorage;" (.ref fa) := (Fc20.wr W24)
  obtain ⟨T32, X32, e32, st32⟩ := getS X24 hx hZ hown (host := "") (wd hw 13 rfl) Via.refl e24 Fc31 (g := (mkF m 20 #[rv a1, rv ar, jv q1, .second, rv ob3, jv ((q1 * c0) * c1), .second, iv 2, iv 1] [(.ref a1)])) rfl (hb hby d1_20)
  refine own_lift st32 ?_
  show own_Go p.tables e below (T32.setTop (mkF m 23 #[rv a1, rv ar, jv q1, .second, rv ob3, jv ((q1 * c0) * c1), .second, iv 2, iv 1] [(.ref fa), (.ref a1)])) _
  have sg33 : ∀ t, Steps p.tables e below (T32.setTop (mkF m 46 #[rv a1, rv ar, jv q1, .second, rv ob3, jv ((q1 * c0) * c1), .second, iv 2, iv 2] [(.long ((q1 * c0) * c1)), (.int 2), (.ref ob3)])) t → Steps p.tables e below (T32.setTop (mkF m 23 #[rv a1, rv ar, jv q1, .second, rv ob3, jv ((q1 * c0) * c1), .second, iv 2, iv 1] [(.ref fa), (.ref a1)])) t := by
    intro t k
    refine Jvm.RoadKit.acmp (g := (mkF m 23 #[rv a1, rv ar, jv q1, .second, rv ob3, jv ((q1 * c0) * c1), .second, iv 2, iv 1] [(.ref fa), (.ref a1)])) X32 hx rfl rfl rfl (pc0 := 23) (pc' := 36) (same := false) rfl (hb hby d1_23) rfl (decide_eq_false fun q => c_ne (Value.ref.inj q)) (by decide) (by decide) ?_
    show Steps p.tables e below (T32.setTop (mkF m 36 #[rv a1, rv ar, jv q1, .second, rv ob3, jv ((q1 * c0) * c1), .second, iv 2, iv 1] [])) _
    refine XS.iload X32.here hx rfl (hb hby d1_36) rfl ?_
    refine XS.istore X32.here hx rfl (hb hby d1_38) rfl (l' := #[rv a1, rv ar, jv q1, .second, rv ob3, jv ((q1 * c0) * c1), .second, iv 2, iv 2]) rfl ?_
    show Steps p.tables e below (T32.setTop (mkF m 40 #[rv a1, rv ar, jv q1, .second, rv ob3, jv ((q1 * c0) * c1), .second, iv 2, iv 2] [])) _
    refine XS.aload X32.here hx rfl (hb hby d1_40) rfl rfl ?_
    refine XS.iload X32.here hx rfl (hb hby d1_42) rfl ?_
    show Steps p.tables e below (T32.setTop (mkF m 44 #[rv a1, rv ar, jv q1, .second, rv ob3, jv ((q1 * c0) * c1), .second, iv 2, iv 2] [(.int 2), (.ref ob3)])) _
    refine XS.lload X32.here hx rfl (hb hby d1_44) rfl ?_
    show Steps p.tables e below (T32.setTop (mkF m 46 #[rv a1, rv ar, jv q1, .second, rv ob3, jv ((q1 * c0) * c1), .second, iv 2, iv 2] [(.long ((q1 * c0) * c1)), (.int 2), (.ref ob3)])) _
    exact k
  refine own_lift sg33 ?_
  show own_Go p.tables e below (T32.setTop (mkF m 46 #[rv a1, rv ar, jv q1, .second, rv ob3, jv ((q1 * c0) * c1), .second, iv 2, iv 2] [(.long ((q1 * c0) * c1)), (.int 2), (.ref ob3)])) _
  obtain ⟨cl34, Ar34, qx34, Sx34, N34', H34', G34'⟩ := id (Vn24)
  have hin34 : ¬ ((2 : Int32) < 0 ∨ cl34.slots.size ≤ ((2 : Int32)).toNatClampNeg) := inb_of Sx34 ⟨(by decide : ¬ ((2 : Int32) < (0 : Int32))), (by decide : (2 : Int32) < (3 : Int32))⟩
  obtain ⟨T35, h35, X35, e35, W35, st35⟩ := stJ X32 hx hZ e32 Ar34 (j := (2 : Int32)) hin34 (g := (mkF m 46 #[rv a1, rv ar, jv q1, .second, rv ob3, jv ((q1 * c0) * c1), .second, iv 2, iv 2] [(.long ((q1 * c0) * c1)), (.int 2), (.ref ob3)])) rfl rfl (hb hby d1_46)
  have N35 := Fr.snoc X35 N24 ge3
  have Z35 : n0 ≤ h35.size := Nat.le_trans Z24 (Nat.le_of_eq W35.size.symm)
  have K35 : Keep h0 h35 [] := K24.wr W35 (Or.inr gh3)
  have Vn35 : Arv Z h35 ob3 ka3 .long (3 : Int32) [(.long q1), (.long (q1 * c0)), (.long ((q1 * c0) * c1))] (.long 0) := Arv.set Ar34 qx34 Sx34 N34' H34' G34' rfl W35 2 rfl (Nat.le_of_ble_eq_true rfl)
  refine own_lift st35 ?_
  show own_Go p.tables e below (T35.setTop (mkF m 47 #[rv a1, rv ar, jv q1, .second, rv ob3, jv ((q1 * c0) * c1), .second, iv 2, iv 2] [])) _
  have sg36 : ∀ t, Steps p.tables e below (T35.setTop (mkF m 52 #[rv a1, rv ar, jv q1, .second, rv ob3, jv ((q1 * c0) * c1), .second, iv 2, iv 2] [(.int 2), (.ref ar), (.long ((q1 * c0) * c1))])) t → Steps p.tables e below (T35.setTop (mkF m 47 #[rv a1, rv ar, jv q1, .second, rv ob3, jv ((q1 * c0) * c1), .second, iv 2, iv 2] [])) t := by
    intro t k
    refine XS.lload X35.here hx rfl (hb hby d1_47) rfl ?_
    show Steps p.tables e below (T35.setTop (mkF m 49 #[rv a1, rv ar, jv q1, .second, rv ob3, jv ((q1 * c0) * c1), .second, iv 2, iv 2] [(.long ((q1 * c0) * c1))])) _
    refine XS.aloadN X35.here hx rfl (hb hby d1_49) rfl rfl ?_
    refine XS.iload X35.here hx rfl (hb hby d1_50) rfl ?_
    show Steps p.tables e below (T35.setTop (mkF m 52 #[rv a1, rv ar, jv q1, .second, rv ob3, jv ((q1 * c0) * c1), .second, iv 2, iv 2] [(.int 2), (.ref ar), (.long ((q1 * c0) * c1))])) _
    exact k
  refine own_lift sg36 ?_
  show own_Go p.tables e below (T35.setTop (mkF m 52 #[rv a1, rv ar, jv q1, .second, rv ob3, jv ((q1 * c0) * c1), .second, iv 2, iv 2] [(.int 2), (.ref ar), (.long ((q1 * c0) * c1))])) _
  have Fc37 : Arv Z h35 ar kc .long (3 : Int32) [(.long c0), (.long c1), (.long c2)] (.long (0 : Int64)) := (Fc26.other W35 ne4)
  obtain ⟨cl38, Ar38, qx38, Sx38, N38', H38', G38'⟩ := id (Fc37)
  have hin38 : ¬ ((2 : Int32) < 0 ∨ cl38.slots.size ≤ ((2 : Int32)).toNatClampNeg) := inb_of Sx38 ⟨(by decide : ¬ ((2 : Int32) < (0 : Int32))), (by decide : (2 : Int32) < (3 : Int32))⟩
  have hat38 : cl38.slots[((2 : Int32)).toNatClampNeg]? = some (.long c2) := Has.at H38' hin38 rfl
  have sg39 : ∀ t, Steps p.tables e below (T35.setTop (mkF m 15 #[rv a1, rv ar, jv q1, .second, rv ob3, jv (((q1 * c0) * c1) * c2), .second, iv 3, iv 2] [(.ref ar), (.int 3)])) t → Steps p.tables e below (T35.setTop (mkF m 52 #[rv a1, rv ar, jv q1, .second, rv ob3, jv ((q1 * c0) * c1), .second, iv 2, iv 2] [(.int 2), (.ref ar), (.long ((q1 * c0) * c1))])) t := by
    intro t k
    refine X35.laload hx (j := (2 : Int32)) (v := (.long c2)) (by rw [e35]; exact Ar38.1) (State.isArrayOf_alike hZ.alike Ar38.2.1) Ar38.2.2 hin38 hat38 (g := (mkF m 52 #[rv a1, rv ar, jv q1, .second, rv ob3, jv ((q1 * c0) * c1), .second, iv 2, iv 2] [(.int 2), (.ref ar), (.long ((q1 * c0) * c1))])) rfl rfl (hb hby d1_52) _ ?_
    show Steps p.tables e below (T35.setTop (mkF m 53 #[rv a1, rv ar, jv q1, .second, rv ob3, jv ((q1 * c0) * c1), .second, iv 2, iv 2] [(.long c2), (.long ((q1 * c0) * c1))])) _
    refine XS.lmul X35.here hx rfl (hb hby d1_53) rfl ?_
    refine XS.lstore X35.here hx rfl (hb hby d1_54) rfl (l' := #[rv a1, rv ar, jv q1, .second, rv ob3, jv (((q1 * c0) * c1) * c2), .second, iv 2, iv 2]) rfl ?_
    show Steps p.tables e below (T35.setTop (mkF m 56 #[rv a1, rv ar, jv q1, .second, rv ob3, jv (((q1 * c0) * c1) * c2), .second, iv 2, iv 2] [])) _
    refine XS.iinc X35.here hx rfl (hb hby d1_56) rfl (l' := #[rv a1, rv ar, jv q1, .second, rv ob3, jv (((q1 * c0) * c1) * c2), .second, iv 3, iv 2]) rfl ?_
    refine XS.goto X35.here hx rfl (pc0 := 59) (pc' := 12) rfl (hb hby d1_59) (by decide) (by decide) ?_
    show Steps p.tables e below (T35.setTop (mkF m 12 #[rv a1, rv ar, jv q1, .second, rv ob3, jv (((q1 * c0) * c1) * c2), .second, iv 3, iv 2] [])) _
    refine XS.iload X35.here hx rfl (hb hby d1_12) rfl ?_
    refine XS.aloadN X35.here hx rfl (hb hby d1_14) rfl rfl ?_
    show Steps p.tables e below (T35.setTop (mkF m 15 #[rv a1, rv ar, jv q1, .second, rv ob3, jv (((q1 * c0) * c1) * c2), .second, iv 3, iv 2] [(.ref ar), (.int 3)])) _
    exact k
  refine own_lift sg39 ?_
  show own_Go p.tables e below (T35.setTop (mkF m 15 #[rv a1, rv ar, jv q1, .second, rv ob3, jv (((q1 * c0) * c1) * c2), .second, iv 3, iv 2] [(.ref ar), (.int 3)])) _
  obtain ⟨cl40, Ar40, -, Sx40, N40', -, -⟩ := id (Fc37)
  have st40 : ∀ t, Steps p.tables e below (T35.setTop (mkF m 16 #[rv a1, rv ar, jv q1, .second, rv ob3, jv (((q1 * c0) * c1) * c2), .second, iv 3, iv 2] [(.int 3), (.int 3)])) t → Steps p.tables e below (T35.setTop (mkF m 15 #[rv a1, rv ar, jv q1, .second, rv ob3, jv (((q1 * c0) * c1) * c2), .second, iv 3, iv 2] [(.ref ar), (.int 3)])) t := by
    intro t k
    refine X35.arraylength hx (by rw [e35]; exact Ar40.1) (State.isArrayOf_alike hZ.alike Ar40.2.1) (g := (mkF m 15 #[rv a1, rv ar, jv q1, .second, rv ob3, jv (((q1 * c0) * c1) * c2), .second, iv 3, iv 2] [(.ref ar), (.int 3)])) rfl rfl (hb hby d1_15) _ ?_
    rw [len_of Sx40 N40']
    exact k
  refine own_lift st40 ?_
  show own_Go p.tables e below (T35.setTop (mkF m 16 #[rv a1, rv ar, jv q1, .second, rv ob3, jv (((q1 * c0) * c1) * c2), .second, iv 3, iv 2] [(.int 3), (.int 3)])) _
  have sg41 : ∀ t, Steps p.tables e below (T35.setTop (mkF m 64 #[rv a1, rv ar, jv q1, .second, rv ob3, jv (((q1 * c0) * c1) * c2), .second, iv 3, iv 2] [(.ref ob3)])) t → Steps p.tables e below (T35.setTop (mkF m 16 #[rv a1, rv ar, jv q1, .second, rv ob3, jv (((q1 * c0) * c1) * c2), .second, iv 3, iv 2] [(.int 3), (.int 3)])) t := by
    intro t k
    refine XS.icmpYes X35.here hx rfl (pc0 := 16) (pc' := 62) rfl (hb hby d1_16) rfl (flt (by decide : ¬ ((3 : Int32) < (3 : Int32)))).2.1 (by decide) (by decide) ?_
    show Steps p.tables e below (T35.setTop (mkF m 62 #[rv a1, rv ar, jv q1, .second, rv ob3, jv (((q1 * c0) * c1) * c2), .second, iv 3, iv 2] [])) _
    refine XS.aload X35.here hx rfl (hb hby d1_62) rfl rfl ?_
    show Steps p.tables e below (T35.setTop (mkF m 64 #[rv a1, rv ar, jv q1, .second, rv ob3, jv (((q1 * c0) * c1) * c2), .second, iv 3, iv 2] [(.ref ob3)])) _
    exact k
  refine own_lift sg41 ?_
  show own_Go p.tables e below (T35.setTop (mkF m 64 #[rv a1, rv ar, jv q1, .second, rv ob3, jv (((q1 * c0) * c1) * c2), .second, iv 3, iv 2] [(.ref ob3)])) _
  obtain ⟨fs, hr, hrun, hended, hW, hsame⟩ := X35.leave (v := some (.ref ob3)) (fun h => by rw [Bd.returns] at h; cases h)
  refine ⟨_, _, ?_, hrun, hended, _, _, rfl, ?_, ⟨_, rfl⟩, hW, hsame.mono (by decide) (by decide)⟩
  · exact retOut X35 hx Bd.returns rfl (Or.inr (Or.inr (Or.inr (Or.inr ⟨rfl, rfl, rfl⟩)))) (hb hby d1_64) hr
  · show Q_rmStr3L Z a1 ar q1 fa kc c0 c1 c2 h0 n0 _ T35.heap _
    rw [e35]
    exact ⟨ob3, ka3, rfl, N35, K35, gh3, Vn35⟩
theorem pn_1 : plainName "com/example/halyard/halyard/east/ArrayStorageStridesPinLaw" = true := by first | (simp [plainName, overriddenIn]; done) | decide +kernel
theorem pd_0 : parseMethodDescriptor "([JJ)[J" = some ⟨[(.array .long), .long], some (.array .long)⟩ := by decide +kernel
def Q0 (Z : State)  (h0 : Heap) (n0 : Nat) (v : Option Value) (h : Heap) (L : List Loc) : Prop := v = some (.int 1) ∧ Fr n0 L
theorem ef_rm0_0L (m : MethodId) (x0 : Int32) (x1 : Int64) (x2 : Int64) (x3 : Int64) (x4 : Int64) : entryFrame m #[(.int x0), (.long x1), (.long x2), (.long x3), (.long x4)] maxLocals = mkF m 0 #[.val (.int x0), .val (.long x1), .second, .val (.long x2), .second, .val (.long x3), .second, .val (.long x4), .second, .unset, .unset, .unset, .unset, .unset, .unset, .unset, .unset, .unset, .unset, .unset, .unset, .unset, .unset, .unset] [] := by first | (simp [entryFrame, mkF, argsToLocals, Value.category, maxLocals]; done) | rfl
set_option maxRecDepth 65536 in
set_option maxHeartbeats 40000000 in
theorem rm0_0L (l : Launch) (Z : State) (a0 : Array Value) (hw : ∀ d ∈ tables_1, d.before a0 Z = true) (ws : List Jvm.Cond) (p0 : Int32) (p1 : Int64) (p2 : Int64) (p3 : Int64) (p4 : Int64) (as_LAST_INDEX_FIRST : Addr) (as_FIRST_INDEX_FIRST : Addr) (x0 : Int64) (x1 : Int64) (x2 : Int64) (xe : Int64) (h0 : Heap) (n0 : Nat) (Z0 : n0 ≤ h0.size) (S_LAST_INDEX_FIRST : Sta Z h0 "com/example/halyard/halyard/east/ArrayStorage" "LAST_INDEX_FIRST" "Lcom/example/halyard/halyard/east/ArrayStorage;" (.ref as_LAST_INDEX_FIRST)) (E_LAST_INDEX_FIRST : Exa Z h0 as_LAST_INDEX_FIRST "com/example/halyard/halyard/east/ArrayStorage") (O_LAST_INDEX_FIRST : Fld Z h0 as_LAST_INDEX_FIRST "java/lang/Enum" "ordinal" "I" (.int 1)) (S_FIRST_INDEX_FIRST : Sta Z h0 "com/example/halyard/halyard/east/ArrayStorage" "FIRST_INDEX_FIRST" "Lcom/example/halyard/halyard/east/ArrayStorage;" (.ref as_FIRST_INDEX_FIRST)) (E_FIRST_INDEX_FIRST : Exa Z h0 as_FIRST_INDEX_FIRST "com/example/halyard/halyard/east/ArrayStorage") (O_FIRST_INDEX_FIRST : Fld Z h0 as_FIRST_INDEX_FIRST "java/lang/Enum" "ordinal" "I" (.int 0)) (hx0 : (p1 &&& (65535 : Int64)) = x0) (hx1 : (p2 &&& (65535 : Int64)) = x1) (hx2 : (p3 &&& (65535 : Int64)) = x2) (hxe : (p4 &&& (32767 : Int64)) = xe) (b1 : (p0 &&& (1 : Int32)) = (0 : Int32)) (hn : (((p0.toUInt32 >>> ((1 : Int32) &&& 31).toUInt32).toInt32) &&& (3 : Int32)) = (0 : Int32)) (hne : ¬ (as_LAST_INDEX_FIRST = as_FIRST_INDEX_FIRST)) :
    MetFree l x (head1 (Jvm.Cond.code x code maxLocals ret :: ws) room_1) (fun a U => a = #[(.int p0), (.long p1), (.long p2), (.long p3), (.long p4)] ∧ Z.Warmed39 U.vm ∧ U.heap = h0) (fun _ _ _ _ _ => True) (fun _ U o U' => ∃ v L, o = .returned v ∧ Q0 Z  h0 n0 v U'.heap L ∧ FrameEnd U o U' L 16 128) := by
  refine MetFree.of_bodySF (plainFor_of_name pn_1) hisR ?_
  intro p e s m args below meth c s₁ Bd hml0 hP hK
  obtain ⟨rfl, hZ, hh⟩ := hP
  have hx := Bd.exec
  have hby := Bd.bytes
  have hml : c.maxLocals = 24 := hml0
  have hown : s.vm.findClass "com/example/halyard/halyard/east/ArrayStorageStridesPinLaw" = some m.cls := findClass_of_methodNamed Bd.named
  have hnm := (name_of_methodNamed Bd.named Bd.method).1
  have X0 : Stand p l e room_1 s m #[(.int p0), (.long p1), (.long p2), (.long p3), (.long p4)] below meth c s₁ [] 0 0 := Stand.of_body Bd
  have e0 : s₁.heap = h0 := by rw [← hh, Bd.state]; rfl
  have N0 := Fr.nil n0
  refine own_go (own_lift (fun t k => castTop (ef_rm0_0L m p0 p1 p2 p3 p4) k) ?_)
  show own_Go p.tables e below (s₁.setTop (mkF m 0 #[iv p0, jv p1, .second, jv p2, .second, jv p3, .second, jv p4, .second, .unset, .unset, .unset, .unset, .unset, .unset, .unset, .unset, .unset, .unset, .unset, .unset, .unset, .unset, .unset] [])) _
  have sg1 : ∀ t, Steps p.tables e below (s₁.setTop (mkF m 18 #[iv p0, jv p1, .second, jv p2, .second, jv p3, .second, jv p4, .second, iv 0, .unset, .unset, .unset, .unset, .unset, .unset, .unset, .unset, .unset, .unset, .unset, .unset, .unset, .unset] [(.int (((p0.toUInt32 >>> ((1 : Int32) &&& 31).toUInt32).toInt32) &&& (3 : Int32)))])) t → Steps p.tables e below (s₁.setTop (mkF m 0 #[iv p0, jv p1, .second, jv p2, .second, jv p3, .second, jv p4, .second, .unset, .unset, .unset, .unset, .unset, .unset, .unset, .unset, .unset, .unset, .unset, .unset, .unset, .unset, .unset] [])) t := by
    intro t k
    refine XS.iloadN X0.here hx rfl (hb hby at_0) rfl ?_
    show Steps p.tables e below (s₁.setTop (mkF m 1 #[iv p0, jv p1, .second, jv p2, .second, jv p3, .second, jv p4, .second, .unset, .unset, .unset, .unset, .unset, .unset, .unset, .unset, .unset, .unset, .unset, .unset, .unset, .unset, .unset] [(.int p0)])) _
    refine XS.iconst X0.here hx rfl (hb hby at_1) ?_
    refine XS.iand X0.here hx rfl (hb hby at_2) rfl ?_
    show Steps p.tables e below (s₁.setTop (mkF m 3 #[iv p0, jv p1, .second, jv p2, .second, jv p3, .second, jv p4, .second, .unset, .unset, .unset, .unset, .unset, .unset, .unset, .unset, .unset, .unset, .unset, .unset, .unset, .unset, .unset] [(.int (p0 &&& (1 : Int32)))])) _
    refine XS.ifYes X0.here hx rfl (pc0 := 3) (pc' := 10) rfl (hb hby at_3) rfl ((if0 _ _).trans (teq b1).1) (by decide) (by decide) ?_
    refine XS.iconst X0.here hx rfl (hb hby at_10) ?_
    show Steps p.tables e below (s₁.setTop (mkF m 11 #[iv p0, jv p1, .second, jv p2, .second, jv p3, .second, jv p4, .second, .unset, .unset, .unset, .unset, .unset, .unset, .unset, .unset, .unset, .unset, .unset, .unset, .unset, .unset, .unset] [(.int 0)])) _
    refine XS.istore X0.here hx rfl (hb hby at_11) rfl (l' := #[iv p0, jv p1, .second, jv p2, .second, jv p3, .second, jv p4, .second, iv 0, .unset, .unset, .unset, .unset, .unset, .unset, .unset, .unset, .unset, .unset, .unset, .unset, .unset, .unset]) rfl ?_
    refine XS.iloadN X0.here hx rfl (hb hby at_13) rfl ?_
    show Steps p.tables e below (s₁.setTop (mkF m 14 #[iv p0, jv p1, .second, jv p2, .second, jv p3, .second, jv p4, .second, iv 0, .unset, .unset, .unset, .unset, .unset, .unset, .unset, .unset, .unset, .unset, .unset, .unset, .unset, .unset] [(.int p0)])) _
    refine XS.iconst X0.here hx rfl (hb hby at_14) ?_
    refine XS.iushr X0.here hx rfl (hb hby at_15) rfl ?_
    show Steps p.tables e below (s₁.setTop (mkF m 16 #[iv p0, jv p1, .second, jv p2, .second, jv p3, .second, jv p4, .second, iv 0, .unset, .unset, .unset, .unset, .unset, .unset, .unset, .unset, .unset, .unset, .unset, .unset, .unset, .unset] [(.int ((p0.toUInt32 >>> ((1 : Int32) &&& 31).toUInt32).toInt32))])) _
    refine XS.iconst X0.here hx rfl (hb hby at_16) ?_
    refine XS.iand X0.here hx rfl (hb hby at_17) rfl ?_
    show Steps p.tables e below (s₁.setTop (mkF m 18 #[iv p0, jv p1, .second, jv p2, .second, jv p3, .second, jv p4, .second, iv 0, .unset, .unset, .unset, .unset, .unset, .unset, .unset, .unset, .unset, .unset, .unset, .unset, .unset, .unset] [(.int (((p0.toUInt32 >>> ((1 : Int32) &&& 31).toUInt32).toInt32) &&& (3 : Int32)))])) _
    exact k
  refine own_lift sg1 ?_
  show own_Go p.tables e below (s₁.setTop (mkF m 18 #[iv p0, jv p1, .second, jv p2, .second, jv p3, .second, jv p4, .second, iv 0, .unset, .unset, .unset, .unset, .unset, .unset, .unset, .unset, .unset, .unset, .unset, .unset, .unset, .unset] [(.int (((p0.toUInt32 >>> ((1 : Int32) &&& 31).toUInt32).toInt32) &&& (3 : Int32)))])) _
  rw [hn]
  show own_Go p.tables e below (s₁.setTop (mkF m 18 #[iv p0, jv p1, .second, jv p2, .second, jv p3, .second, jv p4, .second, iv 0, .unset, .unset, .unset, .unset, .unset, .unset, .unset, .unset, .unset, .unset, .unset, .unset, .unset, .unset] [(.int 0)])) _
  have sg2 : ∀ t, Steps p.tables e below (s₁.setTop (mkF m 25 #[iv p0, jv p1, .second, jv p2, .second, jv p3, .second, jv p4, .second, iv 0, iv 0, .unset, .unset, .unset, .unset, .unset, .unset, .unset, .unset, .unset, .unset, .unset, .unset, .unset] [(.long (p1 &&& (65535 : Int64)))])) t → Steps p.tables e below (s₁.setTop (mkF m 18 #[iv p0, jv p1, .second, jv p2, .second, jv p3, .second, jv p4, .second, iv 0, .unset, .unset, .unset, .unset, .unset, .unset, .unset, .unset, .unset, .unset, .unset, .unset, .unset, .unset] [(.int 0)])) t := by
    intro t k
    refine XS.istore X0.here hx rfl (hb hby at_18) rfl (l' := #[iv p0, jv p1, .second, jv p2, .second, jv p3, .second, jv p4, .second, iv 0, iv 0, .unset, .unset, .unset, .unset, .unset, .unset, .unset, .unset, .unset, .unset, .unset, .unset, .unset]) rfl ?_
    show Steps p.tables e below (s₁.setTop (mkF m 20 #[iv p0, jv p1, .second, jv p2, .second, jv p3, .second, jv p4, .second, iv 0, iv 0, .unset, .unset, .unset, .unset, .unset, .unset, .unset, .unset, .unset, .unset, .unset, .unset, .unset] [])) _
    refine XS.lloadN X0.here hx rfl (hb hby at_20) rfl ?_
    refine X0.ldc2Long hx hown (mvT hZ (wd hw 0 rfl)) (g := (mkF m 21 #[iv p0, jv p1, .second, jv p2, .second, jv p3, .second, jv p4, .second, iv 0, iv 0, .unset, .unset, .unset, .unset, .unset, .unset, .unset, .unset, .unset, .unset, .unset, .unset, .unset] [(.long p1)])) rfl (hb hby at_21) _ ?_
    show Steps p.tables e below (s₁.setTop (mkF m 24 #[iv p0, jv p1, .second, jv p2, .second, jv p3, .second, jv p4, .second, iv 0, iv 0, .unset, .unset, .unset, .unset, .unset, .unset, .unset, .unset, .unset, .unset, .unset, .unset, .unset] [(.long 65535), (.long p1)])) _
    refine XS.land X0.here hx rfl (hb hby at_24) rfl ?_
    show Steps p.tables e below (s₁.setTop (mkF m 25 #[iv p0, jv p1, .second, jv p2, .second, jv p3, .second, jv p4, .second, iv 0, iv 0, .unset, .unset, .unset, .unset, .unset, .unset, .unset, .unset, .unset, .unset, .unset, .unset, .unset] [(.long (p1 &&& (65535 : Int64)))])) _
    exact k
  refine own_lift sg2 ?_
  show own_Go p.tables e below (s₁.setTop (mkF m 25 #[iv p0, jv p1, .second, jv p2, .second, jv p3, .second, jv p4, .second, iv 0, iv 0, .unset, .unset, .unset, .unset, .unset, .unset, .unset, .unset, .unset, .unset, .unset, .unset, .unset] [(.long (p1 &&& (65535 : Int64)))])) _
  rw [hx0]
  show own_Go p.tables e below (s₁.setTop (mkF m 25 #[iv p0, jv p1, .second, jv p2, .second, jv p3, .second, jv p4, .second, iv 0, iv 0, .unset, .unset, .unset, .unset, .unset, .unset, .unset, .unset, .unset, .unset, .unset, .unset, .unset] [(.long x0)])) _
  have sg3 : ∀ t, Steps p.tables e below (s₁.setTop (mkF m 32 #[iv p0, jv p1, .second, jv p2, .second, jv p3, .second, jv p4, .second, iv 0, iv 0, jv x0, .second, .unset, .unset, .unset, .unset, .unset, .unset, .unset, .unset, .unset, .unset, .unset] [(.long (p2 &&& (65535 : Int64)))])) t → Steps p.tables e below (s₁.setTop (mkF m 25 #[iv p0, jv p1, .second, jv p2, .second, jv p3, .second, jv p4, .second, iv 0, iv 0, .unset, .unset, .unset, .unset, .unset, .unset, .unset, .unset, .unset, .unset, .unset, .unset, .unset] [(.long x0)])) t := by
    intro t k
    refine XS.lstore X0.here hx rfl (hb hby at_25) rfl (l' := #[iv p0, jv p1, .second, jv p2, .second, jv p3, .second, jv p4, .second, iv 0, iv 0, jv x0, .second, .unset, .unset, .unset, .unset, .unset, .unset, .unset, .unset, .unset, .unset, .unset]) rfl ?_
    show Steps p.tables e below (s₁.setTop (mkF m 27 #[iv p0, jv p1, .second, jv p2, .second, jv p3, .second, jv p4, .second, iv 0, iv 0, jv x0, .second, .unset, .unset, .unset, .unset, .unset, .unset, .unset, .unset, .unset, .unset, .unset] [])) _
    refine XS.lloadN X0.here hx rfl (hb hby at_27) rfl ?_
    refine X0.ldc2Long hx hown (mvT hZ (wd hw 0 rfl)) (g := (mkF m 28 #[iv p0, jv p1, .second, jv p2, .second, jv p3, .second, jv p4, .second, iv 0, iv 0, jv x0, .second, .unset, .unset, .unset, .unset, .unset, .unset, .unset, .unset, .unset, .unset, .unset] [(.long p2)])) rfl (hb hby at_28) _ ?_
    show Steps p.tables e below (s₁.setTop (mkF m 31 #[iv p0, jv p1, .second, jv p2, .second, jv p3, .second, jv p4, .second, iv 0, iv 0, jv x0, .second, .unset, .unset, .unset, .unset, .unset, .unset, .unset, .unset, .unset, .unset, .unset] [(.long 65535), (.long p2)])) _
    refine XS.land X0.here hx rfl (hb hby at_31) rfl ?_
    show Steps p.tables e below (s₁.setTop (mkF m 32 #[iv p0, jv p1, .second, jv p2, .second, jv p3, .second, jv p4, .second, iv 0, iv 0, jv x0, .second, .unset, .unset, .unset, .unset, .unset, .unset, .unset, .unset, .unset, .unset, .unset] [(.long (p2 &&& (65535 : Int64)))])) _
    exact k
  refine own_lift sg3 ?_
  show own_Go p.tables e below (s₁.setTop (mkF m 32 #[iv p0, jv p1, .second, jv p2, .second, jv p3, .second, jv p4, .second, iv 0, iv 0, jv x0, .second, .unset, .unset, .unset, .unset, .unset, .unset, .unset, .unset, .unset, .unset, .unset] [(.long (p2 &&& (65535 : Int64)))])) _
  rw [hx1]
  show own_Go p.tables e below (s₁.setTop (mkF m 32 #[iv p0, jv p1, .second, jv p2, .second, jv p3, .second, jv p4, .second, iv 0, iv 0, jv x0, .second, .unset, .unset, .unset, .unset, .unset, .unset, .unset, .unset, .unset, .unset, .unset] [(.long x1)])) _
  have sg4 : ∀ t, Steps p.tables e below (s₁.setTop (mkF m 40 #[iv p0, jv p1, .second, jv p2, .second, jv p3, .second, jv p4, .second, iv 0, iv 0, jv x0, .second, jv x1, .second, .unset, .unset, .unset, .unset, .unset, .unset, .unset, .unset, .unset] [(.long (p3 &&& (65535 : Int64)))])) t → Steps p.tables e below (s₁.setTop (mkF m 32 #[iv p0, jv p1, .second, jv p2, .second, jv p3, .second, jv p4, .second, iv 0, iv 0, jv x0, .second, .unset, .unset, .unset, .unset, .unset, .unset, .unset, .unset, .unset, .unset, .unset] [(.long x1)])) t := by
    intro t k
    refine XS.lstore X0.here hx rfl (hb hby at_32) rfl (l' := #[iv p0, jv p1, .second, jv p2, .second, jv p3, .second, jv p4, .second, iv 0, iv 0, jv x0, .second, jv x1, .second, .unset, .unset, .unset, .unset, .unset, .unset, .unset, .unset, .unset]) rfl ?_
    show Steps p.tables e below (s₁.setTop (mkF m 34 #[iv p0, jv p1, .second, jv p2, .second, jv p3, .second, jv p4, .second, iv 0, iv 0, jv x0, .second, jv x1, .second, .unset, .unset, .unset, .unset, .unset, .unset, .unset, .unset, .unset] [])) _
    refine XS.lload X0.here hx rfl (hb hby at_34) rfl ?_
    refine X0.ldc2Long hx hown (mvT hZ (wd hw 0 rfl)) (g := (mkF m 36 #[iv p0, jv p1, .second, jv p2, .second, jv p3, .second, jv p4, .second, iv 0, iv 0, jv x0, .second, jv x1, .second, .unset, .unset, .unset, .unset, .unset, .unset, .unset, .unset, .unset] [(.long p3)])) rfl (hb hby at_36) _ ?_
    show Steps p.tables e below (s₁.setTop (mkF m 39 #[iv p0, jv p1, .second, jv p2, .second, jv p3, .second, jv p4, .second, iv 0, iv 0, jv x0, .second, jv x1, .second, .unset, .unset, .unset, .unset, .unset, .unset, .unset, .unset, .unset] [(.long 65535), (.long p3)])) _
    refine XS.land X0.here hx rfl (hb hby at_39) rfl ?_
    show Steps p.tables e below (s₁.setTop (mkF m 40 #[iv p0, jv p1, .second, jv p2, .second, jv p3, .second, jv p4, .second, iv 0, iv 0, jv x0, .second, jv x1, .second, .unset, .unset, .unset, .unset, .unset, .unset, .unset, .unset, .unset] [(.long (p3 &&& (65535 : Int64)))])) _
    exact k
  refine own_lift sg4 ?_
  show own_Go p.tables e below (s₁.setTop (mkF m 40 #[iv p0, jv p1, .second, jv p2, .second, jv p3, .second, jv p4, .second, iv 0, iv 0, jv x0, .second, jv x1, .second, .unset, .unset, .unset, .unset, .unset, .unset, .unset, .unset, .unset] [(.long (p3 &&& (65535 : Int64)))])) _
  rw [hx2]
  show own_Go p.tables e below (s₁.setTop (mkF m 40 #[iv p0, jv p1, .second, jv p2, .second, jv p3, .second, jv p4, .second, iv 0, iv 0, jv x0, .second, jv x1, .second, .unset, .unset, .unset, .unset, .unset, .unset, .unset, .unset, .unset] [(.long x2)])) _
  have sg5 : ∀ t, Steps p.tables e below (s₁.setTop (mkF m 48 #[iv p0, jv p1, .second, jv p2, .second, jv p3, .second, jv p4, .second, iv 0, iv 0, jv x0, .second, jv x1, .second, jv x2, .second, .unset, .unset, .unset, .unset, .unset, .unset, .unset] [(.long (p4 &&& (32767 : Int64)))])) t → Steps p.tables e below (s₁.setTop (mkF m 40 #[iv p0, jv p1, .second, jv p2, .second, jv p3, .second, jv p4, .second, iv 0, iv 0, jv x0, .second, jv x1, .second, .unset, .unset, .unset, .unset, .unset, .unset, .unset, .unset, .unset] [(.long x2)])) t := by
    intro t k
    refine XS.lstore X0.here hx rfl (hb hby at_40) rfl (l' := #[iv p0, jv p1, .second, jv p2, .second, jv p3, .second, jv p4, .second, iv 0, iv 0, jv x0, .second, jv x1, .second, jv x2, .second, .unset, .unset, .unset, .unset, .unset, .unset, .unset]) rfl ?_
    show Steps p.tables e below (s₁.setTop (mkF m 42 #[iv p0, jv p1, .second, jv p2, .second, jv p3, .second, jv p4, .second, iv 0, iv 0, jv x0, .second, jv x1, .second, jv x2, .second, .unset, .unset, .unset, .unset, .unset, .unset, .unset] [])) _
    refine XS.lload X0.here hx rfl (hb hby at_42) rfl ?_
    refine X0.ldc2Long hx hown (mvT hZ (wd hw 1 rfl)) (g := (mkF m 44 #[iv p0, jv p1, .second, jv p2, .second, jv p3, .second, jv p4, .second, iv 0, iv 0, jv x0, .second, jv x1, .second, jv x2, .second, .unset, .unset, .unset, .unset, .unset, .unset, .unset] [(.long p4)])) rfl (hb hby at_44) _ ?_
    show Steps p.tables e below (s₁.setTop (mkF m 47 #[iv p0, jv p1, .second, jv p2, .second, jv p3, .second, jv p4, .second, iv 0, iv 0, jv x0, .second, jv x1, .second, jv x2, .second, .unset, .unset, .unset, .unset, .unset, .unset, .unset] [(.long 32767), (.long p4)])) _
    refine XS.land X0.here hx rfl (hb hby at_47) rfl ?_
    show Steps p.tables e below (s₁.setTop (mkF m 48 #[iv p0, jv p1, .second, jv p2, .second, jv p3, .second, jv p4, .second, iv 0, iv 0, jv x0, .second, jv x1, .second, jv x2, .second, .unset, .unset, .unset, .unset, .unset, .unset, .unset] [(.long (p4 &&& (32767 : Int64)))])) _
    exact k
  refine own_lift sg5 ?_
  show own_Go p.tables e below (s₁.setTop (mkF m 48 #[iv p0, jv p1, .second, jv p2, .second, jv p3, .second, jv p4, .second, iv 0, iv 0, jv x0, .second, jv x1, .second, jv x2, .second, .unset, .unset, .unset, .unset, .unset, .unset, .unset] [(.long (p4 &&& (32767 : Int64)))])) _
  rw [hxe]
  show own_Go p.tables e below (s₁.setTop (mkF m 48 #[iv p0, jv p1, .second, jv p2, .second, jv p3, .second, jv p4, .second, iv 0, iv 0, jv x0, .second, jv x1, .second, jv x2, .second, .unset, .unset, .unset, .unset, .unset, .unset, .unset] [(.long xe)])) _
  have sg6 : ∀ t, Steps p.tables e below (s₁.setTop (mkF m 52 #[iv p0, jv p1, .second, jv p2, .second, jv p3, .second, jv p4, .second, iv 0, iv 0, jv x0, .second, jv x1, .second, jv x2, .second, jv xe, .second, .unset, .unset, .unset, .unset, .unset] [(.int 0)])) t → Steps p.tables e below (s₁.setTop (mkF m 48 #[iv p0, jv p1, .second, jv p2, .second, jv p3, .second, jv p4, .second, iv 0, iv 0, jv x0, .second, jv x1, .second, jv x2, .second, .unset, .unset, .unset, .unset, .unset, .unset, .unset] [(.long xe)])) t := by
    intro t k
    refine XS.lstore X0.here hx rfl (hb hby at_48) rfl (l' := #[iv p0, jv p1, .second, jv p2, .second, jv p3, .second, jv p4, .second, iv 0, iv 0, jv x0, .second, jv x1, .second, jv x2, .second, jv xe, .second, .unset, .unset, .unset, .unset, .unset]) rfl ?_
    show Steps p.tables e below (s₁.setTop (mkF m 50 #[iv p0, jv p1, .second, jv p2, .second, jv p3, .second, jv p4, .second, iv 0, iv 0, jv x0, .second, jv x1, .second, jv x2, .second, jv xe, .second, .unset, .unset, .unset, .unset, .unset] [])) _
    refine XS.iload X0.here hx rfl (hb hby at_50) rfl ?_
    show Steps p.tables e below (s₁.setTop (mkF m 52 #[iv p0, jv p1, .second, jv p2, .second, jv p3, .second, jv p4, .second, iv 0, iv 0, jv x0, .second, jv x1, .second, jv x2, .second, jv xe, .second, .unset, .unset, .unset, .unset, .unset] [(.int 0)])) _
    exact k
  refine own_lift sg6 ?_
  show own_Go p.tables e below (s₁.setTop (mkF m 52 #[iv p0, jv p1, .second, jv p2, .second, jv p3, .second, jv p4, .second, iv 0, iv 0, jv x0, .second, jv x1, .second, jv x2, .second, jv xe, .second, .unset, .unset, .unset, .unset, .unset] [(.int 0)])) _
  obtain ⟨T7, h7, ka7, X7, e7, Ex7, Ax7, st7⟩ := newP X0 hx hZ (wd hw 2 rfl) e0 (g := (mkF m 52 #[iv p0, jv p1, .second, jv p2, .second, jv p3, .second, jv p4, .second, iv 0, iv 0, jv x0, .second, jv x1, .second, jv x2, .second, jv xe, .second, .unset, .unset, .unset, .unset, .unset] [(.int 0)])) rfl (hb hby at_52) rfl (by decide) (cap := 0) (by decide) (by decide) (by decide) (by decide)
  obtain ⟨ob7, g7⟩ : ∃ z, z = h0.size := ⟨_, rfl⟩
  rw [← g7] at Ax7 st7
  have ne8 : as_LAST_INDEX_FIRST ≠ ob7 := Nat.ne_of_lt (Nat.lt_of_lt_of_le E_LAST_INDEX_FIRST.lt (Nat.le_of_eq g7.symm))
  have ne9 : as_FIRST_INDEX_FIRST ≠ ob7 := Nat.ne_of_lt (Nat.lt_of_lt_of_le E_FIRST_INDEX_FIRST.lt (Nat.le_of_eq g7.symm))
  have Z7 : n0 ≤ h7.size := Nat.le_trans Z0 Ex7.1
  have ge7 : n0 ≤ ob7 := Nat.le_trans Z0 (Nat.le_of_eq g7.symm)
  have Vn7 : Arv Z h7 ob7 ka7 .long (0 : Int32) [] (.long 0) := (Arv.new Ax7 (by decide)).pad (pad_rep [] (.long 0) 0)
  refine own_lift st7 ?_
  show own_Go p.tables e below (T7.setTop (mkF m 54 #[iv p0, jv p1, .second, jv p2, .second, jv p3, .second, jv p4, .second, iv 0, iv 0, jv x0, .second, jv x1, .second, jv x2, .second, jv xe, .second, .unset, .unset, .unset, .unset, .unset] [(.ref ob7)])) _
  have sg10 : ∀ t, Steps p.tables e below (T7.setTop (mkF m 102 #[iv p0, jv p1, .second, jv p2, .second, jv p3, .second, jv p4, .second, iv 0, iv 0, jv x0, .second, jv x1, .second, jv x2, .second, jv xe, .second, rv ob7, .unset, .unset, .unset, .unset] [])) t → Steps p.tables e below (T7.setTop (mkF m 54 #[iv p0, jv p1, .second, jv p2, .second, jv p3, .second, jv p4, .second, iv 0, iv 0, jv x0, .second, jv x1, .second, jv x2, .second, jv xe, .second, .unset, .unset, .unset, .unset, .unset] [(.ref ob7)])) t := by
    intro t k
    refine XS.astore X7.here hx rfl (hb hby at_54) rfl rfl (l' := #[iv p0, jv p1, .second, jv p2, .second, jv p3, .second, jv p4, .second, iv 0, iv 0, jv x0, .second, jv x1, .second, jv x2, .second, jv xe, .second, rv ob7, .unset, .unset, .unset, .unset]) rfl ?_
    show Steps p.tables e below (T7.setTop (mkF m 56 #[iv p0, jv p1, .second, jv p2, .second, jv p3, .second, jv p4, .second, iv 0, iv 0, jv x0, .second, jv x1, .second, jv x2, .second, jv xe, .second, rv ob7, .unset, .unset, .unset, .unset] [])) _
    refine XS.iload X7.here hx rfl (hb hby at_56) rfl ?_
    refine XS.ifYes X7.here hx rfl (pc0 := 58) (pc' := 67) rfl (hb hby at_58) rfl ((if0 _ _).trans (flt (by decide : ¬ ((0 : Int32) < (0 : Int32)))).2.2.2) (by decide) (by decide) ?_
    show Steps p.tables e below (T7.setTop (mkF m 67 #[iv p0, jv p1, .second, jv p2, .second, jv p3, .second, jv p4, .second, iv 0, iv 0, jv x0, .second, jv x1, .second, jv x2, .second, jv xe, .second, rv ob7, .unset, .unset, .unset, .unset] [])) _
    refine XS.iload X7.here hx rfl (hb hby at_67) rfl ?_
    refine XS.iconst X7.here hx rfl (hb hby at_69) ?_
    show Steps p.tables e below (T7.setTop (mkF m 70 #[iv p0, jv p1, .second, jv p2, .second, jv p3, .second, jv p4, .second, iv 0, iv 0, jv x0, .second, jv x1, .second, jv x2, .second, jv xe, .second, rv ob7, .unset, .unset, .unset, .unset] [(.int 1), (.int 0)])) _
    refine XS.icmpYes X7.here hx rfl (pc0 := 70) (pc' := 79) rfl (hb hby at_70) rfl (flt (by decide : ¬ ((1 : Int32) < (0 : Int32)))).2.2.2 (by decide) (by decide) ?_
    refine XS.iload X7.here hx rfl (hb hby at_79) rfl ?_
    show Steps p.tables e below (T7.setTop (mkF m 81 #[iv p0, jv p1, .second, jv p2, .second, jv p3, .second, jv p4, .second, iv 0, iv 0, jv x0, .second, jv x1, .second, jv x2, .second, jv xe, .second, rv ob7, .unset, .unset, .unset, .unset] [(.int 0)])) _
    refine XS.iconst X7.here hx rfl (hb hby at_81) ?_
    refine XS.icmpYes X7.here hx rfl (pc0 := 82) (pc' := 91) rfl (hb hby at_82) rfl (flt (by decide : ¬ ((2 : Int32) < (0 : Int32)))).2.2.2 (by decide) (by decide) ?_
    show Steps p.tables e below (T7.setTop (mkF m 91 #[iv p0, jv p1, .second, jv p2, .second, jv p3, .second, jv p4, .second, iv 0, iv 0, jv x0, .second, jv x1, .second, jv x2, .second, jv xe, .second, rv ob7, .unset, .unset, .unset, .unset] [])) _
    refine XS.iload X7.here hx rfl (hb hby at_91) rfl ?_
    refine XS.ifYes X7.here hx rfl (pc0 := 93) (pc' := 102) rfl (hb hby at_93) rfl ((if0 _ _).trans (teq (by decide : (0 : Int32) = (0 : Int32))).1) (by decide) (by decide) ?_
    show Steps p.tables e below (T7.setTop (mkF m 102 #[iv p0, jv p1, .second, jv p2, .second, jv p3, .second, jv p4, .second, iv 0, iv 0, jv x0, .second, jv x1, .second, jv x2, .second, jv xe, .second, rv ob7, .unset, .unset, .unset, .unset] [])) _
    exact k
  refine own_lift sg10 ?_
  show own_Go p.tables e below (T7.setTop (mkF m 102 #[iv p0, jv p1, .second, jv p2, .second, jv p3, .second, jv p4, .second, iv 0, iv 0, jv x0, .second, jv x1, .second, jv x2, .second, jv xe, .second, rv ob7, .unset, .unset, .unset, .unset] [])) _
  have Fc11 : Sta Z h7 "com/example/halyard/halyard/east/ArrayStorage" "LAST_INDEX_FIRST" "Lcom/example/halyard/halyard/east/ArrayStorage;" (.ref as_LAST_INDEX_FIRST) := (S_LAST_INDEX_FIRST.ext Ex7)
  obtain ⟨T12, X12, e12, st12⟩ := getS X7 hx hZ hown (host := "") (wd hw 3 rfl) Via.refl e7 Fc11 (g := (mkF m 102 #[iv p0, jv p1, .second, jv p2, .second, jv p3, .second, jv p4, .second, iv 0, iv 0, jv x0, .second, jv x1, .second, jv x2, .second, jv xe, .second, rv ob7, .unset, .unset, .unset, .unset] [])) rfl (hb hby at_102)
  refine own_lift st12 ?_
  show own_Go p.tables e below (T12.setTop (mkF m 105 #[iv p0, jv p1, .second, jv p2, .second, jv p3, .second, jv p4, .second, iv 0, iv 0, jv x0, .second, jv x1, .second, jv x2, .second, jv xe, .second, rv ob7, .unset, .unset, .unset, .unset] [(.ref as_LAST_INDEX_FIRST)])) _
  have sg13 : ∀ t, Steps p.tables e below (T12.setTop (mkF m 113 #[iv p0, jv p1, .second, jv p2, .second, jv p3, .second, jv p4, .second, iv 0, iv 0, jv x0, .second, jv x1, .second, jv x2, .second, jv xe, .second, rv ob7, rv as_LAST_INDEX_FIRST, .unset, .unset, .unset] [(.long xe), (.ref ob7), (.ref as_LAST_INDEX_FIRST)])) t → Steps p.tables e below (T12.setTop (mkF m 105 #[iv p0, jv p1, .second, jv p2, .second, jv p3, .second, jv p4, .second, iv 0, iv 0, jv x0, .second, jv x1, .second, jv x2, .second, jv xe, .second, rv ob7, .unset, .unset, .unset, .unset] [(.ref as_LAST_INDEX_FIRST)])) t := by
    intro t k
    refine XS.astore X12.here hx rfl (hb hby at_105) rfl rfl (l' := #[iv p0, jv p1, .second, jv p2, .second, jv p3, .second, jv p4, .second, iv 0, iv 0, jv x0, .second, jv x1, .second, jv x2, .second, jv xe, .second, rv ob7, rv as_LAST_INDEX_FIRST, .unset, .unset, .unset]) rfl ?_
    show Steps p.tables e below (T12.setTop (mkF m 107 #[iv p0, jv p1, .second, jv p2, .second, jv p3, .second, jv p4, .second, iv 0, iv 0, jv x0, .second, jv x1, .second, jv x2, .second, jv xe, .second, rv ob7, rv as_LAST_INDEX_FIRST, .unset, .unset, .unset] [])) _
    refine XS.aload X12.here hx rfl (hb hby at_107) rfl rfl ?_
    refine XS.aload X12.here hx rfl (hb hby at_109) rfl rfl ?_
    show Steps p.tables e below (T12.setTop (mkF m 111 #[iv p0, jv p1, .second, jv p2, .second, jv p3, .second, jv p4, .second, iv 0, iv 0, jv x0, .second, jv x1, .second, jv x2, .second, jv xe, .second, rv ob7, rv as_LAST_INDEX_FIRST, .unset, .unset, .unset] [(.ref ob7), (.ref as_LAST_INDEX_FIRST)])) _
    refine XS.lload X12.here hx rfl (hb hby at_111) rfl ?_
    show Steps p.tables e below (T12.setTop (mkF m 113 #[iv p0, jv p1, .second, jv p2, .second, jv p3, .second, jv p4, .second, iv 0, iv 0, jv x0, .second, jv x1, .second, jv x2, .second, jv xe, .second, rv ob7, rv as_LAST_INDEX_FIRST, .unset, .unset, .unset] [(.long xe), (.ref ob7), (.ref as_LAST_INDEX_FIRST)])) _
    exact k
  refine own_lift sg13 ?_
  show own_Go p.tables e below (T12.setTop (mkF m 113 #[iv p0, jv p1, .second, jv p2, .second, jv p3, .second, jv p4, .second, iv 0, iv 0, jv x0, .second, jv x1, .second, jv x2, .second, jv xe, .second, rv ob7, rv as_LAST_INDEX_FIRST, .unset, .unset, .unset] [(.long xe), (.ref ob7), (.ref as_LAST_INDEX_FIRST)])) _
  have Fc14 : Sta Z h7 "com/example/halyard/halyard/east/ArrayStorage" "FIRST_INDEX_FIRST" "Lcom/example/halyard/halyard/east/ArrayStorage;" (.ref as_FIRST_INDEX_FIRST) := (S_FIRST_INDEX_FIRST.ext Ex7)
  have Fc16 : Exa Z h7 as_LAST_INDEX_FIRST "com/example/halyard/halyard/east/ArrayStorage" := (E_LAST_INDEX_FIRST.ext Ex7)
  obtain ⟨cq15, kq15, q15a, q15b, q15c⟩ := isOf hZ e12 Fc16
  obtain ⟨_, _, ⟨T15, Lx15, kx15, nx15⟩, -, X15, ⟨Lc15, hQ15, lx15, yx15, zx15⟩, st15⟩ := X12.virtualBack hx (y := (⟨"com/example/halyard/halyard/east/ArrayStorage", "strides", "([JJ)[J"⟩ : MethodName)) (z := (⟨"com/example/halyard/halyard/east/ArrayStorage", "strides", "([JJ)[J"⟩ : MethodName)) hown (mvT hZ (wd hw 6 rfl)) (mvT hZ (wd hw 7 rfl)) (notFace_of_selects (args := #[]) (mvT hZ (wd hw 9 rfl))) (mvT hZ (wd hw 9 rfl)) (mvT hZ (wd hw 8 rfl)) (by decide) (backOf (W := 0) (rmStr0L l Z a0 hw [] as_LAST_INDEX_FIRST ob7 xe as_FIRST_INDEX_FIRST ka7 h7 n0 Z7 Vn7 Fc14 hne) hZ (wd hw 10 rfl) (wd hw 4 rfl) (by decide) (by decide)) q15a q15c (g := (mkF m 113 #[iv p0, jv p1, .second, jv p2, .second, jv p3, .second, jv p4, .second, iv 0, iv 0, jv x0, .second, jv x1, .second, jv x2, .second, jv xe, .second, rv ob7, rv as_LAST_INDEX_FIRST, .unset, .unset, .unset] [(.long xe), (.ref ob7), (.ref as_LAST_INDEX_FIRST)])) rfl (by rw [hml]; rfl) (Steps.refl _) (argsL := [(.ref ob7), (.long xe)]) (rest := []) (lenOf pd_0 rfl) rfl (by show 2 * 0 + _ ≤ _; exact Nat.le_of_eq rfl) (hb hby at_113) (fun _ _ => ⟨rfl, e12, (by decide : 1 + 1 ≤ _), (by decide : 0 + 0 ≤ _)⟩)
  dsimp only [Pt.U, Pt.locs, Pt.cells, Pt.slots] at X15 lx15 yx15 zx15 st15 hQ15
  subst lx15 yx15 zx15
  obtain ⟨xb_15, xkb_15, rfl, N15q, p15_0, p15_1, p15_2⟩ := hQ15
  have N15 := Fr.app N0 N15q
  have ne17 : as_LAST_INDEX_FIRST ≠ xb_15 := Nat.ne_of_lt (Nat.lt_of_lt_of_le Fc16.lt p15_1)
  have Fc18 : Exa Z h7 as_FIRST_INDEX_FIRST "com/example/halyard/halyard/east/ArrayStorage" := (E_FIRST_INDEX_FIRST.ext Ex7)
  have ne19 : as_FIRST_INDEX_FIRST ≠ xb_15 := Nat.ne_of_lt (Nat.lt_of_lt_of_le Fc18.lt p15_1)
  have ne20 : ob7 ≠ xb_15 := Nat.ne_of_lt (Nat.lt_of_lt_of_le Vn7.lt p15_1)
  have Z15 : n0 ≤ T15.heap.size := Nat.le_trans Z7 p15_0.1
  have ge15_1 : n0 ≤ xb_15 := Nat.le_trans Z7 p15_1
  refine own_lift (fun t k => st15.trans k) ?_
  show own_Go p.tables e below (T15.setTop (mkF m 116 #[iv p0, jv p1, .second, jv p2, .second, jv p3, .second, jv p4, .second, iv 0, iv 0, jv x0, .second, jv x1, .second, jv x2, .second, jv xe, .second, rv ob7, rv as_LAST_INDEX_FIRST, .unset, .unset, .unset] [(.ref xb_15)])) _
  have sg21 : ∀ t, Steps p.tables e below (T15.setTop (mkF m 125 #[iv p0, jv p1, .second, jv p2, .second, jv p3, .second, jv p4, .second, iv 0, iv 0, jv x0, .second, jv x1, .second, jv x2, .second, jv xe, .second, rv ob7, rv as_LAST_INDEX_FIRST, rv xb_15, .unset, .unset] [(.ref xb_15)])) t → Steps p.tables e below (T15.setTop (mkF m 116 #[iv p0, jv p1, .second, jv p2, .second, jv p3, .second, jv p4, .second, iv 0, iv 0, jv x0, .second, jv x1, .second, jv x2, .second, jv xe, .second, rv ob7, rv as_LAST_INDEX_FIRST, .unset, .unset, .unset] [(.ref xb_15)])) t := by
    intro t k
    refine XS.astore X15.here hx rfl (hb hby at_116) rfl rfl (l' := #[iv p0, jv p1, .second, jv p2, .second, jv p3, .second, jv p4, .second, iv 0, iv 0, jv x0, .second, jv x1, .second, jv x2, .second, jv xe, .second, rv ob7, rv as_LAST_INDEX_FIRST, rv xb_15, .unset, .unset]) rfl ?_
    show Steps p.tables e below (T15.setTop (mkF m 118 #[iv p0, jv p1, .second, jv p2, .second, jv p3, .second, jv p4, .second, iv 0, iv 0, jv x0, .second, jv x1, .second, jv x2, .second, jv xe, .second, rv ob7, rv as_LAST_INDEX_FIRST, rv xb_15, .unset, .unset] [])) _
    refine XS.aload X15.here hx rfl (hb hby at_118) rfl rfl ?_
    refine XS.ifnullNo X15.here hx rfl (hb hby at_120) rfl ?_
    show Steps p.tables e below (T15.setTop (mkF m 123 #[iv p0, jv p1, .second, jv p2, .second, jv p3, .second, jv p4, .second, iv 0, iv 0, jv x0, .second, jv x1, .second, jv x2, .second, jv xe, .second, rv ob7, rv as_LAST_INDEX_FIRST, rv xb_15, .unset, .unset] [])) _
    refine XS.aload X15.here hx rfl (hb hby at_123) rfl rfl ?_
    show Steps p.tables e below (T15.setTop (mkF m 125 #[iv p0, jv p1, .second, jv p2, .second, jv p3, .second, jv p4, .second, iv 0, iv 0, jv x0, .second, jv x1, .second, jv x2, .second, jv xe, .second, rv ob7, rv as_LAST_INDEX_FIRST, rv xb_15, .unset, .unset] [(.ref xb_15)])) _
    exact k
  refine own_lift sg21 ?_
  show own_Go p.tables e below (T15.setTop (mkF m 125 #[iv p0, jv p1, .second, jv p2, .second, jv p3, .second, jv p4, .second, iv 0, iv 0, jv x0, .second, jv x1, .second, jv x2, .second, jv xe, .second, rv ob7, rv as_LAST_INDEX_FIRST, rv xb_15, .unset, .unset] [(.ref xb_15)])) _
  obtain ⟨cl22, Ar22, -, Sx22, N22', -, -⟩ := id (p15_2)
  have st22 : ∀ t, Steps p.tables e below (T15.setTop (mkF m 126 #[iv p0, jv p1, .second, jv p2, .second, jv p3, .second, jv p4, .second, iv 0, iv 0, jv x0, .second, jv x1, .second, jv x2, .second, jv xe, .second, rv ob7, rv as_LAST_INDEX_FIRST, rv xb_15, .unset, .unset] [(.int 0)])) t → Steps p.tables e below (T15.setTop (mkF m 125 #[iv p0, jv p1, .second, jv p2, .second, jv p3, .second, jv p4, .second, iv 0, iv 0, jv x0, .second, jv x1, .second, jv x2, .second, jv xe, .second, rv ob7, rv as_LAST_INDEX_FIRST, rv xb_15, .unset, .unset] [(.ref xb_15)])) t := by
    intro t k
    refine X15.arraylength hx (by exact Ar22.1) (State.isArrayOf_alike hZ.alike Ar22.2.1) (g := (mkF m 125 #[iv p0, jv p1, .second, jv p2, .second, jv p3, .second, jv p4, .second, iv 0, iv 0, jv x0, .second, jv x1, .second, jv x2, .second, jv xe, .second, rv ob7, rv as_LAST_INDEX_FIRST, rv xb_15, .unset, .unset] [(.ref xb_15)])) rfl rfl (hb hby at_125) _ ?_
    rw [len_of Sx22 N22']
    exact k
  refine own_lift st22 ?_
  show own_Go p.tables e below (T15.setTop (mkF m 126 #[iv p0, jv p1, .second, jv p2, .second, jv p3, .second, jv p4, .second, iv 0, iv 0, jv x0, .second, jv x1, .second, jv x2, .second, jv xe, .second, rv ob7, rv as_LAST_INDEX_FIRST, rv xb_15, .unset, .unset] [(.int 0)])) _
  have sg23 : ∀ t, Steps p.tables e below (T15.setTop (mkF m 134 #[iv p0, jv p1, .second, jv p2, .second, jv p3, .second, jv p4, .second, iv 0, iv 0, jv x0, .second, jv x1, .second, jv x2, .second, jv xe, .second, rv ob7, rv as_LAST_INDEX_FIRST, rv xb_15, .unset, .unset] [(.int 3)])) t → Steps p.tables e below (T15.setTop (mkF m 126 #[iv p0, jv p1, .second, jv p2, .second, jv p3, .second, jv p4, .second, iv 0, iv 0, jv x0, .second, jv x1, .second, jv x2, .second, jv xe, .second, rv ob7, rv as_LAST_INDEX_FIRST, rv xb_15, .unset, .unset] [(.int 0)])) t := by
    intro t k
    refine XS.iload X15.here hx rfl (hb hby at_126) rfl ?_
    show Steps p.tables e below (T15.setTop (mkF m 128 #[iv p0, jv p1, .second, jv p2, .second, jv p3, .second, jv p4, .second, iv 0, iv 0, jv x0, .second, jv x1, .second, jv x2, .second, jv xe, .second, rv ob7, rv as_LAST_INDEX_FIRST, rv xb_15, .unset, .unset] [(.int 0), (.int 0)])) _
    refine XS.icmpYes X15.here hx rfl (pc0 := 128) (pc' := 133) rfl (hb hby at_128) rfl (teq (by decide : (0 : Int32) = (0 : Int32))).1 (by decide) (by decide) ?_
    refine XS.iconst X15.here hx rfl (hb hby at_133) ?_
    show Steps p.tables e below (T15.setTop (mkF m 134 #[iv p0, jv p1, .second, jv p2, .second, jv p3, .second, jv p4, .second, iv 0, iv 0, jv x0, .second, jv x1, .second, jv x2, .second, jv xe, .second, rv ob7, rv as_LAST_INDEX_FIRST, rv xb_15, .unset, .unset] [(.int 3)])) _
    exact k
  refine own_lift sg23 ?_
  show own_Go p.tables e below (T15.setTop (mkF m 134 #[iv p0, jv p1, .second, jv p2, .second, jv p3, .second, jv p4, .second, iv 0, iv 0, jv x0, .second, jv x1, .second, jv x2, .second, jv xe, .second, rv ob7, rv as_LAST_INDEX_FIRST, rv xb_15, .unset, .unset] [(.int 3)])) _
  obtain ⟨T24, h24, ka24, X24, e24, Ex24, Ax24, st24⟩ := newP X15 hx hZ (wd hw 2 rfl) rfl (g := (mkF m 134 #[iv p0, jv p1, .second, jv p2, .second, jv p3, .second, jv p4, .second, iv 0, iv 0, jv x0, .second, jv x1, .second, jv x2, .second, jv xe, .second, rv ob7, rv as_LAST_INDEX_FIRST, rv xb_15, .unset, .unset] [(.int 3)])) rfl (hb hby at_134) rfl (by decide) (cap := 3) (by decide) (by decide) (by decide) (by decide)
  obtain ⟨ob24, g24⟩ : ∃ z, z = T15.heap.size := ⟨_, rfl⟩
  rw [← g24] at Ax24 st24
  have Fc25 : Exa Z T15.heap as_LAST_INDEX_FIRST "com/example/halyard/halyard/east/ArrayStorage" := (Fc16.keep p15_0)
  have ne26 : as_LAST_INDEX_FIRST ≠ ob24 := Nat.ne_of_lt (Nat.lt_of_lt_of_le Fc25.lt (Nat.le_of_eq g24.symm))
  have Fc27 : Exa Z T15.heap as_FIRST_INDEX_FIRST "com/example/halyard/halyard/east/ArrayStorage" := (Fc18.keep p15_0)
  have ne28 : as_FIRST_INDEX_FIRST ≠ ob24 := Nat.ne_of_lt (Nat.lt_of_lt_of_le Fc27.lt (Nat.le_of_eq g24.symm))
  have Fc29 : Arv Z T15.heap ob7 ka7 .long (0 : Int32) [] (.long 0) := (Vn7.keep p15_0 nin0)
  have ne30 : ob7 ≠ ob24 := Nat.ne_of_lt (Nat.lt_of_lt_of_le Fc29.lt (Nat.le_of_eq g24.symm))
  have ne31 : xb_15 ≠ ob24 := Nat.ne_of_lt (Nat.lt_of_lt_of_le p15_2.lt (Nat.le_of_eq g24.symm))
  have Z24 : n0 ≤ h24.size := Nat.le_trans Z15 Ex24.1
  have ge24 : n0 ≤ ob24 := Nat.le_trans Z15 (Nat.le_of_eq g24.symm)
  have Vn24 : Arv Z h24 ob24 ka24 .long (3 : Int32) [(.long 0), (.long 0), (.long 0)] (.long 0) := (Arv.new Ax24 (by decide)).pad (pad_rep [] (.long 0) 3)
  refine own_lift st24 ?_
  show own_Go p.tables e below (T24.setTop (mkF m 136 #[iv p0, jv p1, .second, jv p2, .second, jv p3, .second, jv p4, .second, iv 0, iv 0, jv x0, .second, jv x1, .second, jv x2, .second, jv xe, .second, rv ob7, rv as_LAST_INDEX_FIRST, rv xb_15, .unset, .unset] [(.ref ob24)])) _
  have sg32 : ∀ t, Steps p.tables e below (T24.setTop (mkF m 392 #[iv p0, jv p1, .second, jv p2, .second, jv p3, .second, jv p4, .second, iv 0, iv 0, jv x0, .second, jv x1, .second, jv x2, .second, jv xe, .second, rv ob7, rv as_LAST_INDEX_FIRST, rv xb_15, rv ob24, iv 1] [(.int 1)])) t → Steps p.tables e below (T24.setTop (mkF m 136 #[iv p0, jv p1, .second, jv p2, .second, jv p3, .second, jv p4, .second, iv 0, iv 0, jv x0, .second, jv x1, .second, jv x2, .second, jv xe, .second, rv ob7, rv as_LAST_INDEX_FIRST, rv xb_15, .unset, .unset] [(.ref ob24)])) t := by
    intro t k
    refine XS.astore X24.here hx rfl (hb hby at_136) rfl rfl (l' := #[iv p0, jv p1, .second, jv p2, .second, jv p3, .second, jv p4, .second, iv 0, iv 0, jv x0, .second, jv x1, .second, jv x2, .second, jv xe, .second, rv ob7, rv as_LAST_INDEX_FIRST, rv xb_15, rv ob24, .unset]) rfl ?_
    show Steps p.tables e below (T24.setTop (mkF m 138 #[iv p0, jv p1, .second, jv p2, .second, jv p3, .second, jv p4, .second, iv 0, iv 0, jv x0, .second, jv x1, .second, jv x2, .second, jv xe, .second, rv ob7, rv as_LAST_INDEX_FIRST, rv xb_15, rv ob24, .unset] [])) _
    refine XS.iload X24.here hx rfl (hb hby at_138) rfl ?_
    refine XS.iconst X24.here hx rfl (hb hby at_140) ?_
    show Steps p.tables e below (T24.setTop (mkF m 141 #[iv p0, jv p1, .second, jv p2, .second, jv p3, .second, jv p4, .second, iv 0, iv 0, jv x0, .second, jv x1, .second, jv x2, .second, jv xe, .second, rv ob7, rv as_LAST_INDEX_FIRST, rv xb_15, rv ob24, .unset] [(.int 1), (.int 0)])) _
    refine XS.icmpYes X24.here hx rfl (pc0 := 141) (pc' := 153) rfl (hb hby at_141) rfl (feq (by decide : ¬ ((0 : Int32) = (1 : Int32)))).2 (by decide) (by decide) ?_
    refine XS.iload X24.here hx rfl (hb hby at_153) rfl ?_
    show Steps p.tables e below (T24.setTop (mkF m 155 #[iv p0, jv p1, .second, jv p2, .second, jv p3, .second, jv p4, .second, iv 0, iv 0, jv x0, .second, jv x1, .second, jv x2, .second, jv xe, .second, rv ob7, rv as_LAST_INDEX_FIRST, rv xb_15, rv ob24, .unset] [(.int 0)])) _
    refine XS.iconst X24.here hx rfl (hb hby at_155) ?_
    refine XS.icmpYes X24.here hx rfl (pc0 := 156) (pc' := 200) rfl (hb hby at_156) rfl (feq (by decide : ¬ ((0 : Int32) = (2 : Int32)))).2 (by decide) (by decide) ?_
    show Steps p.tables e below (T24.setTop (mkF m 200 #[iv p0, jv p1, .second, jv p2, .second, jv p3, .second, jv p4, .second, iv 0, iv 0, jv x0, .second, jv x1, .second, jv x2, .second, jv xe, .second, rv ob7, rv as_LAST_INDEX_FIRST, rv xb_15, rv ob24, .unset] [])) _
    refine XS.iload X24.here hx rfl (hb hby at_200) rfl ?_
    refine XS.iconst X24.here hx rfl (hb hby at_202) ?_
    show Steps p.tables e below (T24.setTop (mkF m 203 #[iv p0, jv p1, .second, jv p2, .second, jv p3, .second, jv p4, .second, iv 0, iv 0, jv x0, .second, jv x1, .second, jv x2, .second, jv xe, .second, rv ob7, rv as_LAST_INDEX_FIRST, rv xb_15, rv ob24, .unset] [(.int 3), (.int 0)])) _
    refine XS.icmpYes X24.here hx rfl (pc0 := 203) (pc' := 268) rfl (hb hby at_203) rfl (feq (by decide : ¬ ((0 : Int32) = (3 : Int32)))).2 (by decide) (by decide) ?_
    refine XS.iconst X24.here hx rfl (hb hby at_268) ?_
    show Steps p.tables e below (T24.setTop (mkF m 269 #[iv p0, jv p1, .second, jv p2, .second, jv p3, .second, jv p4, .second, iv 0, iv 0, jv x0, .second, jv x1, .second, jv x2, .second, jv xe, .second, rv ob7, rv as_LAST_INDEX_FIRST, rv xb_15, rv ob24, .unset] [(.int 1)])) _
    refine XS.istore X24.here hx rfl (hb hby at_269) rfl (l' := #[iv p0, jv p1, .second, jv p2, .second, jv p3, .second, jv p4, .second, iv 0, iv 0, jv x0, .second, jv x1, .second, jv x2, .second, jv xe, .second, rv ob7, rv as_LAST_INDEX_FIRST, rv xb_15, rv ob24, iv 1]) rfl ?_
    refine XS.iload X24.here hx rfl (hb hby at_271) rfl ?_
    show Steps p.tables e below (T24.setTop (mkF m 273 #[iv p0, jv p1, .second, jv p2, .second, jv p3, .second, jv p4, .second, iv 0, iv 0, jv x0, .second, jv x1, .second, jv x2, .second, jv xe, .second, rv ob7, rv as_LAST_INDEX_FIRST, rv xb_15, rv ob24, iv 1] [(.int 0)])) _
    refine XS.ifYes X24.here hx rfl (pc0 := 273) (pc' := 310) rfl (hb hby at_273) rfl ((if0 _ _).trans (flt (by decide : ¬ ((0 : Int32) < (0 : Int32)))).2.2.2) (by decide) (by decide) ?_
    refine XS.iload X24.here hx rfl (hb hby at_310) rfl ?_
    show Steps p.tables e below (T24.setTop (mkF m 312 #[iv p0, jv p1, .second, jv p2, .second, jv p3, .second, jv p4, .second, iv 0, iv 0, jv x0, .second, jv x1, .second, jv x2, .second, jv xe, .second, rv ob7, rv as_LAST_INDEX_FIRST, rv xb_15, rv ob24, iv 1] [(.int 0)])) _
    refine XS.iconst X24.here hx rfl (hb hby at_312) ?_
    refine XS.icmpYes X24.here hx rfl (pc0 := 313) (pc' := 350) rfl (hb hby at_313) rfl (flt (by decide : ¬ ((1 : Int32) < (0 : Int32)))).2.2.2 (by decide) (by decide) ?_
    show Steps p.tables e below (T24.setTop (mkF m 350 #[iv p0, jv p1, .second, jv p2, .second, jv p3, .second, jv p4, .second, iv 0, iv 0, jv x0, .second, jv x1, .second, jv x2, .second, jv xe, .second, rv ob7, rv as_LAST_INDEX_FIRST, rv xb_15, rv ob24, iv 1] [])) _
    refine XS.iload X24.here hx rfl (hb hby at_350) rfl ?_
    refine XS.iconst X24.here hx rfl (hb hby at_352) ?_
    show Steps p.tables e below (T24.setTop (mkF m 353 #[iv p0, jv p1, .second, jv p2, .second, jv p3, .second, jv p4, .second, iv 0, iv 0, jv x0, .second, jv x1, .second, jv x2, .second, jv xe, .second, rv ob7, rv as_LAST_INDEX_FIRST, rv xb_15, rv ob24, iv 1] [(.int 2), (.int 0)])) _
    refine XS.icmpYes X24.here hx rfl (pc0 := 353) (pc' := 390) rfl (hb hby at_353) rfl (flt (by decide : ¬ ((2 : Int32) < (0 : Int32)))).2.2.2 (by decide) (by decide) ?_
    refine XS.iload X24.here hx rfl (hb hby at_390) rfl ?_
    show Steps p.tables e below (T24.setTop (mkF m 392 #[iv p0, jv p1, .second, jv p2, .second, jv p3, .second, jv p4, .second, iv 0, iv 0, jv x0, .second, jv x1, .second, jv x2, .second, jv xe, .second, rv ob7, rv as_LAST_INDEX_FIRST, rv xb_15, rv ob24, iv 1] [(.int 1)])) _
    exact k
  refine own_lift sg32 ?_
  show own_Go p.tables e below (T24.setTop (mkF m 392 #[iv p0, jv p1, .second, jv p2, .second, jv p3, .second, jv p4, .second, iv 0, iv 0, jv x0, .second, jv x1, .second, jv x2, .second, jv xe, .second, rv ob7, rv as_LAST_INDEX_FIRST, rv xb_15, rv ob24, iv 1] [(.int 1)])) _
  obtain ⟨fs, hr, hrun, hended, hW, hsame⟩ := X24.leave (v := some (.int 1)) (fun h => by rw [Bd.returns] at h; cases h)
  refine ⟨_, _, ?_, hrun, hended, _, _, rfl, ?_, ⟨_, rfl⟩, hW, hsame.mono (by decide) (by decide)⟩
  · exact retN X24 hx (t := .boolean) Bd.returns (by simp) (hb hby at_392) hr
  · show Q0 Z  h0 n0 _ T24.heap _
    rw [e24]
    exact ⟨rfl, N15⟩
theorem ef_rm0_1L (m : MethodId) (x0 : Int32) (x1 : Int64) (x2 : Int64) (x3 : Int64) (x4 : Int64) : entryFrame m #[(.int x0), (.long x1), (.long x2), (.long x3), (.long x4)] maxLocals = mkF m 0 #[.val (.int x0), .val (.long x1), .second, .val (.long x2), .second, .val (.long x3), .second, .val (.long x4), .second, .unset, .unset, .unset, .unset, .unset, .unset, .unset, .unset, .unset, .unset, .unset, .unset, .unset, .unset, .unset] [] := by first | (simp [entryFrame, mkF, argsToLocals, Value.category, maxLocals]; done) | rfl
set_option maxRecDepth 65536 in
set_option maxHeartbeats 40000000 in
theorem rm0_1L (l : Launch) (Z : State) (a0 : Array Value) (hw : ∀ d ∈ tables_1, d.before a0 Z = true) (ws : List Jvm.Cond) (p0 : Int32) (p1 : Int64) (p2 : Int64) (p3 : Int64) (p4 : Int64) (as_LAST_INDEX_FIRST : Addr) (as_FIRST_INDEX_FIRST : Addr) (x0 : Int64) (x1 : Int64) (x2 : Int64) (xe : Int64) (h0 : Heap) (n0 : Nat) (Z0 : n0 ≤ h0.size) (S_LAST_INDEX_FIRST : Sta Z h0 "com/example/halyard/halyard/east/ArrayStorage" "LAST_INDEX_FIRST" "Lcom/example/halyard/halyard/east/ArrayStorage;" (.ref as_LAST_INDEX_FIRST)) (E_LAST_INDEX_FIRST : Exa Z h0 as_LAST_INDEX_FIRST "com/example/halyard/halyard/east/ArrayStorage") (O_LAST_INDEX_FIRST : Fld Z h0 as_LAST_INDEX_FIRST "java/lang/Enum" "ordinal" "I" (.int 1)) (S_FIRST_INDEX_FIRST : Sta Z h0 "com/example/halyard/halyard/east/ArrayStorage" "FIRST_INDEX_FIRST" "Lcom/example/halyard/halyard/east/ArrayStorage;" (.ref as_FIRST_INDEX_FIRST)) (E_FIRST_INDEX_FIRST : Exa Z h0 as_FIRST_INDEX_FIRST "com/example/halyard/halyard/east/ArrayStorage") (O_FIRST_INDEX_FIRST : Fld Z h0 as_FIRST_INDEX_FIRST "java/lang/Enum" "ordinal" "I" (.int 0)) (hx0 : (p1 &&& (65535 : Int64)) = x0) (hx1 : (p2 &&& (65535 : Int64)) = x1) (hx2 : (p3 &&& (65535 : Int64)) = x2) (hxe : (p4 &&& (32767 : Int64)) = xe) (b1 : (p0 &&& (1 : Int32)) = (0 : Int32)) (hn : (((p0.toUInt32 >>> ((1 : Int32) &&& 31).toUInt32).toInt32) &&& (3 : Int32)) = (1 : Int32)) (hne : ¬ (as_LAST_INDEX_FIRST = as_FIRST_INDEX_FIRST)) :
    MetFree l x (head1 (Jvm.Cond.code x code maxLocals ret :: ws) room_1) (fun a U => a = #[(.int p0), (.long p1), (.long p2), (.long p3), (.long p4)] ∧ Z.Warmed39 U.vm ∧ U.heap = h0) (fun _ _ _ _ _ => True) (fun _ U o U' => ∃ v L, o = .returned v ∧ Q0 Z  h0 n0 v U'.heap L ∧ FrameEnd U o U' L 16 128) := by
  refine MetFree.of_bodySF (plainFor_of_name pn_1) hisR ?_
  intro p e s m args below meth c s₁ Bd hml0 hP hK
  obtain ⟨rfl, hZ, hh⟩ := hP
  have hx := Bd.exec
  have hby := Bd.bytes
  have hml : c.maxLocals = 24 := hml0
  have hown : s.vm.findClass "com/example/halyard/halyard/east/ArrayStorageStridesPinLaw" = some m.cls := findClass_of_methodNamed Bd.named
  have hnm := (name_of_methodNamed Bd.named Bd.method).1
  have X0 : Stand p l e room_1 s m #[(.int p0), (.long p1), (.long p2), (.long p3), (.long p4)] below meth c s₁ [] 0 0 := Stand.of_body Bd
  have e0 : s₁.heap = h0 := by rw [← hh, Bd.state]; rfl
  have N0 := Fr.nil n0
  refine own_go (own_lift (fun t k => castTop (ef_rm0_1L m p0 p1 p2 p3 p4) k) ?_)
  show own_Go p.tables e below (s₁.setTop (mkF m 0 #[iv p0, jv p1, .second, jv p2, .second, jv p3, .second, jv p4, .second, .unset, .unset, .unset, .unset, .unset, .unset, .unset, .unset, .unset, .unset, .unset, .unset, .unset, .unset, .unset] [])) _
  have sg1 : ∀ t, Steps p.tables e below (s₁.setTop (mkF m 18 #[iv p0, jv p1, .second, jv p2, .second, jv p3, .second, jv p4, .second, iv 0, .unset, .unset, .unset, .unset, .unset, .unset, .unset, .unset, .unset, .unset, .unset, .unset, .unset, .unset] [(.int (((p0.toUInt32 >>> ((1 : Int32) &&& 31).toUInt32).toInt32) &&& (3 : Int32)))])) t → Steps p.tables e below (s₁.setTop (mkF m 0 #[iv p0, jv p1, .second, jv p2, .second, jv p3, .second, jv p4, .second, .unset, .unset, .unset, .unset, .unset, .unset, .unset, .unset, .unset, .unset, .unset, .unset, .unset, .unset, .unset] [])) t := by
    intro t k
    refine XS.iloadN X0.here hx rfl (hb hby at_0) rfl ?_
    show Steps p.tables e below (s₁.setTop (mkF m 1 #[iv p0, jv p1, .second, jv p2, .second, jv p3, .second, jv p4, .second, .unset, .unset, .unset, .unset, .unset, .unset, .unset, .unset, .unset, .unset, .unset, .unset, .unset, .unset, .unset] [(.int p0)])) _
    refine XS.iconst X0.here hx rfl (hb hby at_1) ?_
    refine XS.iand X0.here hx rfl (hb hby at_2) rfl ?_
    show Steps p.tables e below (s₁.setTop (mkF m 3 #[iv p0, jv p1, .second, jv p2, .second, jv p3, .second, jv p4, .second, .unset, .unset, .unset, .unset, .unset, .unset, .unset, .unset, .unset, .unset, .unset, .unset, .unset, .unset, .unset] [(.int (p0 &&& (1 : Int32)))])) _
    refine XS.ifYes X0.here hx rfl (pc0 := 3) (pc' := 10) rfl (hb hby at_3) rfl ((if0 _ _).trans (teq b1).1) (by decide) (by decide) ?_
    refine XS.iconst X0.here hx rfl (hb hby at_10) ?_
    show Steps p.tables e below (s₁.setTop (mkF m 11 #[iv p0, jv p1, .second, jv p2, .second, jv p3, .second, jv p4, .second, .unset, .unset, .unset, .unset, .unset, .unset, .unset, .unset, .unset, .unset, .unset, .unset, .unset, .unset, .unset] [(.int 0)])) _
    refine XS.istore X0.here hx rfl (hb hby at_11) rfl (l' := #[iv p0, jv p1, .second, jv p2, .second, jv p3, .second, jv p4, .second, iv 0, .unset, .unset, .unset, .unset, .unset, .unset, .unset, .unset, .unset, .unset, .unset, .unset, .unset, .unset]) rfl ?_
    refine XS.iloadN X0.here hx rfl (hb hby at_13) rfl ?_
    show Steps p.tables e below (s₁.setTop (mkF m 14 #[iv p0, jv p1, .second, jv p2, .second, jv p3, .second, jv p4, .second, iv 0, .unset, .unset, .unset, .unset, .unset, .unset, .unset, .unset, .unset, .unset, .unset, .unset, .unset, .unset] [(.int p0)])) _
    refine XS.iconst X0.here hx rfl (hb hby at_14) ?_
    refine XS.iushr X0.here hx rfl (hb hby at_15) rfl ?_
    show Steps p.tables e below (s₁.setTop (mkF m 16 #[iv p0, jv p1, .second, jv p2, .second, jv p3, .second, jv p4, .second, iv 0, .unset, .unset, .unset, .unset, .unset, .unset, .unset, .unset, .unset, .unset, .unset, .unset, .unset, .unset] [(.int ((p0.toUInt32 >>> ((1 : Int32) &&& 31).toUInt32).toInt32))])) _
    refine XS.iconst X0.here hx rfl (hb hby at_16) ?_
    refine XS.iand X0.here hx rfl (hb hby at_17) rfl ?_
    show Steps p.tables e below (s₁.setTop (mkF m 18 #[iv p0, jv p1, .second, jv p2, .second, jv p3, .second, jv p4, .second, iv 0, .unset, .unset, .unset, .unset, .unset, .unset, .unset, .unset, .unset, .unset, .unset, .unset, .unset, .unset] [(.int (((p0.toUInt32 >>> ((1 : Int32) &&& 31).toUInt32).toInt32) &&& (3 : Int32)))])) _
    exact k
  refine own_lift sg1 ?_
  show own_Go p.tables e below (s₁.setTop (mkF m 18 #[iv p0, jv p1, .second, jv p2, .second, jv p3, .second, jv p4, .second, iv 0, .unset, .unset, .unset, .unset, .unset, .unset, .unset, .unset, .unset, .unset, .unset, .unset, .unset, .unset] [(.int (((p0.toUInt32 >>> ((1 : Int32) &&& 31).toUInt32).toInt32) &&& (3 : Int32)))])) _
  rw [hn]
  show own_Go p.tables e below (s₁.setTop (mkF m 18 #[iv p0, jv p1, .second, jv p2, .second, jv p3, .second, jv p4, .second, iv 0, .unset, .unset, .unset, .unset, .unset, .unset, .unset, .unset, .unset, .unset, .unset, .unset, .unset, .unset] [(.int 1)])) _
  have sg2 : ∀ t, Steps p.tables e below (s₁.setTop (mkF m 25 #[iv p0, jv p1, .second, jv p2, .second, jv p3, .second, jv p4, .second, iv 0, iv 1, .unset, .unset, .unset, .unset, .unset, .unset, .unset, .unset, .unset, .unset, .unset, .unset, .unset] [(.long (p1 &&& (65535 : Int64)))])) t → Steps p.tables e below (s₁.setTop (mkF m 18 #[iv p0, jv p1, .second, jv p2, .second, jv p3, .second, jv p4, .second, iv 0, .unset, .unset, .unset, .unset, .unset, .unset, .unset, .unset, .unset, .unset, .unset, .unset, .unset, .unset] [(.int 1)])) t := by
    intro t k
    refine XS.istore X0.here hx rfl (hb hby at_18) rfl (l' := #[iv p0, jv p1, .second, jv p2, .second, jv p3, .second, jv p4, .second, iv 0, iv 1, .unset, .unset, .unset, .unset, .unset, .unset, .unset, .unset, .unset, .unset, .unset, .unset, .unset]) rfl ?_
    show Steps p.tables e below (s₁.setTop (mkF m 20 #[iv p0, jv p1, .second, jv p2, .second, jv p3, .second, jv p4, .second, iv 0, iv 1, .unset, .unset, .unset, .unset, .unset, .unset, .unset, .unset, .unset, .unset, .unset, .unset, .unset] [])) _
    refine XS.lloadN X0.here hx rfl (hb hby at_20) rfl ?_
    refine X0.ldc2Long hx hown (mvT hZ (wd hw 0 rfl)) (g := (mkF m 21 #[iv p0, jv p1, .second, jv p2, .second, jv p3, .second, jv p4, .second, iv 0, iv 1, .unset, .unset, .unset, .unset, .unset, .unset, .unset, .unset, .unset, .unset, .unset, .unset, .unset] [(.long p1)])) rfl (hb hby at_21) _ ?_
    show Steps p.tables e below (s₁.setTop (mkF m 24 #[iv p0, jv p1, .second, jv p2, .second, jv p3, .second, jv p4, .second, iv 0, iv 1, .unset, .unset, .unset, .unset, .unset, .unset, .unset, .unset, .unset, .unset, .unset, .unset, .unset] [(.long 65535), (.long p1)])) _
    refine XS.land X0.here hx rfl (hb hby at_24) rfl ?_
    show Steps p.tables e below (s₁.setTop (mkF m 25 #[iv p0, jv p1, .second, jv p2, .second, jv p3, .second, jv p4, .second, iv 0, iv 1, .unset, .unset, .unset, .unset, .unset, .unset, .unset, .unset, .unset, .unset, .unset, .unset, .unset] [(.long (p1 &&& (65535 : Int64)))])) _
    exact k
  refine own_lift sg2 ?_
  show own_Go p.tables e below (s₁.setTop (mkF m 25 #[iv p0, jv p1, .second, jv p2, .second, jv p3, .second, jv p4, .second, iv 0, iv 1, .unset, .unset, .unset, .unset, .unset, .unset, .unset, .unset, .unset, .unset, .unset, .unset, .unset] [(.long (p1 &&& (65535 : Int64)))])) _
  rw [hx0]
  show own_Go p.tables e below (s₁.setTop (mkF m 25 #[iv p0, jv p1, .second, jv p2, .second, jv p3, .second, jv p4, .second, iv 0, iv 1, .unset, .unset, .unset, .unset, .unset, .unset, .unset, .unset, .unset, .unset, .unset, .unset, .unset] [(.long x0)])) _
  have sg3 : ∀ t, Steps p.tables e below (s₁.setTop (mkF m 32 #[iv p0, jv p1, .second, jv p2, .second, jv p3, .second, jv p4, .second, iv 0, iv 1, jv x0, .second, .unset, .unset, .unset, .unset, .unset, .unset, .unset, .unset, .unset, .unset, .unset] [(.long (p2 &&& (65535 : Int64)))])) t → Steps p.tables e below (s₁.setTop (mkF m 25 #[iv p0, jv p1, .second, jv p2, .second, jv p3, .second, jv p4, .second, iv 0, iv 1, .unset, .unset, .unset, .unset, .unset, .unset, .unset, .unset, .unset, .unset, .unset, .unset, .unset] [(.long x0)])) t := by
    intro t k
    refine XS.lstore X0.here hx rfl (hb hby at_25) rfl (l' := #[iv p0, jv p1, .second, jv p2, .second, jv p3, .second, jv p4, .second, iv 0, iv 1, jv x0, .second, .unset, .unset, .unset, .unset, .unset, .unset, .unset, .unset, .unset, .unset, .unset]) rfl ?_
    show Steps p.tables e below (s₁.setTop (mkF m 27 #[iv p0, jv p1, .second, jv p2, .second, jv p3, .second, jv p4, .second, iv 0, iv 1, jv x0, .second, .unset, .unset, .unset, .unset, .unset, .unset, .unset, .unset, .unset, .unset, .unset] [])) _
    refine XS.lloadN X0.here hx rfl (hb hby at_27) rfl ?_
    refine X0.ldc2Long hx hown (mvT hZ (wd hw 0 rfl)) (g := (mkF m 28 #[iv p0, jv p1, .second, jv p2, .second, jv p3, .second, jv p4, .second, iv 0, iv 1, jv x0, .second, .unset, .unset, .unset, .unset, .unset, .unset, .unset, .unset, .unset, .unset, .unset] [(.long p2)])) rfl (hb hby at_28) _ ?_
    show Steps p.tables e below (s₁.setTop (mkF m 31 #[iv p0, jv p1, .second, jv p2, .second, jv p3, .second, jv p4, .second, iv 0, iv 1, jv x0, .second, .unset, .unset, .unset, .unset, .unset, .unset, .unset, .unset, .unset, .unset, .unset] [(.long 65535), (.long p2)])) _
    refine XS.land X0.here hx rfl (hb hby at_31) rfl ?_
    show Steps p.tables e below (s₁.setTop (mkF m 32 #[iv p0, jv p1, .second, jv p2, .second, jv p3, .second, jv p4, .second, iv 0, iv 1, jv x0, .second, .unset, .unset, .unset, .unset, .unset, .unset, .unset, .unset, .unset, .unset, .unset] [(.long (p2 &&& (65535 : Int64)))])) _
    exact k
  refine own_lift sg3 ?_
  show own_Go p.tables e below (s₁.setTop (mkF m 32 #[iv p0, jv p1, .second, jv p2, .second, jv p3, .second, jv p4, .second, iv 0, iv 1, jv x0, .second, .unset, .unset, .unset, .unset, .unset, .unset, .unset, .unset, .unset, .unset, .unset] [(.long (p2 &&& (65535 : Int64)))])) _
  rw [hx1]
  show own_Go p.tables e below (s₁.setTop (mkF m 32 #[iv p0, jv p1, .second, jv p2, .second, jv p3, .second, jv p4, .second, iv 0, iv 1, jv x0, .second, .unset, .unset, .unset, .unset, .unset, .unset, .unset, .unset, .unset, .unset, .unset] [(.long x1)])) _
  have sg4 : ∀ t, Steps p.tables e below (s₁.setTop (mkF m 40 #[iv p0, jv p1, .second, jv p2, .second, jv p3, .second, jv p4, .second, iv 0, iv 1, jv x0, .second, jv x1, .second, .unset, .unset, .unset, .unset, .unset, .unset, .unset, .unset, .unset] [(.long (p3 &&& (65535 : Int64)))])) t → Steps p.tables e below (s₁.setTop (mkF m 32 #[iv p0, jv p1, .second, jv p2, .second, jv p3, .second, jv p4, .second, iv 0, iv 1, jv x0, .second, .unset, .unset, .unset, .unset, .unset, .unset, .unset, .unset, .unset, .unset, .unset] [(.long x1)])) t := by
    intro t k
    refine XS.lstore X0.here hx rfl (hb hby at_32) rfl (l' := #[iv p0, jv p1, .second, jv p2, .second, jv p3, .second, jv p4, .second, iv 0, iv 1, jv x0, .second, jv x1, .second, .unset, .unset, .unset, .unset, .unset, .unset, .unset, .unset, .unset]) rfl ?_
    show Steps p.tables e below (s₁.setTop (mkF m 34 #[iv p0, jv p1, .second, jv p2, .second, jv p3, .second, jv p4, .second, iv 0, iv 1, jv x0, .second, jv x1, .second, .unset, .unset, .unset, .unset, .unset, .unset, .unset, .unset, .unset] [])) _
    refine XS.lload X0.here hx rfl (hb hby at_34) rfl ?_
    refine X0.ldc2Long hx hown (mvT hZ (wd hw 0 rfl)) (g := (mkF m 36 #[iv p0, jv p1, .second, jv p2, .second, jv p3, .second, jv p4, .second, iv 0, iv 1, jv x0, .second, jv x1, .second, .unset, .unset, .unset, .unset, .unset, .unset, .unset, .unset, .unset] [(.long p3)])) rfl (hb hby at_36) _ ?_
    show Steps p.tables e below (s₁.setTop (mkF m 39 #[iv p0, jv p1, .second, jv p2, .second, jv p3, .second, jv p4, .second, iv 0, iv 1, jv x0, .second, jv x1, .second, .unset, .unset, .unset, .unset, .unset, .unset, .unset, .unset, .unset] [(.long 65535), (.long p3)])) _
    refine XS.land X0.here hx rfl (hb hby at_39) rfl ?_
    show Steps p.tables e below (s₁.setTop (mkF m 40 #[iv p0, jv p1, .second, jv p2, .second, jv p3, .second, jv p4, .second, iv 0, iv 1, jv x0, .second, jv x1, .second, .unset, .unset, .unset, .unset, .unset, .unset, .unset, .unset, .unset] [(.long (p3 &&& (65535 : Int64)))])) _
    exact k
  refine own_lift sg4 ?_
  show own_Go p.tables e below (s₁.setTop (mkF m 40 #[iv p0, jv p1, .second, jv p2, .second, jv p3, .second, jv p4, .second, iv 0, iv 1, jv x0, .second, jv x1, .second, .unset, .unset, .unset, .unset, .unset, .unset, .unset, .unset, .unset] [(.long (p3 &&& (65535 : Int64)))])) _
  rw [hx2]
  show own_Go p.tables e below (s₁.setTop (mkF m 40 #[iv p0, jv p1, .second, jv p2, .second, jv p3, .second, jv p4, .second, iv 0, iv 1, jv x0, .second, jv x1, .second, .unset, .unset, .unset, .unset, .unset, .unset, .unset, .unset, .unset] [(.long x2)])) _
  have sg5 : ∀ t, Steps p.tables e below (s₁.setTop (mkF m 48 #[iv p0, jv p1, .second, jv p2, .second, jv p3, .second, jv p4, .second, iv 0, iv 1, jv x0, .second, jv x1, .second, jv x2, .second, .unset, .unset, .unset, .unset, .unset, .unset, .unset] [(.long (p4 &&& (32767 : Int64)))])) t → Steps p.tables e below (s₁.setTop (mkF m 40 #[iv p0, jv p1, .second, jv p2, .second, jv p3, .second, jv p4, .second, iv 0, iv 1, jv x0, .second, jv x1, .second, .unset, .unset, .unset, .unset, .unset, .unset, .unset, .unset, .unset] [(.long x2)])) t := by
    intro t k
    refine XS.lstore X0.here hx rfl (hb hby at_40) rfl (l' := #[iv p0, jv p1, .second, jv p2, .second, jv p3, .second, jv p4, .second, iv 0, iv 1, jv x0, .second, jv x1, .second, jv x2, .second, .unset, .unset, .unset, .unset, .unset, .unset, .unset]) rfl ?_
    show Steps p.tables e below (s₁.setTop (mkF m 42 #[iv p0, jv p1, .second, jv p2, .second, jv p3, .second, jv p4, .second, iv 0, iv 1, jv x0, .second, jv x1, .second, jv x2, .second, .unset, .unset, .unset, .unset, .unset, .unset, .unset] [])) _
    refine XS.lload X0.here hx rfl (hb hby at_42) rfl ?_
    refine X0.ldc2Long hx hown (mvT hZ (wd hw 1 rfl)) (g := (mkF m 44 #[iv p0, jv p1, .second, jv p2, .second, jv p3, .second, jv p4, .second, iv 0, iv 1, jv x0, .second, jv x1, .second, jv x2, .second, .unset, .unset, .unset, .unset, .unset, .unset, .unset] [(.long p4)])) rfl (hb hby at_44) _ ?_
    show Steps p.tables e below (s₁.setTop (mkF m 47 #[iv p0, jv p1, .second, jv p2, .second, jv p3, .second, jv p4, .second, iv 0, iv 1, jv x0, .second, jv x1, .second, jv x2, .second, .unset, .unset, .unset, .unset, .unset, .unset, .unset] [(.long 32767), (.long p4)])) _
    refine XS.land X0.here hx rfl (hb hby at_47) rfl ?_
    show Steps p.tables e below (s₁.setTop (mkF m 48 #[iv p0, jv p1, .second, jv p2, .second, jv p3, .second, jv p4, .second, iv 0, iv 1, jv x0, .second, jv x1, .second, jv x2, .second, .unset, .unset, .unset, .unset, .unset, .unset, .unset] [(.long (p4 &&& (32767 : Int64)))])) _
    exact k
  refine own_lift sg5 ?_
  show own_Go p.tables e below (s₁.setTop (mkF m 48 #[iv p0, jv p1, .second, jv p2, .second, jv p3, .second, jv p4, .second, iv 0, iv 1, jv x0, .second, jv x1, .second, jv x2, .second, .unset, .unset, .unset, .unset, .unset, .unset, .unset] [(.long (p4 &&& (32767 : Int64)))])) _
  rw [hxe]
  show own_Go p.tables e below (s₁.setTop (mkF m 48 #[iv p0, jv p1, .second, jv p2, .second, jv p3, .second, jv p4, .second, iv 0, iv 1, jv x0, .second, jv x1, .second, jv x2, .second, .unset, .unset, .unset, .unset, .unset, .unset, .unset] [(.long xe)])) _
  have sg6 : ∀ t, Steps p.tables e below (s₁.setTop (mkF m 52 #[iv p0, jv p1, .second, jv p2, .second, jv p3, .second, jv p4, .second, iv 0, iv 1, jv x0, .second, jv x1, .second, jv x2, .second, jv xe, .second, .unset, .unset, .unset, .unset, .unset] [(.int 1)])) t → Steps p.tables e below (s₁.setTop (mkF m 48 #[iv p0, jv p1, .second, jv p2, .second, jv p3, .second, jv p4, .second, iv 0, iv 1, jv x0, .second, jv x1, .second, jv x2, .second, .unset, .unset, .unset, .unset, .unset, .unset, .unset] [(.long xe)])) t := by
    intro t k
    refine XS.lstore X0.here hx rfl (hb hby at_48) rfl (l' := #[iv p0, jv p1, .second, jv p2, .second, jv p3, .second, jv p4, .second, iv 0, iv 1, jv x0, .second, jv x1, .second, jv x2, .second, jv xe, .second, .unset, .unset, .unset, .unset, .unset]) rfl ?_
    show Steps p.tables e below (s₁.setTop (mkF m 50 #[iv p0, jv p1, .second, jv p2, .second, jv p3, .second, jv p4, .second, iv 0, iv 1, jv x0, .second, jv x1, .second, jv x2, .second, jv xe, .second, .unset, .unset, .unset, .unset, .unset] [])) _
    refine XS.iload X0.here hx rfl (hb hby at_50) rfl ?_
    show Steps p.tables e below (s₁.setTop (mkF m 52 #[iv p0, jv p1, .second, jv p2, .second, jv p3, .second, jv p4, .second, iv 0, iv 1, jv x0, .second, jv x1, .second, jv x2, .second, jv xe, .second, .unset, .unset, .unset, .unset, .unset] [(.int 1)])) _
    exact k
  refine own_lift sg6 ?_
  show own_Go p.tables e below (s₁.setTop (mkF m 52 #[iv p0, jv p1, .second, jv p2, .second, jv p3, .second, jv p4, .second, iv 0, iv 1, jv x0, .second, jv x1, .second, jv x2, .second, jv xe, .second, .unset, .unset, .unset, .unset, .unset] [(.int 1)])) _
  obtain ⟨T7, h7, ka7, X7, e7, Ex7, Ax7, st7⟩ := newP X0 hx hZ (wd hw 2 rfl) e0 (g := (mkF m 52 #[iv p0, jv p1, .second, jv p2, .second, jv p3, .second, jv p4, .second, iv 0, iv 1, jv x0, .second, jv x1, .second, jv x2, .second, jv xe, .second, .unset, .unset, .unset, .unset, .unset] [(.int 1)])) rfl (hb hby at_52) rfl (by decide) (cap := 1) (by decide) (by decide) (by decide) (by decide)
  obtain ⟨ob7, g7⟩ : ∃ z, z = h0.size := ⟨_, rfl⟩
  rw [← g7] at Ax7 st7
  have ne8 : as_LAST_INDEX_FIRST ≠ ob7 := Nat.ne_of_lt (Nat.lt_of_lt_of_le E_LAST_INDEX_FIRST.lt (Nat.le_of_eq g7.symm))
  have ne9 : as_FIRST_INDEX_FIRST ≠ ob7 := Nat.ne_of_lt (Nat.lt_of_lt_of_le E_FIRST_INDEX_FIRST.lt (Nat.le_of_eq g7.symm))
  have Z7 : n0 ≤ h7.size := Nat.le_trans Z0 Ex7.1
  have ge7 : n0 ≤ ob7 := Nat.le_trans Z0 (Nat.le_of_eq g7.symm)
  have Vn7 : Arv Z h7 ob7 ka7 .long (1 : Int32) [(.long 0)] (.long 0) := (Arv.new Ax7 (by decide)).pad (pad_rep [] (.long 0) 1)
  refine own_lift st7 ?_
  show own_Go p.tables e below (T7.setTop (mkF m 54 #[iv p0, jv p1, .second, jv p2, .second, jv p3, .second, jv p4, .second, iv 0, iv 1, jv x0, .second, jv x1, .second, jv x2, .second, jv xe, .second, .unset, .unset, .unset, .unset, .unset] [(.ref ob7)])) _
  have sg10 : ∀ t, Steps p.tables e below (T7.setTop (mkF m 66 #[iv p0, jv p1, .second, jv p2, .second, jv p3, .second, jv p4, .second, iv 0, iv 1, jv x0, .second, jv x1, .second, jv x2, .second, jv xe, .second, rv ob7, .unset, .unset, .unset, .unset] [(.long x0), (.int 0), (.ref ob7)])) t → Steps p.tables e below (T7.setTop (mkF m 54 #[iv p0, jv p1, .second, jv p2, .second, jv p3, .second, jv p4, .second, iv 0, iv 1, jv x0, .second, jv x1, .second, jv x2, .second, jv xe, .second, .unset, .unset, .unset, .unset, .unset] [(.ref ob7)])) t := by
    intro t k
    refine XS.astore X7.here hx rfl (hb hby at_54) rfl rfl (l' := #[iv p0, jv p1, .second, jv p2, .second, jv p3, .second, jv p4, .second, iv 0, iv 1, jv x0, .second, jv x1, .second, jv x2, .second, jv xe, .second, rv ob7, .unset, .unset, .unset, .unset]) rfl ?_
    show Steps p.tables e below (T7.setTop (mkF m 56 #[iv p0, jv p1, .second, jv p2, .second, jv p3, .second, jv p4, .second, iv 0, iv 1, jv x0, .second, jv x1, .second, jv x2, .second, jv xe, .second, rv ob7, .unset, .unset, .unset, .unset] [])) _
    refine XS.iload X7.here hx rfl (hb hby at_56) rfl ?_
    refine XS.ifNo X7.here hx rfl (hb hby at_58) rfl ((if0 _ _).trans (tlt (by decide : (0 : Int32) < (1 : Int32))).2.2.2) ?_
    show Steps p.tables e below (T7.setTop (mkF m 61 #[iv p0, jv p1, .second, jv p2, .second, jv p3, .second, jv p4, .second, iv 0, iv 1, jv x0, .second, jv x1, .second, jv x2, .second, jv xe, .second, rv ob7, .unset, .unset, .unset, .unset] [])) _
    refine XS.aload X7.here hx rfl (hb hby at_61) rfl rfl ?_
    refine XS.iconst X7.here hx rfl (hb hby at_63) ?_
    show Steps p.tables e below (T7.setTop (mkF m 64 #[iv p0, jv p1, .second, jv p2, .second, jv p3, .second, jv p4, .second, iv 0, iv 1, jv x0, .second, jv x1, .second, jv x2, .second, jv xe, .second, rv ob7, .unset, .unset, .unset, .unset] [(.int 0), (.ref ob7)])) _
    refine XS.lload X7.here hx rfl (hb hby at_64) rfl ?_
    show Steps p.tables e below (T7.setTop (mkF m 66 #[iv p0, jv p1, .second, jv p2, .second, jv p3, .second, jv p4, .second, iv 0, iv 1, jv x0, .second, jv x1, .second, jv x2, .second, jv xe, .second, rv ob7, .unset, .unset, .unset, .unset] [(.long x0), (.int 0), (.ref ob7)])) _
    exact k
  refine own_lift sg10 ?_
  show own_Go p.tables e below (T7.setTop (mkF m 66 #[iv p0, jv p1, .second, jv p2, .second, jv p3, .second, jv p4, .second, iv 0, iv 1, jv x0, .second, jv x1, .second, jv x2, .second, jv xe, .second, rv ob7, .unset, .unset, .unset, .unset] [(.long x0), (.int 0), (.ref ob7)])) _
  obtain ⟨cl11, Ar11, qx11, Sx11, N11', H11', G11'⟩ := id (Vn7)
  have hin11 : ¬ ((0 : Int32) < 0 ∨ cl11.slots.size ≤ ((0 : Int32)).toNatClampNeg) := inb_of Sx11 ⟨(by decide : ¬ ((0 : Int32) < (0 : Int32))), (by decide : (0 : Int32) < (1 : Int32))⟩
  obtain ⟨T12, h12, X12, e12, W12, st12⟩ := stJ X7 hx hZ e7 Ar11 (j := (0 : Int32)) hin11 (g := (mkF m 66 #[iv p0, jv p1, .second, jv p2, .second, jv p3, .second, jv p4, .second, iv 0, iv 1, jv x0, .second, jv x1, .second, jv x2, .second, jv xe, .second, rv ob7, .unset, .unset, .unset, .unset] [(.long x0), (.int 0), (.ref ob7)])) rfl rfl (hb hby at_66)
  have N12 := Fr.snoc X12 N0 ge7
  have Z12 : n0 ≤ h12.size := Nat.le_trans Z7 (Nat.le_of_eq W12.size.symm)
  have Vn12 : Arv Z h12 ob7 ka7 .long (1 : Int32) [(.long x0)] (.long 0) := Arv.set Ar11 qx11 Sx11 N11' H11' G11' rfl W12 0 rfl (Nat.le_of_ble_eq_true rfl)
  refine own_lift st12 ?_
  show own_Go p.tables e below (T12.setTop (mkF m 67 #[iv p0, jv p1, .second, jv p2, .second, jv p3, .second, jv p4, .second, iv 0, iv 1, jv x0, .second, jv x1, .second, jv x2, .second, jv xe, .second, rv ob7, .unset, .unset, .unset, .unset] [])) _
  have sg13 : ∀ t, Steps p.tables e below (T12.setTop (mkF m 102 #[iv p0, jv p1, .second, jv p2, .second, jv p3, .second, jv p4, .second, iv 0, iv 1, jv x0, .second, jv x1, .second, jv x2, .second, jv xe, .second, rv ob7, .unset, .unset, .unset, .unset] [])) t → Steps p.tables e below (T12.setTop (mkF m 67 #[iv p0, jv p1, .second, jv p2, .second, jv p3, .second, jv p4, .second, iv 0, iv 1, jv x0, .second, jv x1, .second, jv x2, .second, jv xe, .second, rv ob7, .unset, .unset, .unset, .unset] [])) t := by
    intro t k
    refine XS.iload X12.here hx rfl (hb hby at_67) rfl ?_
    show Steps p.tables e below (T12.setTop (mkF m 69 #[iv p0, jv p1, .second, jv p2, .second, jv p3, .second, jv p4, .second, iv 0, iv 1, jv x0, .second, jv x1, .second, jv x2, .second, jv xe, .second, rv ob7, .unset, .unset, .unset, .unset] [(.int 1)])) _
    refine XS.iconst X12.here hx rfl (hb hby at_69) ?_
    refine XS.icmpYes X12.here hx rfl (pc0 := 70) (pc' := 79) rfl (hb hby at_70) rfl (flt (by decide : ¬ ((1 : Int32) < (1 : Int32)))).2.2.2 (by decide) (by decide) ?_
    show Steps p.tables e below (T12.setTop (mkF m 79 #[iv p0, jv p1, .second, jv p2, .second, jv p3, .second, jv p4, .second, iv 0, iv 1, jv x0, .second, jv x1, .second, jv x2, .second, jv xe, .second, rv ob7, .unset, .unset, .unset, .unset] [])) _
    refine XS.iload X12.here hx rfl (hb hby at_79) rfl ?_
    refine XS.iconst X12.here hx rfl (hb hby at_81) ?_
    show Steps p.tables e below (T12.setTop (mkF m 82 #[iv p0, jv p1, .second, jv p2, .second, jv p3, .second, jv p4, .second, iv 0, iv 1, jv x0, .second, jv x1, .second, jv x2, .second, jv xe, .second, rv ob7, .unset, .unset, .unset, .unset] [(.int 2), (.int 1)])) _
    refine XS.icmpYes X12.here hx rfl (pc0 := 82) (pc' := 91) rfl (hb hby at_82) rfl (flt (by decide : ¬ ((2 : Int32) < (1 : Int32)))).2.2.2 (by decide) (by decide) ?_
    refine XS.iload X12.here hx rfl (hb hby at_91) rfl ?_
    show Steps p.tables e below (T12.setTop (mkF m 93 #[iv p0, jv p1, .second, jv p2, .second, jv p3, .second, jv p4, .second, iv 0, iv 1, jv x0, .second, jv x1, .second, jv x2, .second, jv xe, .second, rv ob7, .unset, .unset, .unset, .unset] [(.int 0)])) _
    refine XS.ifYes X12.here hx rfl (pc0 := 93) (pc' := 102) rfl (hb hby at_93) rfl ((if0 _ _).trans (teq (by decide : (0 : Int32) = (0 : Int32))).1) (by decide) (by decide) ?_
    show Steps p.tables e below (T12.setTop (mkF m 102 #[iv p0, jv p1, .second, jv p2, .second, jv p3, .second, jv p4, .second, iv 0, iv 1, jv x0, .second, jv x1, .second, jv x2, .second, jv xe, .second, rv ob7, .unset, .unset, .unset, .unset] [])) _
    exact k
  refine own_lift sg13 ?_
  show own_Go p.tables e below (T12.setTop (mkF m 102 #[iv p0, jv p1, .second, jv p2, .second, jv p3, .second, jv p4, .second, iv 0, iv 1, jv x0, .second, jv x1, .second, jv x2, .second, jv xe, .second, rv ob7, .unset, .unset, .unset, .unset] [])) _
  have Fc14 : Sta Z h12 "com/example/halyard/halyard/east/ArrayStorage" "LAST_INDEX_FIRST" "Lcom/example/halyard/halyard/east/ArrayStorage;" (.ref as_LAST_INDEX_FIRST) := ((S_LAST_INDEX_FIRST.ext Ex7).wr W12)
  obtain ⟨T15, X15, e15, st15⟩ := getS X12 hx hZ hown (host := "") (wd hw 3 rfl) Via.refl e12 Fc14 (g := (mkF m 102 #[iv p0, jv p1, .second, jv p2, .second, jv p3, .second, jv p4, .second, iv 0, iv 1, jv x0, .second, jv x1, .second, jv x2, .second, jv xe, .second, rv ob7, .unset, .unset, .unset, .unset] [])) rfl (hb hby at_102)
  refine own_lift st15 ?_
  show own_Go p.tables e below (T15.setTop (mkF m 105 #[iv p0, jv p1, .second, jv p2, .second, jv p3, .second, jv p4, .second, iv 0, iv 1, jv x0, .second, jv x1, .second, jv x2, .second, jv xe, .second, rv ob7, .unset, .unset, .unset, .unset] [(.ref as_LAST_INDEX_FIRST)])) _
  have sg16 : ∀ t, Steps p.tables e below (T15.setTop (mkF m 113 #[iv p0, jv p1, .second, jv p2, .second, jv p3, .second, jv p4, .second, iv 0, iv 1, jv x0, .second, jv x1, .second, jv x2, .second, jv xe, .second, rv ob7, rv as_LAST_INDEX_FIRST, .unset, .unset, .unset] [(.long xe), (.ref ob7), (.ref as_LAST_INDEX_FIRST)])) t → Steps p.tables e below (T15.setTop (mkF m 105 #[iv p0, jv p1, .second, jv p2, .second, jv p3, .second, jv p4, .second, iv 0, iv 1, jv x0, .second, jv x1, .second, jv x2, .second, jv xe, .second, rv ob7, .unset, .unset, .unset, .unset] [(.ref as_LAST_INDEX_FIRST)])) t := by
    intro t k
    refine XS.astore X15.here hx rfl (hb hby at_105) rfl rfl (l' := #[iv p0, jv p1, .second, jv p2, .second, jv p3, .second, jv p4, .second, iv 0, iv 1, jv x0, .second, jv x1, .second, jv x2, .second, jv xe, .second, rv ob7, rv as_LAST_INDEX_FIRST, .unset, .unset, .unset]) rfl ?_
    show Steps p.tables e below (T15.setTop (mkF m 107 #[iv p0, jv p1, .second, jv p2, .second, jv p3, .second, jv p4, .second, iv 0, iv 1, jv x0, .second, jv x1, .second, jv x2, .second, jv xe, .second, rv ob7, rv as_LAST_INDEX_FIRST, .unset, .unset, .unset] [])) _
    refine XS.aload X15.here hx rfl (hb hby at_107) rfl rfl ?_
    refine XS.aload X15.here hx rfl (hb hby at_109) rfl rfl ?_
    show Steps p.tables e below (T15.setTop (mkF m 111 #[iv p0, jv p1, .second, jv p2, .second, jv p3, .second, jv p4, .second, iv 0, iv 1, jv x0, .second, jv x1, .second, jv x2, .second, jv xe, .second, rv ob7, rv as_LAST_INDEX_FIRST, .unset, .unset, .unset] [(.ref ob7), (.ref as_LAST_INDEX_FIRST)])) _
    refine XS.lload X15.here hx rfl (hb hby at_111) rfl ?_
    show Steps p.tables e below (T15.setTop (mkF m 113 #[iv p0, jv p1, .second, jv p2, .second, jv p3, .second, jv p4, .second, iv 0, iv 1, jv x0, .second, jv x1, .second, jv x2, .second, jv xe, .second, rv ob7, rv as_LAST_INDEX_FIRST, .unset, .unset, .unset] [(.long xe), (.ref ob7), (.ref as_LAST_INDEX_FIRST)])) _
    exact k
  refine own_lift sg16 ?_
  show own_Go p.tables e below (T15.setTop (mkF m 113 #[iv p0, jv p1, .second, jv p2, .second, jv p3, .second, jv p4, .second, iv 0, iv 1, jv x0, .second, jv x1, .second, jv x2, .second, jv xe, .second, rv ob7, rv as_LAST_INDEX_FIRST, .unset, .unset, .unset] [(.long xe), (.ref ob7), (.ref as_LAST_INDEX_FIRST)])) _
  have Fc17 : Sta Z h12 "com/example/halyard/halyard/east/ArrayStorage" "FIRST_INDEX_FIRST" "Lcom/example/halyard/halyard/east/ArrayStorage;" (.ref as_FIRST_INDEX_FIRST) := ((S_FIRST_INDEX_FIRST.ext Ex7).wr W12)
  have Fc19 : Exa Z h12 as_LAST_INDEX_FIRST "com/example/halyard/halyard/east/ArrayStorage" := ((E_LAST_INDEX_FIRST.ext Ex7).wr W12)
  obtain ⟨cq18, kq18, q18a, q18b, q18c⟩ := isOf hZ e15 Fc19
  obtain ⟨_, _, ⟨T18, Lx18, kx18, nx18⟩, -, X18, ⟨Lc18, hQ18, lx18, yx18, zx18⟩, st18⟩ := X15.virtualBack hx (y := (⟨"com/example/halyard/halyard/east/ArrayStorage", "strides", "([JJ)[J"⟩ : MethodName)) (z := (⟨"com/example/halyard/halyard/east/ArrayStorage", "strides", "([JJ)[J"⟩ : MethodName)) hown (mvT hZ (wd hw 6 rfl)) (mvT hZ (wd hw 7 rfl)) (notFace_of_selects (args := #[]) (mvT hZ (wd hw 9 rfl))) (mvT hZ (wd hw 9 rfl)) (mvT hZ (wd hw 8 rfl)) (by decide) (backOf (W := 0) (rmStr1L l Z a0 hw [] as_LAST_INDEX_FIRST ob7 xe as_FIRST_INDEX_FIRST ka7 x0 h12 n0 Z12 Vn12 Fc17 hne) hZ (wd hw 10 rfl) (wd hw 4 rfl) (by decide) (by decide)) q18a q18c (g := (mkF m 113 #[iv p0, jv p1, .second, jv p2, .second, jv p3, .second, jv p4, .second, iv 0, iv 1, jv x0, .second, jv x1, .second, jv x2, .second, jv xe, .second, rv ob7, rv as_LAST_INDEX_FIRST, .unset, .unset, .unset] [(.long xe), (.ref ob7), (.ref as_LAST_INDEX_FIRST)])) rfl (by rw [hml]; rfl) (Steps.refl _) (argsL := [(.ref ob7), (.long xe)]) (rest := []) (lenOf pd_0 rfl) rfl (by show 2 * 0 + _ ≤ _; exact Nat.le_of_eq rfl) (hb hby at_113) (fun _ _ => ⟨rfl, e15, (by decide : 1 + 1 ≤ _), (by decide : 1 + 1 ≤ _)⟩)
  dsimp only [Pt.U, Pt.locs, Pt.cells, Pt.slots] at X18 lx18 yx18 zx18 st18 hQ18
  subst lx18 yx18 zx18
  obtain ⟨xb_18, xkb_18, rfl, N18q, p18_0, p18_1, p18_2⟩ := hQ18
  have N18 := Fr.app N12 N18q
  have ne20 : as_LAST_INDEX_FIRST ≠ xb_18 := Nat.ne_of_lt (Nat.lt_of_lt_of_le Fc19.lt p18_1)
  have Fc21 : Exa Z h12 as_FIRST_INDEX_FIRST "com/example/halyard/halyard/east/ArrayStorage" := ((E_FIRST_INDEX_FIRST.ext Ex7).wr W12)
  have ne22 : as_FIRST_INDEX_FIRST ≠ xb_18 := Nat.ne_of_lt (Nat.lt_of_lt_of_le Fc21.lt p18_1)
  have ne23 : ob7 ≠ xb_18 := Nat.ne_of_lt (Nat.lt_of_lt_of_le Vn12.lt p18_1)
  have Z18 : n0 ≤ T18.heap.size := Nat.le_trans Z12 p18_0.1
  have ge18_1 : n0 ≤ xb_18 := Nat.le_trans Z12 p18_1
  refine own_lift (fun t k => st18.trans k) ?_
  show own_Go p.tables e below (T18.setTop (mkF m 116 #[iv p0, jv p1, .second, jv p2, .second, jv p3, .second, jv p4, .second, iv 0, iv 1, jv x0, .second, jv x1, .second, jv x2, .second, jv xe, .second, rv ob7, rv as_LAST_INDEX_FIRST, .unset, .unset, .unset] [(.ref xb_18)])) _
  have sg24 : ∀ t, Steps p.tables e below (T18.setTop (mkF m 125 #[iv p0, jv p1, .second, jv p2, .second, jv p3, .second, jv p4, .second, iv 0, iv 1, jv x0, .second, jv x1, .second, jv x2, .second, jv xe, .second, rv ob7, rv as_LAST_INDEX_FIRST, rv xb_18, .unset, .unset] [(.ref xb_18)])) t → Steps p.tables e below (T18.setTop (mkF m 116 #[iv p0, jv p1, .second, jv p2, .second, jv p3, .second, jv p4, .second, iv 0, iv 1, jv x0, .second, jv x1, .second, jv x2, .second, jv xe, .second, rv ob7, rv as_LAST_INDEX_FIRST, .unset, .unset, .unset] [(.ref xb_18)])) t := by
    intro t k
    refine XS.astore X18.here hx rfl (hb hby at_116) rfl rfl (l' := #[iv p0, jv p1, .second, jv p2, .second, jv p3, .second, jv p4, .second, iv 0, iv 1, jv x0, .second, jv x1, .second, jv x2, .second, jv xe, .second, rv ob7, rv as_LAST_INDEX_FIRST, rv xb_18, .unset, .unset]) rfl ?_
    show Steps p.tables e below (T18.setTop (mkF m 118 #[iv p0, jv p1, .second, jv p2, .second, jv p3, .second, jv p4, .second, iv 0, iv 1, jv x0, .second, jv x1, .second, jv x2, .second, jv xe, .second, rv ob7, rv as_LAST_INDEX_FIRST, rv xb_18, .unset, .unset] [])) _
    refine XS.aload X18.here hx rfl (hb hby at_118) rfl rfl ?_
    refine XS.ifnullNo X18.here hx rfl (hb hby at_120) rfl ?_
    show Steps p.tables e below (T18.setTop (mkF m 123 #[iv p0, jv p1, .second, jv p2, .second, jv p3, .second, jv p4, .second, iv 0, iv 1, jv x0, .second, jv x1, .second, jv x2, .second, jv xe, .second, rv ob7, rv as_LAST_INDEX_FIRST, rv xb_18, .unset, .unset] [])) _
    refine XS.aload X18.here hx rfl (hb hby at_123) rfl rfl ?_
    show Steps p.tables e below (T18.setTop (mkF m 125 #[iv p0, jv p1, .second, jv p2, .second, jv p3, .second, jv p4, .second, iv 0, iv 1, jv x0, .second, jv x1, .second, jv x2, .second, jv xe, .second, rv ob7, rv as_LAST_INDEX_FIRST, rv xb_18, .unset, .unset] [(.ref xb_18)])) _
    exact k
  refine own_lift sg24 ?_
  show own_Go p.tables e below (T18.setTop (mkF m 125 #[iv p0, jv p1, .second, jv p2, .second, jv p3, .second, jv p4, .second, iv 0, iv 1, jv x0, .second, jv x1, .second, jv x2, .second, jv xe, .second, rv ob7, rv as_LAST_INDEX_FIRST, rv xb_18, .unset, .unset] [(.ref xb_18)])) _
  obtain ⟨cl25, Ar25, -, Sx25, N25', -, -⟩ := id (p18_2)
  have st25 : ∀ t, Steps p.tables e below (T18.setTop (mkF m 126 #[iv p0, jv p1, .second, jv p2, .second, jv p3, .second, jv p4, .second, iv 0, iv 1, jv x0, .second, jv x1, .second, jv x2, .second, jv xe, .second, rv ob7, rv as_LAST_INDEX_FIRST, rv xb_18, .unset, .unset] [(.int 1)])) t → Steps p.tables e below (T18.setTop (mkF m 125 #[iv p0, jv p1, .second, jv p2, .second, jv p3, .second, jv p4, .second, iv 0, iv 1, jv x0, .second, jv x1, .second, jv x2, .second, jv xe, .second, rv ob7, rv as_LAST_INDEX_FIRST, rv xb_18, .unset, .unset] [(.ref xb_18)])) t := by
    intro t k
    refine X18.arraylength hx (by exact Ar25.1) (State.isArrayOf_alike hZ.alike Ar25.2.1) (g := (mkF m 125 #[iv p0, jv p1, .second, jv p2, .second, jv p3, .second, jv p4, .second, iv 0, iv 1, jv x0, .second, jv x1, .second, jv x2, .second, jv xe, .second, rv ob7, rv as_LAST_INDEX_FIRST, rv xb_18, .unset, .unset] [(.ref xb_18)])) rfl rfl (hb hby at_125) _ ?_
    rw [len_of Sx25 N25']
    exact k
  refine own_lift st25 ?_
  show own_Go p.tables e below (T18.setTop (mkF m 126 #[iv p0, jv p1, .second, jv p2, .second, jv p3, .second, jv p4, .second, iv 0, iv 1, jv x0, .second, jv x1, .second, jv x2, .second, jv xe, .second, rv ob7, rv as_LAST_INDEX_FIRST, rv xb_18, .unset, .unset] [(.int 1)])) _
  have sg26 : ∀ t, Steps p.tables e below (T18.setTop (mkF m 134 #[iv p0, jv p1, .second, jv p2, .second, jv p3, .second, jv p4, .second, iv 0, iv 1, jv x0, .second, jv x1, .second, jv x2, .second, jv xe, .second, rv ob7, rv as_LAST_INDEX_FIRST, rv xb_18, .unset, .unset] [(.int 3)])) t → Steps p.tables e below (T18.setTop (mkF m 126 #[iv p0, jv p1, .second, jv p2, .second, jv p3, .second, jv p4, .second, iv 0, iv 1, jv x0, .second, jv x1, .second, jv x2, .second, jv xe, .second, rv ob7, rv as_LAST_INDEX_FIRST, rv xb_18, .unset, .unset] [(.int 1)])) t := by
    intro t k
    refine XS.iload X18.here hx rfl (hb hby at_126) rfl ?_
    show Steps p.tables e below (T18.setTop (mkF m 128 #[iv p0, jv p1, .second, jv p2, .second, jv p3, .second, jv p4, .second, iv 0, iv 1, jv x0, .second, jv x1, .second, jv x2, .second, jv xe, .second, rv ob7, rv as_LAST_INDEX_FIRST, rv xb_18, .unset, .unset] [(.int 1), (.int 1)])) _
    refine XS.icmpYes X18.here hx rfl (pc0 := 128) (pc' := 133) rfl (hb hby at_128) rfl (teq (by decide : (1 : Int32) = (1 : Int32))).1 (by decide) (by decide) ?_
    refine XS.iconst X18.here hx rfl (hb hby at_133) ?_
    show Steps p.tables e below (T18.setTop (mkF m 134 #[iv p0, jv p1, .second, jv p2, .second, jv p3, .second, jv p4, .second, iv 0, iv 1, jv x0, .second, jv x1, .second, jv x2, .second, jv xe, .second, rv ob7, rv as_LAST_INDEX_FIRST, rv xb_18, .unset, .unset] [(.int 3)])) _
    exact k
  refine own_lift sg26 ?_
  show own_Go p.tables e below (T18.setTop (mkF m 134 #[iv p0, jv p1, .second, jv p2, .second, jv p3, .second, jv p4, .second, iv 0, iv 1, jv x0, .second, jv x1, .second, jv x2, .second, jv xe, .second, rv ob7, rv as_LAST_INDEX_FIRST, rv xb_18, .unset, .unset] [(.int 3)])) _
  obtain ⟨T27, h27, ka27, X27, e27, Ex27, Ax27, st27⟩ := newP X18 hx hZ (wd hw 2 rfl) rfl (g := (mkF m 134 #[iv p0, jv p1, .second, jv p2, .second, jv p3, .second, jv p4, .second, iv 0, iv 1, jv x0, .second, jv x1, .second, jv x2, .second, jv xe, .second, rv ob7, rv as_LAST_INDEX_FIRST, rv xb_18, .unset, .unset] [(.int 3)])) rfl (hb hby at_134) rfl (by decide) (cap := 3) (by decide) (by decide) (by decide) (by decide)
  obtain ⟨ob27, g27⟩ : ∃ z, z = T18.heap.size := ⟨_, rfl⟩
  rw [← g27] at Ax27 st27
  have Fc28 : Exa Z T18.heap as_LAST_INDEX_FIRST "com/example/halyard/halyard/east/ArrayStorage" := (Fc19.keep p18_0)
  have ne29 : as_LAST_INDEX_FIRST ≠ ob27 := Nat.ne_of_lt (Nat.lt_of_lt_of_le Fc28.lt (Nat.le_of_eq g27.symm))
  have Fc30 : Exa Z T18.heap as_FIRST_INDEX_FIRST "com/example/halyard/halyard/east/ArrayStorage" := (Fc21.keep p18_0)
  have ne31 : as_FIRST_INDEX_FIRST ≠ ob27 := Nat.ne_of_lt (Nat.lt_of_lt_of_le Fc30.lt (Nat.le_of_eq g27.symm))
  have Fc32 : Arv Z T18.heap ob7 ka7 .long (1 : Int32) [(.long x0)] (.long 0) := (Vn12.keep p18_0 nin0)
  have ne33 : ob7 ≠ ob27 := Nat.ne_of_lt (Nat.lt_of_lt_of_le Fc32.lt (Nat.le_of_eq g27.symm))
  have ne34 : xb_18 ≠ ob27 := Nat.ne_of_lt (Nat.lt_of_lt_of_le p18_2.lt (Nat.le_of_eq g27.symm))
  have Z27 : n0 ≤ h27.size := Nat.le_trans Z18 Ex27.1
  have ge27 : n0 ≤ ob27 := Nat.le_trans Z18 (Nat.le_of_eq g27.symm)
  have Vn27 : Arv Z h27 ob27 ka27 .long (3 : Int32) [(.long 0), (.long 0), (.long 0)] (.long 0) := (Arv.new Ax27 (by decide)).pad (pad_rep [] (.long 0) 3)
  refine own_lift st27 ?_
  show own_Go p.tables e below (T27.setTop (mkF m 136 #[iv p0, jv p1, .second, jv p2, .second, jv p3, .second, jv p4, .second, iv 0, iv 1, jv x0, .second, jv x1, .second, jv x2, .second, jv xe, .second, rv ob7, rv as_LAST_INDEX_FIRST, rv xb_18, .unset, .unset] [(.ref ob27)])) _
  have sg35 : ∀ t, Steps p.tables e below (T27.setTop (mkF m 149 #[iv p0, jv p1, .second, jv p2, .second, jv p3, .second, jv p4, .second, iv 0, iv 1, jv x0, .second, jv x1, .second, jv x2, .second, jv xe, .second, rv ob7, rv as_LAST_INDEX_FIRST, rv xb_18, rv ob27, .unset] [(.long xe), (.int 0), (.ref ob27)])) t → Steps p.tables e below (T27.setTop (mkF m 136 #[iv p0, jv p1, .second, jv p2, .second, jv p3, .second, jv p4, .second, iv 0, iv 1, jv x0, .second, jv x1, .second, jv x2, .second, jv xe, .second, rv ob7, rv as_LAST_INDEX_FIRST, rv xb_18, .unset, .unset] [(.ref ob27)])) t := by
    intro t k
    refine XS.astore X27.here hx rfl (hb hby at_136) rfl rfl (l' := #[iv p0, jv p1, .second, jv p2, .second, jv p3, .second, jv p4, .second, iv 0, iv 1, jv x0, .second, jv x1, .second, jv x2, .second, jv xe, .second, rv ob7, rv as_LAST_INDEX_FIRST, rv xb_18, rv ob27, .unset]) rfl ?_
    show Steps p.tables e below (T27.setTop (mkF m 138 #[iv p0, jv p1, .second, jv p2, .second, jv p3, .second, jv p4, .second, iv 0, iv 1, jv x0, .second, jv x1, .second, jv x2, .second, jv xe, .second, rv ob7, rv as_LAST_INDEX_FIRST, rv xb_18, rv ob27, .unset] [])) _
    refine XS.iload X27.here hx rfl (hb hby at_138) rfl ?_
    refine XS.iconst X27.here hx rfl (hb hby at_140) ?_
    show Steps p.tables e below (T27.setTop (mkF m 141 #[iv p0, jv p1, .second, jv p2, .second, jv p3, .second, jv p4, .second, iv 0, iv 1, jv x0, .second, jv x1, .second, jv x2, .second, jv xe, .second, rv ob7, rv as_LAST_INDEX_FIRST, rv xb_18, rv ob27, .unset] [(.int 1), (.int 1)])) _
    refine XS.icmpNo X27.here hx rfl (hb hby at_141) rfl (teq (by decide : (1 : Int32) = (1 : Int32))).2 ?_
    refine XS.aload X27.here hx rfl (hb hby at_144) rfl rfl ?_
    show Steps p.tables e below (T27.setTop (mkF m 146 #[iv p0, jv p1, .second, jv p2, .second, jv p3, .second, jv p4, .second, iv 0, iv 1, jv x0, .second, jv x1, .second, jv x2, .second, jv xe, .second, rv ob7, rv as_LAST_INDEX_FIRST, rv xb_18, rv ob27, .unset] [(.ref ob27)])) _
    refine XS.iconst X27.here hx rfl (hb hby at_146) ?_
    refine XS.lload X27.here hx rfl (hb hby at_147) rfl ?_
    show Steps p.tables e below (T27.setTop (mkF m 149 #[iv p0, jv p1, .second, jv p2, .second, jv p3, .second, jv p4, .second, iv 0, iv 1, jv x0, .second, jv x1, .second, jv x2, .second, jv xe, .second, rv ob7, rv as_LAST_INDEX_FIRST, rv xb_18, rv ob27, .unset] [(.long xe), (.int 0), (.ref ob27)])) _
    exact k
  refine own_lift sg35 ?_
  show own_Go p.tables e below (T27.setTop (mkF m 149 #[iv p0, jv p1, .second, jv p2, .second, jv p3, .second, jv p4, .second, iv 0, iv 1, jv x0, .second, jv x1, .second, jv x2, .second, jv xe, .second, rv ob7, rv as_LAST_INDEX_FIRST, rv xb_18, rv ob27, .unset] [(.long xe), (.int 0), (.ref ob27)])) _
  obtain ⟨cl36, Ar36, qx36, Sx36, N36', H36', G36'⟩ := id (Vn27)
  have hin36 : ¬ ((0 : Int32) < 0 ∨ cl36.slots.size ≤ ((0 : Int32)).toNatClampNeg) := inb_of Sx36 ⟨(by decide : ¬ ((0 : Int32) < (0 : Int32))), (by decide : (0 : Int32) < (3 : Int32))⟩
  obtain ⟨T37, h37, X37, e37, W37, st37⟩ := stJ X27 hx hZ e27 Ar36 (j := (0 : Int32)) hin36 (g := (mkF m 149 #[iv p0, jv p1, .second, jv p2, .second, jv p3, .second, jv p4, .second, iv 0, iv 1, jv x0, .second, jv x1, .second, jv x2, .second, jv xe, .second, rv ob7, rv as_LAST_INDEX_FIRST, rv xb_18, rv ob27, .unset] [(.long xe), (.int 0), (.ref ob27)])) rfl rfl (hb hby at_149)
  have N37 := Fr.snoc X37 N18 ge27
  have Z37 : n0 ≤ h37.size := Nat.le_trans Z27 (Nat.le_of_eq W37.size.symm)
  have Vn37 : Arv Z h37 ob27 ka27 .long (3 : Int32) [(.long xe), (.long 0), (.long 0)] (.long 0) := Arv.set Ar36 qx36 Sx36 N36' H36' G36' rfl W37 0 rfl (Nat.le_of_ble_eq_true rfl)
  refine own_lift st37 ?_
  show own_Go p.tables e below (T37.setTop (mkF m 150 #[iv p0, jv p1, .second, jv p2, .second, jv p3, .second, jv p4, .second, iv 0, iv 1, jv x0, .second, jv x1, .second, jv x2, .second, jv xe, .second, rv ob7, rv as_LAST_INDEX_FIRST, rv xb_18, rv ob27, .unset] [])) _
  have sg38 : ∀ t, Steps p.tables e below (T37.setTop (mkF m 284 #[iv p0, jv p1, .second, jv p2, .second, jv p3, .second, jv p4, .second, iv 0, iv 1, jv x0, .second, jv x1, .second, jv x2, .second, jv xe, .second, rv ob7, rv as_LAST_INDEX_FIRST, rv xb_18, rv ob27, iv 1] [(.int 0), (.ref xb_18)])) t → Steps p.tables e below (T37.setTop (mkF m 150 #[iv p0, jv p1, .second, jv p2, .second, jv p3, .second, jv p4, .second, iv 0, iv 1, jv x0, .second, jv x1, .second, jv x2, .second, jv xe, .second, rv ob7, rv as_LAST_INDEX_FIRST, rv xb_18, rv ob27, .unset] [])) t := by
    intro t k
    refine XS.goto X37.here hx rfl (pc0 := 150) (pc' := 268) rfl (hb hby at_150) (by decide) (by decide) ?_
    show Steps p.tables e below (T37.setTop (mkF m 268 #[iv p0, jv p1, .second, jv p2, .second, jv p3, .second, jv p4, .second, iv 0, iv 1, jv x0, .second, jv x1, .second, jv x2, .second, jv xe, .second, rv ob7, rv as_LAST_INDEX_FIRST, rv xb_18, rv ob27, .unset] [])) _
    refine XS.iconst X37.here hx rfl (hb hby at_268) ?_
    refine XS.istore X37.here hx rfl (hb hby at_269) rfl (l' := #[iv p0, jv p1, .second, jv p2, .second, jv p3, .second, jv p4, .second, iv 0, iv 1, jv x0, .second, jv x1, .second, jv x2, .second, jv xe, .second, rv ob7, rv as_LAST_INDEX_FIRST, rv xb_18, rv ob27, iv 1]) rfl ?_
    show Steps p.tables e below (T37.setTop (mkF m 271 #[iv p0, jv p1, .second, jv p2, .second, jv p3, .second, jv p4, .second, iv 0, iv 1, jv x0, .second, jv x1, .second, jv x2, .second, jv xe, .second, rv ob7, rv as_LAST_INDEX_FIRST, rv xb_18, rv ob27, iv 1] [])) _
    refine XS.iload X37.here hx rfl (hb hby at_271) rfl ?_
    refine XS.ifNo X37.here hx rfl (hb hby at_273) rfl ((if0 _ _).trans (tlt (by decide : (0 : Int32) < (1 : Int32))).2.2.2) ?_
    show Steps p.tables e below (T37.setTop (mkF m 276 #[iv p0, jv p1, .second, jv p2, .second, jv p3, .second, jv p4, .second, iv 0, iv 1, jv x0, .second, jv x1, .second, jv x2, .second, jv xe, .second, rv ob7, rv as_LAST_INDEX_FIRST, rv xb_18, rv ob27, iv 1] [])) _
    refine XS.iload X37.here hx rfl (hb hby at_276) rfl ?_
    refine XS.ifNo X37.here hx rfl (hb hby at_278) rfl ((if0 _ _).trans (feq (by decide : ¬ ((1 : Int32) = (0 : Int32)))).1) ?_
    show Steps p.tables e below (T37.setTop (mkF m 281 #[iv p0, jv p1, .second, jv p2, .second, jv p3, .second, jv p4, .second, iv 0, iv 1, jv x0, .second, jv x1, .second, jv x2, .second, jv xe, .second, rv ob7, rv as_LAST_INDEX_FIRST, rv xb_18, rv ob27, iv 1] [])) _
    refine XS.aload X37.here hx rfl (hb hby at_281) rfl rfl ?_
    refine XS.iconst X37.here hx rfl (hb hby at_283) ?_
    show Steps p.tables e below (T37.setTop (mkF m 284 #[iv p0, jv p1, .second, jv p2, .second, jv p3, .second, jv p4, .second, iv 0, iv 1, jv x0, .second, jv x1, .second, jv x2, .second, jv xe, .second, rv ob7, rv as_LAST_INDEX_FIRST, rv xb_18, rv ob27, iv 1] [(.int 0), (.ref xb_18)])) _
    exact k
  refine own_lift sg38 ?_
  show own_Go p.tables e below (T37.setTop (mkF m 284 #[iv p0, jv p1, .second, jv p2, .second, jv p3, .second, jv p4, .second, iv 0, iv 1, jv x0, .second, jv x1, .second, jv x2, .second, jv xe, .second, rv ob7, rv as_LAST_INDEX_FIRST, rv xb_18, rv ob27, iv 1] [(.int 0), (.ref xb_18)])) _
  have Fc39 : Arv Z h37 xb_18 xkb_18 .long (1 : Int32) [(.long xe)] (.long (0 : Int64)) := ((p18_2.ext Ex27).other W37 ne34)
  obtain ⟨cl40, Ar40, qx40, Sx40, N40', H40', G40'⟩ := id (Fc39)
  have hin40 : ¬ ((0 : Int32) < 0 ∨ cl40.slots.size ≤ ((0 : Int32)).toNatClampNeg) := inb_of Sx40 ⟨(by decide : ¬ ((0 : Int32) < (0 : Int32))), (by decide : (0 : Int32) < (1 : Int32))⟩
  have hat40 : cl40.slots[((0 : Int32)).toNatClampNeg]? = some (.long xe) := Has.at H40' hin40 rfl
  have sg41 : ∀ t, Steps p.tables e below (T37.setTop (mkF m 288 #[iv p0, jv p1, .second, jv p2, .second, jv p3, .second, jv p4, .second, iv 0, iv 1, jv x0, .second, jv x1, .second, jv x2, .second, jv xe, .second, rv ob7, rv as_LAST_INDEX_FIRST, rv xb_18, rv ob27, iv 1] [(.int 0), (.ref ob27), (.long xe)])) t → Steps p.tables e below (T37.setTop (mkF m 284 #[iv p0, jv p1, .second, jv p2, .second, jv p3, .second, jv p4, .second, iv 0, iv 1, jv x0, .second, jv x1, .second, jv x2, .second, jv xe, .second, rv ob7, rv as_LAST_INDEX_FIRST, rv xb_18, rv ob27, iv 1] [(.int 0), (.ref xb_18)])) t := by
    intro t k
    refine X37.laload hx (j := (0 : Int32)) (v := (.long xe)) (by rw [e37]; exact Ar40.1) (State.isArrayOf_alike hZ.alike Ar40.2.1) Ar40.2.2 hin40 hat40 (g := (mkF m 284 #[iv p0, jv p1, .second, jv p2, .second, jv p3, .second, jv p4, .second, iv 0, iv 1, jv x0, .second, jv x1, .second, jv x2, .second, jv xe, .second, rv ob7, rv as_LAST_INDEX_FIRST, rv xb_18, rv ob27, iv 1] [(.int 0), (.ref xb_18)])) rfl rfl (hb hby at_284) _ ?_
    show Steps p.tables e below (T37.setTop (mkF m 285 #[iv p0, jv p1, .second, jv p2, .second, jv p3, .second, jv p4, .second, iv 0, iv 1, jv x0, .second, jv x1, .second, jv x2, .second, jv xe, .second, rv ob7, rv as_LAST_INDEX_FIRST, rv xb_18, rv ob27, iv 1] [(.long xe)])) _
    refine XS.aload X37.here hx rfl (hb hby at_285) rfl rfl ?_
    refine XS.iconst X37.here hx rfl (hb hby at_287) ?_
    show Steps p.tables e below (T37.setTop (mkF m 288 #[iv p0, jv p1, .second, jv p2, .second, jv p3, .second, jv p4, .second, iv 0, iv 1, jv x0, .second, jv x1, .second, jv x2, .second, jv xe, .second, rv ob7, rv as_LAST_INDEX_FIRST, rv xb_18, rv ob27, iv 1] [(.int 0), (.ref ob27), (.long xe)])) _
    exact k
  refine own_lift sg41 ?_
  show own_Go p.tables e below (T37.setTop (mkF m 288 #[iv p0, jv p1, .second, jv p2, .second, jv p3, .second, jv p4, .second, iv 0, iv 1, jv x0, .second, jv x1, .second, jv x2, .second, jv xe, .second, rv ob7, rv as_LAST_INDEX_FIRST, rv xb_18, rv ob27, iv 1] [(.int 0), (.ref ob27), (.long xe)])) _
  obtain ⟨cl42, Ar42, qx42, Sx42, N42', H42', G42'⟩ := id (Vn37)
  have hin42 : ¬ ((0 : Int32) < 0 ∨ cl42.slots.size ≤ ((0 : Int32)).toNatClampNeg) := inb_of Sx42 ⟨(by decide : ¬ ((0 : Int32) < (0 : Int32))), (by decide : (0 : Int32) < (3 : Int32))⟩
  have hat42 : cl42.slots[((0 : Int32)).toNatClampNeg]? = some (.long xe) := Has.at H42' hin42 rfl
  have sg43 : ∀ t, Steps p.tables e below (T37.setTop (mkF m 296 #[iv p0, jv p1, .second, jv p2, .second, jv p3, .second, jv p4, .second, iv 0, iv 1, jv x0, .second, jv x1, .second, jv x2, .second, jv xe, .second, rv ob7, rv as_LAST_INDEX_FIRST, rv xb_18, rv ob27, iv 1] [(.int 0), (.ref ob7)])) t → Steps p.tables e below (T37.setTop (mkF m 288 #[iv p0, jv p1, .second, jv p2, .second, jv p3, .second, jv p4, .second, iv 0, iv 1, jv x0, .second, jv x1, .second, jv x2, .second, jv xe, .second, rv ob7, rv as_LAST_INDEX_FIRST, rv xb_18, rv ob27, iv 1] [(.int 0), (.ref ob27), (.long xe)])) t := by
    intro t k
    refine X37.laload hx (j := (0 : Int32)) (v := (.long xe)) (by rw [e37]; exact Ar42.1) (State.isArrayOf_alike hZ.alike Ar42.2.1) Ar42.2.2 hin42 hat42 (g := (mkF m 288 #[iv p0, jv p1, .second, jv p2, .second, jv p3, .second, jv p4, .second, iv 0, iv 1, jv x0, .second, jv x1, .second, jv x2, .second, jv xe, .second, rv ob7, rv as_LAST_INDEX_FIRST, rv xb_18, rv ob27, iv 1] [(.int 0), (.ref ob27), (.long xe)])) rfl rfl (hb hby at_288) _ ?_
    show Steps p.tables e below (T37.setTop (mkF m 289 #[iv p0, jv p1, .second, jv p2, .second, jv p3, .second, jv p4, .second, iv 0, iv 1, jv x0, .second, jv x1, .second, jv x2, .second, jv xe, .second, rv ob7, rv as_LAST_INDEX_FIRST, rv xb_18, rv ob27, iv 1] [(.long xe), (.long xe)])) _
    refine XS.lcmp X37.here hx rfl (hb hby at_289) rfl ?_
    refine XS.ifNo X37.here hx rfl (hb hby at_290) rfl ((if0 _ _).trans (teq ((lw_eq xe xe).2 (rfl : xe = xe))).2) ?_
    show Steps p.tables e below (T37.setTop (mkF m 293 #[iv p0, jv p1, .second, jv p2, .second, jv p3, .second, jv p4, .second, iv 0, iv 1, jv x0, .second, jv x1, .second, jv x2, .second, jv xe, .second, rv ob7, rv as_LAST_INDEX_FIRST, rv xb_18, rv ob27, iv 1] [])) _
    refine XS.aload X37.here hx rfl (hb hby at_293) rfl rfl ?_
    refine XS.iconst X37.here hx rfl (hb hby at_295) ?_
    show Steps p.tables e below (T37.setTop (mkF m 296 #[iv p0, jv p1, .second, jv p2, .second, jv p3, .second, jv p4, .second, iv 0, iv 1, jv x0, .second, jv x1, .second, jv x2, .second, jv xe, .second, rv ob7, rv as_LAST_INDEX_FIRST, rv xb_18, rv ob27, iv 1] [(.int 0), (.ref ob7)])) _
    exact k
  refine own_lift sg43 ?_
  show own_Go p.tables e below (T37.setTop (mkF m 296 #[iv p0, jv p1, .second, jv p2, .second, jv p3, .second, jv p4, .second, iv 0, iv 1, jv x0, .second, jv x1, .second, jv x2, .second, jv xe, .second, rv ob7, rv as_LAST_INDEX_FIRST, rv xb_18, rv ob27, iv 1] [(.int 0), (.ref ob7)])) _
  have Fc44 : Arv Z h37 ob7 ka7 .long (1 : Int32) [(.long x0)] (.long 0) := ((Fc32.ext Ex27).other W37 ne33)
  obtain ⟨cl45, Ar45, qx45, Sx45, N45', H45', G45'⟩ := id (Fc44)
  have hin45 : ¬ ((0 : Int32) < 0 ∨ cl45.slots.size ≤ ((0 : Int32)).toNatClampNeg) := inb_of Sx45 ⟨(by decide : ¬ ((0 : Int32) < (0 : Int32))), (by decide : (0 : Int32) < (1 : Int32))⟩
  have hat45 : cl45.slots[((0 : Int32)).toNatClampNeg]? = some (.long x0) := Has.at H45' hin45 rfl
  have sg46 : ∀ t, Steps p.tables e below (T37.setTop (mkF m 392 #[iv p0, jv p1, .second, jv p2, .second, jv p3, .second, jv p4, .second, iv 0, iv 1, jv x0, .second, jv x1, .second, jv x2, .second, jv xe, .second, rv ob7, rv as_LAST_INDEX_FIRST, rv xb_18, rv ob27, iv 1] [(.int 1)])) t → Steps p.tables e below (T37.setTop (mkF m 296 #[iv p0, jv p1, .second, jv p2, .second, jv p3, .second, jv p4, .second, iv 0, iv 1, jv x0, .second, jv x1, .second, jv x2, .second, jv xe, .second, rv ob7, rv as_LAST_INDEX_FIRST, rv xb_18, rv ob27, iv 1] [(.int 0), (.ref ob7)])) t := by
    intro t k
    refine X37.laload hx (j := (0 : Int32)) (v := (.long x0)) (by rw [e37]; exact Ar45.1) (State.isArrayOf_alike hZ.alike Ar45.2.1) Ar45.2.2 hin45 hat45 (g := (mkF m 296 #[iv p0, jv p1, .second, jv p2, .second, jv p3, .second, jv p4, .second, iv 0, iv 1, jv x0, .second, jv x1, .second, jv x2, .second, jv xe, .second, rv ob7, rv as_LAST_INDEX_FIRST, rv xb_18, rv ob27, iv 1] [(.int 0), (.ref ob7)])) rfl rfl (hb hby at_296) _ ?_
    show Steps p.tables e below (T37.setTop (mkF m 297 #[iv p0, jv p1, .second, jv p2, .second, jv p3, .second, jv p4, .second, iv 0, iv 1, jv x0, .second, jv x1, .second, jv x2, .second, jv xe, .second, rv ob7, rv as_LAST_INDEX_FIRST, rv xb_18, rv ob27, iv 1] [(.long x0)])) _
    refine XS.lload X37.here hx rfl (hb hby at_297) rfl ?_
    refine XS.lcmp X37.here hx rfl (hb hby at_299) rfl ?_
    show Steps p.tables e below (T37.setTop (mkF m 300 #[iv p0, jv p1, .second, jv p2, .second, jv p3, .second, jv p4, .second, iv 0, iv 1, jv x0, .second, jv x1, .second, jv x2, .second, jv xe, .second, rv ob7, rv as_LAST_INDEX_FIRST, rv xb_18, rv ob27, iv 1] [(.int (lcmpW x0 x0))])) _
    refine XS.ifNo X37.here hx rfl (hb hby at_300) rfl ((if0 _ _).trans (teq ((lw_eq x0 x0).2 (rfl : x0 = x0))).2) ?_
    refine XS.iconst X37.here hx rfl (hb hby at_303) ?_
    show Steps p.tables e below (T37.setTop (mkF m 304 #[iv p0, jv p1, .second, jv p2, .second, jv p3, .second, jv p4, .second, iv 0, iv 1, jv x0, .second, jv x1, .second, jv x2, .second, jv xe, .second, rv ob7, rv as_LAST_INDEX_FIRST, rv xb_18, rv ob27, iv 1] [(.int 1)])) _
    refine XS.goto X37.here hx rfl (pc0 := 304) (pc' := 308) rfl (hb hby at_304) (by decide) (by decide) ?_
    refine XS.istore X37.here hx rfl (hb hby at_308) rfl (l' := #[iv p0, jv p1, .second, jv p2, .second, jv p3, .second, jv p4, .second, iv 0, iv 1, jv x0, .second, jv x1, .second, jv x2, .second, jv xe, .second, rv ob7, rv as_LAST_INDEX_FIRST, rv xb_18, rv ob27, iv 1]) rfl ?_
    show Steps p.tables e below (T37.setTop (mkF m 310 #[iv p0, jv p1, .second, jv p2, .second, jv p3, .second, jv p4, .second, iv 0, iv 1, jv x0, .second, jv x1, .second, jv x2, .second, jv xe, .second, rv ob7, rv as_LAST_INDEX_FIRST, rv xb_18, rv ob27, iv 1] [])) _
    refine XS.iload X37.here hx rfl (hb hby at_310) rfl ?_
    refine XS.iconst X37.here hx rfl (hb hby at_312) ?_
    show Steps p.tables e below (T37.setTop (mkF m 313 #[iv p0, jv p1, .second, jv p2, .second, jv p3, .second, jv p4, .second, iv 0, iv 1, jv x0, .second, jv x1, .second, jv x2, .second, jv xe, .second, rv ob7, rv as_LAST_INDEX_FIRST, rv xb_18, rv ob27, iv 1] [(.int 1), (.int 1)])) _
    refine XS.icmpYes X37.here hx rfl (pc0 := 313) (pc' := 350) rfl (hb hby at_313) rfl (flt (by decide : ¬ ((1 : Int32) < (1 : Int32)))).2.2.2 (by decide) (by decide) ?_
    refine XS.iload X37.here hx rfl (hb hby at_350) rfl ?_
    show Steps p.tables e below (T37.setTop (mkF m 352 #[iv p0, jv p1, .second, jv p2, .second, jv p3, .second, jv p4, .second, iv 0, iv 1, jv x0, .second, jv x1, .second, jv x2, .second, jv xe, .second, rv ob7, rv as_LAST_INDEX_FIRST, rv xb_18, rv ob27, iv 1] [(.int 1)])) _
    refine XS.iconst X37.here hx rfl (hb hby at_352) ?_
    refine XS.icmpYes X37.here hx rfl (pc0 := 353) (pc' := 390) rfl (hb hby at_353) rfl (flt (by decide : ¬ ((2 : Int32) < (1 : Int32)))).2.2.2 (by decide) (by decide) ?_
    show Steps p.tables e below (T37.setTop (mkF m 390 #[iv p0, jv p1, .second, jv p2, .second, jv p3, .second, jv p4, .second, iv 0, iv 1, jv x0, .second, jv x1, .second, jv x2, .second, jv xe, .second, rv ob7, rv as_LAST_INDEX_FIRST, rv xb_18, rv ob27, iv 1] [])) _
    refine XS.iload X37.here hx rfl (hb hby at_390) rfl ?_
    show Steps p.tables e below (T37.setTop (mkF m 392 #[iv p0, jv p1, .second, jv p2, .second, jv p3, .second, jv p4, .second, iv 0, iv 1, jv x0, .second, jv x1, .second, jv x2, .second, jv xe, .second, rv ob7, rv as_LAST_INDEX_FIRST, rv xb_18, rv ob27, iv 1] [(.int 1)])) _
    exact k
  refine own_lift sg46 ?_
  show own_Go p.tables e below (T37.setTop (mkF m 392 #[iv p0, jv p1, .second, jv p2, .second, jv p3, .second, jv p4, .second, iv 0, iv 1, jv x0, .second, jv x1, .second, jv x2, .second, jv xe, .second, rv ob7, rv as_LAST_INDEX_FIRST, rv xb_18, rv ob27, iv 1] [(.int 1)])) _
  obtain ⟨fs, hr, hrun, hended, hW, hsame⟩ := X37.leave (v := some (.int 1)) (fun h => by rw [Bd.returns] at h; cases h)
  refine ⟨_, _, ?_, hrun, hended, _, _, rfl, ?_, ⟨_, rfl⟩, hW, hsame.mono (by decide) (by decide)⟩
  · exact retN X37 hx (t := .boolean) Bd.returns (by simp) (hb hby at_392) hr
  · show Q0 Z  h0 n0 _ T37.heap _
    rw [e37]
    exact ⟨rfl, N37⟩
theorem ef_rm0_2L (m : MethodId) (x0 : Int32) (x1 : Int64) (x2 : Int64) (x3 : Int64) (x4 : Int64) : entryFrame m #[(.int x0), (.long x1), (.long x2), (.long x3), (.long x4)] maxLocals = mkF m 0 #[.val (.int x0), .val (.long x1), .second, .val (.long x2), .second, .val (.long x3), .second, .val (.long x4), .second, .unset, .unset, .unset, .unset, .unset, .unset, .unset, .unset, .unset, .unset, .unset, .unset, .unset, .unset, .unset] [] := by first | (simp [entryFrame, mkF, argsToLocals, Value.category, maxLocals]; done) | rfl
set_option maxRecDepth 65536 in
set_option maxHeartbeats 40000000 in
theorem rm0_2L (l : Launch) (Z : State) (a0 : Array Value) (hw : ∀ d ∈ tables_1, d.before a0 Z = true) (ws : List Jvm.Cond) (p0 : Int32) (p1 : Int64) (p2 : Int64) (p3 : Int64) (p4 : Int64) (as_LAST_INDEX_FIRST : Addr) (as_FIRST_INDEX_FIRST : Addr) (x0 : Int64) (x1 : Int64) (x2 : Int64) (xe : Int64) (h0 : Heap) (n0 : Nat) (Z0 : n0 ≤ h0.size) (S_LAST_INDEX_FIRST : Sta Z h0 "com/example/halyard/halyard/east/ArrayStorage" "LAST_INDEX_FIRST" "Lcom/example/halyard/halyard/east/ArrayStorage;" (.ref as_LAST_INDEX_FIRST)) (E_LAST_INDEX_FIRST : Exa Z h0 as_LAST_INDEX_FIRST "com/example/halyard/halyard/east/ArrayStorage") (O_LAST_INDEX_FIRST : Fld Z h0 as_LAST_INDEX_FIRST "java/lang/Enum" "ordinal" "I" (.int 1)) (S_FIRST_INDEX_FIRST : Sta Z h0 "com/example/halyard/halyard/east/ArrayStorage" "FIRST_INDEX_FIRST" "Lcom/example/halyard/halyard/east/ArrayStorage;" (.ref as_FIRST_INDEX_FIRST)) (E_FIRST_INDEX_FIRST : Exa Z h0 as_FIRST_INDEX_FIRST "com/example/halyard/halyard/east/ArrayStorage") (O_FIRST_INDEX_FIRST : Fld Z h0 as_FIRST_INDEX_FIRST "java/lang/Enum" "ordinal" "I" (.int 0)) (hx0 : (p1 &&& (65535 : Int64)) = x0) (hx1 : (p2 &&& (65535 : Int64)) = x1) (hx2 : (p3 &&& (65535 : Int64)) = x2) (hxe : (p4 &&& (32767 : Int64)) = xe) (b1 : (p0 &&& (1 : Int32)) = (0 : Int32)) (hn : (((p0.toUInt32 >>> ((1 : Int32) &&& 31).toUInt32).toInt32) &&& (3 : Int32)) = (2 : Int32)) (hne : ¬ (as_LAST_INDEX_FIRST = as_FIRST_INDEX_FIRST)) :
    MetFree l x (head1 (Jvm.Cond.code x code maxLocals ret :: ws) room_1) (fun a U => a = #[(.int p0), (.long p1), (.long p2), (.long p3), (.long p4)] ∧ Z.Warmed39 U.vm ∧ U.heap = h0) (fun _ _ _ _ _ => True) (fun _ U o U' => ∃ v L, o = .returned v ∧ Q0 Z  h0 n0 v U'.heap L ∧ FrameEnd U o U' L 16 128) := by
  refine MetFree.of_bodySF (plainFor_of_name pn_1) hisR ?_
  intro p e s m args below meth c s₁ Bd hml0 hP hK
  obtain ⟨rfl, hZ, hh⟩ := hP
  have hx := Bd.exec
  have hby := Bd.bytes
  have hml : c.maxLocals = 24 := hml0
  have hown : s.vm.findClass "com/example/halyard/halyard/east/ArrayStorageStridesPinLaw" = some m.cls := findClass_of_methodNamed Bd.named
  have hnm := (name_of_methodNamed Bd.named Bd.method).1
  have X0 : Stand p l e room_1 s m #[(.int p0), (.long p1), (.long p2), (.long p3), (.long p4)] below meth c s₁ [] 0 0 := Stand.of_body Bd
  have e0 : s₁.heap = h0 := by rw [← hh, Bd.state]; rfl
  have N0 := Fr.nil n0
  refine own_go (own_lift (fun t k => castTop (ef_rm0_2L m p0 p1 p2 p3 p4) k) ?_)
  show own_Go p.tables e below (s₁.setTop (mkF m 0 #[iv p0, jv p1, .second, jv p2, .second, jv p3, .second, jv p4, .second, .unset, .unset, .unset, .unset, .unset, .unset, .unset, .unset, .unset, .unset, .unset, .unset, .unset, .unset, .unset] [])) _
  have sg1 : ∀ t, Steps p.tables e below (s₁.setTop (mkF m 18 #[iv p0, jv p1, .second, jv p2, .second, jv p3, .second, jv p4, .second, iv 0, .unset, .unset, .unset, .unset, .unset, .unset, .unset, .unset, .unset, .unset, .unset, .unset, .unset, .unset] [(.int (((p0.toUInt32 >>> ((1 : Int32) &&& 31).toUInt32).toInt32) &&& (3 : Int32)))])) t → Steps p.tables e below (s₁.setTop (mkF m 0 #[iv p0, jv p1, .second, jv p2, .second, jv p3, .second, jv p4, .second, .unset, .unset, .unset, .unset, .unset, .unset, .unset, .unset, .unset, .unset, .unset, .unset, .unset, .unset, .unset] [])) t := by
    intro t k
    refine XS.iloadN X0.here hx rfl (hb hby at_0) rfl ?_
    show Steps p.tables e below (s₁.setTop (mkF m 1 #[iv p0, jv p1, .second, jv p2, .second, jv p3, .second, jv p4, .second, .unset, .unset, .unset, .unset, .unset, .unset, .unset, .unset, .unset, .unset, .unset, .unset, .unset, .unset, .unset] [(.int p0)])) _
    refine XS.iconst X0.here hx rfl (hb hby at_1) ?_
    refine XS.iand X0.here hx rfl (hb hby at_2) rfl ?_
    show Steps p.tables e below (s₁.setTop (mkF m 3 #[iv p0, jv p1, .second, jv p2, .second, jv p3, .second, jv p4, .second, .unset, .unset, .unset, .unset, .unset, .unset, .unset, .unset, .unset, .unset, .unset, .unset, .unset, .unset, .unset] [(.int (p0 &&& (1 : Int32)))])) _
    refine XS.ifYes X0.here hx rfl (pc0 := 3) (pc' := 10) rfl (hb hby at_3) rfl ((if0 _ _).trans (teq b1).1) (by decide) (by decide) ?_
    refine XS.iconst X0.here hx rfl (hb hby at_10) ?_
    show Steps p.tables e below (s₁.setTop (mkF m 11 #[iv p0, jv p1, .second, jv p2, .second, jv p3, .second, jv p4, .second, .unset, .unset, .unset, .unset, .unset, .unset, .unset, .unset, .unset, .unset, .unset, .unset, .unset, .unset, .unset] [(.int 0)])) _
    refine XS.istore X0.here hx rfl (hb hby at_11) rfl (l' := #[iv p0, jv p1, .second, jv p2, .second, jv p3, .second, jv p4, .second, iv 0, .unset, .unset, .unset, .unset, .unset, .unset, .unset, .unset, .unset, .unset, .unset, .unset, .unset, .unset]) rfl ?_
    refine XS.iloadN X0.here hx rfl (hb hby at_13) rfl ?_
    show Steps p.tables e below (s₁.setTop (mkF m 14 #[iv p0, jv p1, .second, jv p2, .second, jv p3, .second, jv p4, .second, iv 0, .unset, .unset, .unset, .unset, .unset, .unset, .unset, .unset, .unset, .unset, .unset, .unset, .unset, .unset] [(.int p0)])) _
    refine XS.iconst X0.here hx rfl (hb hby at_14) ?_
    refine XS.iushr X0.here hx rfl (hb hby at_15) rfl ?_
    show Steps p.tables e below (s₁.setTop (mkF m 16 #[iv p0, jv p1, .second, jv p2, .second, jv p3, .second, jv p4, .second, iv 0, .unset, .unset, .unset, .unset, .unset, .unset, .unset, .unset, .unset, .unset, .unset, .unset, .unset, .unset] [(.int ((p0.toUInt32 >>> ((1 : Int32) &&& 31).toUInt32).toInt32))])) _
    refine XS.iconst X0.here hx rfl (hb hby at_16) ?_
    refine XS.iand X0.here hx rfl (hb hby at_17) rfl ?_
    show Steps p.tables e below (s₁.setTop (mkF m 18 #[iv p0, jv p1, .second, jv p2, .second, jv p3, .second, jv p4, .second, iv 0, .unset, .unset, .unset, .unset, .unset, .unset, .unset, .unset, .unset, .unset, .unset, .unset, .unset, .unset] [(.int (((p0.toUInt32 >>> ((1 : Int32) &&& 31).toUInt32).toInt32) &&& (3 : Int32)))])) _
    exact k
  refine own_lift sg1 ?_
  show own_Go p.tables e below (s₁.setTop (mkF m 18 #[iv p0, jv p1, .second, jv p2, .second, jv p3, .second, jv p4, .second, iv 0, .unset, .unset, .unset, .unset, .unset, .unset, .unset, .unset, .unset, .unset, .unset, .unset, .unset, .unset] [(.int (((p0.toUInt32 >>> ((1 : Int32) &&& 31).toUInt32).toInt32) &&& (3 : Int32)))])) _
  rw [hn]
  show own_Go p.tables e below (s₁.setTop (mkF m 18 #[iv p0, jv p1, .second, jv p2, .second, jv p3, .second, jv p4, .second, iv 0, .unset, .unset, .unset, .unset, .unset, .unset, .unset, .unset, .unset, .unset, .unset, .unset, .unset, .unset] [(.int 2)])) _
  have sg2 : ∀ t, Steps p.tables e below (s₁.setTop (mkF m 25 #[iv p0, jv p1, .second, jv p2, .second, jv p3, .second, jv p4, .second, iv 0, iv 2, .unset, .unset, .unset, .unset, .unset, .unset, .unset, .unset, .unset, .unset, .unset, .unset, .unset] [(.long (p1 &&& (65535 : Int64)))])) t → Steps p.tables e below (s₁.setTop (mkF m 18 #[iv p0, jv p1, .second, jv p2, .second, jv p3, .second, jv p4, .second, iv 0, .unset, .unset, .unset, .unset, .unset, .unset, .unset, .unset, .unset, .unset, .unset, .unset, .unset, .unset] [(.int 2)])) t := by
    intro t k
    refine XS.istore X0.here hx rfl (hb hby at_18) rfl (l' := #[iv p0, jv p1, .second, jv p2, .second, jv p3, .second, jv p4, .second, iv 0, iv 2, .unset, .unset, .unset, .unset, .unset, .unset, .unset, .unset, .unset, .unset, .unset, .unset, .unset]) rfl ?_
    show Steps p.tables e below (s₁.setTop (mkF m 20 #[iv p0, jv p1, .second, jv p2, .second, jv p3, .second, jv p4, .second, iv 0, iv 2, .unset, .unset, .unset, .unset, .unset, .unset, .unset, .unset, .unset, .unset, .unset, .unset, .unset] [])) _
    refine XS.lloadN X0.here hx rfl (hb hby at_20) rfl ?_
    refine X0.ldc2Long hx hown (mvT hZ (wd hw 0 rfl)) (g := (mkF m 21 #[iv p0, jv p1, .second, jv p2, .second, jv p3, .second, jv p4, .second, iv 0, iv 2, .unset, .unset, .unset, .unset, .unset, .unset, .unset, .unset, .unset, .unset, .unset, .unset, .unset] [(.long p1)])) rfl (hb hby at_21) _ ?_
    show Steps p.tables e below (s₁.setTop (mkF m 24 #[iv p0, jv p1, .second, jv p2, .second, jv p3, .second, jv p4, .second, iv 0, iv 2, .unset, .unset, .unset, .unset, .unset, .unset, .unset, .unset, .unset, .unset, .unset, .unset, .unset] [(.long 65535), (.long p1)])) _
    refine XS.land X0.here hx rfl (hb hby at_24) rfl ?_
    show Steps p.tables e below (s₁.setTop (mkF m 25 #[iv p0, jv p1, .second, jv p2, .second, jv p3, .second, jv p4, .second, iv 0, iv 2, .unset, .unset, .unset, .unset, .unset, .unset, .unset, .unset, .unset, .unset, .unset, .unset, .unset] [(.long (p1 &&& (65535 : Int64)))])) _
    exact k
  refine own_lift sg2 ?_
  show own_Go p.tables e below (s₁.setTop (mkF m 25 #[iv p0, jv p1, .second, jv p2, .second, jv p3, .second, jv p4, .second, iv 0, iv 2, .unset, .unset, .unset, .unset, .unset, .unset, .unset, .unset, .unset, .unset, .unset, .unset, .unset] [(.long (p1 &&& (65535 : Int64)))])) _
  rw [hx0]
  show own_Go p.tables e below (s₁.setTop (mkF m 25 #[iv p0, jv p1, .second, jv p2, .second, jv p3, .second, jv p4, .second, iv 0, iv 2, .unset, .unset, .unset, .unset, .unset, .unset, .unset, .unset, .unset, .unset, .unset, .unset, .unset] [(.long x0)])) _
  have sg3 : ∀ t, Steps p.tables e below (s₁.setTop (mkF m 32 #[iv p0, jv p1, .second, jv p2, .second, jv p3, .second, jv p4, .second, iv 0, iv 2, jv x0, .second, .unset, .unset, .unset, .unset, .unset, .unset, .unset, .unset, .unset, .unset, .unset] [(.long (p2 &&& (65535 : Int64)))])) t → Steps p.tables e below (s₁.setTop (mkF m 25 #[iv p0, jv p1, .second, jv p2, .second, jv p3, .second, jv p4, .second, iv 0, iv 2, .unset, .unset, .unset, .unset, .unset, .unset, .unset, .unset, .unset, .unset, .unset, .unset, .unset] [(.long x0)])) t := by
    intro t k
    refine XS.lstore X0.here hx rfl (hb hby at_25) rfl (l' := #[iv p0, jv p1, .second, jv p2, .second, jv p3, .second, jv p4, .second, iv 0, iv 2, jv x0, .second, .unset, .unset, .unset, .unset, .unset, .unset, .unset, .unset, .unset, .unset, .unset]) rfl ?_
    show Steps p.tables e below (s₁.setTop (mkF m 27 #[iv p0, jv p1, .second, jv p2, .second, jv p3, .second, jv p4, .second, iv 0, iv 2, jv x0, .second, .unset, .unset, .unset, .unset, .unset, .unset, .unset, .unset, .unset, .unset, .unset] [])) _
    refine XS.lloadN X0.here hx rfl (hb hby at_27) rfl ?_
    refine X0.ldc2Long hx hown (mvT hZ (wd hw 0 rfl)) (g := (mkF m 28 #[iv p0, jv p1, .second, jv p2, .second, jv p3, .second, jv p4, .second, iv 0, iv 2, jv x0, .second, .unset, .unset, .unset, .unset, .unset, .unset, .unset, .unset, .unset, .unset, .unset] [(.long p2)])) rfl (hb hby at_28) _ ?_
    show Steps p.tables e below (s₁.setTop (mkF m 31 #[iv p0, jv p1, .second, jv p2, .second, jv p3, .second, jv p4, .second, iv 0, iv 2, jv x0, .second, .unset, .unset, .unset, .unset, .unset, .unset, .unset, .unset, .unset, .unset, .unset] [(.long 65535), (.long p2)])) _
    refine XS.land X0.here hx rfl (hb hby at_31) rfl ?_
    show Steps p.tables e below (s₁.setTop (mkF m 32 #[iv p0, jv p1, .second, jv p2, .second, jv p3, .second, jv p4, .second, iv 0, iv 2, jv x0, .second, .unset, .unset, .unset, .unset, .unset, .unset, .unset, .unset, .unset, .unset, .unset] [(.long (p2 &&& (65535 : Int64)))])) _
    exact k
  refine own_lift sg3 ?_
  show own_Go p.tables e below (s₁.setTop (mkF m 32 #[iv p0, jv p1, .second, jv p2, .second, jv p3, .second, jv p4, .second, iv 0, iv 2, jv x0, .second, .unset, .unset, .unset, .unset, .unset, .unset, .unset, .unset, .unset, .unset, .unset] [(.long (p2 &&& (65535 : Int64)))])) _
  rw [hx1]
  show own_Go p.tables e below (s₁.setTop (mkF m 32 #[iv p0, jv p1, .second, jv p2, .second, jv p3, .second, jv p4, .second, iv 0, iv 2, jv x0, .second, .unset, .unset, .unset, .unset, .unset, .unset, .unset, .unset, .unset, .unset, .unset] [(.long x1)])) _
  have sg4 : ∀ t, Steps p.tables e below (s₁.setTop (mkF m 40 #[iv p0, jv p1, .second, jv p2, .second, jv p3, .second, jv p4, .second, iv 0, iv 2, jv x0, .second, jv x1, .second, .unset, .unset, .unset, .unset, .unset, .unset, .unset, .unset, .unset] [(.long (p3 &&& (65535 : Int64)))])) t → Steps p.tables e below (s₁.setTop (mkF m 32 #[iv p0, jv p1, .second, jv p2, .second, jv p3, .second, jv p4, .second, iv 0, iv 2, jv x0, .second, .unset, .unset, .unset, .unset, .unset, .unset, .unset, .unset, .unset, .unset, .unset] [(.long x1)])) t := by
    intro t k
    refine XS.lstore X0.here hx rfl (hb hby at_32) rfl (l' := #[iv p0, jv p1, .second, jv p2, .second, jv p3, .second, jv p4, .second, iv 0, iv 2, jv x0, .second, jv x1, .second, .unset, .unset, .unset, .unset, .unset, .unset, .unset, .unset, .unset]) rfl ?_
    show Steps p.tables e below (s₁.setTop (mkF m 34 #[iv p0, jv p1, .second, jv p2, .second, jv p3, .second, jv p4, .second, iv 0, iv 2, jv x0, .second, jv x1, .second, .unset, .unset, .unset, .unset, .unset, .unset, .unset, .unset, .unset] [])) _
    refine XS.lload X0.here hx rfl (hb hby at_34) rfl ?_
    refine X0.ldc2Long hx hown (mvT hZ (wd hw 0 rfl)) (g := (mkF m 36 #[iv p0, jv p1, .second, jv p2, .second, jv p3, .second, jv p4, .second, iv 0, iv 2, jv x0, .second, jv x1, .second, .unset, .unset, .unset, .unset, .unset, .unset, .unset, .unset, .unset] [(.long p3)])) rfl (hb hby at_36) _ ?_
    show Steps p.tables e below (s₁.setTop (mkF m 39 #[iv p0, jv p1, .second, jv p2, .second, jv p3, .second, jv p4, .second, iv 0, iv 2, jv x0, .second, jv x1, .second, .unset, .unset, .unset, .unset, .unset, .unset, .unset, .unset, .unset] [(.long 65535), (.long p3)])) _
    refine XS.land X0.here hx rfl (hb hby at_39) rfl ?_
    show Steps p.tables e below (s₁.setTop (mkF m 40 #[iv p0, jv p1, .second, jv p2, .second, jv p3, .second, jv p4, .second, iv 0, iv 2, jv x0, .second, jv x1, .second, .unset, .unset, .unset, .unset, .unset, .unset, .unset, .unset, .unset] [(.long (p3 &&& (65535 : Int64)))])) _
    exact k
  refine own_lift sg4 ?_
  show own_Go p.tables e below (s₁.setTop (mkF m 40 #[iv p0, jv p1, .second, jv p2, .second, jv p3, .second, jv p4, .second, iv 0, iv 2, jv x0, .second, jv x1, .second, .unset, .unset, .unset, .unset, .unset, .unset, .unset, .unset, .unset] [(.long (p3 &&& (65535 : Int64)))])) _
  rw [hx2]
  show own_Go p.tables e below (s₁.setTop (mkF m 40 #[iv p0, jv p1, .second, jv p2, .second, jv p3, .second, jv p4, .second, iv 0, iv 2, jv x0, .second, jv x1, .second, .unset, .unset, .unset, .unset, .unset, .unset, .unset, .unset, .unset] [(.long x2)])) _
  have sg5 : ∀ t, Steps p.tables e below (s₁.setTop (mkF m 48 #[iv p0, jv p1, .second, jv p2, .second, jv p3, .second, jv p4, .second, iv 0, iv 2, jv x0, .second, jv x1, .second, jv x2, .second, .unset, .unset, .unset, .unset, .unset, .unset, .unset] [(.long (p4 &&& (32767 : Int64)))])) t → Steps p.tables e below (s₁.setTop (mkF m 40 #[iv p0, jv p1, .second, jv p2, .second, jv p3, .second, jv p4, .second, iv 0, iv 2, jv x0, .second, jv x1, .second, .unset, .unset, .unset, .unset, .unset, .unset, .unset, .unset, .unset] [(.long x2)])) t := by
    intro t k
    refine XS.lstore X0.here hx rfl (hb hby at_40) rfl (l' := #[iv p0, jv p1, .second, jv p2, .second, jv p3, .second, jv p4, .second, iv 0, iv 2, jv x0, .second, jv x1, .second, jv x2, .second, .unset, .unset, .unset, .unset, .unset, .unset, .unset]) rfl ?_
    show Steps p.tables e below (s₁.setTop (mkF m 42 #[iv p0, jv p1, .second, jv p2, .second, jv p3, .second, jv p4, .second, iv 0, iv 2, jv x0, .second, jv x1, .second, jv x2, .second, .unset, .unset, .unset, .unset, .unset, .unset, .unset] [])) _
    refine XS.lload X0.here hx rfl (hb hby at_42) rfl ?_
    refine X0.ldc2Long hx hown (mvT hZ (wd hw 1 rfl)) (g := (mkF m 44 #[iv p0, jv p1, .second, jv p2, .second, jv p3, .second, jv p4, .second, iv 0, iv 2, jv x0, .second, jv x1, .second, jv x2, .second, .unset, .unset, .unset, .unset, .unset, .unset, .unset] [(.long p4)])) rfl (hb hby at_44) _ ?_
    show Steps p.tables e below (s₁.setTop (mkF m 47 #[iv p0, jv p1, .second, jv p2, .second, jv p3, .second, jv p4, .second, iv 0, iv 2, jv x0, .second, jv x1, .second, jv x2, .second, .unset, .unset, .unset, .unset, .unset, .unset, .unset] [(.long 32767), (.long p4)])) _
    refine XS.land X0.here hx rfl (hb hby at_47) rfl ?_
    show Steps p.tables e below (s₁.setTop (mkF m 48 #[iv p0, jv p1, .second, jv p2, .second, jv p3, .second, jv p4, .second, iv 0, iv 2, jv x0, .second, jv x1, .second, jv x2, .second, .unset, .unset, .unset, .unset, .unset, .unset, .unset] [(.long (p4 &&& (32767 : Int64)))])) _
    exact k
  refine own_lift sg5 ?_
  show own_Go p.tables e below (s₁.setTop (mkF m 48 #[iv p0, jv p1, .second, jv p2, .second, jv p3, .second, jv p4, .second, iv 0, iv 2, jv x0, .second, jv x1, .second, jv x2, .second, .unset, .unset, .unset, .unset, .unset, .unset, .unset] [(.long (p4 &&& (32767 : Int64)))])) _
  rw [hxe]
  show own_Go p.tables e below (s₁.setTop (mkF m 48 #[iv p0, jv p1, .second, jv p2, .second, jv p3, .second, jv p4, .second, iv 0, iv 2, jv x0, .second, jv x1, .second, jv x2, .second, .unset, .unset, .unset, .unset, .unset, .unset, .unset] [(.long xe)])) _
  have sg6 : ∀ t, Steps p.tables e below (s₁.setTop (mkF m 52 #[iv p0, jv p1, .second, jv p2, .second, jv p3, .second, jv p4, .second, iv 0, iv 2, jv x0, .second, jv x1, .second, jv x2, .second, jv xe, .second, .unset, .unset, .unset, .unset, .unset] [(.int 2)])) t → Steps p.tables e below (s₁.setTop (mkF m 48 #[iv p0, jv p1, .second, jv p2, .second, jv p3, .second, jv p4, .second, iv 0, iv 2, jv x0, .second, jv x1, .second, jv x2, .second, .unset, .unset, .unset, .unset, .unset, .unset, .unset] [(.long xe)])) t := by
    intro t k
    refine XS.lstore X0.here hx rfl (hb hby at_48) rfl (l' := #[iv p0, jv p1, .second, jv p2, .second, jv p3, .second, jv p4, .second, iv 0, iv 2, jv x0, .second, jv x1, .second, jv x2, .second, jv xe, .second, .unset, .unset, .unset, .unset, .unset]) rfl ?_
    show Steps p.tables e below (s₁.setTop (mkF m 50 #[iv p0, jv p1, .second, jv p2, .second, jv p3, .second, jv p4, .second, iv 0, iv 2, jv x0, .second, jv x1, .second, jv x2, .second, jv xe, .second, .unset, .unset, .unset, .unset, .unset] [])) _
    refine XS.iload X0.here hx rfl (hb hby at_50) rfl ?_
    show Steps p.tables e below (s₁.setTop (mkF m 52 #[iv p0, jv p1, .second, jv p2, .second, jv p3, .second, jv p4, .second, iv 0, iv 2, jv x0, .second, jv x1, .second, jv x2, .second, jv xe, .second, .unset, .unset, .unset, .unset, .unset] [(.int 2)])) _
    exact k
  refine own_lift sg6 ?_
  show own_Go p.tables e below (s₁.setTop (mkF m 52 #[iv p0, jv p1, .second, jv p2, .second, jv p3, .second, jv p4, .second, iv 0, iv 2, jv x0, .second, jv x1, .second, jv x2, .second, jv xe, .second, .unset, .unset, .unset, .unset, .unset] [(.int 2)])) _
  obtain ⟨T7, h7, ka7, X7, e7, Ex7, Ax7, st7⟩ := newP X0 hx hZ (wd hw 2 rfl) e0 (g := (mkF m 52 #[iv p0, jv p1, .second, jv p2, .second, jv p3, .second, jv p4, .second, iv 0, iv 2, jv x0, .second, jv x1, .second, jv x2, .second, jv xe, .second, .unset, .unset, .unset, .unset, .unset] [(.int 2)])) rfl (hb hby at_52) rfl (by decide) (cap := 2) (by decide) (by decide) (by decide) (by decide)
  obtain ⟨ob7, g7⟩ : ∃ z, z = h0.size := ⟨_, rfl⟩
  rw [← g7] at Ax7 st7
  have ne8 : as_LAST_INDEX_FIRST ≠ ob7 := Nat.ne_of_lt (Nat.lt_of_lt_of_le E_LAST_INDEX_FIRST.lt (Nat.le_of_eq g7.symm))
  have ne9 : as_FIRST_INDEX_FIRST ≠ ob7 := Nat.ne_of_lt (Nat.lt_of_lt_of_le E_FIRST_INDEX_FIRST.lt (Nat.le_of_eq g7.symm))
  have Z7 : n0 ≤ h7.size := Nat.le_trans Z0 Ex7.1
  have ge7 : n0 ≤ ob7 := Nat.le_trans Z0 (Nat.le_of_eq g7.symm)
  have Vn7 : Arv Z h7 ob7 ka7 .long (2 : Int32) [(.long 0), (.long 0)] (.long 0) := (Arv.new Ax7 (by decide)).pad (pad_rep [] (.long 0) 2)
  refine own_lift st7 ?_
  show own_Go p.tables e below (T7.setTop (mkF m 54 #[iv p0, jv p1, .second, jv p2, .second, jv p3, .second, jv p4, .second, iv 0, iv 2, jv x0, .second, jv x1, .second, jv x2, .second, jv xe, .second, .unset, .unset, .unset, .unset, .unset] [(.ref ob7)])) _
  have sg10 : ∀ t, Steps p.tables e below (T7.setTop (mkF m 66 #[iv p0, jv p1, .second, jv p2, .second, jv p3, .second, jv p4, .second, iv 0, iv 2, jv x0, .second, jv x1, .second, jv x2, .second, jv xe, .second, rv ob7, .unset, .unset, .unset, .unset] [(.long x0), (.int 0), (.ref ob7)])) t → Steps p.tables e below (T7.setTop (mkF m 54 #[iv p0, jv p1, .second, jv p2, .second, jv p3, .second, jv p4, .second, iv 0, iv 2, jv x0, .second, jv x1, .second, jv x2, .second, jv xe, .second, .unset, .unset, .unset, .unset, .unset] [(.ref ob7)])) t := by
    intro t k
    refine XS.astore X7.here hx rfl (hb hby at_54) rfl rfl (l' := #[iv p0, jv p1, .second, jv p2, .second, jv p3, .second, jv p4, .second, iv 0, iv 2, jv x0, .second, jv x1, .second, jv x2, .second, jv xe, .second, rv ob7, .unset, .unset, .unset, .unset]) rfl ?_
    show Steps p.tables e below (T7.setTop (mkF m 56 #[iv p0, jv p1, .second, jv p2, .second, jv p3, .second, jv p4, .second, iv 0, iv 2, jv x0, .second, jv x1, .second, jv x2, .second, jv xe, .second, rv ob7, .unset, .unset, .unset, .unset] [])) _
    refine XS.iload X7.here hx rfl (hb hby at_56) rfl ?_
    refine XS.ifNo X7.here hx rfl (hb hby at_58) rfl ((if0 _ _).trans (tlt (by decide : (0 : Int32) < (2 : Int32))).2.2.2) ?_
    show Steps p.tables e below (T7.setTop (mkF m 61 #[iv p0, jv p1, .second, jv p2, .second, jv p3, .second, jv p4, .second, iv 0, iv 2, jv x0, .second, jv x1, .second, jv x2, .second, jv xe, .second, rv ob7, .unset, .unset, .unset, .unset] [])) _
    refine XS.aload X7.here hx rfl (hb hby at_61) rfl rfl ?_
    refine XS.iconst X7.here hx rfl (hb hby at_63) ?_
    show Steps p.tables e below (T7.setTop (mkF m 64 #[iv p0, jv p1, .second, jv p2, .second, jv p3, .second, jv p4, .second, iv 0, iv 2, jv x0, .second, jv x1, .second, jv x2, .second, jv xe, .second, rv ob7, .unset, .unset, .unset, .unset] [(.int 0), (.ref ob7)])) _
    refine XS.lload X7.here hx rfl (hb hby at_64) rfl ?_
    show Steps p.tables e below (T7.setTop (mkF m 66 #[iv p0, jv p1, .second, jv p2, .second, jv p3, .second, jv p4, .second, iv 0, iv 2, jv x0, .second, jv x1, .second, jv x2, .second, jv xe, .second, rv ob7, .unset, .unset, .unset, .unset] [(.long x0), (.int 0), (.ref ob7)])) _
    exact k
  refine own_lift sg10 ?_
  show own_Go p.tables e below (T7.setTop (mkF m 66 #[iv p0, jv p1, .second, jv p2, .second, jv p3, .second, jv p4, .second, iv 0, iv 2, jv x0, .second, jv x1, .second, jv x2, .second, jv xe, .second, rv ob7, .unset, .unset, .unset, .unset] [(.long x0), (.int 0), (.ref ob7)])) _
  obtain ⟨cl11, Ar11, qx11, Sx11, N11', H11', G11'⟩ := id (Vn7)
  have hin11 : ¬ ((0 : Int32) < 0 ∨ cl11.slots.size ≤ ((0 : Int32)).toNatClampNeg) := inb_of Sx11 ⟨(by decide : ¬ ((0 : Int32) < (0 : Int32))), (by decide : (0 : Int32) < (2 : Int32))⟩
  obtain ⟨T12, h12, X12, e12, W12, st12⟩ := stJ X7 hx hZ e7 Ar11 (j := (0 : Int32)) hin11 (g := (mkF m 66 #[iv p0, jv p1, .second, jv p2, .second, jv p3, .second, jv p4, .second, iv 0, iv 2, jv x0, .second, jv x1, .second, jv x2, .second, jv xe, .second, rv ob7, .unset, .unset, .unset, .unset] [(.long x0), (.int 0), (.ref ob7)])) rfl rfl (hb hby at_66)
  have N12 := Fr.snoc X12 N0 ge7
  have Z12 : n0 ≤ h12.size := Nat.le_trans Z7 (Nat.le_of_eq W12.size.symm)
  have Vn12 : Arv Z h12 ob7 ka7 .long (2 : Int32) [(.long x0), (.long 0)] (.long 0) := Arv.set Ar11 qx11 Sx11 N11' H11' G11' rfl W12 0 rfl (Nat.le_of_ble_eq_true rfl)
  refine own_lift st12 ?_
  show own_Go p.tables e below (T12.setTop (mkF m 67 #[iv p0, jv p1, .second, jv p2, .second, jv p3, .second, jv p4, .second, iv 0, iv 2, jv x0, .second, jv x1, .second, jv x2, .second, jv xe, .second, rv ob7, .unset, .unset, .unset, .unset] [])) _
  have sg13 : ∀ t, Steps p.tables e below (T12.setTop (mkF m 78 #[iv p0, jv p1, .second, jv p2, .second, jv p3, .second, jv p4, .second, iv 0, iv 2, jv x0, .second, jv x1, .second, jv x2, .second, jv xe, .second, rv ob7, .unset, .unset, .unset, .unset] [(.long x1), (.int 1), (.ref ob7)])) t → Steps p.tables e below (T12.setTop (mkF m 67 #[iv p0, jv p1, .second, jv p2, .second, jv p3, .second, jv p4, .second, iv 0, iv 2, jv x0, .second, jv x1, .second, jv x2, .second, jv xe, .second, rv ob7, .unset, .unset, .unset, .unset] [])) t := by
    intro t k
    refine XS.iload X12.here hx rfl (hb hby at_67) rfl ?_
    show Steps p.tables e below (T12.setTop (mkF m 69 #[iv p0, jv p1, .second, jv p2, .second, jv p3, .second, jv p4, .second, iv 0, iv 2, jv x0, .second, jv x1, .second, jv x2, .second, jv xe, .second, rv ob7, .unset, .unset, .unset, .unset] [(.int 2)])) _
    refine XS.iconst X12.here hx rfl (hb hby at_69) ?_
    refine XS.icmpNo X12.here hx rfl (hb hby at_70) rfl (tlt (by decide : (1 : Int32) < (2 : Int32))).2.2.2 ?_
    show Steps p.tables e below (T12.setTop (mkF m 73 #[iv p0, jv p1, .second, jv p2, .second, jv p3, .second, jv p4, .second, iv 0, iv 2, jv x0, .second, jv x1, .second, jv x2, .second, jv xe, .second, rv ob7, .unset, .unset, .unset, .unset] [])) _
    refine XS.aload X12.here hx rfl (hb hby at_73) rfl rfl ?_
    refine XS.iconst X12.here hx rfl (hb hby at_75) ?_
    show Steps p.tables e below (T12.setTop (mkF m 76 #[iv p0, jv p1, .second, jv p2, .second, jv p3, .second, jv p4, .second, iv 0, iv 2, jv x0, .second, jv x1, .second, jv x2, .second, jv xe, .second, rv ob7, .unset, .unset, .unset, .unset] [(.int 1), (.ref ob7)])) _
    refine XS.lload X12.here hx rfl (hb hby at_76) rfl ?_
    show Steps p.tables e below (T12.setTop (mkF m 78 #[iv p0, jv p1, .second, jv p2, .second, jv p3, .second, jv p4, .second, iv 0, iv 2, jv x0, .second, jv x1, .second, jv x2, .second, jv xe, .second, rv ob7, .unset, .unset, .unset, .unset] [(.long x1), (.int 1), (.ref ob7)])) _
    exact k
  refine own_lift sg13 ?_
  show own_Go p.tables e below (T12.setTop (mkF m 78 #[iv p0, jv p1, .second, jv p2, .second, jv p3, .second, jv p4, .second, iv 0, iv 2, jv x0, .second, jv x1, .second, jv x2, .second, jv xe, .second, rv ob7, .unset, .unset, .unset, .unset] [(.long x1), (.int 1), (.ref ob7)])) _
  obtain ⟨cl14, Ar14, qx14, Sx14, N14', H14', G14'⟩ := id (Vn12)
  have hin14 : ¬ ((1 : Int32) < 0 ∨ cl14.slots.size ≤ ((1 : Int32)).toNatClampNeg) := inb_of Sx14 ⟨(by decide : ¬ ((1 : Int32) < (0 : Int32))), (by decide : (1 : Int32) < (2 : Int32))⟩
  obtain ⟨T15, h15, X15, e15, W15, st15⟩ := stJ X12 hx hZ e12 Ar14 (j := (1 : Int32)) hin14 (g := (mkF m 78 #[iv p0, jv p1, .second, jv p2, .second, jv p3, .second, jv p4, .second, iv 0, iv 2, jv x0, .second, jv x1, .second, jv x2, .second, jv xe, .second, rv ob7, .unset, .unset, .unset, .unset] [(.long x1), (.int 1), (.ref ob7)])) rfl rfl (hb hby at_78)
  have N15 := Fr.snoc X15 N12 ge7
  have Z15 : n0 ≤ h15.size := Nat.le_trans Z12 (Nat.le_of_eq W15.size.symm)
  have Vn15 : Arv Z h15 ob7 ka7 .long (2 : Int32) [(.long x0), (.long x1)] (.long 0) := Arv.set Ar14 qx14 Sx14 N14' H14' G14' rfl W15 1 rfl (Nat.le_of_ble_eq_true rfl)
  refine own_lift st15 ?_
  show own_Go p.tables e below (T15.setTop (mkF m 79 #[iv p0, jv p1, .second, jv p2, .second, jv p3, .second, jv p4, .second, iv 0, iv 2, jv x0, .second, jv x1, .second, jv x2, .second, jv xe, .second, rv ob7, .unset, .unset, .unset, .unset] [])) _
  have sg16 : ∀ t, Steps p.tables e below (T15.setTop (mkF m 102 #[iv p0, jv p1, .second, jv p2, .second, jv p3, .second, jv p4, .second, iv 0, iv 2, jv x0, .second, jv x1, .second, jv x2, .second, jv xe, .second, rv ob7, .unset, .unset, .unset, .unset] [])) t → Steps p.tables e below (T15.setTop (mkF m 79 #[iv p0, jv p1, .second, jv p2, .second, jv p3, .second, jv p4, .second, iv 0, iv 2, jv x0, .second, jv x1, .second, jv x2, .second, jv xe, .second, rv ob7, .unset, .unset, .unset, .unset] [])) t := by
    intro t k
    refine XS.iload X15.here hx rfl (hb hby at_79) rfl ?_
    show Steps p.tables e below (T15.setTop (mkF m 81 #[iv p0, jv p1, .second, jv p2, .second, jv p3, .second, jv p4, .second, iv 0, iv 2, jv x0, .second, jv x1, .second, jv x2, .second, jv xe, .second, rv ob7, .unset, .unset, .unset, .unset] [(.int 2)])) _
    refine XS.iconst X15.here hx rfl (hb hby at_81) ?_
    refine XS.icmpYes X15.here hx rfl (pc0 := 82) (pc' := 91) rfl (hb hby at_82) rfl (flt (by decide : ¬ ((2 : Int32) < (2 : Int32)))).2.2.2 (by decide) (by decide) ?_
    show Steps p.tables e below (T15.setTop (mkF m 91 #[iv p0, jv p1, .second, jv p2, .second, jv p3, .second, jv p4, .second, iv 0, iv 2, jv x0, .second, jv x1, .second, jv x2, .second, jv xe, .second, rv ob7, .unset, .unset, .unset, .unset] [])) _
    refine XS.iload X15.here hx rfl (hb hby at_91) rfl ?_
    refine XS.ifYes X15.here hx rfl (pc0 := 93) (pc' := 102) rfl (hb hby at_93) rfl ((if0 _ _).trans (teq (by decide : (0 : Int32) = (0 : Int32))).1) (by decide) (by decide) ?_
    show Steps p.tables e below (T15.setTop (mkF m 102 #[iv p0, jv p1, .second, jv p2, .second, jv p3, .second, jv p4, .second, iv 0, iv 2, jv x0, .second, jv x1, .second, jv x2, .second, jv xe, .second, rv ob7, .unset, .unset, .unset, .unset] [])) _
    exact k
  refine own_lift sg16 ?_
  show own_Go p.tables e below (T15.setTop (mkF m 102 #[iv p0, jv p1, .second, jv p2, .second, jv p3, .second, jv p4, .second, iv 0, iv 2, jv x0, .second, jv x1, .second, jv x2, .second, jv xe, .second, rv ob7, .unset, .unset, .unset, .unset] [])) _
  have Fc17 : Sta Z h15 "com/example/halyard/halyard/east/ArrayStorage" "LAST_INDEX_FIRST" "Lcom/example/halyard/halyard/east/ArrayStorage;" (.ref as_LAST_INDEX_FIRST) := (((S_LAST_INDEX_FIRST.ext Ex7).wr W12).wr W15)
  obtain ⟨T18, X18, e18, st18⟩ := getS X15 hx hZ hown (host := "") (wd hw 3 rfl) Via.refl e15 Fc17 (g := (mkF m 102 #[iv p0, jv p1, .second, jv p2, .second, jv p3, .second, jv p4, .second, iv 0, iv 2, jv x0, .second, jv x1, .second, jv x2, .second, jv xe, .second, rv ob7, .unset, .unset, .unset, .unset] [])) rfl (hb hby at_102)
  refine own_lift st18 ?_
  show own_Go p.tables e below (T18.setTop (mkF m 105 #[iv p0, jv p1, .second, jv p2, .second, jv p3, .second, jv p4, .second, iv 0, iv 2, jv x0, .second, jv x1, .second, jv x2, .second, jv xe, .second, rv ob7, .unset, .unset, .unset, .unset] [(.ref as_LAST_INDEX_FIRST)])) _
  have sg19 : ∀ t, Steps p.tables e below (T18.setTop (mkF m 113 #[iv p0, jv p1, .second, jv p2, .second, jv p3, .second, jv p4, .second, iv 0, iv 2, jv x0, .second, jv x1, .second, jv x2, .second, jv xe, .second, rv ob7, rv as_LAST_INDEX_FIRST, .unset, .unset, .unset] [(.long xe), (.ref ob7), (.ref as_LAST_INDEX_FIRST)])) t → Steps p.tables e below (T18.setTop (mkF m 105 #[iv p0, jv p1, .second, jv p2, .second, jv p3, .second, jv p4, .second, iv 0, iv 2, jv x0, .second, jv x1, .second, jv x2, .second, jv xe, .second, rv ob7, .unset, .unset, .unset, .unset] [(.ref as_LAST_INDEX_FIRST)])) t := by
    intro t k
    refine XS.astore X18.here hx rfl (hb hby at_105) rfl rfl (l' := #[iv p0, jv p1, .second, jv p2, .second, jv p3, .second, jv p4, .second, iv 0, iv 2, jv x0, .second, jv x1, .second, jv x2, .second, jv xe, .second, rv ob7, rv as_LAST_INDEX_FIRST, .unset, .unset, .unset]) rfl ?_
    show Steps p.tables e below (T18.setTop (mkF m 107 #[iv p0, jv p1, .second, jv p2, .second, jv p3, .second, jv p4, .second, iv 0, iv 2, jv x0, .second, jv x1, .second, jv x2, .second, jv xe, .second, rv ob7, rv as_LAST_INDEX_FIRST, .unset, .unset, .unset] [])) _
    refine XS.aload X18.here hx rfl (hb hby at_107) rfl rfl ?_
    refine XS.aload X18.here hx rfl (hb hby at_109) rfl rfl ?_
    show Steps p.tables e below (T18.setTop (mkF m 111 #[iv p0, jv p1, .second, jv p2, .second, jv p3, .second, jv p4, .second, iv 0, iv 2, jv x0, .second, jv x1, .second, jv x2, .second, jv xe, .second, rv ob7, rv as_LAST_INDEX_FIRST, .unset, .unset, .unset] [(.ref ob7), (.ref as_LAST_INDEX_FIRST)])) _
    refine XS.lload X18.here hx rfl (hb hby at_111) rfl ?_
    show Steps p.tables e below (T18.setTop (mkF m 113 #[iv p0, jv p1, .second, jv p2, .second, jv p3, .second, jv p4, .second, iv 0, iv 2, jv x0, .second, jv x1, .second, jv x2, .second, jv xe, .second, rv ob7, rv as_LAST_INDEX_FIRST, .unset, .unset, .unset] [(.long xe), (.ref ob7), (.ref as_LAST_INDEX_FIRST)])) _
    exact k
  refine own_lift sg19 ?_
  show own_Go p.tables e below (T18.setTop (mkF m 113 #[iv p0, jv p1, .second, jv p2, .second, jv p3, .second, jv p4, .second, iv 0, iv 2, jv x0, .second, jv x1, .second, jv x2, .second, jv xe, .second, rv ob7, rv as_LAST_INDEX_FIRST, .unset, .unset, .unset] [(.long xe), (.ref ob7), (.ref as_LAST_INDEX_FIRST)])) _
  have Fc20 : Sta Z h15 "com/example/halyard/halyard/east/ArrayStorage" "FIRST_INDEX_FIRST" "Lcom/example/halyard/halyard/east/ArrayStorage;" (.ref as_FIRST_INDEX_FIRST) := (((S_FIRST_INDEX_FIRST.ext Ex7).wr W12).wr W15)
  have Fc22 : Exa Z h15 as_LAST_INDEX_FIRST "com/example/halyard/halyard/east/ArrayStorage" := (((E_LAST_INDEX_FIRST.ext Ex7).wr W12).wr W15)
  obtain ⟨cq21, kq21, q21a, q21b, q21c⟩ := isOf hZ e18 Fc22
  obtain ⟨_, _, ⟨T21, Lx21, kx21, nx21⟩, -, X21, ⟨Lc21, hQ21, lx21, yx21, zx21⟩, st21⟩ := X18.virtualBack hx (y := (⟨"com/example/halyard/halyard/east/ArrayStorage", "strides", "([JJ)[J"⟩ : MethodName)) (z := (⟨"com/example/halyard/halyard/east/ArrayStorage", "strides", "([JJ)[J"⟩ : MethodName)) hown (mvT hZ (wd hw 6 rfl)) (mvT hZ (wd hw 7 rfl)) (notFace_of_selects (args := #[]) (mvT hZ (wd hw 9 rfl))) (mvT hZ (wd hw 9 rfl)) (mvT hZ (wd hw 8 rfl)) (by decide) (backOf (W := 0) (rmStr2L l Z a0 hw [] as_LAST_INDEX_FIRST ob7 xe as_FIRST_INDEX_FIRST ka7 x0 x1 h15 n0 Z15 Vn15 Fc20 hne) hZ (wd hw 10 rfl) (wd hw 4 rfl) (by decide) (by decide)) q21a q21c (g := (mkF m 113 #[iv p0, jv p1, .second, jv p2, .second, jv p3, .second, jv p4, .second, iv 0, iv 2, jv x0, .second, jv x1, .second, jv x2, .second, jv xe, .second, rv ob7, rv as_LAST_INDEX_FIRST, .unset, .unset, .unset] [(.long xe), (.ref ob7), (.ref as_LAST_INDEX_FIRST)])) rfl (by rw [hml]; rfl) (Steps.refl _) (argsL := [(.ref ob7), (.long xe)]) (rest := []) (lenOf pd_0 rfl) rfl (by show 2 * 0 + _ ≤ _; exact Nat.le_of_eq rfl) (hb hby at_113) (fun _ _ => ⟨rfl, e18, (by decide : 1 + 1 ≤ _), (by decide : 2 + 2 ≤ _)⟩)
  dsimp only [Pt.U, Pt.locs, Pt.cells, Pt.slots] at X21 lx21 yx21 zx21 st21 hQ21
  subst lx21 yx21 zx21
  obtain ⟨xb_21, xkb_21, rfl, N21q, p21_0, p21_1, p21_2⟩ := hQ21
  have N21 := Fr.app N15 N21q
  have ne23 : as_LAST_INDEX_FIRST ≠ xb_21 := Nat.ne_of_lt (Nat.lt_of_lt_of_le Fc22.lt p21_1)
  have Fc24 : Exa Z h15 as_FIRST_INDEX_FIRST "com/example/halyard/halyard/east/ArrayStorage" := (((E_FIRST_INDEX_FIRST.ext Ex7).wr W12).wr W15)
  have ne25 : as_FIRST_INDEX_FIRST ≠ xb_21 := Nat.ne_of_lt (Nat.lt_of_lt_of_le Fc24.lt p21_1)
  have ne26 : ob7 ≠ xb_21 := Nat.ne_of_lt (Nat.lt_of_lt_of_le Vn15.lt p21_1)
  have Z21 : n0 ≤ T21.heap.size := Nat.le_trans Z15 p21_0.1
  have ge21_1 : n0 ≤ xb_21 := Nat.le_trans Z15 p21_1
  refine own_lift (fun t k => st21.trans k) ?_
  show own_Go p.tables e below (T21.setTop (mkF m 116 #[iv p0, jv p1, .second, jv p2, .second, jv p3, .second, jv p4, .second, iv 0, iv 2, jv x0, .second, jv x1, .second, jv x2, .second, jv xe, .second, rv ob7, rv as_LAST_INDEX_FIRST, .unset, .unset, .unset] [(.ref xb_21)])) _
  have sg27 : ∀ t, Steps p.tables e below (T21.setTop (mkF m 125 #[iv p0, jv p1, .second, jv p2, .second, jv p3, .second, jv p4, .second, iv 0, iv 2, jv x0, .second, jv x1, .second, jv x2, .second, jv xe, .second, rv ob7, rv as_LAST_INDEX_FIRST, rv xb_21, .unset, .unset] [(.ref xb_21)])) t → Steps p.tables e below (T21.setTop (mkF m 116 #[iv p0, jv p1, .second, jv p2, .second, jv p3, .second, jv p4, .second, iv 0, iv 2, jv x0, .second, jv x1, .second, jv x2, .second, jv xe, .second, rv ob7, rv as_LAST_INDEX_FIRST, .unset, .unset, .unset] [(.ref xb_21)])) t := by
    intro t k
    refine XS.astore X21.here hx rfl (hb hby at_116) rfl rfl (l' := #[iv p0, jv p1, .second, jv p2, .second, jv p3, .second, jv p4, .second, iv 0, iv 2, jv x0, .second, jv x1, .second, jv x2, .second, jv xe, .second, rv ob7, rv as_LAST_INDEX_FIRST, rv xb_21, .unset, .unset]) rfl ?_
    show Steps p.tables e below (T21.setTop (mkF m 118 #[iv p0, jv p1, .second, jv p2, .second, jv p3, .second, jv p4, .second, iv 0, iv 2, jv x0, .second, jv x1, .second, jv x2, .second, jv xe, .second, rv ob7, rv as_LAST_INDEX_FIRST, rv xb_21, .unset, .unset] [])) _
    refine XS.aload X21.here hx rfl (hb hby at_118) rfl rfl ?_
    refine XS.ifnullNo X21.here hx rfl (hb hby at_120) rfl ?_
    show Steps p.tables e below (T21.setTop (mkF m 123 #[iv p0, jv p1, .second, jv p2, .second, jv p3, .second, jv p4, .second, iv 0, iv 2, jv x0, .second, jv x1, .second, jv x2, .second, jv xe, .second, rv ob7, rv as_LAST_INDEX_FIRST, rv xb_21, .unset, .unset] [])) _
    refine XS.aload X21.here hx rfl (hb hby at_123) rfl rfl ?_
    show Steps p.tables e below (T21.setTop (mkF m 125 #[iv p0, jv p1, .second, jv p2, .second, jv p3, .second, jv p4, .second, iv 0, iv 2, jv x0, .second, jv x1, .second, jv x2, .second, jv xe, .second, rv ob7, rv as_LAST_INDEX_FIRST, rv xb_21, .unset, .unset] [(.ref xb_21)])) _
    exact k
  refine own_lift sg27 ?_
  show own_Go p.tables e below (T21.setTop (mkF m 125 #[iv p0, jv p1, .second, jv p2, .second, jv p3, .second, jv p4, .second, iv 0, iv 2, jv x0, .second, jv x1, .second, jv x2, .second, jv xe, .second, rv ob7, rv as_LAST_INDEX_FIRST, rv xb_21, .unset, .unset] [(.ref xb_21)])) _
  obtain ⟨cl28, Ar28, -, Sx28, N28', -, -⟩ := id (p21_2)
  have st28 : ∀ t, Steps p.tables e below (T21.setTop (mkF m 126 #[iv p0, jv p1, .second, jv p2, .second, jv p3, .second, jv p4, .second, iv 0, iv 2, jv x0, .second, jv x1, .second, jv x2, .second, jv xe, .second, rv ob7, rv as_LAST_INDEX_FIRST, rv xb_21, .unset, .unset] [(.int 2)])) t → Steps p.tables e below (T21.setTop (mkF m 125 #[iv p0, jv p1, .second, jv p2, .second, jv p3, .second, jv p4, .second, iv 0, iv 2, jv x0, .second, jv x1, .second, jv x2, .second, jv xe, .second, rv ob7, rv as_LAST_INDEX_FIRST, rv xb_21, .unset, .unset] [(.ref xb_21)])) t := by
    intro t k
    refine X21.arraylength hx (by exact Ar28.1) (State.isArrayOf_alike hZ.alike Ar28.2.1) (g := (mkF m 125 #[iv p0, jv p1, .second, jv p2, .second, jv p3, .second, jv p4, .second, iv 0, iv 2, jv x0, .second, jv x1, .second, jv x2, .second, jv xe, .second, rv ob7, rv as_LAST_INDEX_FIRST, rv xb_21, .unset, .unset] [(.ref xb_21)])) rfl rfl (hb hby at_125) _ ?_
    rw [len_of Sx28 N28']
    exact k
  refine own_lift st28 ?_
  show own_Go p.tables e below (T21.setTop (mkF m 126 #[iv p0, jv p1, .second, jv p2, .second, jv p3, .second, jv p4, .second, iv 0, iv 2, jv x0, .second, jv x1, .second, jv x2, .second, jv xe, .second, rv ob7, rv as_LAST_INDEX_FIRST, rv xb_21, .unset, .unset] [(.int 2)])) _
  have sg29 : ∀ t, Steps p.tables e below (T21.setTop (mkF m 134 #[iv p0, jv p1, .second, jv p2, .second, jv p3, .second, jv p4, .second, iv 0, iv 2, jv x0, .second, jv x1, .second, jv x2, .second, jv xe, .second, rv ob7, rv as_LAST_INDEX_FIRST, rv xb_21, .unset, .unset] [(.int 3)])) t → Steps p.tables e below (T21.setTop (mkF m 126 #[iv p0, jv p1, .second, jv p2, .second, jv p3, .second, jv p4, .second, iv 0, iv 2, jv x0, .second, jv x1, .second, jv x2, .second, jv xe, .second, rv ob7, rv as_LAST_INDEX_FIRST, rv xb_21, .unset, .unset] [(.int 2)])) t := by
    intro t k
    refine XS.iload X21.here hx rfl (hb hby at_126) rfl ?_
    show Steps p.tables e below (T21.setTop (mkF m 128 #[iv p0, jv p1, .second, jv p2, .second, jv p3, .second, jv p4, .second, iv 0, iv 2, jv x0, .second, jv x1, .second, jv x2, .second, jv xe, .second, rv ob7, rv as_LAST_INDEX_FIRST, rv xb_21, .unset, .unset] [(.int 2), (.int 2)])) _
    refine XS.icmpYes X21.here hx rfl (pc0 := 128) (pc' := 133) rfl (hb hby at_128) rfl (teq (by decide : (2 : Int32) = (2 : Int32))).1 (by decide) (by decide) ?_
    refine XS.iconst X21.here hx rfl (hb hby at_133) ?_
    show Steps p.tables e below (T21.setTop (mkF m 134 #[iv p0, jv p1, .second, jv p2, .second, jv p3, .second, jv p4, .second, iv 0, iv 2, jv x0, .second, jv x1, .second, jv x2, .second, jv xe, .second, rv ob7, rv as_LAST_INDEX_FIRST, rv xb_21, .unset, .unset] [(.int 3)])) _
    exact k
  refine own_lift sg29 ?_
  show own_Go p.tables e below (T21.setTop (mkF m 134 #[iv p0, jv p1, .second, jv p2, .second, jv p3, .second, jv p4, .second, iv 0, iv 2, jv x0, .second, jv x1, .second, jv x2, .second, jv xe, .second, rv ob7, rv as_LAST_INDEX_FIRST, rv xb_21, .unset, .unset] [(.int 3)])) _
  obtain ⟨T30, h30, ka30, X30, e30, Ex30, Ax30, st30⟩ := newP X21 hx hZ (wd hw 2 rfl) rfl (g := (mkF m 134 #[iv p0, jv p1, .second, jv p2, .second, jv p3, .second, jv p4, .second, iv 0, iv 2, jv x0, .second, jv x1, .second, jv x2, .second, jv xe, .second, rv ob7, rv as_LAST_INDEX_FIRST, rv xb_21, .unset, .unset] [(.int 3)])) rfl (hb hby at_134) rfl (by decide) (cap := 3) (by decide) (by decide) (by decide) (by decide)
  obtain ⟨ob30, g30⟩ : ∃ z, z = T21.heap.size := ⟨_, rfl⟩
  rw [← g30] at Ax30 st30
  have Fc31 : Exa Z T21.heap as_LAST_INDEX_FIRST "com/example/halyard/halyard/east/ArrayStorage" := (Fc22.keep p21_0)
  have ne32 : as_LAST_INDEX_FIRST ≠ ob30 := Nat.ne_of_lt (Nat.lt_of_lt_of_le Fc31.lt (Nat.le_of_eq g30.symm))
  have Fc33 : Exa Z T21.heap as_FIRST_INDEX_FIRST "com/example/halyard/halyard/east/ArrayStorage" := (Fc24.keep p21_0)
  have ne34 : as_FIRST_INDEX_FIRST ≠ ob30 := Nat.ne_of_lt (Nat.lt_of_lt_of_le Fc33.lt (Nat.le_of_eq g30.symm))
  have Fc35 : Arv Z T21.heap ob7 ka7 .long (2 : Int32) [(.long x0), (.long x1)] (.long 0) := (Vn15.keep p21_0 nin0)
  have ne36 : ob7 ≠ ob30 := Nat.ne_of_lt (Nat.lt_of_lt_of_le Fc35.lt (Nat.le_of_eq g30.symm))
  have ne37 : xb_21 ≠ ob30 := Nat.ne_of_lt (Nat.lt_of_lt_of_le p21_2.lt (Nat.le_of_eq g30.symm))
  have Z30 : n0 ≤ h30.size := Nat.le_trans Z21 Ex30.1
  have ge30 : n0 ≤ ob30 := Nat.le_trans Z21 (Nat.le_of_eq g30.symm)
  have Vn30 : Arv Z h30 ob30 ka30 .long (3 : Int32) [(.long 0), (.long 0), (.long 0)] (.long 0) := (Arv.new Ax30 (by decide)).pad (pad_rep [] (.long 0) 3)
  refine own_lift st30 ?_
  show own_Go p.tables e below (T30.setTop (mkF m 136 #[iv p0, jv p1, .second, jv p2, .second, jv p3, .second, jv p4, .second, iv 0, iv 2, jv x0, .second, jv x1, .second, jv x2, .second, jv xe, .second, rv ob7, rv as_LAST_INDEX_FIRST, rv xb_21, .unset, .unset] [(.ref ob30)])) _
  have sg38 : ∀ t, Steps p.tables e below (T30.setTop (mkF m 187 #[iv p0, jv p1, .second, jv p2, .second, jv p3, .second, jv p4, .second, iv 0, iv 2, jv x0, .second, jv x1, .second, jv x2, .second, jv xe, .second, rv ob7, rv as_LAST_INDEX_FIRST, rv xb_21, rv ob30, .unset] [(.long xe), (.int 0), (.ref ob30)])) t → Steps p.tables e below (T30.setTop (mkF m 136 #[iv p0, jv p1, .second, jv p2, .second, jv p3, .second, jv p4, .second, iv 0, iv 2, jv x0, .second, jv x1, .second, jv x2, .second, jv xe, .second, rv ob7, rv as_LAST_INDEX_FIRST, rv xb_21, .unset, .unset] [(.ref ob30)])) t := by
    intro t k
    refine XS.astore X30.here hx rfl (hb hby at_136) rfl rfl (l' := #[iv p0, jv p1, .second, jv p2, .second, jv p3, .second, jv p4, .second, iv 0, iv 2, jv x0, .second, jv x1, .second, jv x2, .second, jv xe, .second, rv ob7, rv as_LAST_INDEX_FIRST, rv xb_21, rv ob30, .unset]) rfl ?_
    show Steps p.tables e below (T30.setTop (mkF m 138 #[iv p0, jv p1, .second, jv p2, .second, jv p3, .second, jv p4, .second, iv 0, iv 2, jv x0, .second, jv x1, .second, jv x2, .second, jv xe, .second, rv ob7, rv as_LAST_INDEX_FIRST, rv xb_21, rv ob30, .unset] [])) _
    refine XS.iload X30.here hx rfl (hb hby at_138) rfl ?_
    refine XS.iconst X30.here hx rfl (hb hby at_140) ?_
    show Steps p.tables e below (T30.setTop (mkF m 141 #[iv p0, jv p1, .second, jv p2, .second, jv p3, .second, jv p4, .second, iv 0, iv 2, jv x0, .second, jv x1, .second, jv x2, .second, jv xe, .second, rv ob7, rv as_LAST_INDEX_FIRST, rv xb_21, rv ob30, .unset] [(.int 1), (.int 2)])) _
    refine XS.icmpYes X30.here hx rfl (pc0 := 141) (pc' := 153) rfl (hb hby at_141) rfl (feq (by decide : ¬ ((2 : Int32) = (1 : Int32)))).2 (by decide) (by decide) ?_
    refine XS.iload X30.here hx rfl (hb hby at_153) rfl ?_
    show Steps p.tables e below (T30.setTop (mkF m 155 #[iv p0, jv p1, .second, jv p2, .second, jv p3, .second, jv p4, .second, iv 0, iv 2, jv x0, .second, jv x1, .second, jv x2, .second, jv xe, .second, rv ob7, rv as_LAST_INDEX_FIRST, rv xb_21, rv ob30, .unset] [(.int 2)])) _
    refine XS.iconst X30.here hx rfl (hb hby at_155) ?_
    refine XS.icmpNo X30.here hx rfl (hb hby at_156) rfl (teq (by decide : (2 : Int32) = (2 : Int32))).2 ?_
    show Steps p.tables e below (T30.setTop (mkF m 159 #[iv p0, jv p1, .second, jv p2, .second, jv p3, .second, jv p4, .second, iv 0, iv 2, jv x0, .second, jv x1, .second, jv x2, .second, jv xe, .second, rv ob7, rv as_LAST_INDEX_FIRST, rv xb_21, rv ob30, .unset] [])) _
    refine XS.iload X30.here hx rfl (hb hby at_159) rfl ?_
    refine XS.ifYes X30.here hx rfl (pc0 := 161) (pc' := 182) rfl (hb hby at_161) rfl ((if0 _ _).trans (teq (by decide : (0 : Int32) = (0 : Int32))).1) (by decide) (by decide) ?_
    show Steps p.tables e below (T30.setTop (mkF m 182 #[iv p0, jv p1, .second, jv p2, .second, jv p3, .second, jv p4, .second, iv 0, iv 2, jv x0, .second, jv x1, .second, jv x2, .second, jv xe, .second, rv ob7, rv as_LAST_INDEX_FIRST, rv xb_21, rv ob30, .unset] [])) _
    refine XS.aload X30.here hx rfl (hb hby at_182) rfl rfl ?_
    refine XS.iconst X30.here hx rfl (hb hby at_184) ?_
    show Steps p.tables e below (T30.setTop (mkF m 185 #[iv p0, jv p1, .second, jv p2, .second, jv p3, .second, jv p4, .second, iv 0, iv 2, jv x0, .second, jv x1, .second, jv x2, .second, jv xe, .second, rv ob7, rv as_LAST_INDEX_FIRST, rv xb_21, rv ob30, .unset] [(.int 0), (.ref ob30)])) _
    refine XS.lload X30.here hx rfl (hb hby at_185) rfl ?_
    show Steps p.tables e below (T30.setTop (mkF m 187 #[iv p0, jv p1, .second, jv p2, .second, jv p3, .second, jv p4, .second, iv 0, iv 2, jv x0, .second, jv x1, .second, jv x2, .second, jv xe, .second, rv ob7, rv as_LAST_INDEX_FIRST, rv xb_21, rv ob30, .unset] [(.long xe), (.int 0), (.ref ob30)])) _
    exact k
  refine own_lift sg38 ?_
  show own_Go p.tables e below (T30.setTop (mkF m 187 #[iv p0, jv p1, .second, jv p2, .second, jv p3, .second, jv p4, .second, iv 0, iv 2, jv x0, .second, jv x1, .second, jv x2, .second, jv xe, .second, rv ob7, rv as_LAST_INDEX_FIRST, rv xb_21, rv ob30, .unset] [(.long xe), (.int 0), (.ref ob30)])) _
  obtain ⟨cl39, Ar39, qx39, Sx39, N39', H39', G39'⟩ := id (Vn30)
  have hin39 : ¬ ((0 : Int32) < 0 ∨ cl39.slots.size ≤ ((0 : Int32)).toNatClampNeg) := inb_of Sx39 ⟨(by decide : ¬ ((0 : Int32) < (0 : Int32))), (by decide : (0 : Int32) < (3 : Int32))⟩
  obtain ⟨T40, h40, X40, e40, W40, st40⟩ := stJ X30 hx hZ e30 Ar39 (j := (0 : Int32)) hin39 (g := (mkF m 187 #[iv p0, jv p1, .second, jv p2, .second, jv p3, .second, jv p4, .second, iv 0, iv 2, jv x0, .second, jv x1, .second, jv x2, .second, jv xe, .second, rv ob7, rv as_LAST_INDEX_FIRST, rv xb_21, rv ob30, .unset] [(.long xe), (.int 0), (.ref ob30)])) rfl rfl (hb hby at_187)
  have N40 := Fr.snoc X40 N21 ge30
  have Z40 : n0 ≤ h40.size := Nat.le_trans Z30 (Nat.le_of_eq W40.size.symm)
  have Vn40 : Arv Z h40 ob30 ka30 .long (3 : Int32) [(.long xe), (.long 0), (.long 0)] (.long 0) := Arv.set Ar39 qx39 Sx39 N39' H39' G39' rfl W40 0 rfl (Nat.le_of_ble_eq_true rfl)
  refine own_lift st40 ?_
  show own_Go p.tables e below (T40.setTop (mkF m 188 #[iv p0, jv p1, .second, jv p2, .second, jv p3, .second, jv p4, .second, iv 0, iv 2, jv x0, .second, jv x1, .second, jv x2, .second, jv xe, .second, rv ob7, rv as_LAST_INDEX_FIRST, rv xb_21, rv ob30, .unset] [])) _
  have sg41 : ∀ t, Steps p.tables e below (T40.setTop (mkF m 196 #[iv p0, jv p1, .second, jv p2, .second, jv p3, .second, jv p4, .second, iv 0, iv 2, jv x0, .second, jv x1, .second, jv x2, .second, jv xe, .second, rv ob7, rv as_LAST_INDEX_FIRST, rv xb_21, rv ob30, .unset] [(.long (xe * x0)), (.int 1), (.ref ob30)])) t → Steps p.tables e below (T40.setTop (mkF m 188 #[iv p0, jv p1, .second, jv p2, .second, jv p3, .second, jv p4, .second, iv 0, iv 2, jv x0, .second, jv x1, .second, jv x2, .second, jv xe, .second, rv ob7, rv as_LAST_INDEX_FIRST, rv xb_21, rv ob30, .unset] [])) t := by
    intro t k
    refine XS.aload X40.here hx rfl (hb hby at_188) rfl rfl ?_
    show Steps p.tables e below (T40.setTop (mkF m 190 #[iv p0, jv p1, .second, jv p2, .second, jv p3, .second, jv p4, .second, iv 0, iv 2, jv x0, .second, jv x1, .second, jv x2, .second, jv xe, .second, rv ob7, rv as_LAST_INDEX_FIRST, rv xb_21, rv ob30, .unset] [(.ref ob30)])) _
    refine XS.iconst X40.here hx rfl (hb hby at_190) ?_
    refine XS.lload X40.here hx rfl (hb hby at_191) rfl ?_
    show Steps p.tables e below (T40.setTop (mkF m 193 #[iv p0, jv p1, .second, jv p2, .second, jv p3, .second, jv p4, .second, iv 0, iv 2, jv x0, .second, jv x1, .second, jv x2, .second, jv xe, .second, rv ob7, rv as_LAST_INDEX_FIRST, rv xb_21, rv ob30, .unset] [(.long xe), (.int 1), (.ref ob30)])) _
    refine XS.lload X40.here hx rfl (hb hby at_193) rfl ?_
    refine XS.lmul X40.here hx rfl (hb hby at_195) rfl ?_
    show Steps p.tables e below (T40.setTop (mkF m 196 #[iv p0, jv p1, .second, jv p2, .second, jv p3, .second, jv p4, .second, iv 0, iv 2, jv x0, .second, jv x1, .second, jv x2, .second, jv xe, .second, rv ob7, rv as_LAST_INDEX_FIRST, rv xb_21, rv ob30, .unset] [(.long (xe * x0)), (.int 1), (.ref ob30)])) _
    exact k
  refine own_lift sg41 ?_
  show own_Go p.tables e below (T40.setTop (mkF m 196 #[iv p0, jv p1, .second, jv p2, .second, jv p3, .second, jv p4, .second, iv 0, iv 2, jv x0, .second, jv x1, .second, jv x2, .second, jv xe, .second, rv ob7, rv as_LAST_INDEX_FIRST, rv xb_21, rv ob30, .unset] [(.long (xe * x0)), (.int 1), (.ref ob30)])) _
  obtain ⟨cl42, Ar42, qx42, Sx42, N42', H42', G42'⟩ := id (Vn40)
  have hin42 : ¬ ((1 : Int32) < 0 ∨ cl42.slots.size ≤ ((1 : Int32)).toNatClampNeg) := inb_of Sx42 ⟨(by decide : ¬ ((1 : Int32) < (0 : Int32))), (by decide : (1 : Int32) < (3 : Int32))⟩
  obtain ⟨T43, h43, X43, e43, W43, st43⟩ := stJ X40 hx hZ e40 Ar42 (j := (1 : Int32)) hin42 (g := (mkF m 196 #[iv p0, jv p1, .second, jv p2, .second, jv p3, .second, jv p4, .second, iv 0, iv 2, jv x0, .second, jv x1, .second, jv x2, .second, jv xe, .second, rv ob7, rv as_LAST_INDEX_FIRST, rv xb_21, rv ob30, .unset] [(.long (xe * x0)), (.int 1), (.ref ob30)])) rfl rfl (hb hby at_196)
  have N43 := Fr.snoc X43 N40 ge30
  have Z43 : n0 ≤ h43.size := Nat.le_trans Z40 (Nat.le_of_eq W43.size.symm)
  have Vn43 : Arv Z h43 ob30 ka30 .long (3 : Int32) [(.long xe), (.long (xe * x0)), (.long 0)] (.long 0) := Arv.set Ar42 qx42 Sx42 N42' H42' G42' rfl W43 1 rfl (Nat.le_of_ble_eq_true rfl)
  refine own_lift st43 ?_
  show own_Go p.tables e below (T43.setTop (mkF m 197 #[iv p0, jv p1, .second, jv p2, .second, jv p3, .second, jv p4, .second, iv 0, iv 2, jv x0, .second, jv x1, .second, jv x2, .second, jv xe, .second, rv ob7, rv as_LAST_INDEX_FIRST, rv xb_21, rv ob30, .unset] [])) _
  have sg44 : ∀ t, Steps p.tables e below (T43.setTop (mkF m 284 #[iv p0, jv p1, .second, jv p2, .second, jv p3, .second, jv p4, .second, iv 0, iv 2, jv x0, .second, jv x1, .second, jv x2, .second, jv xe, .second, rv ob7, rv as_LAST_INDEX_FIRST, rv xb_21, rv ob30, iv 1] [(.int 0), (.ref xb_21)])) t → Steps p.tables e below (T43.setTop (mkF m 197 #[iv p0, jv p1, .second, jv p2, .second, jv p3, .second, jv p4, .second, iv 0, iv 2, jv x0, .second, jv x1, .second, jv x2, .second, jv xe, .second, rv ob7, rv as_LAST_INDEX_FIRST, rv xb_21, rv ob30, .unset] [])) t := by
    intro t k
    refine XS.goto X43.here hx rfl (pc0 := 197) (pc' := 268) rfl (hb hby at_197) (by decide) (by decide) ?_
    show Steps p.tables e below (T43.setTop (mkF m 268 #[iv p0, jv p1, .second, jv p2, .second, jv p3, .second, jv p4, .second, iv 0, iv 2, jv x0, .second, jv x1, .second, jv x2, .second, jv xe, .second, rv ob7, rv as_LAST_INDEX_FIRST, rv xb_21, rv ob30, .unset] [])) _
    refine XS.iconst X43.here hx rfl (hb hby at_268) ?_
    refine XS.istore X43.here hx rfl (hb hby at_269) rfl (l' := #[iv p0, jv p1, .second, jv p2, .second, jv p3, .second, jv p4, .second, iv 0, iv 2, jv x0, .second, jv x1, .second, jv x2, .second, jv xe, .second, rv ob7, rv as_LAST_INDEX_FIRST, rv xb_21, rv ob30, iv 1]) rfl ?_
    show Steps p.tables e below (T43.setTop (mkF m 271 #[iv p0, jv p1, .second, jv p2, .second, jv p3, .second, jv p4, .second, iv 0, iv 2, jv x0, .second, jv x1, .second, jv x2, .second, jv xe, .second, rv ob7, rv as_LAST_INDEX_FIRST, rv xb_21, rv ob30, iv 1] [])) _
    refine XS.iload X43.here hx rfl (hb hby at_271) rfl ?_
    refine XS.ifNo X43.here hx rfl (hb hby at_273) rfl ((if0 _ _).trans (tlt (by decide : (0 : Int32) < (2 : Int32))).2.2.2) ?_
    show Steps p.tables e below (T43.setTop (mkF m 276 #[iv p0, jv p1, .second, jv p2, .second, jv p3, .second, jv p4, .second, iv 0, iv 2, jv x0, .second, jv x1, .second, jv x2, .second, jv xe, .second, rv ob7, rv as_LAST_INDEX_FIRST, rv xb_21, rv ob30, iv 1] [])) _
    refine XS.iload X43.here hx rfl (hb hby at_276) rfl ?_
    refine XS.ifNo X43.here hx rfl (hb hby at_278) rfl ((if0 _ _).trans (feq (by decide : ¬ ((1 : Int32) = (0 : Int32)))).1) ?_
    show Steps p.tables e below (T43.setTop (mkF m 281 #[iv p0, jv p1, .second, jv p2, .second, jv p3, .second, jv p4, .second, iv 0, iv 2, jv x0, .second, jv x1, .second, jv x2, .second, jv xe, .second, rv ob7, rv as_LAST_INDEX_FIRST, rv xb_21, rv ob30, iv 1] [])) _
    refine XS.aload X43.here hx rfl (hb hby at_281) rfl rfl ?_
    refine XS.iconst X43.here hx rfl (hb hby at_283) ?_
    show Steps p.tables e below (T43.setTop (mkF m 284 #[iv p0, jv p1, .second, jv p2, .second, jv p3, .second, jv p4, .second, iv 0, iv 2, jv x0, .second, jv x1, .second, jv x2, .second, jv xe, .second, rv ob7, rv as_LAST_INDEX_FIRST, rv xb_21, rv ob30, iv 1] [(.int 0), (.ref xb_21)])) _
    exact k
  refine own_lift sg44 ?_
  show own_Go p.tables e below (T43.setTop (mkF m 284 #[iv p0, jv p1, .second, jv p2, .second, jv p3, .second, jv p4, .second, iv 0, iv 2, jv x0, .second, jv x1, .second, jv x2, .second, jv xe, .second, rv ob7, rv as_LAST_INDEX_FIRST, rv xb_21, rv ob30, iv 1] [(.int 0), (.ref xb_21)])) _
  have Fc45 : Arv Z h43 xb_21 xkb_21 .long (2 : Int32) [(.long xe), (.long (xe * x0))] (.long (0 : Int64)) := (((p21_2.ext Ex30).other W40 ne37).other W43 ne37)
  obtain ⟨cl46, Ar46, qx46, Sx46, N46', H46', G46'⟩ := id (Fc45)
  have hin46 : ¬ ((0 : Int32) < 0 ∨ cl46.slots.size ≤ ((0 : Int32)).toNatClampNeg) := inb_of Sx46 ⟨(by decide : ¬ ((0 : Int32) < (0 : Int32))), (by decide : (0 : Int32) < (2 : Int32))⟩
  have hat46 : cl46.slots[((0 : Int32)).toNatClampNeg]? = some (.long xe) := Has.at H46' hin46 rfl
  have sg47 : ∀ t, Steps p.tables e below (T43.setTop (mkF m 288 #[iv p0, jv p1, .second, jv p2, .second, jv p3, .second, jv p4, .second, iv 0, iv 2, jv x0, .second, jv x1, .second, jv x2, .second, jv xe, .second, rv ob7, rv as_LAST_INDEX_FIRST, rv xb_21, rv ob30, iv 1] [(.int 0), (.ref ob30), (.long xe)])) t → Steps p.tables e below (T43.setTop (mkF m 284 #[iv p0, jv p1, .second, jv p2, .second, jv p3, .second, jv p4, .second, iv 0, iv 2, jv x0, .second, jv x1, .second, jv x2, .second, jv xe, .second, rv ob7, rv as_LAST_INDEX_FIRST, rv xb_21, rv ob30, iv 1] [(.int 0), (.ref xb_21)])) t := by
    intro t k
    refine X43.laload hx (j := (0 : Int32)) (v := (.long xe)) (by rw [e43]; exact Ar46.1) (State.isArrayOf_alike hZ.alike Ar46.2.1) Ar46.2.2 hin46 hat46 (g := (mkF m 284 #[iv p0, jv p1, .second, jv p2, .second, jv p3, .second, jv p4, .second, iv 0, iv 2, jv x0, .second, jv x1, .second, jv x2, .second, jv xe, .second, rv ob7, rv as_LAST_INDEX_FIRST, rv xb_21, rv ob30, iv 1] [(.int 0), (.ref xb_21)])) rfl rfl (hb hby at_284) _ ?_
    show Steps p.tables e below (T43.setTop (mkF m 285 #[iv p0, jv p1, .second, jv p2, .second, jv p3, .second, jv p4, .second, iv 0, iv 2, jv x0, .second, jv x1, .second, jv x2, .second, jv xe, .second, rv ob7, rv as_LAST_INDEX_FIRST, rv xb_21, rv ob30, iv 1] [(.long xe)])) _
    refine XS.aload X43.here hx rfl (hb hby at_285) rfl rfl ?_
    refine XS.iconst X43.here hx rfl (hb hby at_287) ?_
    show Steps p.tables e below (T43.setTop (mkF m 288 #[iv p0, jv p1, .second, jv p2, .second, jv p3, .second, jv p4, .second, iv 0, iv 2, jv x0, .second, jv x1, .second, jv x2, .second, jv xe, .second, rv ob7, rv as_LAST_INDEX_FIRST, rv xb_21, rv ob30, iv 1] [(.int 0), (.ref ob30), (.long xe)])) _
    exact k
  refine own_lift sg47 ?_
  show own_Go p.tables e below (T43.setTop (mkF m 288 #[iv p0, jv p1, .second, jv p2, .second, jv p3, .second, jv p4, .second, iv 0, iv 2, jv x0, .second, jv x1, .second, jv x2, .second, jv xe, .second, rv ob7, rv as_LAST_INDEX_FIRST, rv xb_21, rv ob30, iv 1] [(.int 0), (.ref ob30), (.long xe)])) _
  obtain ⟨cl48, Ar48, qx48, Sx48, N48', H48', G48'⟩ := id (Vn43)
  have hin48 : ¬ ((0 : Int32) < 0 ∨ cl48.slots.size ≤ ((0 : Int32)).toNatClampNeg) := inb_of Sx48 ⟨(by decide : ¬ ((0 : Int32) < (0 : Int32))), (by decide : (0 : Int32) < (3 : Int32))⟩
  have hat48 : cl48.slots[((0 : Int32)).toNatClampNeg]? = some (.long xe) := Has.at H48' hin48 rfl
  have sg49 : ∀ t, Steps p.tables e below (T43.setTop (mkF m 296 #[iv p0, jv p1, .second, jv p2, .second, jv p3, .second, jv p4, .second, iv 0, iv 2, jv x0, .second, jv x1, .second, jv x2, .second, jv xe, .second, rv ob7, rv as_LAST_INDEX_FIRST, rv xb_21, rv ob30, iv 1] [(.int 0), (.ref ob7)])) t → Steps p.tables e below (T43.setTop (mkF m 288 #[iv p0, jv p1, .second, jv p2, .second, jv p3, .second, jv p4, .second, iv 0, iv 2, jv x0, .second, jv x1, .second, jv x2, .second, jv xe, .second, rv ob7, rv as_LAST_INDEX_FIRST, rv xb_21, rv ob30, iv 1] [(.int 0), (.ref ob30), (.long xe)])) t := by
    intro t k
    refine X43.laload hx (j := (0 : Int32)) (v := (.long xe)) (by rw [e43]; exact Ar48.1) (State.isArrayOf_alike hZ.alike Ar48.2.1) Ar48.2.2 hin48 hat48 (g := (mkF m 288 #[iv p0, jv p1, .second, jv p2, .second, jv p3, .second, jv p4, .second, iv 0, iv 2, jv x0, .second, jv x1, .second, jv x2, .second, jv xe, .second, rv ob7, rv as_LAST_INDEX_FIRST, rv xb_21, rv ob30, iv 1] [(.int 0), (.ref ob30), (.long xe)])) rfl rfl (hb hby at_288) _ ?_
    show Steps p.tables e below (T43.setTop (mkF m 289 #[iv p0, jv p1, .second, jv p2, .second, jv p3, .second, jv p4, .second, iv 0, iv 2, jv x0, .second, jv x1, .second, jv x2, .second, jv xe, .second, rv ob7, rv as_LAST_INDEX_FIRST, rv xb_21, rv ob30, iv 1] [(.long xe), (.long xe)])) _
    refine XS.lcmp X43.here hx rfl (hb hby at_289) rfl ?_
    refine XS.ifNo X43.here hx rfl (hb hby at_290) rfl ((if0 _ _).trans (teq ((lw_eq xe xe).2 (rfl : xe = xe))).2) ?_
    show Steps p.tables e below (T43.setTop (mkF m 293 #[iv p0, jv p1, .second, jv p2, .second, jv p3, .second, jv p4, .second, iv 0, iv 2, jv x0, .second, jv x1, .second, jv x2, .second, jv xe, .second, rv ob7, rv as_LAST_INDEX_FIRST, rv xb_21, rv ob30, iv 1] [])) _
    refine XS.aload X43.here hx rfl (hb hby at_293) rfl rfl ?_
    refine XS.iconst X43.here hx rfl (hb hby at_295) ?_
    show Steps p.tables e below (T43.setTop (mkF m 296 #[iv p0, jv p1, .second, jv p2, .second, jv p3, .second, jv p4, .second, iv 0, iv 2, jv x0, .second, jv x1, .second, jv x2, .second, jv xe, .second, rv ob7, rv as_LAST_INDEX_FIRST, rv xb_21, rv ob30, iv 1] [(.int 0), (.ref ob7)])) _
    exact k
  refine own_lift sg49 ?_
  show own_Go p.tables e below (T43.setTop (mkF m 296 #[iv p0, jv p1, .second, jv p2, .second, jv p3, .second, jv p4, .second, iv 0, iv 2, jv x0, .second, jv x1, .second, jv x2, .second, jv xe, .second, rv ob7, rv as_LAST_INDEX_FIRST, rv xb_21, rv ob30, iv 1] [(.int 0), (.ref ob7)])) _
  have Fc50 : Arv Z h43 ob7 ka7 .long (2 : Int32) [(.long x0), (.long x1)] (.long 0) := (((Fc35.ext Ex30).other W40 ne36).other W43 ne36)
  obtain ⟨cl51, Ar51, qx51, Sx51, N51', H51', G51'⟩ := id (Fc50)
  have hin51 : ¬ ((0 : Int32) < 0 ∨ cl51.slots.size ≤ ((0 : Int32)).toNatClampNeg) := inb_of Sx51 ⟨(by decide : ¬ ((0 : Int32) < (0 : Int32))), (by decide : (0 : Int32) < (2 : Int32))⟩
  have hat51 : cl51.slots[((0 : Int32)).toNatClampNeg]? = some (.long x0) := Has.at H51' hin51 rfl
  have sg52 : ∀ t, Steps p.tables e below (T43.setTop (mkF m 324 #[iv p0, jv p1, .second, jv p2, .second, jv p3, .second, jv p4, .second, iv 0, iv 2, jv x0, .second, jv x1, .second, jv x2, .second, jv xe, .second, rv ob7, rv as_LAST_INDEX_FIRST, rv xb_21, rv ob30, iv 1] [(.int 1), (.ref xb_21)])) t → Steps p.tables e below (T43.setTop (mkF m 296 #[iv p0, jv p1, .second, jv p2, .second, jv p3, .second, jv p4, .second, iv 0, iv 2, jv x0, .second, jv x1, .second, jv x2, .second, jv xe, .second, rv ob7, rv as_LAST_INDEX_FIRST, rv xb_21, rv ob30, iv 1] [(.int 0), (.ref ob7)])) t := by
    intro t k
    refine X43.laload hx (j := (0 : Int32)) (v := (.long x0)) (by rw [e43]; exact Ar51.1) (State.isArrayOf_alike hZ.alike Ar51.2.1) Ar51.2.2 hin51 hat51 (g := (mkF m 296 #[iv p0, jv p1, .second, jv p2, .second, jv p3, .second, jv p4, .second, iv 0, iv 2, jv x0, .second, jv x1, .second, jv x2, .second, jv xe, .second, rv ob7, rv as_LAST_INDEX_FIRST, rv xb_21, rv ob30, iv 1] [(.int 0), (.ref ob7)])) rfl rfl (hb hby at_296) _ ?_
    show Steps p.tables e below (T43.setTop (mkF m 297 #[iv p0, jv p1, .second, jv p2, .second, jv p3, .second, jv p4, .second, iv 0, iv 2, jv x0, .second, jv x1, .second, jv x2, .second, jv xe, .second, rv ob7, rv as_LAST_INDEX_FIRST, rv xb_21, rv ob30, iv 1] [(.long x0)])) _
    refine XS.lload X43.here hx rfl (hb hby at_297) rfl ?_
    refine XS.lcmp X43.here hx rfl (hb hby at_299) rfl ?_
    show Steps p.tables e below (T43.setTop (mkF m 300 #[iv p0, jv p1, .second, jv p2, .second, jv p3, .second, jv p4, .second, iv 0, iv 2, jv x0, .second, jv x1, .second, jv x2, .second, jv xe, .second, rv ob7, rv as_LAST_INDEX_FIRST, rv xb_21, rv ob30, iv 1] [(.int (lcmpW x0 x0))])) _
    refine XS.ifNo X43.here hx rfl (hb hby at_300) rfl ((if0 _ _).trans (teq ((lw_eq x0 x0).2 (rfl : x0 = x0))).2) ?_
    refine XS.iconst X43.here hx rfl (hb hby at_303) ?_
    show Steps p.tables e below (T43.setTop (mkF m 304 #[iv p0, jv p1, .second, jv p2, .second, jv p3, .second, jv p4, .second, iv 0, iv 2, jv x0, .second, jv x1, .second, jv x2, .second, jv xe, .second, rv ob7, rv as_LAST_INDEX_FIRST, rv xb_21, rv ob30, iv 1] [(.int 1)])) _
    refine XS.goto X43.here hx rfl (pc0 := 304) (pc' := 308) rfl (hb hby at_304) (by decide) (by decide) ?_
    refine XS.istore X43.here hx rfl (hb hby at_308) rfl (l' := #[iv p0, jv p1, .second, jv p2, .second, jv p3, .second, jv p4, .second, iv 0, iv 2, jv x0, .second, jv x1, .second, jv x2, .second, jv xe, .second, rv ob7, rv as_LAST_INDEX_FIRST, rv xb_21, rv ob30, iv 1]) rfl ?_
    show Steps p.tables e below (T43.setTop (mkF m 310 #[iv p0, jv p1, .second, jv p2, .second, jv p3, .second, jv p4, .second, iv 0, iv 2, jv x0, .second, jv x1, .second, jv x2, .second, jv xe, .second, rv ob7, rv as_LAST_INDEX_FIRST, rv xb_21, rv ob30, iv 1] [])) _
    refine XS.iload X43.here hx rfl (hb hby at_310) rfl ?_
    refine XS.iconst X43.here hx rfl (hb hby at_312) ?_
    show Steps p.tables e below (T43.setTop (mkF m 313 #[iv p0, jv p1, .second, jv p2, .second, jv p3, .second, jv p4, .second, iv 0, iv 2, jv x0, .second, jv x1, .second, jv x2, .second, jv xe, .second, rv ob7, rv as_LAST_INDEX_FIRST, rv xb_21, rv ob30, iv 1] [(.int 1), (.int 2)])) _
    refine XS.icmpNo X43.here hx rfl (hb hby at_313) rfl (tlt (by decide : (1 : Int32) < (2 : Int32))).2.2.2 ?_
    refine XS.iload X43.here hx rfl (hb hby at_316) rfl ?_
    show Steps p.tables e below (T43.setTop (mkF m 318 #[iv p0, jv p1, .second, jv p2, .second, jv p3, .second, jv p4, .second, iv 0, iv 2, jv x0, .second, jv x1, .second, jv x2, .second, jv xe, .second, rv ob7, rv as_LAST_INDEX_FIRST, rv xb_21, rv ob30, iv 1] [(.int 1)])) _
    refine XS.ifNo X43.here hx rfl (hb hby at_318) rfl ((if0 _ _).trans (feq (by decide : ¬ ((1 : Int32) = (0 : Int32)))).1) ?_
    refine XS.aload X43.here hx rfl (hb hby at_321) rfl rfl ?_
    show Steps p.tables e below (T43.setTop (mkF m 323 #[iv p0, jv p1, .second, jv p2, .second, jv p3, .second, jv p4, .second, iv 0, iv 2, jv x0, .second, jv x1, .second, jv x2, .second, jv xe, .second, rv ob7, rv as_LAST_INDEX_FIRST, rv xb_21, rv ob30, iv 1] [(.ref xb_21)])) _
    refine XS.iconst X43.here hx rfl (hb hby at_323) ?_
    show Steps p.tables e below (T43.setTop (mkF m 324 #[iv p0, jv p1, .second, jv p2, .second, jv p3, .second, jv p4, .second, iv 0, iv 2, jv x0, .second, jv x1, .second, jv x2, .second, jv xe, .second, rv ob7, rv as_LAST_INDEX_FIRST, rv xb_21, rv ob30, iv 1] [(.int 1), (.ref xb_21)])) _
    exact k
  refine own_lift sg52 ?_
  show own_Go p.tables e below (T43.setTop (mkF m 324 #[iv p0, jv p1, .second, jv p2, .second, jv p3, .second, jv p4, .second, iv 0, iv 2, jv x0, .second, jv x1, .second, jv x2, .second, jv xe, .second, rv ob7, rv as_LAST_INDEX_FIRST, rv xb_21, rv ob30, iv 1] [(.int 1), (.ref xb_21)])) _
  obtain ⟨cl53, Ar53, qx53, Sx53, N53', H53', G53'⟩ := id (Fc45)
  have hin53 : ¬ ((1 : Int32) < 0 ∨ cl53.slots.size ≤ ((1 : Int32)).toNatClampNeg) := inb_of Sx53 ⟨(by decide : ¬ ((1 : Int32) < (0 : Int32))), (by decide : (1 : Int32) < (2 : Int32))⟩
  have hat53 : cl53.slots[((1 : Int32)).toNatClampNeg]? = some (.long (xe * x0)) := Has.at H53' hin53 rfl
  have sg54 : ∀ t, Steps p.tables e below (T43.setTop (mkF m 328 #[iv p0, jv p1, .second, jv p2, .second, jv p3, .second, jv p4, .second, iv 0, iv 2, jv x0, .second, jv x1, .second, jv x2, .second, jv xe, .second, rv ob7, rv as_LAST_INDEX_FIRST, rv xb_21, rv ob30, iv 1] [(.int 1), (.ref ob30), (.long (xe * x0))])) t → Steps p.tables e below (T43.setTop (mkF m 324 #[iv p0, jv p1, .second, jv p2, .second, jv p3, .second, jv p4, .second, iv 0, iv 2, jv x0, .second, jv x1, .second, jv x2, .second, jv xe, .second, rv ob7, rv as_LAST_INDEX_FIRST, rv xb_21, rv ob30, iv 1] [(.int 1), (.ref xb_21)])) t := by
    intro t k
    refine X43.laload hx (j := (1 : Int32)) (v := (.long (xe * x0))) (by rw [e43]; exact Ar53.1) (State.isArrayOf_alike hZ.alike Ar53.2.1) Ar53.2.2 hin53 hat53 (g := (mkF m 324 #[iv p0, jv p1, .second, jv p2, .second, jv p3, .second, jv p4, .second, iv 0, iv 2, jv x0, .second, jv x1, .second, jv x2, .second, jv xe, .second, rv ob7, rv as_LAST_INDEX_FIRST, rv xb_21, rv ob30, iv 1] [(.int 1), (.ref xb_21)])) rfl rfl (hb hby at_324) _ ?_
    show Steps p.tables e below (T43.setTop (mkF m 325 #[iv p0, jv p1, .second, jv p2, .second, jv p3, .second, jv p4, .second, iv 0, iv 2, jv x0, .second, jv x1, .second, jv x2, .second, jv xe, .second, rv ob7, rv as_LAST_INDEX_FIRST, rv xb_21, rv ob30, iv 1] [(.long (xe * x0))])) _
    refine XS.aload X43.here hx rfl (hb hby at_325) rfl rfl ?_
    refine XS.iconst X43.here hx rfl (hb hby at_327) ?_
    show Steps p.tables e below (T43.setTop (mkF m 328 #[iv p0, jv p1, .second, jv p2, .second, jv p3, .second, jv p4, .second, iv 0, iv 2, jv x0, .second, jv x1, .second, jv x2, .second, jv xe, .second, rv ob7, rv as_LAST_INDEX_FIRST, rv xb_21, rv ob30, iv 1] [(.int 1), (.ref ob30), (.long (xe * x0))])) _
    exact k
  refine own_lift sg54 ?_
  show own_Go p.tables e below (T43.setTop (mkF m 328 #[iv p0, jv p1, .second, jv p2, .second, jv p3, .second, jv p4, .second, iv 0, iv 2, jv x0, .second, jv x1, .second, jv x2, .second, jv xe, .second, rv ob7, rv as_LAST_INDEX_FIRST, rv xb_21, rv ob30, iv 1] [(.int 1), (.ref ob30), (.long (xe * x0))])) _
  obtain ⟨cl55, Ar55, qx55, Sx55, N55', H55', G55'⟩ := id (Vn43)
  have hin55 : ¬ ((1 : Int32) < 0 ∨ cl55.slots.size ≤ ((1 : Int32)).toNatClampNeg) := inb_of Sx55 ⟨(by decide : ¬ ((1 : Int32) < (0 : Int32))), (by decide : (1 : Int32) < (3 : Int32))⟩
  have hat55 : cl55.slots[((1 : Int32)).toNatClampNeg]? = some (.long (xe * x0)) := Has.at H55' hin55 rfl
  have sg56 : ∀ t, Steps p.tables e below (T43.setTop (mkF m 336 #[iv p0, jv p1, .second, jv p2, .second, jv p3, .second, jv p4, .second, iv 0, iv 2, jv x0, .second, jv x1, .second, jv x2, .second, jv xe, .second, rv ob7, rv as_LAST_INDEX_FIRST, rv xb_21, rv ob30, iv 1] [(.int 1), (.ref ob7)])) t → Steps p.tables e below (T43.setTop (mkF m 328 #[iv p0, jv p1, .second, jv p2, .second, jv p3, .second, jv p4, .second, iv 0, iv 2, jv x0, .second, jv x1, .second, jv x2, .second, jv xe, .second, rv ob7, rv as_LAST_INDEX_FIRST, rv xb_21, rv ob30, iv 1] [(.int 1), (.ref ob30), (.long (xe * x0))])) t := by
    intro t k
    refine X43.laload hx (j := (1 : Int32)) (v := (.long (xe * x0))) (by rw [e43]; exact Ar55.1) (State.isArrayOf_alike hZ.alike Ar55.2.1) Ar55.2.2 hin55 hat55 (g := (mkF m 328 #[iv p0, jv p1, .second, jv p2, .second, jv p3, .second, jv p4, .second, iv 0, iv 2, jv x0, .second, jv x1, .second, jv x2, .second, jv xe, .second, rv ob7, rv as_LAST_INDEX_FIRST, rv xb_21, rv ob30, iv 1] [(.int 1), (.ref ob30), (.long (xe * x0))])) rfl rfl (hb hby at_328) _ ?_
    show Steps p.tables e below (T43.setTop (mkF m 329 #[iv p0, jv p1, .second, jv p2, .second, jv p3, .second, jv p4, .second, iv 0, iv 2, jv x0, .second, jv x1, .second, jv x2, .second, jv xe, .second, rv ob7, rv as_LAST_INDEX_FIRST, rv xb_21, rv ob30, iv 1] [(.long (xe * x0)), (.long (xe * x0))])) _
    refine XS.lcmp X43.here hx rfl (hb hby at_329) rfl ?_
    refine XS.ifNo X43.here hx rfl (hb hby at_330) rfl ((if0 _ _).trans (teq ((lw_eq (xe * x0) (xe * x0)).2 (rfl : (xe * x0) = (xe * x0)))).2) ?_
    show Steps p.tables e below (T43.setTop (mkF m 333 #[iv p0, jv p1, .second, jv p2, .second, jv p3, .second, jv p4, .second, iv 0, iv 2, jv x0, .second, jv x1, .second, jv x2, .second, jv xe, .second, rv ob7, rv as_LAST_INDEX_FIRST, rv xb_21, rv ob30, iv 1] [])) _
    refine XS.aload X43.here hx rfl (hb hby at_333) rfl rfl ?_
    refine XS.iconst X43.here hx rfl (hb hby at_335) ?_
    show Steps p.tables e below (T43.setTop (mkF m 336 #[iv p0, jv p1, .second, jv p2, .second, jv p3, .second, jv p4, .second, iv 0, iv 2, jv x0, .second, jv x1, .second, jv x2, .second, jv xe, .second, rv ob7, rv as_LAST_INDEX_FIRST, rv xb_21, rv ob30, iv 1] [(.int 1), (.ref ob7)])) _
    exact k
  refine own_lift sg56 ?_
  show own_Go p.tables e below (T43.setTop (mkF m 336 #[iv p0, jv p1, .second, jv p2, .second, jv p3, .second, jv p4, .second, iv 0, iv 2, jv x0, .second, jv x1, .second, jv x2, .second, jv xe, .second, rv ob7, rv as_LAST_INDEX_FIRST, rv xb_21, rv ob30, iv 1] [(.int 1), (.ref ob7)])) _
  obtain ⟨cl57, Ar57, qx57, Sx57, N57', H57', G57'⟩ := id (Fc50)
  have hin57 : ¬ ((1 : Int32) < 0 ∨ cl57.slots.size ≤ ((1 : Int32)).toNatClampNeg) := inb_of Sx57 ⟨(by decide : ¬ ((1 : Int32) < (0 : Int32))), (by decide : (1 : Int32) < (2 : Int32))⟩
  have hat57 : cl57.slots[((1 : Int32)).toNatClampNeg]? = some (.long x1) := Has.at H57' hin57 rfl
  have sg58 : ∀ t, Steps p.tables e below (T43.setTop (mkF m 392 #[iv p0, jv p1, .second, jv p2, .second, jv p3, .second, jv p4, .second, iv 0, iv 2, jv x0, .second, jv x1, .second, jv x2, .second, jv xe, .second, rv ob7, rv as_LAST_INDEX_FIRST, rv xb_21, rv ob30, iv 1] [(.int 1)])) t → Steps p.tables e below (T43.setTop (mkF m 336 #[iv p0, jv p1, .second, jv p2, .second, jv p3, .second, jv p4, .second, iv 0, iv 2, jv x0, .second, jv x1, .second, jv x2, .second, jv xe, .second, rv ob7, rv as_LAST_INDEX_FIRST, rv xb_21, rv ob30, iv 1] [(.int 1), (.ref ob7)])) t := by
    intro t k
    refine X43.laload hx (j := (1 : Int32)) (v := (.long x1)) (by rw [e43]; exact Ar57.1) (State.isArrayOf_alike hZ.alike Ar57.2.1) Ar57.2.2 hin57 hat57 (g := (mkF m 336 #[iv p0, jv p1, .second, jv p2, .second, jv p3, .second, jv p4, .second, iv 0, iv 2, jv x0, .second, jv x1, .second, jv x2, .second, jv xe, .second, rv ob7, rv as_LAST_INDEX_FIRST, rv xb_21, rv ob30, iv 1] [(.int 1), (.ref ob7)])) rfl rfl (hb hby at_336) _ ?_
    show Steps p.tables e below (T43.setTop (mkF m 337 #[iv p0, jv p1, .second, jv p2, .second, jv p3, .second, jv p4, .second, iv 0, iv 2, jv x0, .second, jv x1, .second, jv x2, .second, jv xe, .second, rv ob7, rv as_LAST_INDEX_FIRST, rv xb_21, rv ob30, iv 1] [(.long x1)])) _
    refine XS.lload X43.here hx rfl (hb hby at_337) rfl ?_
    refine XS.lcmp X43.here hx rfl (hb hby at_339) rfl ?_
    show Steps p.tables e below (T43.setTop (mkF m 340 #[iv p0, jv p1, .second, jv p2, .second, jv p3, .second, jv p4, .second, iv 0, iv 2, jv x0, .second, jv x1, .second, jv x2, .second, jv xe, .second, rv ob7, rv as_LAST_INDEX_FIRST, rv xb_21, rv ob30, iv 1] [(.int (lcmpW x1 x1))])) _
    refine XS.ifNo X43.here hx rfl (hb hby at_340) rfl ((if0 _ _).trans (teq ((lw_eq x1 x1).2 (rfl : x1 = x1))).2) ?_
    refine XS.iconst X43.here hx rfl (hb hby at_343) ?_
    show Steps p.tables e below (T43.setTop (mkF m 344 #[iv p0, jv p1, .second, jv p2, .second, jv p3, .second, jv p4, .second, iv 0, iv 2, jv x0, .second, jv x1, .second, jv x2, .second, jv xe, .second, rv ob7, rv as_LAST_INDEX_FIRST, rv xb_21, rv ob30, iv 1] [(.int 1)])) _
    refine XS.goto X43.here hx rfl (pc0 := 344) (pc' := 348) rfl (hb hby at_344) (by decide) (by decide) ?_
    refine XS.istore X43.here hx rfl (hb hby at_348) rfl (l' := #[iv p0, jv p1, .second, jv p2, .second, jv p3, .second, jv p4, .second, iv 0, iv 2, jv x0, .second, jv x1, .second, jv x2, .second, jv xe, .second, rv ob7, rv as_LAST_INDEX_FIRST, rv xb_21, rv ob30, iv 1]) rfl ?_
    show Steps p.tables e below (T43.setTop (mkF m 350 #[iv p0, jv p1, .second, jv p2, .second, jv p3, .second, jv p4, .second, iv 0, iv 2, jv x0, .second, jv x1, .second, jv x2, .second, jv xe, .second, rv ob7, rv as_LAST_INDEX_FIRST, rv xb_21, rv ob30, iv 1] [])) _
    refine XS.iload X43.here hx rfl (hb hby at_350) rfl ?_
    refine XS.iconst X43.here hx rfl (hb hby at_352) ?_
    show Steps p.tables e below (T43.setTop (mkF m 353 #[iv p0, jv p1, .second, jv p2, .second, jv p3, .second, jv p4, .second, iv 0, iv 2, jv x0, .second, jv x1, .second, jv x2, .second, jv xe, .second, rv ob7, rv as_LAST_INDEX_FIRST, rv xb_21, rv ob30, iv 1] [(.int 2), (.int 2)])) _
    refine XS.icmpYes X43.here hx rfl (pc0 := 353) (pc' := 390) rfl (hb hby at_353) rfl (flt (by decide : ¬ ((2 : Int32) < (2 : Int32)))).2.2.2 (by decide) (by decide) ?_
    refine XS.iload X43.here hx rfl (hb hby at_390) rfl ?_
    show Steps p.tables e below (T43.setTop (mkF m 392 #[iv p0, jv p1, .second, jv p2, .second, jv p3, .second, jv p4, .second, iv 0, iv 2, jv x0, .second, jv x1, .second, jv x2, .second, jv xe, .second, rv ob7, rv as_LAST_INDEX_FIRST, rv xb_21, rv ob30, iv 1] [(.int 1)])) _
    exact k
  refine own_lift sg58 ?_
  show own_Go p.tables e below (T43.setTop (mkF m 392 #[iv p0, jv p1, .second, jv p2, .second, jv p3, .second, jv p4, .second, iv 0, iv 2, jv x0, .second, jv x1, .second, jv x2, .second, jv xe, .second, rv ob7, rv as_LAST_INDEX_FIRST, rv xb_21, rv ob30, iv 1] [(.int 1)])) _
  obtain ⟨fs, hr, hrun, hended, hW, hsame⟩ := X43.leave (v := some (.int 1)) (fun h => by rw [Bd.returns] at h; cases h)
  refine ⟨_, _, ?_, hrun, hended, _, _, rfl, ?_, ⟨_, rfl⟩, hW, hsame.mono (by decide) (by decide)⟩
  · exact retN X43 hx (t := .boolean) Bd.returns (by simp) (hb hby at_392) hr
  · show Q0 Z  h0 n0 _ T43.heap _
    rw [e43]
    exact ⟨rfl, N43⟩
theorem ef_rm0_3L (m : MethodId) (x0 : Int32) (x1 : Int64) (x2 : Int64) (x3 : Int64) (x4 : Int64) : entryFrame m #[(.int x0), (.long x1), (.long x2), (.long x3), (.long x4)] maxLocals = mkF m 0 #[.val (.int x0), .val (.long x1), .second, .val (.long x2), .second, .val (.long x3), .second, .val (.long x4), .second, .unset, .unset, .unset, .unset, .unset, .unset, .unset, .unset, .unset, .unset, .unset, .unset, .unset, .unset, .unset] [] := by first | (simp [entryFrame, mkF, argsToLocals, Value.category, maxLocals]; done) | rfl
set_option maxRecDepth 65536 in
set_option maxHeartbeats 40000000 in
theorem rm0_3L (l : Launch) (Z : State) (a0 : Array Value) (hw : ∀ d ∈ tables_1, d.before a0 Z = true) (ws : List Jvm.Cond) (p0 : Int32) (p1 : Int64) (p2 : Int64) (p3 : Int64) (p4 : Int64) (as_LAST_INDEX_FIRST : Addr) (as_FIRST_INDEX_FIRST : Addr) (x0 : Int64) (x1 : Int64) (x2 : Int64) (xe : Int64) (h0 : Heap) (n0 : Nat) (Z0 : n0 ≤ h0.size) (S_LAST_INDEX_FIRST : Sta Z h0 "com/example/halyard/halyard/east/ArrayStorage" "LAST_INDEX_FIRST" "Lcom/example/halyard/halyard/east/ArrayStorage;" (.ref as_LAST_INDEX_FIRST)) (E_LAST_INDEX_FIRST : Exa Z h0 as_LAST_INDEX_FIRST "com/example/halyard/halyard/east/ArrayStorage") (O_LAST_INDEX_FIRST : Fld Z h0 as_LAST_INDEX_FIRST "java/lang/Enum" "ordinal" "I" (.int 1)) (S_FIRST_INDEX_FIRST : Sta Z h0 "com/example/halyard/halyard/east/ArrayStorage" "FIRST_INDEX_FIRST" "Lcom/example/halyard/halyard/east/ArrayStorage;" (.ref as_FIRST_INDEX_FIRST)) (E_FIRST_INDEX_FIRST : Exa Z h0 as_FIRST_INDEX_FIRST "com/example/halyard/halyard/east/ArrayStorage") (O_FIRST_INDEX_FIRST : Fld Z h0 as_FIRST_INDEX_FIRST "java/lang/Enum" "ordinal" "I" (.int 0)) (hx0 : (p1 &&& (65535 : Int64)) = x0) (hx1 : (p2 &&& (65535 : Int64)) = x1) (hx2 : (p3 &&& (65535 : Int64)) = x2) (hxe : (p4 &&& (32767 : Int64)) = xe) (b1 : (p0 &&& (1 : Int32)) = (0 : Int32)) (hn : (((p0.toUInt32 >>> ((1 : Int32) &&& 31).toUInt32).toInt32) &&& (3 : Int32)) = (3 : Int32)) (hne : ¬ (as_LAST_INDEX_FIRST = as_FIRST_INDEX_FIRST)) :
    MetFree l x (head1 (Jvm.Cond.code x code maxLocals ret :: ws) room_1) (fun a U => a = #[(.int p0), (.long p1), (.long p2), (.long p3), (.long p4)] ∧ Z.Warmed39 U.vm ∧ U.heap = h0) (fun _ _ _ _ _ => True) (fun _ U o U' => ∃ v L, o = .returned v ∧ Q0 Z  h0 n0 v U'.heap L ∧ FrameEnd U o U' L 16 128) := by
  refine MetFree.of_bodySF (plainFor_of_name pn_1) hisR ?_
  intro p e s m args below meth c s₁ Bd hml0 hP hK
  obtain ⟨rfl, hZ, hh⟩ := hP
  have hx := Bd.exec
  have hby := Bd.bytes
  have hml : c.maxLocals = 24 := hml0
  have hown : s.vm.findClass "com/example/halyard/halyard/east/ArrayStorageStridesPinLaw" = some m.cls := findClass_of_methodNamed Bd.named
  have hnm := (name_of_methodNamed Bd.named Bd.method).1
  have X0 : Stand p l e room_1 s m #[(.int p0), (.long p1), (.long p2), (.long p3), (.long p4)] below meth c s₁ [] 0 0 := Stand.of_body Bd
  have e0 : s₁.heap = h0 := by rw [← hh, Bd.state]; rfl
  have N0 := Fr.nil n0
  refine own_go (own_lift (fun t k => castTop (ef_rm0_3L m p0 p1 p2 p3 p4) k) ?_)
  show own_Go p.tables e below (s₁.setTop (mkF m 0 #[iv p0, jv p1, .second, jv p2, .second, jv p3, .second, jv p4, .second, .unset, .unset, .unset, .unset, .unset, .unset, .unset, .unset, .unset, .unset, .unset, .unset, .unset, .unset, .unset] [])) _
  have sg1 : ∀ t, Steps p.tables e below (s₁.setTop (mkF m 18 #[iv p0, jv p1, .second, jv p2, .second, jv p3, .second, jv p4, .second, iv 0, .unset, .unset, .unset, .unset, .unset, .unset, .unset, .unset, .unset, .unset, .unset, .unset, .unset, .unset] [(.int (((p0.toUInt32 >>> ((1 : Int32) &&& 31).toUInt32).toInt32) &&& (3 : Int32)))])) t → Steps p.tables e below (s₁.setTop (mkF m 0 #[iv p0, jv p1, .second, jv p2, .second, jv p3, .second, jv p4, .second, .unset, .unset, .unset, .unset, .unset, .unset, .unset, .unset, .unset, .unset, .unset, .unset, .unset, .unset, .unset] [])) t := by
    intro t k
    refine XS.iloadN X0.here hx rfl (hb hby at_0) rfl ?_
    show Steps p.tables e below (s₁.setTop (mkF m 1 #[iv p0, jv p1, .second, jv p2, .second, jv p3, .second, jv p4, .second, .unset, .unset, .unset, .unset, .unset, .unset, .unset, .unset, .unset, .unset, .unset, .unset, .unset, .unset, .unset] [(.int p0)])) _
    refine XS.iconst X0.here hx rfl (hb hby at_1) ?_
    refine XS.iand X0.here hx rfl (hb hby at_2) rfl ?_
    show Steps p.tables e below (s₁.setTop (mkF m 3 #[iv p0, jv p1, .second, jv p2, .second, jv p3, .second, jv p4, .second, .unset, .unset, .unset, .unset, .unset, .unset, .unset, .unset, .unset, .unset, .unset, .unset, .unset, .unset, .unset] [(.int (p0 &&& (1 : Int32)))])) _
    refine XS.ifYes X0.here hx rfl (pc0 := 3) (pc' := 10) rfl (hb hby at_3) rfl ((if0 _ _).trans (teq b1).1) (by decide) (by decide) ?_
    refine XS.iconst X0.here hx rfl (hb hby at_10) ?_
    show Steps p.tables e below (s₁.setTop (mkF m 11 #[iv p0, jv p1, .second, jv p2, .second, jv p3, .second, jv p4, .second, .unset, .unset, .unset, .unset, .unset, .unset, .unset, .unset, .unset, .unset, .unset, .unset, .unset, .unset, .unset] [(.int 0)])) _
    refine XS.istore X0.here hx rfl (hb hby at_11) rfl (l' := #[iv p0, jv p1, .second, jv p2, .second, jv p3, .second, jv p4, .second, iv 0, .unset, .unset, .unset, .unset, .unset, .unset, .unset, .unset, .unset, .unset, .unset, .unset, .unset, .unset]) rfl ?_
    refine XS.iloadN X0.here hx rfl (hb hby at_13) rfl ?_
    show Steps p.tables e below (s₁.setTop (mkF m 14 #[iv p0, jv p1, .second, jv p2, .second, jv p3, .second, jv p4, .second, iv 0, .unset, .unset, .unset, .unset, .unset, .unset, .unset, .unset, .unset, .unset, .unset, .unset, .unset, .unset] [(.int p0)])) _
    refine XS.iconst X0.here hx rfl (hb hby at_14) ?_
    refine XS.iushr X0.here hx rfl (hb hby at_15) rfl ?_
    show Steps p.tables e below (s₁.setTop (mkF m 16 #[iv p0, jv p1, .second, jv p2, .second, jv p3, .second, jv p4, .second, iv 0, .unset, .unset, .unset, .unset, .unset, .unset, .unset, .unset, .unset, .unset, .unset, .unset, .unset, .unset] [(.int ((p0.toUInt32 >>> ((1 : Int32) &&& 31).toUInt32).toInt32))])) _
    refine XS.iconst X0.here hx rfl (hb hby at_16) ?_
    refine XS.iand X0.here hx rfl (hb hby at_17) rfl ?_
    show Steps p.tables e below (s₁.setTop (mkF m 18 #[iv p0, jv p1, .second, jv p2, .second, jv p3, .second, jv p4, .second, iv 0, .unset, .unset, .unset, .unset, .unset, .unset, .unset, .unset, .unset, .unset, .unset, .unset, .unset, .unset] [(.int (((p0.toUInt32 >>> ((1 : Int32) &&& 31).toUInt32).toInt32) &&& (3 : Int32)))])) _
    exact k
  refine own_lift sg1 ?_
  show own_Go p.tables e below (s₁.setTop (mkF m 18 #[iv p0, jv p1, .second, jv p2, .second, jv p3, .second, jv p4, .second, iv 0, .unset, .unset, .unset, .unset, .unset, .unset, .unset, .unset, .unset, .unset, .unset, .unset, .unset, .unset] [(.int (((p0.toUInt32 >>> ((1 : Int32) &&& 31).toUInt32).toInt32) &&& (3 : Int32)))])) _
  rw [hn]
  show own_Go p.tables e below (s₁.setTop (mkF m 18 #[iv p0, jv p1, .second, jv p2, .second, jv p3, .second, jv p4, .second, iv 0, .unset, .unset, .unset, .unset, .unset, .unset, .unset, .unset, .unset, .unset, .unset, .unset, .unset, .unset] [(.int 3)])) _
  have sg2 : ∀ t, Steps p.tables e below (s₁.setTop (mkF m 25 #[iv p0, jv p1, .second, jv p2, .second, jv p3, .second, jv p4, .second, iv 0, iv 3, .unset, .unset, .unset, .unset, .unset, .unset, .unset, .unset, .unset, .unset, .unset, .unset, .unset] [(.long (p1 &&& (65535 : Int64)))])) t → Steps p.tables e below (s₁.setTop (mkF m 18 #[iv p0, jv p1, .second, jv p2, .second, jv p3, .second, jv p4, .second, iv 0, .unset, .unset, .unset, .unset, .unset, .unset, .unset, .unset, .unset, .unset, .unset, .unset, .unset, .unset] [(.int 3)])) t := by
    intro t k
    refine XS.istore X0.here hx rfl (hb hby at_18) rfl (l' := #[iv p0, jv p1, .second, jv p2, .second, jv p3, .second, jv p4, .second, iv 0, iv 3, .unset, .unset, .unset, .unset, .unset, .unset, .unset, .unset, .unset, .unset, .unset, .unset, .unset]) rfl ?_
    show Steps p.tables e below (s₁.setTop (mkF m 20 #[iv p0, jv p1, .second, jv p2, .second, jv p3, .second, jv p4, .second, iv 0, iv 3, .unset, .unset, .unset, .unset, .unset, .unset, .unset, .unset, .unset, .unset, .unset, .unset, .unset] [])) _
    refine XS.lloadN X0.here hx rfl (hb hby at_20) rfl ?_
    refine X0.ldc2Long hx hown (mvT hZ (wd hw 0 rfl)) (g := (mkF m 21 #[iv p0, jv p1, .second, jv p2, .second, jv p3, .second, jv p4, .second, iv 0, iv 3, .unset, .unset, .unset, .unset, .unset, .unset, .unset, .unset, .unset, .unset, .unset, .unset, .unset] [(.long p1)])) rfl (hb hby at_21) _ ?_
    show Steps p.tables e below (s₁.setTop (mkF m 24 #[iv p0, jv p1, .second, jv p2, .second, jv p3, .second, jv p4, .second, iv 0, iv 3, .unset, .unset, .unset, .unset, .unset, .unset, .unset, .unset, .unset, .unset, .unset, .unset, .unset] [(.long 65535), (.long p1)])) _
    refine XS.land X0.here hx rfl (hb hby at_24) rfl ?_
    show Steps p.tables e below (s₁.setTop (mkF m 25 #[iv p0, jv p1, .second, jv p2, .second, jv p3, .second, jv p4, .second, iv 0, iv 3, .unset, .unset, .unset, .unset, .unset, .unset, .unset, .unset, .unset, .unset, .unset, .unset, .unset] [(.long (p1 &&& (65535 : Int64)))])) _
    exact k
  refine own_lift sg2 ?_
  show own_Go p.tables e below (s₁.setTop (mkF m 25 #[iv p0, jv p1, .second, jv p2, .second, jv p3, .second, jv p4, .second, iv 0, iv 3, .unset, .unset, .unset, .unset, .unset, .unset, .unset, .unset, .unset, .unset, .unset, .unset, .unset] [(.long (p1 &&& (65535 : Int64)))])) _
  rw [hx0]
  show own_Go p.tables e below (s₁.setTop (mkF m 25 #[iv p0, jv p1, .second, jv p2, .second, jv p3, .second, jv p4, .second, iv 0, iv 3, .unset, .unset, .unset, .unset, .unset, .unset, .unset, .unset, .unset, .unset, .unset, .unset, .unset] [(.long x0)])) _
  have sg3 : ∀ t, Steps p.tables e below (s₁.setTop (mkF m 32 #[iv p0, jv p1, .second, jv p2, .second, jv p3, .second, jv p4, .second, iv 0, iv 3, jv x0, .second, .unset, .unset, .unset, .unset, .unset, .unset, .unset, .unset, .unset, .unset, .unset] [(.long (p2 &&& (65535 : Int64)))])) t → Steps p.tables e below (s₁.setTop (mkF m 25 #[iv p0, jv p1, .second, jv p2, .second, jv p3, .second, jv p4, .second, iv 0, iv 3, .unset, .unset, .unset, .unset, .unset, .unset, .unset, .unset, .unset, .unset, .unset, .unset, .unset] [(.long x0)])) t := by
    intro t k
    refine XS.lstore X0.here hx rfl (hb hby at_25) rfl (l' := #[iv p0, jv p1, .second, jv p2, .second, jv p3, .second, jv p4, .second, iv 0, iv 3, jv x0, .second, .unset, .unset, .unset, .unset, .unset, .unset, .unset, .unset, .unset, .unset, .unset]) rfl ?_
    show Steps p.tables e below (s₁.setTop (mkF m 27 #[iv p0, jv p1, .second, jv p2, .second, jv p3, .second, jv p4, .second, iv 0, iv 3, jv x0, .second, .unset, .unset, .unset, .unset, .unset, .unset, .unset, .unset, .unset, .unset, .unset] [])) _
    refine XS.lloadN X0.here hx rfl (hb hby at_27) rfl ?_
    refine X0.ldc2Long hx hown (mvT hZ (wd hw 0 rfl)) (g := (mkF m 28 #[iv p0, jv p1, .second, jv p2, .second, jv p3, .second, jv p4, .second, iv 0, iv 3, jv x0, .second, .unset, .unset, .unset, .unset, .unset, .unset, .unset, .unset, .unset, .unset, .unset] [(.long p2)])) rfl (hb hby at_28) _ ?_
    show Steps p.tables e below (s₁.setTop (mkF m 31 #[iv p0, jv p1, .second, jv p2, .second, jv p3, .second, jv p4, .second, iv 0, iv 3, jv x0, .second, .unset, .unset, .unset, .unset, .unset, .unset, .unset, .unset, .unset, .unset, .unset] [(.long 65535), (.long p2)])) _
    refine XS.land X0.here hx rfl (hb hby at_31) rfl ?_
    show Steps p.tables e below (s₁.setTop (mkF m 32 #[iv p0, jv p1, .second, jv p2, .second, jv p3, .second, jv p4, .second, iv 0, iv 3, jv x0, .second, .unset, .unset, .unset, .unset, .unset, .unset, .unset, .unset, .unset, .unset, .unset] [(.long (p2 &&& (65535 : Int64)))])) _
    exact k
  refine own_lift sg3 ?_
  show own_Go p.tables e below (s₁.setTop (mkF m 32 #[iv p0, jv p1, .second, jv p2, .second, jv p3, .second, jv p4, .second, iv 0, iv 3, jv x0, .second, .unset, .unset, .unset, .unset, .unset, .unset, .unset, .unset, .unset, .unset, .unset] [(.long (p2 &&& (65535 : Int64)))])) _
  rw [hx1]
  show own_Go p.tables e below (s₁.setTop (mkF m 32 #[iv p0, jv p1, .second, jv p2, .second, jv p3, .second, jv p4, .second, iv 0, iv 3, jv x0, .second, .unset, .unset, .unset, .unset, .unset, .unset, .unset, .unset, .unset, .unset, .unset] [(.long x1)])) _
  have sg4 : ∀ t, Steps p.tables e below (s₁.setTop (mkF m 40 #[iv p0, jv p1, .second, jv p2, .second, jv p3, .second, jv p4, .second, iv 0, iv 3, jv x0, .second, jv x1, .second, .unset, .unset, .unset, .unset, .unset, .unset, .unset, .unset, .unset] [(.long (p3 &&& (65535 : Int64)))])) t → Steps p.tables e below (s₁.setTop (mkF m 32 #[iv p0, jv p1, .second, jv p2, .second, jv p3, .second, jv p4, .second, iv 0, iv 3, jv x0, .second, .unset, .unset, .unset, .unset, .unset, .unset, .unset, .unset, .unset, .unset, .unset] [(.long x1)])) t := by
    intro t k
    refine XS.lstore X0.here hx rfl (hb hby at_32) rfl (l' := #[iv p0, jv p1, .second, jv p2, .second, jv p3, .second, jv p4, .second, iv 0, iv 3, jv x0, .second, jv x1, .second, .unset, .unset, .unset, .unset, .unset, .unset, .unset, .unset, .unset]) rfl ?_
    show Steps p.tables e below (s₁.setTop (mkF m 34 #[iv p0, jv p1, .second, jv p2, .second, jv p3, .second, jv p4, .second, iv 0, iv 3, jv x0, .second, jv x1, .second, .unset, .unset, .unset, .unset, .unset, .unset, .unset, .unset, .unset] [])) _
    refine XS.lload X0.here hx rfl (hb hby at_34) rfl ?_
    refine X0.ldc2Long hx hown (mvT hZ (wd hw 0 rfl)) (g := (mkF m 36 #[iv p0, jv p1, .second, jv p2, .second, jv p3, .second, jv p4, .second, iv 0, iv 3, jv x0, .second, jv x1, .second, .unset, .unset, .unset, .unset, .unset, .unset, .unset, .unset, .unset] [(.long p3)])) rfl (hb hby at_36) _ ?_
    show Steps p.tables e below (s₁.setTop (mkF m 39 #[iv p0, jv p1, .second, jv p2, .second, jv p3, .second, jv p4, .second, iv 0, iv 3, jv x0, .second, jv x1, .second, .unset, .unset, .unset, .unset, .unset, .unset, .unset, .unset, .unset] [(.long 65535), (.long p3)])) _
    refine XS.land X0.here hx rfl (hb hby at_39) rfl ?_
    show Steps p.tables e below (s₁.setTop (mkF m 40 #[iv p0, jv p1, .second, jv p2, .second, jv p3, .second, jv p4, .second, iv 0, iv 3, jv x0, .second, jv x1, .second, .unset, .unset, .unset, .unset, .unset, .unset, .unset, .unset, .unset] [(.long (p3 &&& (65535 : Int64)))])) _
    exact k
  refine own_lift sg4 ?_
  show own_Go p.tables e below (s₁.setTop (mkF m 40 #[iv p0, jv p1, .second, jv p2, .second, jv p3, .second, jv p4, .second, iv 0, iv 3, jv x0, .second, jv x1, .second, .unset, .unset, .unset, .unset, .unset, .unset, .unset, .unset, .unset] [(.long (p3 &&& (65535 : Int64)))])) _
  rw [hx2]
  show own_Go p.tables e below (s₁.setTop (mkF m 40 #[iv p0, jv p1, .second, jv p2, .second, jv p3, .second, jv p4, .second, iv 0, iv 3, jv x0, .second, jv x1, .second, .unset, .unset, .unset, .unset, .unset, .unset, .unset, .unset, .unset] [(.long x2)])) _
  have sg5 : ∀ t, Steps p.tables e below (s₁.setTop (mkF m 48 #[iv p0, jv p1, .second, jv p2, .second, jv p3, .second, jv p4, .second, iv 0, iv 3, jv x0, .second, jv x1, .second, jv x2, .second, .unset, .unset, .unset, .unset, .unset, .unset, .unset] [(.long (p4 &&& (32767 : Int64)))])) t → Steps p.tables e below (s₁.setTop (mkF m 40 #[iv p0, jv p1, .second, jv p2, .second, jv p3, .second, jv p4, .second, iv 0, iv 3, jv x0, .second, jv x1, .second, .unset, .unset, .unset, .unset, .unset, .unset, .unset, .unset, .unset] [(.long x2)])) t := by
    intro t k
    refine XS.lstore X0.here hx rfl (hb hby at_40) rfl (l' := #[iv p0, jv p1, .second, jv p2, .second, jv p3, .second, jv p4, .second, iv 0, iv 3, jv x0, .second, jv x1, .second, jv x2, .second, .unset, .unset, .unset, .unset, .unset, .unset, .unset]) rfl ?_
    show Steps p.tables e below (s₁.setTop (mkF m 42 #[iv p0, jv p1, .second, jv p2, .second, jv p3, .second, jv p4, .second, iv 0, iv 3, jv x0, .second, jv x1, .second, jv x2, .second, .unset, .unset, .unset, .unset, .unset, .unset, .unset] [])) _
    refine XS.lload X0.here hx rfl (hb hby at_42) rfl ?_
    refine X0.ldc2Long hx hown (mvT hZ (wd hw 1 rfl)) (g := (mkF m 44 #[iv p0, jv p1, .second, jv p2, .second, jv p3, .second, jv p4, .second, iv 0, iv 3, jv x0, .second, jv x1, .second, jv x2, .second, .unset, .unset, .unset, .unset, .unset, .unset, .unset] [(.long p4)])) rfl (hb hby at_44) _ ?_
    show Steps p.tables e below (s₁.setTop (mkF m 47 #[iv p0, jv p1, .second, jv p2, .second, jv p3, .second, jv p4, .second, iv 0, iv 3, jv x0, .second, jv x1, .second, jv x2, .second, .unset, .unset, .unset, .unset, .unset, .unset, .unset] [(.long 32767), (.long p4)])) _
    refine XS.land X0.here hx rfl (hb hby at_47) rfl ?_
    show Steps p.tables e below (s₁.setTop (mkF m 48 #[iv p0, jv p1, .second, jv p2, .second, jv p3, .second, jv p4, .second, iv 0, iv 3, jv x0, .second, jv x1, .second, jv x2, .second, .unset, .unset, .unset, .unset, .unset, .unset, .unset] [(.long (p4 &&& (32767 : Int64)))])) _
    exact k
  refine own_lift sg5 ?_
  show own_Go p.tables e below (s₁.setTop (mkF m 48 #[iv p0, jv p1, .second, jv p2, .second, jv p3, .second, jv p4, .second, iv 0, iv 3, jv x0, .second, jv x1, .second, jv x2, .second, .unset, .unset, .unset, .unset, .unset, .unset, .unset] [(.long (p4 &&& (32767 : Int64)))])) _
  rw [hxe]
  show own_Go p.tables e below (s₁.setTop (mkF m 48 #[iv p0, jv p1, .second, jv p2, .second, jv p3, .second, jv p4, .second, iv 0, iv 3, jv x0, .second, jv x1, .second, jv x2, .second, .unset, .unset, .unset, .unset, .unset, .unset, .unset] [(.long xe)])) _
  have sg6 : ∀ t, Steps p.tables e below (s₁.setTop (mkF m 52 #[iv p0, jv p1, .second, jv p2, .second, jv p3, .second, jv p4, .second, iv 0, iv 3, jv x0, .second, jv x1, .second, jv x2, .second, jv xe, .second, .unset, .unset, .unset, .unset, .unset] [(.int 3)])) t → Steps p.tables e below (s₁.setTop (mkF m 48 #[iv p0, jv p1, .second, jv p2, .second, jv p3, .second, jv p4, .second, iv 0, iv 3, jv x0, .second, jv x1, .second, jv x2, .second, .unset, .unset, .unset, .unset, .unset, .unset, .unset] [(.long xe)])) t := by
    intro t k
    refine XS.lstore X0.here hx rfl (hb hby at_48) rfl (l' := #[iv p0, jv p1, .second, jv p2, .second, jv p3, .second, jv p4, .second, iv 0, iv 3, jv x0, .second, jv x1, .second, jv x2, .second, jv xe, .second, .unset, .unset, .unset, .unset, .unset]) rfl ?_
    show Steps p.tables e below (s₁.setTop (mkF m 50 #[iv p0, jv p1, .second, jv p2, .second, jv p3, .second, jv p4, .second, iv 0, iv 3, jv x0, .second, jv x1, .second, jv x2, .second, jv xe, .second, .unset, .unset, .unset, .unset, .unset] [])) _
    refine XS.iload X0.here hx rfl (hb hby at_50) rfl ?_
    show Steps p.tables e below (s₁.setTop (mkF m 52 #[iv p0, jv p1, .second, jv p2, .second, jv p3, .second, jv p4, .second, iv 0, iv 3, jv x0, .second, jv x1, .second, jv x2, .second, jv xe, .second, .unset, .unset, .unset, .unset, .unset] [(.int 3)])) _
    exact k
  refine own_lift sg6 ?_
  show own_Go p.tables e below (s₁.setTop (mkF m 52 #[iv p0, jv p1, .second, jv p2, .second, jv p3, .second, jv p4, .second, iv 0, iv 3, jv x0, .second, jv x1, .second, jv x2, .second, jv xe, .second, .unset, .unset, .unset, .unset, .unset] [(.int 3)])) _
  obtain ⟨T7, h7, ka7, X7, e7, Ex7, Ax7, st7⟩ := newP X0 hx hZ (wd hw 2 rfl) e0 (g := (mkF m 52 #[iv p0, jv p1, .second, jv p2, .second, jv p3, .second, jv p4, .second, iv 0, iv 3, jv x0, .second, jv x1, .second, jv x2, .second, jv xe, .second, .unset, .unset, .unset, .unset, .unset] [(.int 3)])) rfl (hb hby at_52) rfl (by decide) (cap := 3) (by decide) (by decide) (by decide) (by decide)
  obtain ⟨ob7, g7⟩ : ∃ z, z = h0.size := ⟨_, rfl⟩
  rw [← g7] at Ax7 st7
  have ne8 : as_LAST_INDEX_FIRST ≠ ob7 := Nat.ne_of_lt (Nat.lt_of_lt_of_le E_LAST_INDEX_FIRST.lt (Nat.le_of_eq g7.symm))
  have ne9 : as_FIRST_INDEX_FIRST ≠ ob7 := Nat.ne_of_lt (Nat.lt_of_lt_of_le E_FIRST_INDEX_FIRST.lt (Nat.le_of_eq g7.symm))
  have Z7 : n0 ≤ h7.size := Nat.le_trans Z0 Ex7.1
  have ge7 : n0 ≤ ob7 := Nat.le_trans Z0 (Nat.le_of_eq g7.symm)
  have Vn7 : Arv Z h7 ob7 ka7 .long (3 : Int32) [(.long 0), (.long 0), (.long 0)] (.long 0) := (Arv.new Ax7 (by decide)).pad (pad_rep [] (.long 0) 3)
  refine own_lift st7 ?_
  show own_Go p.tables e below (T7.setTop (mkF m 54 #[iv p0, jv p1, .second, jv p2, .second, jv p3, .second, jv p4, .second, iv 0, iv 3, jv x0, .second, jv x1, .second, jv x2, .second, jv xe, .second, .unset, .unset, .unset, .unset, .unset] [(.ref ob7)])) _
  have sg10 : ∀ t, Steps p.tables e below (T7.setTop (mkF m 66 #[iv p0, jv p1, .second, jv p2, .second, jv p3, .second, jv p4, .second, iv 0, iv 3, jv x0, .second, jv x1, .second, jv x2, .second, jv xe, .second, rv ob7, .unset, .unset, .unset, .unset] [(.long x0), (.int 0), (.ref ob7)])) t → Steps p.tables e below (T7.setTop (mkF m 54 #[iv p0, jv p1, .second, jv p2, .second, jv p3, .second, jv p4, .second, iv 0, iv 3, jv x0, .second, jv x1, .second, jv x2, .second, jv xe, .second, .unset, .unset, .unset, .unset, .unset] [(.ref ob7)])) t := by
    intro t k
    refine XS.astore X7.here hx rfl (hb hby at_54) rfl rfl (l' := #[iv p0, jv p1, .second, jv p2, .second, jv p3, .second, jv p4, .second, iv 0, iv 3, jv x0, .second, jv x1, .second, jv x2, .second, jv xe, .second, rv ob7, .unset, .unset, .unset, .unset]) rfl ?_
    show Steps p.tables e below (T7.setTop (mkF m 56 #[iv p0, jv p1, .second, jv p2, .second, jv p3, .second, jv p4, .second, iv 0, iv 3, jv x0, .second, jv x1, .second, jv x2, .second, jv xe, .second, rv ob7, .unset, .unset, .unset, .unset] [])) _
    refine XS.iload X7.here hx rfl (hb hby at_56) rfl ?_
    refine XS.ifNo X7.here hx rfl (hb hby at_58) rfl ((if0 _ _).trans (tlt (by decide : (0 : Int32) < (3 : Int32))).2.2.2) ?_
    show Steps p.tables e below (T7.setTop (mkF m 61 #[iv p0, jv p1, .second, jv p2, .second, jv p3, .second, jv p4, .second, iv 0, iv 3, jv x0, .second, jv x1, .second, jv x2, .second, jv xe, .second, rv ob7, .unset, .unset, .unset, .unset] [])) _
    refine XS.aload X7.here hx rfl (hb hby at_61) rfl rfl ?_
    refine XS.iconst X7.here hx rfl (hb hby at_63) ?_
    show Steps p.tables e below (T7.setTop (mkF m 64 #[iv p0, jv p1, .second, jv p2, .second, jv p3, .second, jv p4, .second, iv 0, iv 3, jv x0, .second, jv x1, .second, jv x2, .second, jv xe, .second, rv ob7, .unset, .unset, .unset, .unset] [(.int 0), (.ref ob7)])) _
    refine XS.lload X7.here hx rfl (hb hby at_64) rfl ?_
    show Steps p.tables e below (T7.setTop (mkF m 66 #[iv p0, jv p1, .second, jv p2, .second, jv p3, .second, jv p4, .second, iv 0, iv 3, jv x0, .second, jv x1, .second, jv x2, .second, jv xe, .second, rv ob7, .unset, .unset, .unset, .unset] [(.long x0), (.int 0), (.ref ob7)])) _
    exact k
  refine own_lift sg10 ?_
  show own_Go p.tables e below (T7.setTop (mkF m 66 #[iv p0, jv p1, .second, jv p2, .second, jv p3, .second, jv p4, .second, iv 0, iv 3, jv x0, .second, jv x1, .second, jv x2, .second, jv xe, .second, rv ob7, .unset, .unset, .unset, .unset] [(.long x0), (.int 0), (.ref ob7)])) _
  obtain ⟨cl11, Ar11, qx11, Sx11, N11', H11', G11'⟩ := id (Vn7)
  have hin11 : ¬ ((0 : Int32) < 0 ∨ cl11.slots.size ≤ ((0 : Int32)).toNatClampNeg) := inb_of Sx11 ⟨(by decide : ¬ ((0 : Int32) < (0 : Int32))), (by decide : (0 : Int32) < (3 : Int32))⟩
  obtain ⟨T12, h12, X12, e12, W12, st12⟩ := stJ X7 hx hZ e7 Ar11 (j := (0 : Int32)) hin11 (g := (mkF m 66 #[iv p0, jv p1, .second, jv p2, .second, jv p3, .second, jv p4, .second, iv 0, iv 3, jv x0, .second, jv x1, .second, jv x2, .second, jv xe, .second, rv ob7, .unset, .unset, .unset, .unset] [(.long x0), (.int 0), (.ref ob7)])) rfl rfl (hb hby at_66)
  have N12 := Fr.snoc X12 N0 ge7
  have Z12 : n0 ≤ h12.size := Nat.le_trans Z7 (Nat.le_of_eq W12.size.symm)
  have Vn12 : Arv Z h12 ob7 ka7 .long (3 : Int32) [(.long x0), (.long 0), (.long 0)] (.long 0) := Arv.set Ar11 qx11 Sx11 N11' H11' G11' rfl W12 0 rfl (Nat.le_of_ble_eq_true rfl)
  refine own_lift st12 ?_
  show own_Go p.tables e below (T12.setTop (mkF m 67 #[iv p0, jv p1, .second, jv p2, .second, jv p3, .second, jv p4, .second, iv 0, iv 3, jv x0, .second, jv x1, .second, jv x2, .second, jv xe, .second, rv ob7, .unset, .unset, .unset, .unset] [])) _
  have sg13 : ∀ t, Steps p.tables e below (T12.setTop (mkF m 78 #[iv p0, jv p1, .second, jv p2, .second, jv p3, .second, jv p4, .second, iv 0, iv 3, jv x0, .second, jv x1, .second, jv x2, .second, jv xe, .second, rv ob7, .unset, .unset, .unset, .unset] [(.long x1), (.int 1), (.ref ob7)])) t → Steps p.tables e below (T12.setTop (mkF m 67 #[iv p0, jv p1, .second, jv p2, .second, jv p3, .second, jv p4, .second, iv 0, iv 3, jv x0, .second, jv x1, .second, jv x2, .second, jv xe, .second, rv ob7, .unset, .unset, .unset, .unset] [])) t := by
    intro t k
    refine XS.iload X12.here hx rfl (hb hby at_67) rfl ?_
    show Steps p.tables e below (T12.setTop (mkF m 69 #[iv p0, jv p1, .second, jv p2, .second, jv p3, .second, jv p4, .second, iv 0, iv 3, jv x0, .second, jv x1, .second, jv x2, .second, jv xe, .second, rv ob7, .unset, .unset, .unset, .unset] [(.int 3)])) _
    refine XS.iconst X12.here hx rfl (hb hby at_69) ?_
    refine XS.icmpNo X12.here hx rfl (hb hby at_70) rfl (tlt (by decide : (1 : Int32) < (3 : Int32))).2.2.2 ?_
    show Steps p.tables e below (T12.setTop (mkF m 73 #[iv p0, jv p1, .second, jv p2, .second, jv p3, .second, jv p4, .second, iv 0, iv 3, jv x0, .second, jv x1, .second, jv x2, .second, jv xe, .second, rv ob7, .unset, .unset, .unset, .unset] [])) _
    refine XS.aload X12.here hx rfl (hb hby at_73) rfl rfl ?_
    refine XS.iconst X12.here hx rfl (hb hby at_75) ?_
    show Steps p.tables e below (T12.setTop (mkF m 76 #[iv p0, jv p1, .second, jv p2, .second, jv p3, .second, jv p4, .second, iv 0, iv 3, jv x0, .second, jv x1, .second, jv x2, .second, jv xe, .second, rv ob7, .unset, .unset, .unset, .unset] [(.int 1), (.ref ob7)])) _
    refine XS.lload X12.here hx rfl (hb hby at_76) rfl ?_
    show Steps p.tables e below (T12.setTop (mkF m 78 #[iv p0, jv p1, .second, jv p2, .second, jv p3, .second, jv p4, .second, iv 0, iv 3, jv x0, .second, jv x1, .second, jv x2, .second, jv xe, .second, rv ob7, .unset, .unset, .unset, .unset] [(.long x1), (.int 1), (.ref ob7)])) _
    exact k
  refine own_lift sg13 ?_
  show own_Go p.tables e below (T12.setTop (mkF m 78 #[iv p0, jv p1, .second, jv p2, .second, jv p3, .second, jv p4, .second, iv 0, iv 3, jv x0, .second, jv x1, .second, jv x2, .second, jv xe, .second, rv ob7, .unset, .unset, .unset, .unset] [(.long x1), (.int 1), (.ref ob7)])) _
  obtain ⟨cl14, Ar14, qx14, Sx14, N14', H14', G14'⟩ := id (Vn12)
  have hin14 : ¬ ((1 : Int32) < 0 ∨ cl14.slots.size ≤ ((1 : Int32)).toNatClampNeg) := inb_of Sx14 ⟨(by decide : ¬ ((1 : Int32) < (0 : Int32))), (by decide : (1 : Int32) < (3 : Int32))⟩
  obtain ⟨T15, h15, X15, e15, W15, st15⟩ := stJ X12 hx hZ e12 Ar14 (j := (1 : Int32)) hin14 (g := (mkF m 78 #[iv p0, jv p1, .second, jv p2, .second, jv p3, .second, jv p4, .second, iv 0, iv 3, jv x0, .second, jv x1, .second, jv x2, .second, jv xe, .second, rv ob7, .unset, .unset, .unset, .unset] [(.long x1), (.int 1), (.ref ob7)])) rfl rfl (hb hby at_78)
  have N15 := Fr.snoc X15 N12 ge7
  have Z15 : n0 ≤ h15.size := Nat.le_trans Z12 (Nat.le_of_eq W15.size.symm)
  have Vn15 : Arv Z h15 ob7 ka7 .long (3 : Int32) [(.long x0), (.long x1), (.long 0)] (.long 0) := Arv.set Ar14 qx14 Sx14 N14' H14' G14' rfl W15 1 rfl (Nat.le_of_ble_eq_true rfl)
  refine own_lift st15 ?_
  show own_Go p.tables e below (T15.setTop (mkF m 79 #[iv p0, jv p1, .second, jv p2, .second, jv p3, .second, jv p4, .second, iv 0, iv 3, jv x0, .second, jv x1, .second, jv x2, .second, jv xe, .second, rv ob7, .unset, .unset, .unset, .unset] [])) _
  have sg16 : ∀ t, Steps p.tables e below (T15.setTop (mkF m 90 #[iv p0, jv p1, .second, jv p2, .second, jv p3, .second, jv p4, .second, iv 0, iv 3, jv x0, .second, jv x1, .second, jv x2, .second, jv xe, .second, rv ob7, .unset, .unset, .unset, .unset] [(.long x2), (.int 2), (.ref ob7)])) t → Steps p.tables e below (T15.setTop (mkF m 79 #[iv p0, jv p1, .second, jv p2, .second, jv p3, .second, jv p4, .second, iv 0, iv 3, jv x0, .second, jv x1, .second, jv x2, .second, jv xe, .second, rv ob7, .unset, .unset, .unset, .unset] [])) t := by
    intro t k
    refine XS.iload X15.here hx rfl (hb hby at_79) rfl ?_
    show Steps p.tables e below (T15.setTop (mkF m 81 #[iv p0, jv p1, .second, jv p2, .second, jv p3, .second, jv p4, .second, iv 0, iv 3, jv x0, .second, jv x1, .second, jv x2, .second, jv xe, .second, rv ob7, .unset, .unset, .unset, .unset] [(.int 3)])) _
    refine XS.iconst X15.here hx rfl (hb hby at_81) ?_
    refine XS.icmpNo X15.here hx rfl (hb hby at_82) rfl (tlt (by decide : (2 : Int32) < (3 : Int32))).2.2.2 ?_
    show Steps p.tables e below (T15.setTop (mkF m 85 #[iv p0, jv p1, .second, jv p2, .second, jv p3, .second, jv p4, .second, iv 0, iv 3, jv x0, .second, jv x1, .second, jv x2, .second, jv xe, .second, rv ob7, .unset, .unset, .unset, .unset] [])) _
    refine XS.aload X15.here hx rfl (hb hby at_85) rfl rfl ?_
    refine XS.iconst X15.here hx rfl (hb hby at_87) ?_
    show Steps p.tables e below (T15.setTop (mkF m 88 #[iv p0, jv p1, .second, jv p2, .second, jv p3, .second, jv p4, .second, iv 0, iv 3, jv x0, .second, jv x1, .second, jv x2, .second, jv xe, .second, rv ob7, .unset, .unset, .unset, .unset] [(.int 2), (.ref ob7)])) _
    refine XS.lload X15.here hx rfl (hb hby at_88) rfl ?_
    show Steps p.tables e below (T15.setTop (mkF m 90 #[iv p0, jv p1, .second, jv p2, .second, jv p3, .second, jv p4, .second, iv 0, iv 3, jv x0, .second, jv x1, .second, jv x2, .second, jv xe, .second, rv ob7, .unset, .unset, .unset, .unset] [(.long x2), (.int 2), (.ref ob7)])) _
    exact k
  refine own_lift sg16 ?_
  show own_Go p.tables e below (T15.setTop (mkF m 90 #[iv p0, jv p1, .second, jv p2, .second, jv p3, .second, jv p4, .second, iv 0, iv 3, jv x0, .second, jv x1, .second, jv x2, .second, jv xe, .second, rv ob7, .unset, .unset, .unset, .unset] [(.long x2), (.int 2), (.ref ob7)])) _
  obtain ⟨cl17, Ar17, qx17, Sx17, N17', H17', G17'⟩ := id (Vn15)
  have hin17 : ¬ ((2 : Int32) < 0 ∨ cl17.slots.size ≤ ((2 : Int32)).toNatClampNeg) := inb_of Sx17 ⟨(by decide : ¬ ((2 : Int32) < (0 : Int32))), (by decide : (2 : Int32) < (3 : Int32))⟩
  obtain ⟨T18, h18, X18, e18, W18, st18⟩ := stJ X15 hx hZ e15 Ar17 (j := (2 : Int32)) hin17 (g := (mkF m 90 #[iv p0, jv p1, .second, jv p2, .second, jv p3, .second, jv p4, .second, iv 0, iv 3, jv x0, .second, jv x1, .second, jv x2, .second, jv xe, .second, rv ob7, .unset, .unset, .unset, .unset] [(.long x2), (.int 2), (.ref ob7)])) rfl rfl (hb hby at_90)
  have N18 := Fr.snoc X18 N15 ge7
  have Z18 : n0 ≤ h18.size := Nat.le_trans Z15 (Nat.le_of_eq W18.size.symm)
  have Vn18 : Arv Z h18 ob7 ka7 .long (3 : Int32) [(.long x0), (.long x1), (.long x2)] (.long 0) := Arv.set Ar17 qx17 Sx17 N17' H17' G17' rfl W18 2 rfl (Nat.le_of_ble_eq_true rfl)
  refine own_lift st18 ?_
  show own_Go p.tables e below (T18.setTop (mkF m 91 #[iv p0, jv p1, .second, jv p2, .second, jv p3, .second, jv p4, .second, iv 0, iv 3, jv x0, .second, jv x1, .second, jv x2, .second, jv xe, .second, rv ob7, .unset, .unset, .unset, .unset] [])) _
  have sg19 : ∀ t, Steps p.tables e below (T18.setTop (mkF m 102 #[iv p0, jv p1, .second, jv p2, .second, jv p3, .second, jv p4, .second, iv 0, iv 3, jv x0, .second, jv x1, .second, jv x2, .second, jv xe, .second, rv ob7, .unset, .unset, .unset, .unset] [])) t → Steps p.tables e below (T18.setTop (mkF m 91 #[iv p0, jv p1, .second, jv p2, .second, jv p3, .second, jv p4, .second, iv 0, iv 3, jv x0, .second, jv x1, .second, jv x2, .second, jv xe, .second, rv ob7, .unset, .unset, .unset, .unset] [])) t := by
    intro t k
    refine XS.iload X18.here hx rfl (hb hby at_91) rfl ?_
    show Steps p.tables e below (T18.setTop (mkF m 93 #[iv p0, jv p1, .second, jv p2, .second, jv p3, .second, jv p4, .second, iv 0, iv 3, jv x0, .second, jv x1, .second, jv x2, .second, jv xe, .second, rv ob7, .unset, .unset, .unset, .unset] [(.int 0)])) _
    refine XS.ifYes X18.here hx rfl (pc0 := 93) (pc' := 102) rfl (hb hby at_93) rfl ((if0 _ _).trans (teq (by decide : (0 : Int32) = (0 : Int32))).1) (by decide) (by decide) ?_
    show Steps p.tables e below (T18.setTop (mkF m 102 #[iv p0, jv p1, .second, jv p2, .second, jv p3, .second, jv p4, .second, iv 0, iv 3, jv x0, .second, jv x1, .second, jv x2, .second, jv xe, .second, rv ob7, .unset, .unset, .unset, .unset] [])) _
    exact k
  refine own_lift sg19 ?_
  show own_Go p.tables e below (T18.setTop (mkF m 102 #[iv p0, jv p1, .second, jv p2, .second, jv p3, .second, jv p4, .second, iv 0, iv 3, jv x0, .second, jv x1, .second, jv x2, .second, jv xe, .second, rv ob7, .unset, .unset, .unset, .unset] [])) _
  have Fc20 : Sta Z h18 "com/example/halyard/halyard/east/ArrayStorage" "LAST_INDEX_FIRST" "Lcom/example/halyard/halyard/east/ArrayStorage;" (.ref as_LAST_INDEX_FIRST) := ((((S_LAST_INDEX_FIRST.ext Ex7).wr W12).wr W15).wr W18)
  obtain ⟨T21, X21, e21, st21⟩ := getS X18 hx hZ hown (host := "") (wd hw 3 rfl) Via.refl e18 Fc20 (g := (mkF m 102 #[iv p0, jv p1, .second, jv p2, .second, jv p3, .second, jv p4, .second, iv 0, iv 3, jv x0, .second, jv x1, .second, jv x2, .second, jv xe, .second, rv ob7, .unset, .unset, .unset, .unset] [])) rfl (hb hby at_102)
  refine own_lift st21 ?_
  show own_Go p.tables e below (T21.setTop (mkF m 105 #[iv p0, jv p1, .second, jv p2, .second, jv p3, .second, jv p4, .second, iv 0, iv 3, jv x0, .second, jv x1, .second, jv x2, .second, jv xe, .second, rv ob7, .unset, .unset, .unset, .unset] [(.ref as_LAST_INDEX_FIRST)])) _
  have sg22 : ∀ t, Steps p.tables e below (T21.setTop (mkF m 113 #[iv p0, jv p1, .second, jv p2, .second, jv p3, .second, jv p4, .second, iv 0, iv 3, jv x0, .second, jv x1, .second, jv x2, .second, jv xe, .second, rv ob7, rv as_LAST_INDEX_FIRST, .unset, .unset, .unset] [(.long xe), (.ref ob7), (.ref as_LAST_INDEX_FIRST)])) t → Steps p.tables e below (T21.setTop (mkF m 105 #[iv p0, jv p1, .second, jv p2, .second, jv p3, .second, jv p4, .second, iv 0, iv 3, jv x0, .second, jv x1, .second, jv x2, .second, jv xe, .second, rv ob7, .unset, .unset, .unset, .unset] [(.ref as_LAST_INDEX_FIRST)])) t := by
    intro t k
    refine XS.astore X21.here hx rfl (hb hby at_105) rfl rfl (l' := #[iv p0, jv p1, .second, jv p2, .second, jv p3, .second, jv p4, .second, iv 0, iv 3, jv x0, .second, jv x1, .second, jv x2, .second, jv xe, .second, rv ob7, rv as_LAST_INDEX_FIRST, .unset, .unset, .unset]) rfl ?_
    show Steps p.tables e below (T21.setTop (mkF m 107 #[iv p0, jv p1, .second, jv p2, .second, jv p3, .second, jv p4, .second, iv 0, iv 3, jv x0, .second, jv x1, .second, jv x2, .second, jv xe, .second, rv ob7, rv as_LAST_INDEX_FIRST, .unset, .unset, .unset] [])) _
    refine XS.aload X21.here hx rfl (hb hby at_107) rfl rfl ?_
    refine XS.aload X21.here hx rfl (hb hby at_109) rfl rfl ?_
    show Steps p.tables e below (T21.setTop (mkF m 111 #[iv p0, jv p1, .second, jv p2, .second, jv p3, .second, jv p4, .second, iv 0, iv 3, jv x0, .second, jv x1, .second, jv x2, .second, jv xe, .second, rv ob7, rv as_LAST_INDEX_FIRST, .unset, .unset, .unset] [(.ref ob7), (.ref as_LAST_INDEX_FIRST)])) _
    refine XS.lload X21.here hx rfl (hb hby at_111) rfl ?_
    show Steps p.tables e below (T21.setTop (mkF m 113 #[iv p0, jv p1, .second, jv p2, .second, jv p3, .second, jv p4, .second, iv 0, iv 3, jv x0, .second, jv x1, .second, jv x2, .second, jv xe, .second, rv ob7, rv as_LAST_INDEX_FIRST, .unset, .unset, .unset] [(.long xe), (.ref ob7), (.ref as_LAST_INDEX_FIRST)])) _
    exact k
  refine own_lift sg22 ?_
  show own_Go p.tables e below (T21.setTop (mkF m 113 #[iv p0, jv p1, .second, jv p2, .second, jv p3, .second, jv p4, .second, iv 0, iv 3, jv x0, .second, jv x1, .second, jv x2, .second, jv xe, .second, rv ob7, rv as_LAST_INDEX_FIRST, .unset, .unset, .unset] [(.long xe), (.ref ob7), (.ref as_LAST_INDEX_FIRST)])) _
  have Fc23 : Sta Z h18 "com/example/halyard/halyard/east/ArrayStorage" "FIRST_INDEX_FIRST" "Lcom/example/halyard/halyard/east/ArrayStorage;" (.ref as_FIRST_INDEX_FIRST) := ((((S_FIRST_INDEX_FIRST.ext Ex7).wr W12).wr W15).wr W18)
  have Fc25 : Exa Z h18 as_LAST_INDEX_FIRST "com/example/halyard/halyard/east/ArrayStorage" := ((((E_LAST_INDEX_FIRST.ext Ex7).wr W12).wr W15).wr W18)
  obtain ⟨cq24, kq24, q24a, q24b, q24c⟩ := isOf hZ e21 Fc25
  obtain ⟨_, _, ⟨T24, Lx24, kx24, nx24⟩, -, X24, ⟨Lc24, hQ24, lx24, yx24, zx24⟩, st24⟩ := X21.virtualBack hx (y := (⟨"com/example/halyard/halyard/east/ArrayStorage", "strides", "([JJ)[J"⟩ : MethodName)) (z := (⟨"com/example/halyard/halyard/east/ArrayStorage", "strides", "([JJ)[J"⟩ : MethodName)) hown (mvT hZ (wd hw 6 rfl)) (mvT hZ (wd hw 7 rfl)) (notFace_of_selects (args := #[]) (mvT hZ (wd hw 9 rfl))) (mvT hZ (wd hw 9 rfl)) (mvT hZ (wd hw 8 rfl)) (by decide) (backOf (W := 0) (rmStr3L l Z a0 hw [] as_LAST_INDEX_FIRST ob7 xe as_FIRST_INDEX_FIRST ka7 x0 x1 x2 h18 n0 Z18 Vn18 Fc23 hne) hZ (wd hw 10 rfl) (wd hw 4 rfl) (by decide) (by decide)) q24a q24c (g := (mkF m 113 #[iv p0, jv p1, .second, jv p2, .second, jv p3, .second, jv p4, .second, iv 0, iv 3, jv x0, .second, jv x1, .second, jv x2, .second, jv xe, .second, rv ob7, rv as_LAST_INDEX_FIRST, .unset, .unset, .unset] [(.long xe), (.ref ob7), (.ref as_LAST_INDEX_FIRST)])) rfl (by rw [hml]; rfl) (Steps.refl _) (argsL := [(.ref ob7), (.long xe)]) (rest := []) (lenOf pd_0 rfl) rfl (by show 2 * 0 + _ ≤ _; exact Nat.le_of_eq rfl) (hb hby at_113) (fun _ _ => ⟨rfl, e21, (by decide : 1 + 1 ≤ _), (by decide : 3 + 3 ≤ _)⟩)
  dsimp only [Pt.U, Pt.locs, Pt.cells, Pt.slots] at X24 lx24 yx24 zx24 st24 hQ24
  subst lx24 yx24 zx24
  obtain ⟨xb_24, xkb_24, rfl, N24q, p24_0, p24_1, p24_2⟩ := hQ24
  have N24 := Fr.app N18 N24q
  have ne26 : as_LAST_INDEX_FIRST ≠ xb_24 := Nat.ne_of_lt (Nat.lt_of_lt_of_le Fc25.lt p24_1)
  have Fc27 : Exa Z h18 as_FIRST_INDEX_FIRST "com/example/halyard/halyard/east/ArrayStorage" := ((((E_FIRST_INDEX_FIRST.ext Ex7).wr W12).wr W15).wr W18)
  have ne28 : as_FIRST_INDEX_FIRST ≠ xb_24 := Nat.ne_of_lt (Nat.lt_of_lt_of_le Fc27.lt p24_1)
  have ne29 : ob7 ≠ xb_24 := Nat.ne_of_lt (Nat.lt_of_lt_of_le Vn18.lt p24_1)
  have Z24 : n0 ≤ T24.heap.size := Nat.le_trans Z18 p24_0.1
  have ge24_1 : n0 ≤ xb_24 := Nat.le_trans Z18 p24_1
  refine own_lift (fun t k => st24.trans k) ?_
  show own_Go p.tables e below (T24.setTop (mkF m 116 #[iv p0, jv p1, .second, jv p2, .second, jv p3, .second, jv p4, .second, iv 0, iv 3, jv x0, .second, jv x1, .second, jv x2, .second, jv xe, .second, rv ob7, rv as_LAST_INDEX_FIRST, .unset, .unset, .unset] [(.ref xb_24)])) _
  have sg30 : ∀ t, Steps p.tables e below (T24.setTop (mkF m 125 #[iv p0, jv p1, .second, jv p2, .second, jv p3, .second, jv p4, .second, iv 0, iv 3, jv x0, .second, jv x1, .second, jv x2, .second, jv xe, .second, rv ob7, rv as_LAST_INDEX_FIRST, rv xb_24, .unset, .unset] [(.ref xb_24)])) t → Steps p.tables e below (T24.setTop (mkF m 116 #[iv p0, jv p1, .second, jv p2, .second, jv p3, .second, jv p4, .second, iv 0, iv 3, jv x0, .second, jv x1, .second, jv x2, .second, jv xe, .second, rv ob7, rv as_LAST_INDEX_FIRST, .unset, .unset, .unset] [(.ref xb_24)])) t := by
    intro t k
    refine XS.astore X24.here hx rfl (hb hby at_116) rfl rfl (l' := #[iv p0, jv p1, .second, jv p2, .second, jv p3, .second, jv p4, .second, iv 0, iv 3, jv x0, .second, jv x1, .second, jv x2, .second, jv xe, .second, rv ob7, rv as_LAST_INDEX_FIRST, rv xb_24, .unset, .unset]) rfl ?_
    show Steps p.tables e below (T24.setTop (mkF m 118 #[iv p0, jv p1, .second, jv p2, .second, jv p3, .second, jv p4, .second, iv 0, iv 3, jv x0, .second, jv x1, .second, jv x2, .second, jv xe, .second, rv ob7, rv as_LAST_INDEX_FIRST, rv xb_24, .unset, .unset] [])) _
    refine XS.aload X24.here hx rfl (hb hby at_118) rfl rfl ?_
    refine XS.ifnullNo X24.here hx rfl (hb hby at_120) rfl ?_
    show Steps p.tables e below (T24.setTop (mkF m 123 #[iv p0, jv p1, .second, jv p2, .second, jv p3, .second, jv p4, .second, iv 0, iv 3, jv x0, .second, jv x1, .second, jv x2, .second, jv xe, .second, rv ob7, rv as_LAST_INDEX_FIRST, rv xb_24, .unset, .unset] [])) _
    refine XS.aload X24.here hx rfl (hb hby at_123) rfl rfl ?_
    show Steps p.tables e below (T24.setTop (mkF m 125 #[iv p0, jv p1, .second, jv p2, .second, jv p3, .second, jv p4, .second, iv 0, iv 3, jv x0, .second, jv x1, .second, jv x2, .second, jv xe, .second, rv ob7, rv as_LAST_INDEX_FIRST, rv xb_24, .unset, .unset] [(.ref xb_24)])) _
    exact k
  refine own_lift sg30 ?_
  show own_Go p.tables e below (T24.setTop (mkF m 125 #[iv p0, jv p1, .second, jv p2, .second, jv p3, .second, jv p4, .second, iv 0, iv 3, jv x0, .second, jv x1, .second, jv x2, .second, jv xe, .second, rv ob7, rv as_LAST_INDEX_FIRST, rv xb_24, .unset, .unset] [(.ref xb_24)])) _
  obtain ⟨cl31, Ar31, -, Sx31, N31', -, -⟩ := id (p24_2)
  have st31 : ∀ t, Steps p.tables e below (T24.setTop (mkF m 126 #[iv p0, jv p1, .second, jv p2, .second, jv p3, .second, jv p4, .second, iv 0, iv 3, jv x0, .second, jv x1, .second, jv x2, .second, jv xe, .second, rv ob7, rv as_LAST_INDEX_FIRST, rv xb_24, .unset, .unset] [(.int 3)])) t → Steps p.tables e below (T24.setTop (mkF m 125 #[iv p0, jv p1, .second, jv p2, .second, jv p3, .second, jv p4, .second, iv 0, iv 3, jv x0, .second, jv x1, .second, jv x2, .second, jv xe, .second, rv ob7, rv as_LAST_INDEX_FIRST, rv xb_24, .unset, .unset] [(.ref xb_24)])) t := by
    intro t k
    refine X24.arraylength hx (by exact Ar31.1) (State.isArrayOf_alike hZ.alike Ar31.2.1) (g := (mkF m 125 #[iv p0, jv p1, .second, jv p2, .second, jv p3, .second, jv p4, .second, iv 0, iv 3, jv x0, .second, jv x1, .second, jv x2, .second, jv xe, .second, rv ob7, rv as_LAST_INDEX_FIRST, rv xb_24, .unset, .unset] [(.ref xb_24)])) rfl rfl (hb hby at_125) _ ?_
    rw [len_of Sx31 N31']
    exact k
  refine own_lift st31 ?_
  show own_Go p.tables e below (T24.setTop (mkF m 126 #[iv p0, jv p1, .second, jv p2, .second, jv p3, .second, jv p4, .second, iv 0, iv 3, jv x0, .second, jv x1, .second, jv x2, .second, jv xe, .second, rv ob7, rv as_LAST_INDEX_FIRST, rv xb_24, .unset, .unset] [(.int 3)])) _
  have sg32 : ∀ t, Steps p.tables e below (T24.setTop (mkF m 134 #[iv p0, jv p1, .second, jv p2, .second, jv p3, .second, jv p4, .second, iv 0, iv 3, jv x0, .second, jv x1, .second, jv x2, .second, jv xe, .second, rv ob7, rv as_LAST_INDEX_FIRST, rv xb_24, .unset, .unset] [(.int 3)])) t → Steps p.tables e below (T24.setTop (mkF m 126 #[iv p0, jv p1, .second, jv p2, .second, jv p3, .second, jv p4, .second, iv 0, iv 3, jv x0, .second, jv x1, .second, jv x2, .second, jv xe, .second, rv ob7, rv as_LAST_INDEX_FIRST, rv xb_24, .unset, .unset] [(.int 3)])) t := by
    intro t k
    refine XS.iload X24.here hx rfl (hb hby at_126) rfl ?_
    show Steps p.tables e below (T24.setTop (mkF m 128 #[iv p0, jv p1, .second, jv p2, .second, jv p3, .second, jv p4, .second, iv 0, iv 3, jv x0, .second, jv x1, .second, jv x2, .second, jv xe, .second, rv ob7, rv as_LAST_INDEX_FIRST, rv xb_24, .unset, .unset] [(.int 3), (.int 3)])) _
    refine XS.icmpYes X24.here hx rfl (pc0 := 128) (pc' := 133) rfl (hb hby at_128) rfl (teq (by decide : (3 : Int32) = (3 : Int32))).1 (by decide) (by decide) ?_
    refine XS.iconst X24.here hx rfl (hb hby at_133) ?_
    show Steps p.tables e below (T24.setTop (mkF m 134 #[iv p0, jv p1, .second, jv p2, .second, jv p3, .second, jv p4, .second, iv 0, iv 3, jv x0, .second, jv x1, .second, jv x2, .second, jv xe, .second, rv ob7, rv as_LAST_INDEX_FIRST, rv xb_24, .unset, .unset] [(.int 3)])) _
    exact k
  refine own_lift sg32 ?_
  show own_Go p.tables e below (T24.setTop (mkF m 134 #[iv p0, jv p1, .second, jv p2, .second, jv p3, .second, jv p4, .second, iv 0, iv 3, jv x0, .second, jv x1, .second, jv x2, .second, jv xe, .second, rv ob7, rv as_LAST_INDEX_FIRST, rv xb_24, .unset, .unset] [(.int 3)])) _
  obtain ⟨T33, h33, ka33, X33, e33, Ex33, Ax33, st33⟩ := newP X24 hx hZ (wd hw 2 rfl) rfl (g := (mkF m 134 #[iv p0, jv p1, .second, jv p2, .second, jv p3, .second, jv p4, .second, iv 0, iv 3, jv x0, .second, jv x1, .second, jv x2, .second, jv xe, .second, rv ob7, rv as_LAST_INDEX_FIRST, rv xb_24, .unset, .unset] [(.int 3)])) rfl (hb hby at_134) rfl (by decide) (cap := 3) (by decide) (by decide) (by decide) (by decide)
  obtain ⟨ob33, g33⟩ : ∃ z, z = T24.heap.size := ⟨_, rfl⟩
  rw [← g33] at Ax33 st33
  have Fc34 : Exa Z T24.heap as_LAST_INDEX_FIRST "com/example/halyard/halyard/east/ArrayStorage" := (Fc25.keep p24_0)
  have ne35 : as_LAST_INDEX_FIRST ≠ ob33 := Nat.ne_of_lt (Nat.lt_of_lt_of_le Fc34.lt (Nat.le_of_eq g33.symm))
  have Fc36 : Exa Z T24.heap as_FIRST_INDEX_FIRST "com/example/halyard/halyard/east/ArrayStorage" := (Fc27.keep p24_0)
  have ne37 : as_FIRST_INDEX_FIRST ≠ ob33 := Nat.ne_of_lt (Nat.lt_of_lt_of_le Fc36.lt (Nat.le_of_eq g33.symm))
  have Fc38 : Arv Z T24.heap ob7 ka7 .long (3 : Int32) [(.long x0), (.long x1), (.long x2)] (.long 0) := (Vn18.keep p24_0 nin0)
  have ne39 : ob7 ≠ ob33 := Nat.ne_of_lt (Nat.lt_of_lt_of_le Fc38.lt (Nat.le_of_eq g33.symm))
  have ne40 : xb_24 ≠ ob33 := Nat.ne_of_lt (Nat.lt_of_lt_of_le p24_2.lt (Nat.le_of_eq g33.symm))
  have Z33 : n0 ≤ h33.size := Nat.le_trans Z24 Ex33.1
  have ge33 : n0 ≤ ob33 := Nat.le_trans Z24 (Nat.le_of_eq g33.symm)
  have Vn33 : Arv Z h33 ob33 ka33 .long (3 : Int32) [(.long 0), (.long 0), (.long 0)] (.long 0) := (Arv.new Ax33 (by decide)).pad (pad_rep [] (.long 0) 3)
  refine own_lift st33 ?_
  show own_Go p.tables e below (T33.setTop (mkF m 136 #[iv p0, jv p1, .second, jv p2, .second, jv p3, .second, jv p4, .second, iv 0, iv 3, jv x0, .second, jv x1, .second, jv x2, .second, jv xe, .second, rv ob7, rv as_LAST_INDEX_FIRST, rv xb_24, .unset, .unset] [(.ref ob33)])) _
  have sg41 : ∀ t, Steps p.tables e below (T33.setTop (mkF m 246 #[iv p0, jv p1, .second, jv p2, .second, jv p3, .second, jv p4, .second, iv 0, iv 3, jv x0, .second, jv x1, .second, jv x2, .second, jv xe, .second, rv ob7, rv as_LAST_INDEX_FIRST, rv xb_24, rv ob33, .unset] [(.long xe), (.int 0), (.ref ob33)])) t → Steps p.tables e below (T33.setTop (mkF m 136 #[iv p0, jv p1, .second, jv p2, .second, jv p3, .second, jv p4, .second, iv 0, iv 3, jv x0, .second, jv x1, .second, jv x2, .second, jv xe, .second, rv ob7, rv as_LAST_INDEX_FIRST, rv xb_24, .unset, .unset] [(.ref ob33)])) t := by
    intro t k
    refine XS.astore X33.here hx rfl (hb hby at_136) rfl rfl (l' := #[iv p0, jv p1, .second, jv p2, .second, jv p3, .second, jv p4, .second, iv 0, iv 3, jv x0, .second, jv x1, .second, jv x2, .second, jv xe, .second, rv ob7, rv as_LAST_INDEX_FIRST, rv xb_24, rv ob33, .unset]) rfl ?_
    show Steps p.tables e below (T33.setTop (mkF m 138 #[iv p0, jv p1, .second, jv p2, .second, jv p3, .second, jv p4, .second, iv 0, iv 3, jv x0, .second, jv x1, .second, jv x2, .second, jv xe, .second, rv ob7, rv as_LAST_INDEX_FIRST, rv xb_24, rv ob33, .unset] [])) _
    refine XS.iload X33.here hx rfl (hb hby at_138) rfl ?_
    refine XS.iconst X33.here hx rfl (hb hby at_140) ?_
    show Steps p.tables e below (T33.setTop (mkF m 141 #[iv p0, jv p1, .second, jv p2, .second, jv p3, .second, jv p4, .second, iv 0, iv 3, jv x0, .second, jv x1, .second, jv x2, .second, jv xe, .second, rv ob7, rv as_LAST_INDEX_FIRST, rv xb_24, rv ob33, .unset] [(.int 1), (.int 3)])) _
    refine XS.icmpYes X33.here hx rfl (pc0 := 141) (pc' := 153) rfl (hb hby at_141) rfl (feq (by decide : ¬ ((3 : Int32) = (1 : Int32)))).2 (by decide) (by decide) ?_
    refine XS.iload X33.here hx rfl (hb hby at_153) rfl ?_
    show Steps p.tables e below (T33.setTop (mkF m 155 #[iv p0, jv p1, .second, jv p2, .second, jv p3, .second, jv p4, .second, iv 0, iv 3, jv x0, .second, jv x1, .second, jv x2, .second, jv xe, .second, rv ob7, rv as_LAST_INDEX_FIRST, rv xb_24, rv ob33, .unset] [(.int 3)])) _
    refine XS.iconst X33.here hx rfl (hb hby at_155) ?_
    refine XS.icmpYes X33.here hx rfl (pc0 := 156) (pc' := 200) rfl (hb hby at_156) rfl (feq (by decide : ¬ ((3 : Int32) = (2 : Int32)))).2 (by decide) (by decide) ?_
    show Steps p.tables e below (T33.setTop (mkF m 200 #[iv p0, jv p1, .second, jv p2, .second, jv p3, .second, jv p4, .second, iv 0, iv 3, jv x0, .second, jv x1, .second, jv x2, .second, jv xe, .second, rv ob7, rv as_LAST_INDEX_FIRST, rv xb_24, rv ob33, .unset] [])) _
    refine XS.iload X33.here hx rfl (hb hby at_200) rfl ?_
    refine XS.iconst X33.here hx rfl (hb hby at_202) ?_
    show Steps p.tables e below (T33.setTop (mkF m 203 #[iv p0, jv p1, .second, jv p2, .second, jv p3, .second, jv p4, .second, iv 0, iv 3, jv x0, .second, jv x1, .second, jv x2, .second, jv xe, .second, rv ob7, rv as_LAST_INDEX_FIRST, rv xb_24, rv ob33, .unset] [(.int 3), (.int 3)])) _
    refine XS.icmpNo X33.here hx rfl (hb hby at_203) rfl (teq (by decide : (3 : Int32) = (3 : Int32))).2 ?_
    refine XS.iload X33.here hx rfl (hb hby at_206) rfl ?_
    show Steps p.tables e below (T33.setTop (mkF m 208 #[iv p0, jv p1, .second, jv p2, .second, jv p3, .second, jv p4, .second, iv 0, iv 3, jv x0, .second, jv x1, .second, jv x2, .second, jv xe, .second, rv ob7, rv as_LAST_INDEX_FIRST, rv xb_24, rv ob33, .unset] [(.int 0)])) _
    refine XS.ifYes X33.here hx rfl (pc0 := 208) (pc' := 241) rfl (hb hby at_208) rfl ((if0 _ _).trans (teq (by decide : (0 : Int32) = (0 : Int32))).1) (by decide) (by decide) ?_
    refine XS.aload X33.here hx rfl (hb hby at_241) rfl rfl ?_
    show Steps p.tables e below (T33.setTop (mkF m 243 #[iv p0, jv p1, .second, jv p2, .second, jv p3, .second, jv p4, .second, iv 0, iv 3, jv x0, .second, jv x1, .second, jv x2, .second, jv xe, .second, rv ob7, rv as_LAST_INDEX_FIRST, rv xb_24, rv ob33, .unset] [(.ref ob33)])) _
    refine XS.iconst X33.here hx rfl (hb hby at_243) ?_
    refine XS.lload X33.here hx rfl (hb hby at_244) rfl ?_
    show Steps p.tables e below (T33.setTop (mkF m 246 #[iv p0, jv p1, .second, jv p2, .second, jv p3, .second, jv p4, .second, iv 0, iv 3, jv x0, .second, jv x1, .second, jv x2, .second, jv xe, .second, rv ob7, rv as_LAST_INDEX_FIRST, rv xb_24, rv ob33, .unset] [(.long xe), (.int 0), (.ref ob33)])) _
    exact k
  refine own_lift sg41 ?_
  show own_Go p.tables e below (T33.setTop (mkF m 246 #[iv p0, jv p1, .second, jv p2, .second, jv p3, .second, jv p4, .second, iv 0, iv 3, jv x0, .second, jv x1, .second, jv x2, .second, jv xe, .second, rv ob7, rv as_LAST_INDEX_FIRST, rv xb_24, rv ob33, .unset] [(.long xe), (.int 0), (.ref ob33)])) _
  obtain ⟨cl42, Ar42, qx42, Sx42, N42', H42', G42'⟩ := id (Vn33)
  have hin42 : ¬ ((0 : Int32) < 0 ∨ cl42.slots.size ≤ ((0 : Int32)).toNatClampNeg) := inb_of Sx42 ⟨(by decide : ¬ ((0 : Int32) < (0 : Int32))), (by decide : (0 : Int32) < (3 : Int32))⟩
  obtain ⟨T43, h43, X43, e43, W43, st43⟩ := stJ X33 hx hZ e33 Ar42 (j := (0 : Int32)) hin42 (g := (mkF m 246 #[iv p0, jv p1, .second, jv p2, .second, jv p3, .second, jv p4, .second, iv 0, iv 3, jv x0, .second, jv x1, .second, jv x2, .second, jv xe, .second, rv ob7, rv as_LAST_INDEX_FIRST, rv xb_24, rv ob33, .unset] [(.long xe), (.int 0), (.ref ob33)])) rfl rfl (hb hby at_246)
  have N43 := Fr.snoc X43 N24 ge33
  have Z43 : n0 ≤ h43.size := Nat.le_trans Z33 (Nat.le_of_eq W43.size.symm)
  have Vn43 : Arv Z h43 ob33 ka33 .long (3 : Int32) [(.long xe), (.long 0), (.long 0)] (.long 0) := Arv.set Ar42 qx42 Sx42 N42' H42' G42' rfl W43 0 rfl (Nat.le_of_ble_eq_true rfl)
  refine own_lift st43 ?_
  show own_Go p.tables e below (T43.setTop (mkF m 247 #[iv p0, jv p1, .second, jv p2, .second, jv p3, .second, jv p4, .second, iv 0, iv 3, jv x0, .second, jv x1, .second, jv x2, .second, jv xe, .second, rv ob7, rv as_LAST_INDEX_FIRST, rv xb_24, rv ob33, .unset] [])) _
  have sg44 : ∀ t, Steps p.tables e below (T43.setTop (mkF m 255 #[iv p0, jv p1, .second, jv p2, .second, jv p3, .second, jv p4, .second, iv 0, iv 3, jv x0, .second, jv x1, .second, jv x2, .second, jv xe, .second, rv ob7, rv as_LAST_INDEX_FIRST, rv xb_24, rv ob33, .unset] [(.long (xe * x0)), (.int 1), (.ref ob33)])) t → Steps p.tables e below (T43.setTop (mkF m 247 #[iv p0, jv p1, .second, jv p2, .second, jv p3, .second, jv p4, .second, iv 0, iv 3, jv x0, .second, jv x1, .second, jv x2, .second, jv xe, .second, rv ob7, rv as_LAST_INDEX_FIRST, rv xb_24, rv ob33, .unset] [])) t := by
    intro t k
    refine XS.aload X43.here hx rfl (hb hby at_247) rfl rfl ?_
    show Steps p.tables e below (T43.setTop (mkF m 249 #[iv p0, jv p1, .second, jv p2, .second, jv p3, .second, jv p4, .second, iv 0, iv 3, jv x0, .second, jv x1, .second, jv x2, .second, jv xe, .second, rv ob7, rv as_LAST_INDEX_FIRST, rv xb_24, rv ob33, .unset] [(.ref ob33)])) _
    refine XS.iconst X43.here hx rfl (hb hby at_249) ?_
    refine XS.lload X43.here hx rfl (hb hby at_250) rfl ?_
    show Steps p.tables e below (T43.setTop (mkF m 252 #[iv p0, jv p1, .second, jv p2, .second, jv p3, .second, jv p4, .second, iv 0, iv 3, jv x0, .second, jv x1, .second, jv x2, .second, jv xe, .second, rv ob7, rv as_LAST_INDEX_FIRST, rv xb_24, rv ob33, .unset] [(.long xe), (.int 1), (.ref ob33)])) _
    refine XS.lload X43.here hx rfl (hb hby at_252) rfl ?_
    refine XS.lmul X43.here hx rfl (hb hby at_254) rfl ?_
    show Steps p.tables e below (T43.setTop (mkF m 255 #[iv p0, jv p1, .second, jv p2, .second, jv p3, .second, jv p4, .second, iv 0, iv 3, jv x0, .second, jv x1, .second, jv x2, .second, jv xe, .second, rv ob7, rv as_LAST_INDEX_FIRST, rv xb_24, rv ob33, .unset] [(.long (xe * x0)), (.int 1), (.ref ob33)])) _
    exact k
  refine own_lift sg44 ?_
  show own_Go p.tables e below (T43.setTop (mkF m 255 #[iv p0, jv p1, .second, jv p2, .second, jv p3, .second, jv p4, .second, iv 0, iv 3, jv x0, .second, jv x1, .second, jv x2, .second, jv xe, .second, rv ob7, rv as_LAST_INDEX_FIRST, rv xb_24, rv ob33, .unset] [(.long (xe * x0)), (.int 1), (.ref ob33)])) _
  obtain ⟨cl45, Ar45, qx45, Sx45, N45', H45', G45'⟩ := id (Vn43)
  have hin45 : ¬ ((1 : Int32) < 0 ∨ cl45.slots.size ≤ ((1 : Int32)).toNatClampNeg) := inb_of Sx45 ⟨(by decide : ¬ ((1 : Int32) < (0 : Int32))), (by decide : (1 : Int32) < (3 : Int32))⟩
  obtain ⟨T46, h46, X46, e46, W46, st46⟩ := stJ X43 hx hZ e43 Ar45 (j := (1 : Int32)) hin45 (g := (mkF m 255 #[iv p0, jv p1, .second, jv p2, .second, jv p3, .second, jv p4, .second, iv 0, iv 3, jv x0, .second, jv x1, .second, jv x2, .second, jv xe, .second, rv ob7, rv as_LAST_INDEX_FIRST, rv xb_24, rv ob33, .unset] [(.long (xe * x0)), (.int 1), (.ref ob33)])) rfl rfl (hb hby at_255)
  have N46 := Fr.snoc X46 N43 ge33
  have Z46 : n0 ≤ h46.size := Nat.le_trans Z43 (Nat.le_of_eq W46.size.symm)
  have Vn46 : Arv Z h46 ob33 ka33 .long (3 : Int32) [(.long xe), (.long (xe * x0)), (.long 0)] (.long 0) := Arv.set Ar45 qx45 Sx45 N45' H45' G45' rfl W46 1 rfl (Nat.le_of_ble_eq_true rfl)
  refine own_lift st46 ?_
  show own_Go p.tables e below (T46.setTop (mkF m 256 #[iv p0, jv p1, .second, jv p2, .second, jv p3, .second, jv p4, .second, iv 0, iv 3, jv x0, .second, jv x1, .second, jv x2, .second, jv xe, .second, rv ob7, rv as_LAST_INDEX_FIRST, rv xb_24, rv ob33, .unset] [])) _
  have sg47 : ∀ t, Steps p.tables e below (T46.setTop (mkF m 267 #[iv p0, jv p1, .second, jv p2, .second, jv p3, .second, jv p4, .second, iv 0, iv 3, jv x0, .second, jv x1, .second, jv x2, .second, jv xe, .second, rv ob7, rv as_LAST_INDEX_FIRST, rv xb_24, rv ob33, .unset] [(.long ((xe * x0) * x1)), (.int 2), (.ref ob33)])) t → Steps p.tables e below (T46.setTop (mkF m 256 #[iv p0, jv p1, .second, jv p2, .second, jv p3, .second, jv p4, .second, iv 0, iv 3, jv x0, .second, jv x1, .second, jv x2, .second, jv xe, .second, rv ob7, rv as_LAST_INDEX_FIRST, rv xb_24, rv ob33, .unset] [])) t := by
    intro t k
    refine XS.aload X46.here hx rfl (hb hby at_256) rfl rfl ?_
    show Steps p.tables e below (T46.setTop (mkF m 258 #[iv p0, jv p1, .second, jv p2, .second, jv p3, .second, jv p4, .second, iv 0, iv 3, jv x0, .second, jv x1, .second, jv x2, .second, jv xe, .second, rv ob7, rv as_LAST_INDEX_FIRST, rv xb_24, rv ob33, .unset] [(.ref ob33)])) _
    refine XS.iconst X46.here hx rfl (hb hby at_258) ?_
    refine XS.lload X46.here hx rfl (hb hby at_259) rfl ?_
    show Steps p.tables e below (T46.setTop (mkF m 261 #[iv p0, jv p1, .second, jv p2, .second, jv p3, .second, jv p4, .second, iv 0, iv 3, jv x0, .second, jv x1, .second, jv x2, .second, jv xe, .second, rv ob7, rv as_LAST_INDEX_FIRST, rv xb_24, rv ob33, .unset] [(.long xe), (.int 2), (.ref ob33)])) _
    refine XS.lload X46.here hx rfl (hb hby at_261) rfl ?_
    refine XS.lmul X46.here hx rfl (hb hby at_263) rfl ?_
    show Steps p.tables e below (T46.setTop (mkF m 264 #[iv p0, jv p1, .second, jv p2, .second, jv p3, .second, jv p4, .second, iv 0, iv 3, jv x0, .second, jv x1, .second, jv x2, .second, jv xe, .second, rv ob7, rv as_LAST_INDEX_FIRST, rv xb_24, rv ob33, .unset] [(.long (xe * x0)), (.int 2), (.ref ob33)])) _
    refine XS.lload X46.here hx rfl (hb hby at_264) rfl ?_
    refine XS.lmul X46.here hx rfl (hb hby at_266) rfl ?_
    show Steps p.tables e below (T46.setTop (mkF m 267 #[iv p0, jv p1, .second, jv p2, .second, jv p3, .second, jv p4, .second, iv 0, iv 3, jv x0, .second, jv x1, .second, jv x2, .second, jv xe, .second, rv ob7, rv as_LAST_INDEX_FIRST, rv xb_24, rv ob33, .unset] [(.long ((xe * x0) * x1)), (.int 2), (.ref ob33)])) _
    exact k
  refine own_lift sg47 ?_
  show own_Go p.tables e below (T46.setTop (mkF m 267 #[iv p0, jv p1, .second, jv p2, .second, jv p3, .second, jv p4, .second, iv 0, iv 3, jv x0, .second, jv x1, .second, jv x2, .second, jv xe, .second, rv ob7, rv as_LAST_INDEX_FIRST, rv xb_24, rv ob33, .unset] [(.long ((xe * x0) * x1)), (.int 2), (.ref ob33)])) _
  obtain ⟨cl48, Ar48, qx48, Sx48, N48', H48', G48'⟩ := id (Vn46)
  have hin48 : ¬ ((2 : Int32) < 0 ∨ cl48.slots.size ≤ ((2 : Int32)).toNatClampNeg) := inb_of Sx48 ⟨(by decide : ¬ ((2 : Int32) < (0 : Int32))), (by decide : (2 : Int32) < (3 : Int32))⟩
  obtain ⟨T49, h49, X49, e49, W49, st49⟩ := stJ X46 hx hZ e46 Ar48 (j := (2 : Int32)) hin48 (g := (mkF m 267 #[iv p0, jv p1, .second, jv p2, .second, jv p3, .second, jv p4, .second, iv 0, iv 3, jv x0, .second, jv x1, .second, jv x2, .second, jv xe, .second, rv ob7, rv as_LAST_INDEX_FIRST, rv xb_24, rv ob33, .unset] [(.long ((xe * x0) * x1)), (.int 2), (.ref ob33)])) rfl rfl (hb hby at_267)
  have N49 := Fr.snoc X49 N46 ge33
  have Z49 : n0 ≤ h49.size := Nat.le_trans Z46 (Nat.le_of_eq W49.size.symm)
  have Vn49 : Arv Z h49 ob33 ka33 .long (3 : Int32) [(.long xe), (.long (xe * x0)), (.long ((xe * x0) * x1))] (.long 0) := Arv.set Ar48 qx48 Sx48 N48' H48' G48' rfl W49 2 rfl (Nat.le_of_ble_eq_true rfl)
  refine own_lift st49 ?_
  show own_Go p.tables e below (T49.setTop (mkF m 268 #[iv p0, jv p1, .second, jv p2, .second, jv p3, .second, jv p4, .second, iv 0, iv 3, jv x0, .second, jv x1, .second, jv x2, .second, jv xe, .second, rv ob7, rv as_LAST_INDEX_FIRST, rv xb_24, rv ob33, .unset] [])) _
  have sg50 : ∀ t, Steps p.tables e below (T49.setTop (mkF m 284 #[iv p0, jv p1, .second, jv p2, .second, jv p3, .second, jv p4, .second, iv 0, iv 3, jv x0, .second, jv x1, .second, jv x2, .second, jv xe, .second, rv ob7, rv as_LAST_INDEX_FIRST, rv xb_24, rv ob33, iv 1] [(.int 0), (.ref xb_24)])) t → Steps p.tables e below (T49.setTop (mkF m 268 #[iv p0, jv p1, .second, jv p2, .second, jv p3, .second, jv p4, .second, iv 0, iv 3, jv x0, .second, jv x1, .second, jv x2, .second, jv xe, .second, rv ob7, rv as_LAST_INDEX_FIRST, rv xb_24, rv ob33, .unset] [])) t := by
    intro t k
    refine XS.iconst X49.here hx rfl (hb hby at_268) ?_
    show Steps p.tables e below (T49.setTop (mkF m 269 #[iv p0, jv p1, .second, jv p2, .second, jv p3, .second, jv p4, .second, iv 0, iv 3, jv x0, .second, jv x1, .second, jv x2, .second, jv xe, .second, rv ob7, rv as_LAST_INDEX_FIRST, rv xb_24, rv ob33, .unset] [(.int 1)])) _
    refine XS.istore X49.here hx rfl (hb hby at_269) rfl (l' := #[iv p0, jv p1, .second, jv p2, .second, jv p3, .second, jv p4, .second, iv 0, iv 3, jv x0, .second, jv x1, .second, jv x2, .second, jv xe, .second, rv ob7, rv as_LAST_INDEX_FIRST, rv xb_24, rv ob33, iv 1]) rfl ?_
    refine XS.iload X49.here hx rfl (hb hby at_271) rfl ?_
    show Steps p.tables e below (T49.setTop (mkF m 273 #[iv p0, jv p1, .second, jv p2, .second, jv p3, .second, jv p4, .second, iv 0, iv 3, jv x0, .second, jv x1, .second, jv x2, .second, jv xe, .second, rv ob7, rv as_LAST_INDEX_FIRST, rv xb_24, rv ob33, iv 1] [(.int 3)])) _
    refine XS.ifNo X49.here hx rfl (hb hby at_273) rfl ((if0 _ _).trans (tlt (by decide : (0 : Int32) < (3 : Int32))).2.2.2) ?_
    refine XS.iload X49.here hx rfl (hb hby at_276) rfl ?_
    show Steps p.tables e below (T49.setTop (mkF m 278 #[iv p0, jv p1, .second, jv p2, .second, jv p3, .second, jv p4, .second, iv 0, iv 3, jv x0, .second, jv x1, .second, jv x2, .second, jv xe, .second, rv ob7, rv as_LAST_INDEX_FIRST, rv xb_24, rv ob33, iv 1] [(.int 1)])) _
    refine XS.ifNo X49.here hx rfl (hb hby at_278) rfl ((if0 _ _).trans (feq (by decide : ¬ ((1 : Int32) = (0 : Int32)))).1) ?_
    refine XS.aload X49.here hx rfl (hb hby at_281) rfl rfl ?_
    show Steps p.tables e below (T49.setTop (mkF m 283 #[iv p0, jv p1, .second, jv p2, .second, jv p3, .second, jv p4, .second, iv 0, iv 3, jv x0, .second, jv x1, .second, jv x2, .second, jv xe, .second, rv ob7, rv as_LAST_INDEX_FIRST, rv xb_24, rv ob33, iv 1] [(.ref xb_24)])) _
    refine XS.iconst X49.here hx rfl (hb hby at_283) ?_
    show Steps p.tables e below (T49.setTop (mkF m 284 #[iv p0, jv p1, .second, jv p2, .second, jv p3, .second, jv p4, .second, iv 0, iv 3, jv x0, .second, jv x1, .second, jv x2, .second, jv xe, .second, rv ob7, rv as_LAST_INDEX_FIRST, rv xb_24, rv ob33, iv 1] [(.int 0), (.ref xb_24)])) _
    exact k
  refine own_lift sg50 ?_
  show own_Go p.tables e below (T49.setTop (mkF m 284 #[iv p0, jv p1, .second, jv p2, .second, jv p3, .second, jv p4, .second, iv 0, iv 3, jv x0, .second, jv x1, .second, jv x2, .second, jv xe, .second, rv ob7, rv as_LAST_INDEX_FIRST, rv xb_24, rv ob33, iv 1] [(.int 0), (.ref xb_24)])) _
  have Fc51 : Arv Z h49 xb_24 xkb_24 .long (3 : Int32) [(.long xe), (.long (xe * x0)), (.long ((xe * x0) * x1))] (.long (0 : Int64)) := ((((p24_2.ext Ex33).other W43 ne40).other W46 ne40).other W49 ne40)
  obtain ⟨cl52, Ar52, qx52, Sx52, N52', H52', G52'⟩ := id (Fc51)
  have hin52 : ¬ ((0 : Int32) < 0 ∨ cl52.slots.size ≤ ((0 : Int32)).toNatClampNeg) := inb_of Sx52 ⟨(by decide : ¬ ((0 : Int32) < (0 : Int32))), (by decide : (0 : Int32) < (3 : Int32))⟩
  have hat52 : cl52.slots[((0 : Int32)).toNatClampNeg]? = some (.long xe) := Has.at H52' hin52 rfl
  have sg53 : ∀ t, Steps p.tables e below (T49.setTop (mkF m 288 #[iv p0, jv p1, .second, jv p2, .second, jv p3, .second, jv p4, .second, iv 0, iv 3, jv x0, .second, jv x1, .second, jv x2, .second, jv xe, .second, rv ob7, rv as_LAST_INDEX_FIRST, rv xb_24, rv ob33, iv 1] [(.int 0), (.ref ob33), (.long xe)])) t → Steps p.tables e below (T49.setTop (mkF m 284 #[iv p0, jv p1, .second, jv p2, .second, jv p3, .second, jv p4, .second, iv 0, iv 3, jv x0, .second, jv x1, .second, jv x2, .second, jv xe, .second, rv ob7, rv as_LAST_INDEX_FIRST, rv xb_24, rv ob33, iv 1] [(.int 0), (.ref xb_24)])) t := by
    intro t k
    refine X49.laload hx (j := (0 : Int32)) (v := (.long xe)) (by rw [e49]; exact Ar52.1) (State.isArrayOf_alike hZ.alike Ar52.2.1) Ar52.2.2 hin52 hat52 (g := (mkF m 284 #[iv p0, jv p1, .second, jv p2, .second, jv p3, .second, jv p4, .second, iv 0, iv 3, jv x0, .second, jv x1, .second, jv x2, .second, jv xe, .second, rv ob7, rv as_LAST_INDEX_FIRST, rv xb_24, rv ob33, iv 1] [(.int 0), (.ref xb_24)])) rfl rfl (hb hby at_284) _ ?_
    show Steps p.tables e below (T49.setTop (mkF m 285 #[iv p0, jv p1, .second, jv p2, .second, jv p3, .second, jv p4, .second, iv 0, iv 3, jv x0, .second, jv x1, .second, jv x2, .second, jv xe, .second, rv ob7, rv as_LAST_INDEX_FIRST, rv xb_24, rv ob33, iv 1] [(.long xe)])) _
    refine XS.aload X49.here hx rfl (hb hby at_285) rfl rfl ?_
    refine XS.iconst X49.here hx rfl (hb hby at_287) ?_
    show Steps p.tables e below (T49.setTop (mkF m 288 #[iv p0, jv p1, .second, jv p2, .second, jv p3, .second, jv p4, .second, iv 0, iv 3, jv x0, .second, jv x1, .second, jv x2, .second, jv xe, .second, rv ob7, rv as_LAST_INDEX_FIRST, rv xb_24, rv ob33, iv 1] [(.int 0), (.ref ob33), (.long xe)])) _
    exact k
  refine own_lift sg53 ?_
  show own_Go p.tables e below (T49.setTop (mkF m 288 #[iv p0, jv p1, .second, jv p2, .second, jv p3, .second, jv p4, .second, iv 0, iv 3, jv x0, .second, jv x1, .second, jv x2, .second, jv xe, .second, rv ob7, rv as_LAST_INDEX_FIRST, rv xb_24, rv ob33, iv 1] [(.int 0), (.ref ob33), (.long xe)])) _
  obtain ⟨cl54, Ar54, qx54, Sx54, N54', H54', G54'⟩ := id (Vn49)
  have hin54 : ¬ ((0 : Int32) < 0 ∨ cl54.slots.size ≤ ((0 : Int32)).toNatClampNeg) := inb_of Sx54 ⟨(by decide : ¬ ((0 : Int32) < (0 : Int32))), (by decide : (0 : Int32) < (3 : Int32))⟩
  have hat54 : cl54.slots[((0 : Int32)).toNatClampNeg]? = some (.long xe) := Has.at H54' hin54 rfl
  have sg55 : ∀ t, Steps p.tables e below (T49.setTop (mkF m 296 #[iv p0, jv p1, .second, jv p2, .second, jv p3, .second, jv p4, .second, iv 0, iv 3, jv x0, .second, jv x1, .second, jv x2, .second, jv xe, .second, rv ob7, rv as_LAST_INDEX_FIRST, rv xb_24, rv ob33, iv 1] [(.int 0), (.ref ob7)])) t → Steps p.tables e below (T49.setTop (mkF m 288 #[iv p0, jv p1, .second, jv p2, .second, jv p3, .second, jv p4, .second, iv 0, iv 3, jv x0, .second, jv x1, .second, jv x2, .second, jv xe, .second, rv ob7, rv as_LAST_INDEX_FIRST, rv xb_24, rv ob33, iv 1] [(.int 0), (.ref ob33), (.long xe)])) t := by
    intro t k
    refine X49.laload hx (j := (0 : Int32)) (v := (.long xe)) (by rw [e49]; exact Ar54.1) (State.isArrayOf_alike hZ.alike Ar54.2.1) Ar54.2.2 hin54 hat54 (g := (mkF m 288 #[iv p0, jv p1, .second, jv p2, .second, jv p3, .second, jv p4, .second, iv 0, iv 3, jv x0, .second, jv x1, .second, jv x2, .second, jv xe, .second, rv ob7, rv as_LAST_INDEX_FIRST, rv xb_24, rv ob33, iv 1] [(.int 0), (.ref ob33), (.long xe)])) rfl rfl (hb hby at_288) _ ?_
    show Steps p.tables e below (T49.setTop (mkF m 289 #[iv p0, jv p1, .second, jv p2, .second, jv p3, .second, jv p4, .second, iv 0, iv 3, jv x0, .second, jv x1, .second, jv x2, .second, jv xe, .second, rv ob7, rv as_LAST_INDEX_FIRST, rv xb_24, rv ob33, iv 1] [(.long xe), (.long xe)])) _
    refine XS.lcmp X49.here hx rfl (hb hby at_289) rfl ?_
    refine XS.ifNo X49.here hx rfl (hb hby at_290) rfl ((if0 _ _).trans (teq ((lw_eq xe xe).2 (rfl : xe = xe))).2) ?_
    show Steps p.tables e below (T49.setTop (mkF m 293 #[iv p0, jv p1, .second, jv p2, .second, jv p3, .second, jv p4, .second, iv 0, iv 3, jv x0, .second, jv x1, .second, jv x2, .second, jv xe, .second, rv ob7, rv as_LAST_INDEX_FIRST, rv xb_24, rv ob33, iv 1] [])) _
    refine XS.aload X49.here hx rfl (hb hby at_293) rfl rfl ?_
    refine XS.iconst X49.here hx rfl (hb hby at_295) ?_
    show Steps p.tables e below (T49.setTop (mkF m 296 #[iv p0, jv p1, .second, jv p2, .second, jv p3, .second, jv p4, .second, iv 0, iv 3, jv x0, .second, jv x1, .second, jv x2, .second, jv xe, .second, rv ob7, rv as_LAST_INDEX_FIRST, rv xb_24, rv ob33, iv 1] [(.int 0), (.ref ob7)])) _
    exact k
  refine own_lift sg55 ?_
  show own_Go p.tables e below (T49.setTop (mkF m 296 #[iv p0, jv p1, .second, jv p2, .second, jv p3, .second, jv p4, .second, iv 0, iv 3, jv x0, .second, jv x1, .second, jv x2, .second, jv xe, .second, rv ob7, rv as_LAST_INDEX_FIRST, rv xb_24, rv ob33, iv 1] [(.int 0), (.ref ob7)])) _
  have Fc56 : Arv Z h49 ob7 ka7 .long (3 : Int32) [(.long x0), (.long x1), (.long x2)] (.long 0) := ((((Fc38.ext Ex33).other W43 ne39).other W46 ne39).other W49 ne39)
  obtain ⟨cl57, Ar57, qx57, Sx57, N57', H57', G57'⟩ := id (Fc56)
  have hin57 : ¬ ((0 : Int32) < 0 ∨ cl57.slots.size ≤ ((0 : Int32)).toNatClampNeg) := inb_of Sx57 ⟨(by decide : ¬ ((0 : Int32) < (0 : Int32))), (by decide : (0 : Int32) < (3 : Int32))⟩
  have hat57 : cl57.slots[((0 : Int32)).toNatClampNeg]? = some (.long x0) := Has.at H57' hin57 rfl
  have sg58 : ∀ t, Steps p.tables e below (T49.setTop (mkF m 324 #[iv p0, jv p1, .second, jv p2, .second, jv p3, .second, jv p4, .second, iv 0, iv 3, jv x0, .second, jv x1, .second, jv x2, .second, jv xe, .second, rv ob7, rv as_LAST_INDEX_FIRST, rv xb_24, rv ob33, iv 1] [(.int 1), (.ref xb_24)])) t → Steps p.tables e below (T49.setTop (mkF m 296 #[iv p0, jv p1, .second, jv p2, .second, jv p3, .second, jv p4, .second, iv 0, iv 3, jv x0, .second, jv x1, .second, jv x2, .second, jv xe, .second, rv ob7, rv as_LAST_INDEX_FIRST, rv xb_24, rv ob33, iv 1] [(.int 0), (.ref ob7)])) t := by
    intro t k
    refine X49.laload hx (j := (0 : Int32)) (v := (.long x0)) (by rw [e49]; exact Ar57.1) (State.isArrayOf_alike hZ.alike Ar57.2.1) Ar57.2.2 hin57 hat57 (g := (mkF m 296 #[iv p0, jv p1, .second, jv p2, .second, jv p3, .second, jv p4, .second, iv 0, iv 3, jv x0, .second, jv x1, .second, jv x2, .second, jv xe, .second, rv ob7, rv as_LAST_INDEX_FIRST, rv xb_24, rv ob33, iv 1] [(.int 0), (.ref ob7)])) rfl rfl (hb hby at_296) _ ?_
    show Steps p.tables e below (T49.setTop (mkF m 297 #[iv p0, jv p1, .second, jv p2, .second, jv p3, .second, jv p4, .second, iv 0, iv 3, jv x0, .second, jv x1, .second, jv x2, .second, jv xe, .second, rv ob7, rv as_LAST_INDEX_FIRST, rv xb_24, rv ob33, iv 1] [(.long x0)])) _
    refine XS.lload X49.here hx rfl (hb hby at_297) rfl ?_
    refine XS.lcmp X49.here hx rfl (hb hby at_299) rfl ?_
    show Steps p.tables e below (T49.setTop (mkF m 300 #[iv p0, jv p1, .second, jv p2, .second, jv p3, .second, jv p4, .second, iv 0, iv 3, jv x0, .second, jv x1, .second, jv x2, .second, jv xe, .second, rv ob7, rv as_LAST_INDEX_FIRST, rv xb_24, rv ob33, iv 1] [(.int (lcmpW x0 x0))])) _
    refine XS.ifNo X49.here hx rfl (hb hby at_300) rfl ((if0 _ _).trans (teq ((lw_eq x0 x0).2 (rfl : x0 = x0))).2) ?_
    refine XS.iconst X49.here hx rfl (hb hby at_303) ?_
    show Steps p.tables e below (T49.setTop (mkF m 304 #[iv p0, jv p1, .second, jv p2, .second, jv p3, .second, jv p4, .second, iv 0, iv 3, jv x0, .second, jv x1, .second, jv x2, .second, jv xe, .second, rv ob7, rv as_LAST_INDEX_FIRST, rv xb_24, rv ob33, iv 1] [(.int 1)])) _
    refine XS.goto X49.here hx rfl (pc0 := 304) (pc' := 308) rfl (hb hby at_304) (by decide) (by decide) ?_
    refine XS.istore X49.here hx rfl (hb hby at_308) rfl (l' := #[iv p0, jv p1, .second, jv p2, .second, jv p3, .second, jv p4, .second, iv 0, iv 3, jv x0, .second, jv x1, .second, jv x2, .second, jv xe, .second, rv ob7, rv as_LAST_INDEX_FIRST, rv xb_24, rv ob33, iv 1]) rfl ?_
    show Steps p.tables e below (T49.setTop (mkF m 310 #[iv p0, jv p1, .second, jv p2, .second, jv p3, .second, jv p4, .second, iv 0, iv 3, jv x0, .second, jv x1, .second, jv x2, .second, jv xe, .second, rv ob7, rv as_LAST_INDEX_FIRST, rv xb_24, rv ob33, iv 1] [])) _
    refine XS.iload X49.here hx rfl (hb hby at_310) rfl ?_
    refine XS.iconst X49.here hx rfl (hb hby at_312) ?_
    show Steps p.tables e below (T49.setTop (mkF m 313 #[iv p0, jv p1, .second, jv p2, .second, jv p3, .second, jv p4, .second, iv 0, iv 3, jv x0, .second, jv x1, .second, jv x2, .second, jv xe, .second, rv ob7, rv as_LAST_INDEX_FIRST, rv xb_24, rv ob33, iv 1] [(.int 1), (.int 3)])) _
    refine XS.icmpNo X49.here hx rfl (hb hby at_313) rfl (tlt (by decide : (1 : Int32) < (3 : Int32))).2.2.2 ?_
    refine XS.iload X49.here hx rfl (hb hby at_316) rfl ?_
    show Steps p.tables e below (T49.setTop (mkF m 318 #[iv p0, jv p1, .second, jv p2, .second, jv p3, .second, jv p4, .second, iv 0, iv 3, jv x0, .second, jv x1, .second, jv x2, .second, jv xe, .second, rv ob7, rv as_LAST_INDEX_FIRST, rv xb_24, rv ob33, iv 1] [(.int 1)])) _
    refine XS.ifNo X49.here hx rfl (hb hby at_318) rfl ((if0 _ _).trans (feq (by decide : ¬ ((1 : Int32) = (0 : Int32)))).1) ?_
    refine XS.aload X49.here hx rfl (hb hby at_321) rfl rfl ?_
    show Steps p.tables e below (T49.setTop (mkF m 323 #[iv p0, jv p1, .second, jv p2, .second, jv p3, .second, jv p4, .second, iv 0, iv 3, jv x0, .second, jv x1, .second, jv x2, .second, jv xe, .second, rv ob7, rv as_LAST_INDEX_FIRST, rv xb_24, rv ob33, iv 1] [(.ref xb_24)])) _
    refine XS.iconst X49.here hx rfl (hb hby at_323) ?_
    show Steps p.tables e below (T49.setTop (mkF m 324 #[iv p0, jv p1, .second, jv p2, .second, jv p3, .second, jv p4, .second, iv 0, iv 3, jv x0, .second, jv x1, .second, jv x2, .second, jv xe, .second, rv ob7, rv as_LAST_INDEX_FIRST, rv xb_24, rv ob33, iv 1] [(.int 1), (.ref xb_24)])) _
    exact k
  refine own_lift sg58 ?_
  show own_Go p.tables e below (T49.setTop (mkF m 324 #[iv p0, jv p1, .second, jv p2, .second, jv p3, .second, jv p4, .second, iv 0, iv 3, jv x0, .second, jv x1, .second, jv x2, .second, jv xe, .second, rv ob7, rv as_LAST_INDEX_FIRST, rv xb_24, rv ob33, iv 1] [(.int 1), (.ref xb_24)])) _
  obtain ⟨cl59, Ar59, qx59, Sx59, N59', H59', G59'⟩ := id (Fc51)
  have hin59 : ¬ ((1 : Int32) < 0 ∨ cl59.slots.size ≤ ((1 : Int32)).toNatClampNeg) := inb_of Sx59 ⟨(by decide : ¬ ((1 : Int32) < (0 : Int32))), (by decide : (1 : Int32) < (3 : Int32))⟩
  have hat59 : cl59.slots[((1 : Int32)).toNatClampNeg]? = some (.long (xe * x0)) := Has.at H59' hin59 rfl
  have sg60 : ∀ t, Steps p.tables e below (T49.setTop (mkF m 328 #[iv p0, jv p1, .second, jv p2, .second, jv p3, .second, jv p4, .second, iv 0, iv 3, jv x0, .second, jv x1, .second, jv x2, .second, jv xe, .second, rv ob7, rv as_LAST_INDEX_FIRST, rv xb_24, rv ob33, iv 1] [(.int 1), (.ref ob33), (.long (xe * x0))])) t → Steps p.tables e below (T49.setTop (mkF m 324 #[iv p0, jv p1, .second, jv p2, .second, jv p3, .second, jv p4, .second, iv 0, iv 3, jv x0, .second, jv x1, .second, jv x2, .second, jv xe, .second, rv ob7, rv as_LAST_INDEX_FIRST, rv xb_24, rv ob33, iv 1] [(.int 1), (.ref xb_24)])) t := by
    intro t k
    refine X49.laload hx (j := (1 : Int32)) (v := (.long (xe * x0))) (by rw [e49]; exact Ar59.1) (State.isArrayOf_alike hZ.alike Ar59.2.1) Ar59.2.2 hin59 hat59 (g := (mkF m 324 #[iv p0, jv p1, .second, jv p2, .second, jv p3, .second, jv p4, .second, iv 0, iv 3, jv x0, .second, jv x1, .second, jv x2, .second, jv xe, .second, rv ob7, rv as_LAST_INDEX_FIRST, rv xb_24, rv ob33, iv 1] [(.int 1), (.ref xb_24)])) rfl rfl (hb hby at_324) _ ?_
    show Steps p.tables e below (T49.setTop (mkF m 325 #[iv p0, jv p1, .second, jv p2, .second, jv p3, .second, jv p4, .second, iv 0, iv 3, jv x0, .second, jv x1, .second, jv x2, .second, jv xe, .second, rv ob7, rv as_LAST_INDEX_FIRST, rv xb_24, rv ob33, iv 1] [(.long (xe * x0))])) _
    refine XS.aload X49.here hx rfl (hb hby at_325) rfl rfl ?_
    refine XS.iconst X49.here hx rfl (hb hby at_327) ?_
    show Steps p.tables e below (T49.setTop (mkF m 328 #[iv p0, jv p1, .second, jv p2, .second, jv p3, .second, jv p4, .second, iv 0, iv 3, jv x0, .second, jv x1, .second, jv x2, .second, jv xe, .second, rv ob7, rv as_LAST_INDEX_FIRST, rv xb_24, rv ob33, iv 1] [(.int 1), (.ref ob33), (.long (xe * x0))])) _
    exact k
  refine own_lift sg60 ?_
  show own_Go p.tables e below (T49.setTop (mkF m 328 #[iv p0, jv p1, .second, jv p2, .second, jv p3, .second, jv p4, .second, iv 0, iv 3, jv x0, .second, jv x1, .second, jv x2, .second, jv xe, .second, rv ob7, rv as_LAST_INDEX_FIRST, rv xb_24, rv ob33, iv 1] [(.int 1), (.ref ob33), (.long (xe * x0))])) _
  obtain ⟨cl61, Ar61, qx61, Sx61, N61', H61', G61'⟩ := id (Vn49)
  have hin61 : ¬ ((1 : Int32) < 0 ∨ cl61.slots.size ≤ ((1 : Int32)).toNatClampNeg) := inb_of Sx61 ⟨(by decide : ¬ ((1 : Int32) < (0 : Int32))), (by decide : (1 : Int32) < (3 : Int32))⟩
  have hat61 : cl61.slots[((1 : Int32)).toNatClampNeg]? = some (.long (xe * x0)) := Has.at H61' hin61 rfl
  have sg62 : ∀ t, Steps p.tables e below (T49.setTop (mkF m 336 #[iv p0, jv p1, .second, jv p2, .second, jv p3, .second, jv p4, .second, iv 0, iv 3, jv x0, .second, jv x1, .second, jv x2, .second, jv xe, .second, rv ob7, rv as_LAST_INDEX_FIRST, rv xb_24, rv ob33, iv 1] [(.int 1), (.ref ob7)])) t → Steps p.tables e below (T49.setTop (mkF m 328 #[iv p0, jv p1, .second, jv p2, .second, jv p3, .second, jv p4, .second, iv 0, iv 3, jv x0, .second, jv x1, .second, jv x2, .second, jv xe, .second, rv ob7, rv as_LAST_INDEX_FIRST, rv xb_24, rv ob33, iv 1] [(.int 1), (.ref ob33), (.long (xe * x0))])) t := by
    intro t k
    refine X49.laload hx (j := (1 : Int32)) (v := (.long (xe * x0))) (by rw [e49]; exact Ar61.1) (State.isArrayOf_alike hZ.alike Ar61.2.1) Ar61.2.2 hin61 hat61 (g := (mkF m 328 #[iv p0, jv p1, .second, jv p2, .second, jv p3, .second, jv p4, .second, iv 0, iv 3, jv x0, .second, jv x1, .second, jv x2, .second, jv xe, .second, rv ob7, rv as_LAST_INDEX_FIRST, rv xb_24, rv ob33, iv 1] [(.int 1), (.ref ob33), (.long (xe * x0))])) rfl rfl (hb hby at_328) _ ?_
    show Steps p.tables e below (T49.setTop (mkF m 329 #[iv p0, jv p1, .second, jv p2, .second, jv p3, .second, jv p4, .second, iv 0, iv 3, jv x0, .second, jv x1, .second, jv x2, .second, jv xe, .second, rv ob7, rv as_LAST_INDEX_FIRST, rv xb_24, rv ob33, iv 1] [(.long (xe * x0)), (.long (xe * x0))])) _
    refine XS.lcmp X49.here hx rfl (hb hby at_329) rfl ?_
    refine XS.ifNo X49.here hx rfl (hb hby at_330) rfl ((if0 _ _).trans (teq ((lw_eq (xe * x0) (xe * x0)).2 (rfl : (xe * x0) = (xe * x0)))).2) ?_
    show Steps p.tables e below (T49.setTop (mkF m 333 #[iv p0, jv p1, .second, jv p2, .second, jv p3, .second, jv p4, .second, iv 0, iv 3, jv x0, .second, jv x1, .second, jv x2, .second, jv xe, .second, rv ob7, rv as_LAST_INDEX_FIRST, rv xb_24, rv ob33, iv 1] [])) _
    refine XS.aload X49.here hx rfl (hb hby at_333) rfl rfl ?_
    refine XS.iconst X49.here hx rfl (hb hby at_335) ?_
    show Steps p.tables e below (T49.setTop (mkF m 336 #[iv p0, jv p1, .second, jv p2, .second, jv p3, .second, jv p4, .second, iv 0, iv 3, jv x0, .second, jv x1, .second, jv x2, .second, jv xe, .second, rv ob7, rv as_LAST_INDEX_FIRST, rv xb_24, rv ob33, iv 1] [(.int 1), (.ref ob7)])) _
    exact k
  refine own_lift sg62 ?_
  show own_Go p.tables e below (T49.setTop (mkF m 336 #[iv p0, jv p1, .second, jv p2, .second, jv p3, .second, jv p4, .second, iv 0, iv 3, jv x0, .second, jv x1, .second, jv x2, .second, jv xe, .second, rv ob7, rv as_LAST_INDEX_FIRST, rv xb_24, rv ob33, iv 1] [(.int 1), (.ref ob7)])) _
  obtain ⟨cl63, Ar63, qx63, Sx63, N63', H63', G63'⟩ := id (Fc56)
  have hin63 : ¬ ((1 : Int32) < 0 ∨ cl63.slots.size ≤ ((1 : Int32)).toNatClampNeg) := inb_of Sx63 ⟨(by decide : ¬ ((1 : Int32) < (0 : Int32))), (by decide : (1 : Int32) < (3 : Int32))⟩
  have hat63 : cl63.slots[((1 : Int32)).toNatClampNeg]? = some (.long x1) := Has.at H63' hin63 rfl
  have sg64 : ∀ t, Steps p.tables e below (T49.setTop (mkF m 364 #[iv p0, jv p1, .second, jv p2, .second, jv p3, .second, jv p4, .second, iv 0, iv 3, jv x0, .second, jv x1, .second, jv x2, .second, jv xe, .second, rv ob7, rv as_LAST_INDEX_FIRST, rv xb_24, rv ob33, iv 1] [(.int 2), (.ref xb_24)])) t → Steps p.tables e below (T49.setTop (mkF m 336 #[iv p0, jv p1, .second, jv p2, .second, jv p3, .second, jv p4, .second, iv 0, iv 3, jv x0, .second, jv x1, .second, jv x2, .second, jv xe, .second, rv ob7, rv as_LAST_INDEX_FIRST, rv xb_24, rv ob33, iv 1] [(.int 1), (.ref ob7)])) t := by
    intro t k
    refine X49.laload hx (j := (1 : Int32)) (v := (.long x1)) (by rw [e49]; exact Ar63.1) (State.isArrayOf_alike hZ.alike Ar63.2.1) Ar63.2.2 hin63 hat63 (g := (mkF m 336 #[iv p0, jv p1, .second, jv p2, .second, jv p3, .second, jv p4, .second, iv 0, iv 3, jv x0, .second, jv x1, .second, jv x2, .second, jv xe, .second, rv ob7, rv as_LAST_INDEX_FIRST, rv xb_24, rv ob33, iv 1] [(.int 1), (.ref ob7)])) rfl rfl (hb hby at_336) _ ?_
    show Steps p.tables e below (T49.setTop (mkF m 337 #[iv p0, jv p1, .second, jv p2, .second, jv p3, .second, jv p4, .second, iv 0, iv 3, jv x0, .second, jv x1, .second, jv x2, .second, jv xe, .second, rv ob7, rv as_LAST_INDEX_FIRST, rv xb_24, rv ob33, iv 1] [(.long x1)])) _
    refine XS.lload X49.here hx rfl (hb hby at_337) rfl ?_
    refine XS.lcmp X49.here hx rfl (hb hby at_339) rfl ?_
    show Steps p.tables e below (T49.setTop (mkF m 340 #[iv p0, jv p1, .second, jv p2, .second, jv p3, .second, jv p4, .second, iv 0, iv 3, jv x0, .second, jv x1, .second, jv x2, .second, jv xe, .second, rv ob7, rv as_LAST_INDEX_FIRST, rv xb_24, rv ob33, iv 1] [(.int (lcmpW x1 x1))])) _
    refine XS.ifNo X49.here hx rfl (hb hby at_340) rfl ((if0 _ _).trans (teq ((lw_eq x1 x1).2 (rfl : x1 = x1))).2) ?_
    refine XS.iconst X49.here hx rfl (hb hby at_343) ?_
    show Steps p.tables e below (T49.setTop (mkF m 344 #[iv p0, jv p1, .second, jv p2, .second, jv p3, .second, jv p4, .second, iv 0, iv 3, jv x0, .second, jv x1, .second, jv x2, .second, jv xe, .second, rv ob7, rv as_LAST_INDEX_FIRST, rv xb_24, rv ob33, iv 1] [(.int 1)])) _
    refine XS.goto X49.here hx rfl (pc0 := 344) (pc' := 348) rfl (hb hby at_344) (by decide) (by decide) ?_
    refine XS.istore X49.here hx rfl (hb hby at_348) rfl (l' := #[iv p0, jv p1, .second, jv p2, .second, jv p3, .second, jv p4, .second, iv 0, iv 3, jv x0, .second, jv x1, .second, jv x2, .second, jv xe, .second, rv ob7, rv as_LAST_INDEX_FIRST, rv xb_24, rv ob33, iv 1]) rfl ?_
    show Steps p.tables e below (T49.setTop (mkF m 350 #[iv p0, jv p1, .second, jv p2, .second, jv p3, .second, jv p4, .second, iv 0, iv 3, jv x0, .second, jv x1, .second, jv x2, .second, jv xe, .second, rv ob7, rv as_LAST_INDEX_FIRST, rv xb_24, rv ob33, iv 1] [])) _
    refine XS.iload X49.here hx rfl (hb hby at_350) rfl ?_
    refine XS.iconst X49.here hx rfl (hb hby at_352) ?_
    show Steps p.tables e below (T49.setTop (mkF m 353 #[iv p0, jv p1, .second, jv p2, .second, jv p3, .second, jv p4, .second, iv 0, iv 3, jv x0, .second, jv x1, .second, jv x2, .second, jv xe, .second, rv ob7, rv as_LAST_INDEX_FIRST, rv xb_24, rv ob33, iv 1] [(.int 2), (.int 3)])) _
    refine XS.icmpNo X49.here hx rfl (hb hby at_353) rfl (tlt (by decide : (2 : Int32) < (3 : Int32))).2.2.2 ?_
    refine XS.iload X49.here hx rfl (hb hby at_356) rfl ?_
    show Steps p.tables e below (T49.setTop (mkF m 358 #[iv p0, jv p1, .second, jv p2, .second, jv p3, .second, jv p4, .second, iv 0, iv 3, jv x0, .second, jv x1, .second, jv x2, .second, jv xe, .second, rv ob7, rv as_LAST_INDEX_FIRST, rv xb_24, rv ob33, iv 1] [(.int 1)])) _
    refine XS.ifNo X49.here hx rfl (hb hby at_358) rfl ((if0 _ _).trans (feq (by decide : ¬ ((1 : Int32) = (0 : Int32)))).1) ?_
    refine XS.aload X49.here hx rfl (hb hby at_361) rfl rfl ?_
    show Steps p.tables e below (T49.setTop (mkF m 363 #[iv p0, jv p1, .second, jv p2, .second, jv p3, .second, jv p4, .second, iv 0, iv 3, jv x0, .second, jv x1, .second, jv x2, .second, jv xe, .second, rv ob7, rv as_LAST_INDEX_FIRST, rv xb_24, rv ob33, iv 1] [(.ref xb_24)])) _
    refine XS.iconst X49.here hx rfl (hb hby at_363) ?_
    show Steps p.tables e below (T49.setTop (mkF m 364 #[iv p0, jv p1, .second, jv p2, .second, jv p3, .second, jv p4, .second, iv 0, iv 3, jv x0, .second, jv x1, .second, jv x2, .second, jv xe, .second, rv ob7, rv as_LAST_INDEX_FIRST, rv xb_24, rv ob33, iv 1] [(.int 2), (.ref xb_24)])) _
    exact k
  refine own_lift sg64 ?_
  show own_Go p.tables e below (T49.setTop (mkF m 364 #[iv p0, jv p1, .second, jv p2, .second, jv p3, .second, jv p4, .second, iv 0, iv 3, jv x0, .second, jv x1, .second, jv x2, .second, jv xe, .second, rv ob7, rv as_LAST_INDEX_FIRST, rv xb_24, rv ob33, iv 1] [(.int 2), (.ref xb_24)])) _
  obtain ⟨cl65, Ar65, qx65, Sx65, N65', H65', G65'⟩ := id (Fc51)
  have hin65 : ¬ ((2 : Int32) < 0 ∨ cl65.slots.size ≤ ((2 : Int32)).toNatClampNeg) := inb_of Sx65 ⟨(by decide : ¬ ((2 : Int32) < (0 : Int32))), (by decide : (2 : Int32) < (3 : Int32))⟩
  have hat65 : cl65.slots[((2 : Int32)).toNatClampNeg]? = some (.long ((xe * x0) * x1)) := Has.at H65' hin65 rfl
  have sg66 : ∀ t, Steps p.tables e below (T49.setTop (mkF m 368 #[iv p0, jv p1, .second, jv p2, .second, jv p3, .second, jv p4, .second, iv 0, iv 3, jv x0, .second, jv x1, .second, jv x2, .second, jv xe, .second, rv ob7, rv as_LAST_INDEX_FIRST, rv xb_24, rv ob33, iv 1] [(.int 2), (.ref ob33), (.long ((xe * x0) * x1))])) t → Steps p.tables e below (T49.setTop (mkF m 364 #[iv p0, jv p1, .second, jv p2, .second, jv p3, .second, jv p4, .second, iv 0, iv 3, jv x0, .second, jv x1, .second, jv x2, .second, jv xe, .second, rv ob7, rv as_LAST_INDEX_FIRST, rv xb_24, rv ob33, iv 1] [(.int 2), (.ref xb_24)])) t := by
    intro t k
    refine X49.laload hx (j := (2 : Int32)) (v := (.long ((xe * x0) * x1))) (by rw [e49]; exact Ar65.1) (State.isArrayOf_alike hZ.alike Ar65.2.1) Ar65.2.2 hin65 hat65 (g := (mkF m 364 #[iv p0, jv p1, .second, jv p2, .second, jv p3, .second, jv p4, .second, iv 0, iv 3, jv x0, .second, jv x1, .second, jv x2, .second, jv xe, .second, rv ob7, rv as_LAST_INDEX_FIRST, rv xb_24, rv ob33, iv 1] [(.int 2), (.ref xb_24)])) rfl rfl (hb hby at_364) _ ?_
    show Steps p.tables e below (T49.setTop (mkF m 365 #[iv p0, jv p1, .second, jv p2, .second, jv p3, .second, jv p4, .second, iv 0, iv 3, jv x0, .second, jv x1, .second, jv x2, .second, jv xe, .second, rv ob7, rv as_LAST_INDEX_FIRST, rv xb_24, rv ob33, iv 1] [(.long ((xe * x0) * x1))])) _
    refine XS.aload X49.here hx rfl (hb hby at_365) rfl rfl ?_
    refine XS.iconst X49.here hx rfl (hb hby at_367) ?_
    show Steps p.tables e below (T49.setTop (mkF m 368 #[iv p0, jv p1, .second, jv p2, .second, jv p3, .second, jv p4, .second, iv 0, iv 3, jv x0, .second, jv x1, .second, jv x2, .second, jv xe, .second, rv ob7, rv as_LAST_INDEX_FIRST, rv xb_24, rv ob33, iv 1] [(.int 2), (.ref ob33), (.long ((xe * x0) * x1))])) _
    exact k
  refine own_lift sg66 ?_
  show own_Go p.tables e below (T49.setTop (mkF m 368 #[iv p0, jv p1, .second, jv p2, .second, jv p3, .second, jv p4, .second, iv 0, iv 3, jv x0, .second, jv x1, .second, jv x2, .second, jv xe, .second, rv ob7, rv as_LAST_INDEX_FIRST, rv xb_24, rv ob33, iv 1] [(.int 2), (.ref ob33), (.long ((xe * x0) * x1))])) _
  obtain ⟨cl67, Ar67, qx67, Sx67, N67', H67', G67'⟩ := id (Vn49)
  have hin67 : ¬ ((2 : Int32) < 0 ∨ cl67.slots.size ≤ ((2 : Int32)).toNatClampNeg) := inb_of Sx67 ⟨(by decide : ¬ ((2 : Int32) < (0 : Int32))), (by decide : (2 : Int32) < (3 : Int32))⟩
  have hat67 : cl67.slots[((2 : Int32)).toNatClampNeg]? = some (.long ((xe * x0) * x1)) := Has.at H67' hin67 rfl
  have sg68 : ∀ t, Steps p.tables e below (T49.setTop (mkF m 376 #[iv p0, jv p1, .second, jv p2, .second, jv p3, .second, jv p4, .second, iv 0, iv 3, jv x0, .second, jv x1, .second, jv x2, .second, jv xe, .second, rv ob7, rv as_LAST_INDEX_FIRST, rv xb_24, rv ob33, iv 1] [(.int 2), (.ref ob7)])) t → Steps p.tables e below (T49.setTop (mkF m 368 #[iv p0, jv p1, .second, jv p2, .second, jv p3, .second, jv p4, .second, iv 0, iv 3, jv x0, .second, jv x1, .second, jv x2, .second, jv xe, .second, rv ob7, rv as_LAST_INDEX_FIRST, rv xb_24, rv ob33, iv 1] [(.int 2), (.ref ob33), (.long ((xe * x0) * x1))])) t := by
    intro t k
    refine X49.laload hx (j := (2 : Int32)) (v := (.long ((xe * x0) * x1))) (by rw [e49]; exact Ar67.1) (State.isArrayOf_alike hZ.alike Ar67.2.1) Ar67.2.2 hin67 hat67 (g := (mkF m 368 #[iv p0, jv p1, .second, jv p2, .second, jv p3, .second, jv p4, .second, iv 0, iv 3, jv x0, .second, jv x1, .second, jv x2, .second, jv xe, .second, rv ob7, rv as_LAST_INDEX_FIRST, rv xb_24, rv ob33, iv 1] [(.int 2), (.ref ob33), (.long ((xe * x0) * x1))])) rfl rfl (hb hby at_368) _ ?_
    show Steps p.tables e below (T49.setTop (mkF m 369 #[iv p0, jv p1, .second, jv p2, .second, jv p3, .second, jv p4, .second, iv 0, iv 3, jv x0, .second, jv x1, .second, jv x2, .second, jv xe, .second, rv ob7, rv as_LAST_INDEX_FIRST, rv xb_24, rv ob33, iv 1] [(.long ((xe * x0) * x1)), (.long ((xe * x0) * x1))])) _
    refine XS.lcmp X49.here hx rfl (hb hby at_369) rfl ?_
    refine XS.ifNo X49.here hx rfl (hb hby at_370) rfl ((if0 _ _).trans (teq ((lw_eq ((xe * x0) * x1) ((xe * x0) * x1)).2 (rfl : ((xe * x0) * x1) = ((xe * x0) * x1)))).2) ?_
    show Steps p.tables e below (T49.setTop (mkF m 373 #[iv p0, jv p1, .second, jv p2, .second, jv p3, .second, jv p4, .second, iv 0, iv 3, jv x0, .second, jv x1, .second, jv x2, .second, jv xe, .second, rv ob7, rv as_LAST_INDEX_FIRST, rv xb_24, rv ob33, iv 1] [])) _
    refine XS.aload X49.here hx rfl (hb hby at_373) rfl rfl ?_
    refine XS.iconst X49.here hx rfl (hb hby at_375) ?_
    show Steps p.tables e below (T49.setTop (mkF m 376 #[iv p0, jv p1, .second, jv p2, .second, jv p3, .second, jv p4, .second, iv 0, iv 3, jv x0, .second, jv x1, .second, jv x2, .second, jv xe, .second, rv ob7, rv as_LAST_INDEX_FIRST, rv xb_24, rv ob33, iv 1] [(.int 2), (.ref ob7)])) _
    exact k
  refine own_lift sg68 ?_
  show own_Go p.tables e below (T49.setTop (mkF m 376 #[iv p0, jv p1, .second, jv p2, .second, jv p3, .second, jv p4, .second, iv 0, iv 3, jv x0, .second, jv x1, .second, jv x2, .second, jv xe, .second, rv ob7, rv as_LAST_INDEX_FIRST, rv xb_24, rv ob33, iv 1] [(.int 2), (.ref ob7)])) _
  obtain ⟨cl69, Ar69, qx69, Sx69, N69', H69', G69'⟩ := id (Fc56)
  have hin69 : ¬ ((2 : Int32) < 0 ∨ cl69.slots.size ≤ ((2 : Int32)).toNatClampNeg) := inb_of Sx69 ⟨(by decide : ¬ ((2 : Int32) < (0 : Int32))), (by decide : (2 : Int32) < (3 : Int32))⟩
  have hat69 : cl69.slots[((2 : Int32)).toNatClampNeg]? = some (.long x2) := Has.at H69' hin69 rfl
  have sg70 : ∀ t, Steps p.tables e below (T49.setTop (mkF m 392 #[iv p0, jv p1, .second, jv p2, .second, jv p3, .second, jv p4, .second, iv 0, iv 3, jv x0, .second, jv x1, .second, jv x2, .second, jv xe, .second, rv ob7, rv as_LAST_INDEX_FIRST, rv xb_24, rv ob33, iv 1] [(.int 1)])) t → Steps p.tables e below (T49.setTop (mkF m 376 #[iv p0, jv p1, .second, jv p2, .second, jv p3, .second, jv p4, .second, iv 0, iv 3, jv x0, .second, jv x1, .second, jv x2, .second, jv xe, .second, rv ob7, rv as_LAST_INDEX_FIRST, rv xb_24, rv ob33, iv 1] [(.int 2), (.ref ob7)])) t := by
    intro t k
    refine X49.laload hx (j := (2 : Int32)) (v := (.long x2)) (by rw [e49]; exact Ar69.1) (State.isArrayOf_alike hZ.alike Ar69.2.1) Ar69.2.2 hin69 hat69 (g := (mkF m 376 #[iv p0, jv p1, .second, jv p2, .second, jv p3, .second, jv p4, .second, iv 0, iv 3, jv x0, .second, jv x1, .second, jv x2, .second, jv xe, .second, rv ob7, rv as_LAST_INDEX_FIRST, rv xb_24, rv ob33, iv 1] [(.int 2), (.ref ob7)])) rfl rfl (hb hby at_376) _ ?_
    show Steps p.tables e below (T49.setTop (mkF m 377 #[iv p0, jv p1, .second, jv p2, .second, jv p3, .second, jv p4, .second, iv 0, iv 3, jv x0, .second, jv x1, .second, jv x2, .second, jv xe, .second, rv ob7, rv as_LAST_INDEX_FIRST, rv xb_24, rv ob33, iv 1] [(.long x2)])) _
    refine XS.lload X49.here hx rfl (hb hby at_377) rfl ?_
    refine XS.lcmp X49.here hx rfl (hb hby at_379) rfl ?_
    show Steps p.tables e below (T49.setTop (mkF m 380 #[iv p0, jv p1, .second, jv p2, .second, jv p3, .second, jv p4, .second, iv 0, iv 3, jv x0, .second, jv x1, .second, jv x2, .second, jv xe, .second, rv ob7, rv as_LAST_INDEX_FIRST, rv xb_24, rv ob33, iv 1] [(.int (lcmpW x2 x2))])) _
    refine XS.ifNo X49.here hx rfl (hb hby at_380) rfl ((if0 _ _).trans (teq ((lw_eq x2 x2).2 (rfl : x2 = x2))).2) ?_
    refine XS.iconst X49.here hx rfl (hb hby at_383) ?_
    show Steps p.tables e below (T49.setTop (mkF m 384 #[iv p0, jv p1, .second, jv p2, .second, jv p3, .second, jv p4, .second, iv 0, iv 3, jv x0, .second, jv x1, .second, jv x2, .second, jv xe, .second, rv ob7, rv as_LAST_INDEX_FIRST, rv xb_24, rv ob33, iv 1] [(.int 1)])) _
    refine XS.goto X49.here hx rfl (pc0 := 384) (pc' := 388) rfl (hb hby at_384) (by decide) (by decide) ?_
    refine XS.istore X49.here hx rfl (hb hby at_388) rfl (l' := #[iv p0, jv p1, .second, jv p2, .second, jv p3, .second, jv p4, .second, iv 0, iv 3, jv x0, .second, jv x1, .second, jv x2, .second, jv xe, .second, rv ob7, rv as_LAST_INDEX_FIRST, rv xb_24, rv ob33, iv 1]) rfl ?_
    show Steps p.tables e below (T49.setTop (mkF m 390 #[iv p0, jv p1, .second, jv p2, .second, jv p3, .second, jv p4, .second, iv 0, iv 3, jv x0, .second, jv x1, .second, jv x2, .second, jv xe, .second, rv ob7, rv as_LAST_INDEX_FIRST, rv xb_24, rv ob33, iv 1] [])) _
    refine XS.iload X49.here hx rfl (hb hby at_390) rfl ?_
    show Steps p.tables e below (T49.setTop (mkF m 392 #[iv p0, jv p1, .second, jv p2, .second, jv p3, .second, jv p4, .second, iv 0, iv 3, jv x0, .second, jv x1, .second, jv x2, .second, jv xe, .second, rv ob7, rv as_LAST_INDEX_FIRST, rv xb_24, rv ob33, iv 1] [(.int 1)])) _
    exact k
  refine own_lift sg70 ?_
  show own_Go p.tables e below (T49.setTop (mkF m 392 #[iv p0, jv p1, .second, jv p2, .second, jv p3, .second, jv p4, .second, iv 0, iv 3, jv x0, .second, jv x1, .second, jv x2, .second, jv xe, .second, rv ob7, rv as_LAST_INDEX_FIRST, rv xb_24, rv ob33, iv 1] [(.int 1)])) _
  obtain ⟨fs, hr, hrun, hended, hW, hsame⟩ := X49.leave (v := some (.int 1)) (fun h => by rw [Bd.returns] at h; cases h)
  refine ⟨_, _, ?_, hrun, hended, _, _, rfl, ?_, ⟨_, rfl⟩, hW, hsame.mono (by decide) (by decide)⟩
  · exact retN X49 hx (t := .boolean) Bd.returns (by simp) (hb hby at_392) hr
  · show Q0 Z  h0 n0 _ T49.heap _
    rw [e49]
    exact ⟨rfl, N49⟩
theorem ef_rm0_0F (m : MethodId) (x0 : Int32) (x1 : Int64) (x2 : Int64) (x3 : Int64) (x4 : Int64) : entryFrame m #[(.int x0), (.long x1), (.long x2), (.long x3), (.long x4)] maxLocals = mkF m 0 #[.val (.int x0), .val (.long x1), .second, .val (.long x2), .second, .val (.long x3), .second, .val (.long x4), .second, .unset, .unset, .unset, .unset, .unset, .unset, .unset, .unset, .unset, .unset, .unset, .unset, .unset, .unset, .unset] [] := by first | (simp [entryFrame, mkF, argsToLocals, Value.category, maxLocals]; done) | rfl
set_option maxRecDepth 65536 in
set_option maxHeartbeats 40000000 in
theorem rm0_0F (l : Launch) (Z : State) (a0 : Array Value) (hw : ∀ d ∈ tables_1, d.before a0 Z = true) (ws : List Jvm.Cond) (p0 : Int32) (p1 : Int64) (p2 : Int64) (p3 : Int64) (p4 : Int64) (as_LAST_INDEX_FIRST : Addr) (as_FIRST_INDEX_FIRST : Addr) (x0 : Int64) (x1 : Int64) (x2 : Int64) (xe : Int64) (h0 : Heap) (n0 : Nat) (Z0 : n0 ≤ h0.size) (S_LAST_INDEX_FIRST : Sta Z h0 "com/example/halyard/halyard/east/ArrayStorage" "LAST_INDEX_FIRST" "Lcom/example/halyard/halyard/east/ArrayStorage;" (.ref as_LAST_INDEX_FIRST)) (E_LAST_INDEX_FIRST : Exa Z h0 as_LAST_INDEX_FIRST "com/example/halyard/halyard/east/ArrayStorage") (O_LAST_INDEX_FIRST : Fld Z h0 as_LAST_INDEX_FIRST "java/lang/Enum" "ordinal" "I" (.int 1)) (S_FIRST_INDEX_FIRST : Sta Z h0 "com/example/halyard/halyard/east/ArrayStorage" "FIRST_INDEX_FIRST" "Lcom/example/halyard/halyard/east/ArrayStorage;" (.ref as_FIRST_INDEX_FIRST)) (E_FIRST_INDEX_FIRST : Exa Z h0 as_FIRST_INDEX_FIRST "com/example/halyard/halyard/east/ArrayStorage") (O_FIRST_INDEX_FIRST : Fld Z h0 as_FIRST_INDEX_FIRST "java/lang/Enum" "ordinal" "I" (.int 0)) (hx0 : (p1 &&& (65535 : Int64)) = x0) (hx1 : (p2 &&& (65535 : Int64)) = x1) (hx2 : (p3 &&& (65535 : Int64)) = x2) (hxe : (p4 &&& (32767 : Int64)) = xe) (b1 : ¬ ((p0 &&& (1 : Int32)) = (0 : Int32))) (hn : (((p0.toUInt32 >>> ((1 : Int32) &&& 31).toUInt32).toInt32) &&& (3 : Int32)) = (0 : Int32)) (hne : ¬ (as_LAST_INDEX_FIRST = as_FIRST_INDEX_FIRST)) :
    MetFree l x (head1 (Jvm.Cond.code x code maxLocals ret :: ws) room_1) (fun a U => a = #[(.int p0), (.long p1), (.long p2), (.long p3), (.long p4)] ∧ Z.Warmed39 U.vm ∧ U.heap = h0) (fun _ _ _ _ _ => True) (fun _ U o U' => ∃ v L, o = .returned v ∧ Q0 Z  h0 n0 v U'.heap L ∧ FrameEnd U o U' L 16 128) := by
  refine MetFree.of_bodySF (plainFor_of_name pn_1) hisR ?_
  intro p e s m args below meth c s₁ Bd hml0 hP hK
  obtain ⟨rfl, hZ, hh⟩ := hP
  have hx := Bd.exec
  have hby := Bd.bytes
  have hml : c.maxLocals = 24 := hml0
  have hown : s.vm.findClass "com/example/halyard/halyard/east/ArrayStorageStridesPinLaw" = some m.cls := findClass_of_methodNamed Bd.named
  have hnm := (name_of_methodNamed Bd.named Bd.method).1
  have X0 : Stand p l e room_1 s m #[(.int p0), (.long p1), (.long p2), (.long p3), (.long p4)] below meth c s₁ [] 0 0 := Stand.of_body Bd
  have e0 : s₁.heap = h0 := by rw [← hh, Bd.state]; rfl
  have N0 := Fr.nil n0
  refine own_go (own_lift (fun t k => castTop (ef_rm0_0F m p0 p1 p2 p3 p4) k) ?_)
  show own_Go p.tables e below (s₁.setTop (mkF m 0 #[iv p0, jv p1, .second, jv p2, .second, jv p3, .second, jv p4, .second, .unset, .unset, .unset, .unset, .unset, .unset, .unset, .unset, .unset, .unset, .unset, .unset, .unset, .unset, .unset] [])) _
  have sg1 : ∀ t, Steps p.tables e below (s₁.setTop (mkF m 18 #[iv p0, jv p1, .second, jv p2, .second, jv p3, .second, jv p4, .second, iv 1, .unset, .unset, .unset, .unset, .unset, .unset, .unset, .unset, .unset, .unset, .unset, .unset, .unset, .unset] [(.int (((p0.toUInt32 >>> ((1 : Int32) &&& 31).toUInt32).toInt32) &&& (3 : Int32)))])) t → Steps p.tables e below (s₁.setTop (mkF m 0 #[iv p0, jv p1, .second, jv p2, .second, jv p3, .second, jv p4, .second, .unset, .unset, .unset, .unset, .unset, .unset, .unset, .unset, .unset, .unset, .unset, .unset, .unset, .unset, .unset] [])) t := by
    intro t k
    refine XS.iloadN X0.here hx rfl (hb hby at_0) rfl ?_
    show Steps p.tables e below (s₁.setTop (mkF m 1 #[iv p0, jv p1, .second, jv p2, .second, jv p3, .second, jv p4, .second, .unset, .unset, .unset, .unset, .unset, .unset, .unset, .unset, .unset, .unset, .unset, .unset, .unset, .unset, .unset] [(.int p0)])) _
    refine XS.iconst X0.here hx rfl (hb hby at_1) ?_
    refine XS.iand X0.here hx rfl (hb hby at_2) rfl ?_
    show Steps p.tables e below (s₁.setTop (mkF m 3 #[iv p0, jv p1, .second, jv p2, .second, jv p3, .second, jv p4, .second, .unset, .unset, .unset, .unset, .unset, .unset, .unset, .unset, .unset, .unset, .unset, .unset, .unset, .unset, .unset] [(.int (p0 &&& (1 : Int32)))])) _
    refine XS.ifNo X0.here hx rfl (hb hby at_3) rfl ((if0 _ _).trans (feq b1).1) ?_
    refine XS.iconst X0.here hx rfl (hb hby at_6) ?_
    show Steps p.tables e below (s₁.setTop (mkF m 7 #[iv p0, jv p1, .second, jv p2, .second, jv p3, .second, jv p4, .second, .unset, .unset, .unset, .unset, .unset, .unset, .unset, .unset, .unset, .unset, .unset, .unset, .unset, .unset, .unset] [(.int 1)])) _
    refine XS.goto X0.here hx rfl (pc0 := 7) (pc' := 11) rfl (hb hby at_7) (by decide) (by decide) ?_
    refine XS.istore X0.here hx rfl (hb hby at_11) rfl (l' := #[iv p0, jv p1, .second, jv p2, .second, jv p3, .second, jv p4, .second, iv 1, .unset, .unset, .unset, .unset, .unset, .unset, .unset, .unset, .unset, .unset, .unset, .unset, .unset, .unset]) rfl ?_
    show Steps p.tables e below (s₁.setTop (mkF m 13 #[iv p0, jv p1, .second, jv p2, .second, jv p3, .second, jv p4, .second, iv 1, .unset, .unset, .unset, .unset, .unset, .unset, .unset, .unset, .unset, .unset, .unset, .unset, .unset, .unset] [])) _
    refine XS.iloadN X0.here hx rfl (hb hby at_13) rfl ?_
    refine XS.iconst X0.here hx rfl (hb hby at_14) ?_
    show Steps p.tables e below (s₁.setTop (mkF m 15 #[iv p0, jv p1, .second, jv p2, .second, jv p3, .second, jv p4, .second, iv 1, .unset, .unset, .unset, .unset, .unset, .unset, .unset, .unset, .unset, .unset, .unset, .unset, .unset, .unset] [(.int 1), (.int p0)])) _
    refine XS.iushr X0.here hx rfl (hb hby at_15) rfl ?_
    refine XS.iconst X0.here hx rfl (hb hby at_16) ?_
    show Steps p.tables e below (s₁.setTop (mkF m 17 #[iv p0, jv p1, .second, jv p2, .second, jv p3, .second, jv p4, .second, iv 1, .unset, .unset, .unset, .unset, .unset, .unset, .unset, .unset, .unset, .unset, .unset, .unset, .unset, .unset] [(.int 3), (.int ((p0.toUInt32 >>> ((1 : Int32) &&& 31).toUInt32).toInt32))])) _
    refine XS.iand X0.here hx rfl (hb hby at_17) rfl ?_
    show Steps p.tables e below (s₁.setTop (mkF m 18 #[iv p0, jv p1, .second, jv p2, .second, jv p3, .second, jv p4, .second, iv 1, .unset, .unset, .unset, .unset, .unset, .unset, .unset, .unset, .unset, .unset, .unset, .unset, .unset, .unset] [(.int (((p0.toUInt32 >>> ((1 : Int32) &&& 31).toUInt32).toInt32) &&& (3 : Int32)))])) _
    exact k
  refine own_lift sg1 ?_
  show own_Go p.tables e below (s₁.setTop (mkF m 18 #[iv p0, jv p1, .second, jv p2, .second, jv p3, .second, jv p4, .second, iv 1, .unset, .unset, .unset, .unset, .unset, .unset, .unset, .unset, .unset, .unset, .unset, .unset, .unset, .unset] [(.int (((p0.toUInt32 >>> ((1 : Int32) &&& 31).toUInt32).toInt32) &&& (3 : Int32)))])) _
  rw [hn]
  show own_Go p.tables e below (s₁.setTop (mkF m 18 #[iv p0, jv p1, .second, jv p2, .second, jv p3, .second, jv p4, .second, iv 1, .unset, .unset, .unset, .unset, .unset, .unset, .unset, .unset, .unset, .unset, .unset, .unset, .unset, .unset] [(.int 0)])) _
  have sg2 : ∀ t, Steps p.tables e below (s₁.setTop (mkF m 25 #[iv p0, jv p1, .second, jv p2, .second, jv p3, .second, jv p4, .second, iv 1, iv 0, .unset, .unset, .unset, .unset, .unset, .unset, .unset, .unset, .unset, .unset, .unset, .unset, .unset] [(.long (p1 &&& (65535 : Int64)))])) t → Steps p.tables e below (s₁.setTop (mkF m 18 #[iv p0, jv p1, .second, jv p2, .second, jv p3, .second, jv p4, .second, iv 1, .unset, .unset, .unset, .unset, .unset, .unset, .unset, .unset, .unset, .unset, .unset, .unset, .unset, .unset] [(.int 0)])) t := by
    intro t k
    refine XS.istore X0.here hx rfl (hb hby at_18) rfl (l' := #[iv p0, jv p1, .second, jv p2, .second, jv p3, .second, jv p4, .second, iv 1, iv 0, .unset, .unset, .unset, .unset, .unset, .unset, .unset, .unset, .unset, .unset, .unset, .unset, .unset]) rfl ?_
    show Steps p.tables e below (s₁.setTop (mkF m 20 #[iv p0, jv p1, .second, jv p2, .second, jv p3, .second, jv p4, .second, iv 1, iv 0, .unset, .unset, .unset, .unset, .unset, .unset, .unset, .unset, .unset, .unset, .unset, .unset, .unset] [])) _
    refine XS.lloadN X0.here hx rfl (hb hby at_20) rfl ?_
    refine X0.ldc2Long hx hown (mvT hZ (wd hw 0 rfl)) (g := (mkF m 21 #[iv p0, jv p1, .second, jv p2, .second, jv p3, .second, jv p4, .second, iv 1, iv 0, .unset, .unset, .unset, .unset, .unset, .unset, .unset, .unset, .unset, .unset, .unset, .unset, .unset] [(.long p1)])) rfl (hb hby at_21) _ ?_
    show Steps p.tables e below (s₁.setTop (mkF m 24 #[iv p0, jv p1, .second, jv p2, .second, jv p3, .second, jv p4, .second, iv 1, iv 0, .unset, .unset, .unset, .unset, .unset, .unset, .unset, .unset, .unset, .unset, .unset, .unset, .unset] [(.long 65535), (.long p1)])) _
    refine XS.land X0.here hx rfl (hb hby at_24) rfl ?_
    show Steps p.tables e below (s₁.setTop (mkF m 25 #[iv p0, jv p1, .second, jv p2, .second, jv p3, .second, jv p4, .second, iv 1, iv 0, .unset, .unset, .unset, .unset, .unset, .unset, .unset, .unset, .unset, .unset, .unset, .unset, .unset] [(.long (p1 &&& (65535 : Int64)))])) _
    exact k
  refine own_lift sg2 ?_
  show own_Go p.tables e below (s₁.setTop (mkF m 25 #[iv p0, jv p1, .second, jv p2, .second, jv p3, .second, jv p4, .second, iv 1, iv 0, .unset, .unset, .unset, .unset, .unset, .unset, .unset, .unset, .unset, .unset, .unset, .unset, .unset] [(.long (p1 &&& (65535 : Int64)))])) _
  rw [hx0]
  show own_Go p.tables e below (s₁.setTop (mkF m 25 #[iv p0, jv p1, .second, jv p2, .second, jv p3, .second, jv p4, .second, iv 1, iv 0, .unset, .unset, .unset, .unset, .unset, .unset, .unset, .unset, .unset, .unset, .unset, .unset, .unset] [(.long x0)])) _
  have sg3 : ∀ t, Steps p.tables e below (s₁.setTop (mkF m 32 #[iv p0, jv p1, .second, jv p2, .second, jv p3, .second, jv p4, .second, iv 1, iv 0, jv x0, .second, .unset, .unset, .unset, .unset, .unset, .unset, .unset, .unset, .unset, .unset, .unset] [(.long (p2 &&& (65535 : Int64)))])) t → Steps p.tables e below (s₁.setTop (mkF m 25 #[iv p0, jv p1, .second, jv p2, .second, jv p3, .second, jv p4, .second, iv 1, iv 0, .unset, .unset, .unset, .unset, .unset, .unset, .unset, .unset, .unset, .unset, .unset, .unset, .unset] [(.long x0)])) t := by
    intro t k
    refine XS.lstore X0.here hx rfl (hb hby at_25) rfl (l' := #[iv p0, jv p1, .second, jv p2, .second, jv p3, .second, jv p4, .second, iv 1, iv 0, jv x0, .second, .unset, .unset, .unset, .unset, .unset, .unset, .unset, .unset, .unset, .unset, .unset]) rfl ?_
    show Steps p.tables e below (s₁.setTop (mkF m 27 #[iv p0, jv p1, .second, jv p2, .second, jv p3, .second, jv p4, .second, iv 1, iv 0, jv x0, .second, .unset, .unset, .unset, .unset, .unset, .unset, .unset, .unset, .unset, .unset, .unset] [])) _
    refine XS.lloadN X0.here hx rfl (hb hby at_27) rfl ?_
    refine X0.ldc2Long hx hown (mvT hZ (wd hw 0 rfl)) (g := (mkF m 28 #[iv p0, jv p1, .second, jv p2, .second, jv p3, .second, jv p4, .second, iv 1, iv 0, jv x0, .second, .unset, .unset, .unset, .unset, .unset, .unset, .unset, .unset, .unset, .unset, .unset] [(.long p2)])) rfl (hb hby at_28) _ ?_
    show Steps p.tables e below (s₁.setTop (mkF m 31 #[iv p0, jv p1, .second, jv p2, .second, jv p3, .second, jv p4, .second, iv 1, iv 0, jv x0, .second, .unset, .unset, .unset, .unset, .unset, .unset, .unset, .unset, .unset, .unset, .unset] [(.long 65535), (.long p2)])) _
    refine XS.land X0.here hx rfl (hb hby at_31) rfl ?_
    show Steps p.tables e below (s₁.setTop (mkF m 32 #[iv p0, jv p1, .second, jv p2, .second, jv p3, .second, jv p4, .second, iv 1, iv 0, jv x0, .second, .unset, .unset, .unset, .unset, .unset, .unset, .unset, .unset, .unset, .unset, .unset] [(.long (p2 &&& (65535 : Int64)))])) _
    exact k
  refine own_lift sg3 ?_
  show own_Go p.tables e below (s₁.setTop (mkF m 32 #[iv p0, jv p1, .second, jv p2, .second, jv p3, .second, jv p4, .second, iv 1, iv 0, jv x0, .second, .unset, .unset, .unset, .unset, .unset, .unset, .unset, .unset, .unset, .unset, .unset] [(.long (p2 &&& (65535 : Int64)))])) _
  rw [hx1]
  show own_Go p.tables e below (s₁.setTop (mkF m 32 #[iv p0, jv p1, .second, jv p2, .second, jv p3, .second, jv p4, .second, iv 1, iv 0, jv x0, .second, .unset, .unset, .unset, .unset, .unset, .unset, .unset, .unset, .unset, .unset, .unset] [(.long x1)])) _
  have sg4 : ∀ t, Steps p.tables e below (s₁.setTop (mkF m 40 #[iv p0, jv p1, .second, jv p2, .second, jv p3, .second, jv p4, .second, iv 1, iv 0, jv x0, .second, jv x1, .second, .unset, .unset, .unset, .unset, .unset, .unset, .unset, .unset, .unset] [(.long (p3 &&& (65535 : Int64)))])) t → Steps p.tables e below (s₁.setTop (mkF m 32 #[iv p0, jv p1, .second, jv p2, .second, jv p3, .second, jv p4, .second, iv 1, iv 0, jv x0, .second, .unset, .unset, .unset, .unset, .unset, .unset, .unset, .unset, .unset, .unset, .unset] [(.long x1)])) t := by
    intro t k
    refine XS.lstore X0.here hx rfl (hb hby at_32) rfl (l' := #[iv p0, jv p1, .second, jv p2, .second, jv p3, .second, jv p4, .second, iv 1, iv 0, jv x0, .second, jv x1, .second, .unset, .unset, .unset, .unset, .unset, .unset, .unset, .unset, .unset]) rfl ?_
    show Steps p.tables e below (s₁.setTop (mkF m 34 #[iv p0, jv p1, .second, jv p2, .second, jv p3, .second, jv p4, .second, iv 1, iv 0, jv x0, .second, jv x1, .second, .unset, .unset, .unset, .unset, .unset, .unset, .unset, .unset, .unset] [])) _
    refine XS.lload X0.here hx rfl (hb hby at_34) rfl ?_
    refine X0.ldc2Long hx hown (mvT hZ (wd hw 0 rfl)) (g := (mkF m 36 #[iv p0, jv p1, .second, jv p2, .second, jv p3, .second, jv p4, .second, iv 1, iv 0, jv x0, .second, jv x1, .second, .unset, .unset, .unset, .unset, .unset, .unset, .unset, .unset, .unset] [(.long p3)])) rfl (hb hby at_36) _ ?_
    show Steps p.tables e below (s₁.setTop (mkF m 39 #[iv p0, jv p1, .second, jv p2, .second, jv p3, .second, jv p4, .second, iv 1, iv 0, jv x0, .second, jv x1, .second, .unset, .unset, .unset, .unset, .unset, .unset, .unset, .unset, .unset] [(.long 65535), (.long p3)])) _
    refine XS.land X0.here hx rfl (hb hby at_39) rfl ?_
    show Steps p.tables e below (s₁.setTop (mkF m 40 #[iv p0, jv p1, .second, jv p2, .second, jv p3, .second, jv p4, .second, iv 1, iv 0, jv x0, .second, jv x1, .second, .unset, .unset, .unset, .unset, .unset, .unset, .unset, .unset, .unset] [(.long (p3 &&& (65535 : Int64)))])) _
    exact k
  refine own_lift sg4 ?_
  show own_Go p.tables e below (s₁.setTop (mkF m 40 #[iv p0, jv p1, .second, jv p2, .second, jv p3, .second, jv p4, .second, iv 1, iv 0, jv x0, .second, jv x1, .second, .unset, .unset, .unset, .unset, .unset, .unset, .unset, .unset, .unset] [(.long (p3 &&& (65535 : Int64)))])) _
  rw [hx2]
  show own_Go p.tables e below (s₁.setTop (mkF m 40 #[iv p0, jv p1, .second, jv p2, .second, jv p3, .second, jv p4, .second, iv 1, iv 0, jv x0, .second, jv x1, .second, .unset, .unset, .unset, .unset, .unset, .unset, .unset, .unset, .unset] [(.long x2)])) _
  have sg5 : ∀ t, Steps p.tables e below (s₁.setTop (mkF m 48 #[iv p0, jv p1, .second, jv p2, .second, jv p3, .second, jv p4, .second, iv 1, iv 0, jv x0, .second, jv x1, .second, jv x2, .second, .unset, .unset, .unset, .unset, .unset, .unset, .unset] [(.long (p4 &&& (32767 : Int64)))])) t → Steps p.tables e below (s₁.setTop (mkF m 40 #[iv p0, jv p1, .second, jv p2, .second, jv p3, .second, jv p4, .second, iv 1, iv 0, jv x0, .second, jv x1, .second, .unset, .unset, .unset, .unset, .unset, .unset, .unset, .unset, .unset] [(.long x2)])) t := by
    intro t k
    refine XS.lstore X0.here hx rfl (hb hby at_40) rfl (l' := #[iv p0, jv p1, .second, jv p2, .second, jv p3, .second, jv p4, .second, iv 1, iv 0, jv x0, .second, jv x1, .second, jv x2, .second, .unset, .unset, .unset, .unset, .unset, .unset, .unset]) rfl ?_
    show Steps p.tables e below (s₁.setTop (mkF m 42 #[iv p0, jv p1, .second, jv p2, .second, jv p3, .second, jv p4, .second, iv 1, iv 0, jv x0, .second, jv x1, .second, jv x2, .second, .unset, .unset, .unset, .unset, .unset, .unset, .unset] [])) _
    refine XS.lload X0.here hx rfl (hb hby at_42) rfl ?_
    refine X0.ldc2Long hx hown (mvT hZ (wd hw 1 rfl)) (g := (mkF m 44 #[iv p0, jv p1, .second, jv p2, .second, jv p3, .second, jv p4, .second, iv 1, iv 0, jv x0, .second, jv x1, .second, jv x2, .second, .unset, .unset, .unset, .unset, .unset, .unset, .unset] [(.long p4)])) rfl (hb hby at_44) _ ?_
    show Steps p.tables e below (s₁.setTop (mkF m 47 #[iv p0, jv p1, .second, jv p2, .second, jv p3, .second, jv p4, .second, iv 1, iv 0, jv x0, .second, jv x1, .second, jv x2, .second, .unset, .unset, .unset, .unset, .unset, .unset, .unset] [(.long 32767), (.long p4)])) _
    refine XS.land X0.here hx rfl (hb hby at_47) rfl ?_
    show Steps p.tables e below (s₁.setTop (mkF m 48 #[iv p0, jv p1, .second, jv p2, .second, jv p3, .second, jv p4, .second, iv 1, iv 0, jv x0, .second, jv x1, .second, jv x2, .second, .unset, .unset, .unset, .unset, .unset, .unset, .unset] [(.long (p4 &&& (32767 : Int64)))])) _
    exact k
  refine own_lift sg5 ?_
  show own_Go p.tables e below (s₁.setTop (mkF m 48 #[iv p0, jv p1, .second, jv p2, .second, jv p3, .second, jv p4, .second, iv 1, iv 0, jv x0, .second, jv x1, .second, jv x2, .second, .unset, .unset, .unset, .unset, .unset, .unset, .unset] [(.long (p4 &&& (32767 : Int64)))])) _
  rw [hxe]
  show own_Go p.tables e below (s₁.setTop (mkF m 48 #[iv p0, jv p1, .second, jv p2, .second, jv p3, .second, jv p4, .second, iv 1, iv 0, jv x0, .second, jv x1, .second, jv x2, .second, .unset, .unset, .unset, .unset, .unset, .unset, .unset] [(.long xe)])) _
  have sg6 : ∀ t, Steps p.tables e below (s₁.setTop (mkF m 52 #[iv p0, jv p1, .second, jv p2, .second, jv p3, .second, jv p4, .second, iv 1, iv 0, jv x0, .second, jv x1, .second, jv x2, .second, jv xe, .second, .unset, .unset, .unset, .unset, .unset] [(.int 0)])) t → Steps p.tables e below (s₁.setTop (mkF m 48 #[iv p0, jv p1, .second, jv p2, .second, jv p3, .second, jv p4, .second, iv 1, iv 0, jv x0, .second, jv x1, .second, jv x2, .second, .unset, .unset, .unset, .unset, .unset, .unset, .unset] [(.long xe)])) t := by
    intro t k
    refine XS.lstore X0.here hx rfl (hb hby at_48) rfl (l' := #[iv p0, jv p1, .second, jv p2, .second, jv p3, .second, jv p4, .second, iv 1, iv 0, jv x0, .second, jv x1, .second, jv x2, .second, jv xe, .second, .unset, .unset, .unset, .unset, .unset]) rfl ?_
    show Steps p.tables e below (s₁.setTop (mkF m 50 #[iv p0, jv p1, .second, jv p2, .second, jv p3, .second, jv p4, .second, iv 1, iv 0, jv x0, .second, jv x1, .second, jv x2, .second, jv xe, .second, .unset, .unset, .unset, .unset, .unset] [])) _
    refine XS.iload X0.here hx rfl (hb hby at_50) rfl ?_
    show Steps p.tables e below (s₁.setTop (mkF m 52 #[iv p0, jv p1, .second, jv p2, .second, jv p3, .second, jv p4, .second, iv 1, iv 0, jv x0, .second, jv x1, .second, jv x2, .second, jv xe, .second, .unset, .unset, .unset, .unset, .unset] [(.int 0)])) _
    exact k
  refine own_lift sg6 ?_
  show own_Go p.tables e below (s₁.setTop (mkF m 52 #[iv p0, jv p1, .second, jv p2, .second, jv p3, .second, jv p4, .second, iv 1, iv 0, jv x0, .second, jv x1, .second, jv x2, .second, jv xe, .second, .unset, .unset, .unset, .unset, .unset] [(.int 0)])) _
  obtain ⟨T7, h7, ka7, X7, e7, Ex7, Ax7, st7⟩ := newP X0 hx hZ (wd hw 2 rfl) e0 (g := (mkF m 52 #[iv p0, jv p1, .second, jv p2, .second, jv p3, .second, jv p4, .second, iv 1, iv 0, jv x0, .second, jv x1, .second, jv x2, .second, jv xe, .second, .unset, .unset, .unset, .unset, .unset] [(.int 0)])) rfl (hb hby at_52) rfl (by decide) (cap := 0) (by decide) (by decide) (by decide) (by decide)
  obtain ⟨ob7, g7⟩ : ∃ z, z = h0.size := ⟨_, rfl⟩
  rw [← g7] at Ax7 st7
  have ne8 : as_LAST_INDEX_FIRST ≠ ob7 := Nat.ne_of_lt (Nat.lt_of_lt_of_le E_LAST_INDEX_FIRST.lt (Nat.le_of_eq g7.symm))
  have ne9 : as_FIRST_INDEX_FIRST ≠ ob7 := Nat.ne_of_lt (Nat.lt_of_lt_of_le E_FIRST_INDEX_FIRST.lt (Nat.le_of_eq g7.symm))
  have Z7 : n0 ≤ h7.size := Nat.le_trans Z0 Ex7.1
  have ge7 : n0 ≤ ob7 := Nat.le_trans Z0 (Nat.le_of_eq g7.symm)
  have Vn7 : Arv Z h7 ob7 ka7 .long (0 : Int32) [] (.long 0) := (Arv.new Ax7 (by decide)).pad (pad_rep [] (.long 0) 0)
  refine own_lift st7 ?_
  show own_Go p.tables e below (T7.setTop (mkF m 54 #[iv p0, jv p1, .second, jv p2, .second, jv p3, .second, jv p4, .second, iv 1, iv 0, jv x0, .second, jv x1, .second, jv x2, .second, jv xe, .second, .unset, .unset, .unset, .unset, .unset] [(.ref ob7)])) _
  have sg10 : ∀ t, Steps p.tables e below (T7.setTop (mkF m 96 #[iv p0, jv p1, .second, jv p2, .second, jv p3, .second, jv p4, .second, iv 1, iv 0, jv x0, .second, jv x1, .second, jv x2, .second, jv xe, .second, rv ob7, .unset, .unset, .unset, .unset] [])) t → Steps p.tables e below (T7.setTop (mkF m 54 #[iv p0, jv p1, .second, jv p2, .second, jv p3, .second, jv p4, .second, iv 1, iv 0, jv x0, .second, jv x1, .second, jv x2, .second, jv xe, .second, .unset, .unset, .unset, .unset, .unset] [(.ref ob7)])) t := by
    intro t k
    refine XS.astore X7.here hx rfl (hb hby at_54) rfl rfl (l' := #[iv p0, jv p1, .second, jv p2, .second, jv p3, .second, jv p4, .second, iv 1, iv 0, jv x0, .second, jv x1, .second, jv x2, .second, jv xe, .second, rv ob7, .unset, .unset, .unset, .unset]) rfl ?_
    show Steps p.tables e below (T7.setTop (mkF m 56 #[iv p0, jv p1, .second, jv p2, .second, jv p3, .second, jv p4, .second, iv 1, iv 0, jv x0, .second, jv x1, .second, jv x2, .second, jv xe, .second, rv ob7, .unset, .unset, .unset, .unset] [])) _
    refine XS.iload X7.here hx rfl (hb hby at_56) rfl ?_
    refine XS.ifYes X7.here hx rfl (pc0 := 58) (pc' := 67) rfl (hb hby at_58) rfl ((if0 _ _).trans (flt (by decide : ¬ ((0 : Int32) < (0 : Int32)))).2.2.2) (by decide) (by decide) ?_
    show Steps p.tables e below (T7.setTop (mkF m 67 #[iv p0, jv p1, .second, jv p2, .second, jv p3, .second, jv p4, .second, iv 1, iv 0, jv x0, .second, jv x1, .second, jv x2, .second, jv xe, .second, rv ob7, .unset, .unset, .unset, .unset] [])) _
    refine XS.iload X7.here hx rfl (hb hby at_67) rfl ?_
    refine XS.iconst X7.here hx rfl (hb hby at_69) ?_
    show Steps p.tables e below (T7.setTop (mkF m 70 #[iv p0, jv p1, .second, jv p2, .second, jv p3, .second, jv p4, .second, iv 1, iv 0, jv x0, .second, jv x1, .second, jv x2, .second, jv xe, .second, rv ob7, .unset, .unset, .unset, .unset] [(.int 1), (.int 0)])) _
    refine XS.icmpYes X7.here hx rfl (pc0 := 70) (pc' := 79) rfl (hb hby at_70) rfl (flt (by decide : ¬ ((1 : Int32) < (0 : Int32)))).2.2.2 (by decide) (by decide) ?_
    refine XS.iload X7.here hx rfl (hb hby at_79) rfl ?_
    show Steps p.tables e below (T7.setTop (mkF m 81 #[iv p0, jv p1, .second, jv p2, .second, jv p3, .second, jv p4, .second, iv 1, iv 0, jv x0, .second, jv x1, .second, jv x2, .second, jv xe, .second, rv ob7, .unset, .unset, .unset, .unset] [(.int 0)])) _
    refine XS.iconst X7.here hx rfl (hb hby at_81) ?_
    refine XS.icmpYes X7.here hx rfl (pc0 := 82) (pc' := 91) rfl (hb hby at_82) rfl (flt (by decide : ¬ ((2 : Int32) < (0 : Int32)))).2.2.2 (by decide) (by decide) ?_
    show Steps p.tables e below (T7.setTop (mkF m 91 #[iv p0, jv p1, .second, jv p2, .second, jv p3, .second, jv p4, .second, iv 1, iv 0, jv x0, .second, jv x1, .second, jv x2, .second, jv xe, .second, rv ob7, .unset, .unset, .unset, .unset] [])) _
    refine XS.iload X7.here hx rfl (hb hby at_91) rfl ?_
    refine XS.ifNo X7.here hx rfl (hb hby at_93) rfl ((if0 _ _).trans (feq (by decide : ¬ ((1 : Int32) = (0 : Int32)))).1) ?_
    show Steps p.tables e below (T7.setTop (mkF m 96 #[iv p0, jv p1, .second, jv p2, .second, jv p3, .second, jv p4, .second, iv 1, iv 0, jv x0, .second, jv x1, .second, jv x2, .second, jv xe, .second, rv ob7, .unset, .unset, .unset, .unset] [])) _
    exact k
  refine own_lift sg10 ?_
  show own_Go p.tables e below (T7.setTop (mkF m 96 #[iv p0, jv p1, .second, jv p2, .second, jv p3, .second, jv p4, .second, iv 1, iv 0, jv x0, .second, jv x1, .second, jv x2, .second, jv xe, .second, rv ob7, .unset, .unset, .unset, .unset] [])) _
  have Fc11 : Sta Z h7 "com/example/halyard/halyard/east/ArrayStorage" "FIRST_INDEX_FIRST" "Lcom/example/halyard/halyard/east/ArrayStorage;" (.ref as_FIRST_INDEX_FIRST) := (S_FIRST_INDEX_FIRST.ext Ex7)
  obtain ⟨T12, X12, e12, st12⟩ := getS X7 hx hZ hown (host := "") (wd hw 11 rfl) Via.refl e7 Fc11 (g := (mkF m 96 #[iv p0, jv p1, .second, jv p2, .second, jv p3, .second, jv p4, .second, iv 1, iv 0, jv x0, .second, jv x1, .second, jv x2, .second, jv xe, .second, rv ob7, .unset, .unset, .unset, .unset] [])) rfl (hb hby at_96)
  refine own_lift st12 ?_
  show own_Go p.tables e below (T12.setTop (mkF m 99 #[iv p0, jv p1, .second, jv p2, .second, jv p3, .second, jv p4, .second, iv 1, iv 0, jv x0, .second, jv x1, .second, jv x2, .second, jv xe, .second, rv ob7, .unset, .unset, .unset, .unset] [(.ref as_FIRST_INDEX_FIRST)])) _
  have sg13 : ∀ t, Steps p.tables e below (T12.setTop (mkF m 113 #[iv p0, jv p1, .second, jv p2, .second, jv p3, .second, jv p4, .second, iv 1, iv 0, jv x0, .second, jv x1, .second, jv x2, .second, jv xe, .second, rv ob7, rv as_FIRST_INDEX_FIRST, .unset, .unset, .unset] [(.long xe), (.ref ob7), (.ref as_FIRST_INDEX_FIRST)])) t → Steps p.tables e below (T12.setTop (mkF m 99 #[iv p0, jv p1, .second, jv p2, .second, jv p3, .second, jv p4, .second, iv 1, iv 0, jv x0, .second, jv x1, .second, jv x2, .second, jv xe, .second, rv ob7, .unset, .unset, .unset, .unset] [(.ref as_FIRST_INDEX_FIRST)])) t := by
    intro t k
    refine XS.goto X12.here hx rfl (pc0 := 99) (pc' := 105) rfl (hb hby at_99) (by decide) (by decide) ?_
    show Steps p.tables e below (T12.setTop (mkF m 105 #[iv p0, jv p1, .second, jv p2, .second, jv p3, .second, jv p4, .second, iv 1, iv 0, jv x0, .second, jv x1, .second, jv x2, .second, jv xe, .second, rv ob7, .unset, .unset, .unset, .unset] [(.ref as_FIRST_INDEX_FIRST)])) _
    refine XS.astore X12.here hx rfl (hb hby at_105) rfl rfl (l' := #[iv p0, jv p1, .second, jv p2, .second, jv p3, .second, jv p4, .second, iv 1, iv 0, jv x0, .second, jv x1, .second, jv x2, .second, jv xe, .second, rv ob7, rv as_FIRST_INDEX_FIRST, .unset, .unset, .unset]) rfl ?_
    refine XS.aload X12.here hx rfl (hb hby at_107) rfl rfl ?_
    show Steps p.tables e below (T12.setTop (mkF m 109 #[iv p0, jv p1, .second, jv p2, .second, jv p3, .second, jv p4, .second, iv 1, iv 0, jv x0, .second, jv x1, .second, jv x2, .second, jv xe, .second, rv ob7, rv as_FIRST_INDEX_FIRST, .unset, .unset, .unset] [(.ref as_FIRST_INDEX_FIRST)])) _
    refine XS.aload X12.here hx rfl (hb hby at_109) rfl rfl ?_
    refine XS.lload X12.here hx rfl (hb hby at_111) rfl ?_
    show Steps p.tables e below (T12.setTop (mkF m 113 #[iv p0, jv p1, .second, jv p2, .second, jv p3, .second, jv p4, .second, iv 1, iv 0, jv x0, .second, jv x1, .second, jv x2, .second, jv xe, .second, rv ob7, rv as_FIRST_INDEX_FIRST, .unset, .unset, .unset] [(.long xe), (.ref ob7), (.ref as_FIRST_INDEX_FIRST)])) _
    exact k
  refine own_lift sg13 ?_
  show own_Go p.tables e below (T12.setTop (mkF m 113 #[iv p0, jv p1, .second, jv p2, .second, jv p3, .second, jv p4, .second, iv 1, iv 0, jv x0, .second, jv x1, .second, jv x2, .second, jv xe, .second, rv ob7, rv as_FIRST_INDEX_FIRST, .unset, .unset, .unset] [(.long xe), (.ref ob7), (.ref as_FIRST_INDEX_FIRST)])) _
  have Fc15 : Exa Z h7 as_FIRST_INDEX_FIRST "com/example/halyard/halyard/east/ArrayStorage" := (E_FIRST_INDEX_FIRST.ext Ex7)
  obtain ⟨cq14, kq14, q14a, q14b, q14c⟩ := isOf hZ e12 Fc15
  obtain ⟨_, _, ⟨T14, Lx14, kx14, nx14⟩, -, X14, ⟨Lc14, hQ14, lx14, yx14, zx14⟩, st14⟩ := X12.virtualBack hx (y := (⟨"com/example/halyard/halyard/east/ArrayStorage", "strides", "([JJ)[J"⟩ : MethodName)) (z := (⟨"com/example/halyard/halyard/east/ArrayStorage", "strides", "([JJ)[J"⟩ : MethodName)) hown (mvT hZ (wd hw 6 rfl)) (mvT hZ (wd hw 7 rfl)) (notFace_of_selects (args := #[]) (mvT hZ (wd hw 9 rfl))) (mvT hZ (wd hw 9 rfl)) (mvT hZ (wd hw 8 rfl)) (by decide) (backOf (W := 0) (rmStr0F l Z a0 hw [] as_FIRST_INDEX_FIRST ob7 xe ka7 h7 n0 Z7 Vn7 Fc11) hZ (wd hw 10 rfl) (wd hw 4 rfl) (by decide) (by decide)) q14a q14c (g := (mkF m 113 #[iv p0, jv p1, .second, jv p2, .second, jv p3, .second, jv p4, .second, iv 1, iv 0, jv x0, .second, jv x1, .second, jv x2, .second, jv xe, .second, rv ob7, rv as_FIRST_INDEX_FIRST, .unset, .unset, .unset] [(.long xe), (.ref ob7), (.ref as_FIRST_INDEX_FIRST)])) rfl (by rw [hml]; rfl) (Steps.refl _) (argsL := [(.ref ob7), (.long xe)]) (rest := []) (lenOf pd_0 rfl) rfl (by show 2 * 0 + _ ≤ _; exact Nat.le_of_eq rfl) (hb hby at_113) (fun _ _ => ⟨rfl, e12, (by decide : 1 + 1 ≤ _), (by decide : 0 + 0 ≤ _)⟩)
  dsimp only [Pt.U, Pt.locs, Pt.cells, Pt.slots] at X14 lx14 yx14 zx14 st14 hQ14
  subst lx14 yx14 zx14
  obtain ⟨xb_14, xkb_14, rfl, N14q, p14_0, p14_1, p14_2⟩ := hQ14
  have N14 := Fr.app N0 N14q
  have Fc16 : Exa Z h7 as_LAST_INDEX_FIRST "com/example/halyard/halyard/east/ArrayStorage" := (E_LAST_INDEX_FIRST.ext Ex7)
  have ne17 : as_LAST_INDEX_FIRST ≠ xb_14 := Nat.ne_of_lt (Nat.lt_of_lt_of_le Fc16.lt p14_1)
  have ne18 : as_FIRST_INDEX_FIRST ≠ xb_14 := Nat.ne_of_lt (Nat.lt_of_lt_of_le Fc15.lt p14_1)
  have ne19 : ob7 ≠ xb_14 := Nat.ne_of_lt (Nat.lt_of_lt_of_le Vn7.lt p14_1)
  have Z14 : n0 ≤ T14.heap.size := Nat.le_trans Z7 p14_0.1
  have ge14_1 : n0 ≤ xb_14 := Nat.le_trans Z7 p14_1
  refine own_lift (fun t k => st14.trans k) ?_
  show own_Go p.tables e below (T14.setTop (mkF m 116 #[iv p0, jv p1, .second, jv p2, .second, jv p3, .second, jv p4, .second, iv 1, iv 0, jv x0, .second, jv x1, .second, jv x2, .second, jv xe, .second, rv ob7, rv as_FIRST_INDEX_FIRST, .unset, .unset, .unset] [(.ref xb_14)])) _
  have sg20 : ∀ t, Steps p.tables e below (T14.setTop (mkF m 125 #[iv p0, jv p1, .second, jv p2, .second, jv p3, .second, jv p4, .second, iv 1, iv 0, jv x0, .second, jv x1, .second, jv x2, .second, jv xe, .second, rv ob7, rv as_FIRST_INDEX_FIRST, rv xb_14, .unset, .unset] [(.ref xb_14)])) t → Steps p.tables e below (T14.setTop (mkF m 116 #[iv p0, jv p1, .second, jv p2, .second, jv p3, .second, jv p4, .second, iv 1, iv 0, jv x0, .second, jv x1, .second, jv x2, .second, jv xe, .second, rv ob7, rv as_FIRST_INDEX_FIRST, .unset, .unset, .unset] [(.ref xb_14)])) t := by
    intro t k
    refine XS.astore X14.here hx rfl (hb hby at_116) rfl rfl (l' := #[iv p0, jv p1, .second, jv p2, .second, jv p3, .second, jv p4, .second, iv 1, iv 0, jv x0, .second, jv x1, .second, jv x2, .second, jv xe, .second, rv ob7, rv as_FIRST_INDEX_FIRST, rv xb_14, .unset, .unset]) rfl ?_
    show Steps p.tables e below (T14.setTop (mkF m 118 #[iv p0, jv p1, .second, jv p2, .second, jv p3, .second, jv p4, .second, iv 1, iv 0, jv x0, .second, jv x1, .second, jv x2, .second, jv xe, .second, rv ob7, rv as_FIRST_INDEX_FIRST, rv xb_14, .unset, .unset] [])) _
    refine XS.aload X14.here hx rfl (hb hby at_118) rfl rfl ?_
    refine XS.ifnullNo X14.here hx rfl (hb hby at_120) rfl ?_
    show Steps p.tables e below (T14.setTop (mkF m 123 #[iv p0, jv p1, .second, jv p2, .second, jv p3, .second, jv p4, .second, iv 1, iv 0, jv x0, .second, jv x1, .second, jv x2, .second, jv xe, .second, rv ob7, rv as_FIRST_INDEX_FIRST, rv xb_14, .unset, .unset] [])) _
    refine XS.aload X14.here hx rfl (hb hby at_123) rfl rfl ?_
    show Steps p.tables e below (T14.setTop (mkF m 125 #[iv p0, jv p1, .second, jv p2, .second, jv p3, .second, jv p4, .second, iv 1, iv 0, jv x0, .second, jv x1, .second, jv x2, .second, jv xe, .second, rv ob7, rv as_FIRST_INDEX_FIRST, rv xb_14, .unset, .unset] [(.ref xb_14)])) _
    exact k
  refine own_lift sg20 ?_
  show own_Go p.tables e below (T14.setTop (mkF m 125 #[iv p0, jv p1, .second, jv p2, .second, jv p3, .second, jv p4, .second, iv 1, iv 0, jv x0, .second, jv x1, .second, jv x2, .second, jv xe, .second, rv ob7, rv as_FIRST_INDEX_FIRST, rv xb_14, .unset, .unset] [(.ref xb_14)])) _
  obtain ⟨cl21, Ar21, -, Sx21, N21', -, -⟩ := id (p14_2)
  have st21 : ∀ t, Steps p.tables e below (T14.setTop (mkF m 126 #[iv p0, jv p1, .second, jv p2, .second, jv p3, .second, jv p4, .second, iv 1, iv 0, jv x0, .second, jv x1, .second, jv x2, .second, jv xe, .second, rv ob7, rv as_FIRST_INDEX_FIRST, rv xb_14, .unset, .unset] [(.int 0)])) t → Steps p.tables e below (T14.setTop (mkF m 125 #[iv p0, jv p1, .second, jv p2, .second, jv p3, .second, jv p4, .second, iv 1, iv 0, jv x0, .second, jv x1, .second, jv x2, .second, jv xe, .second, rv ob7, rv as_FIRST_INDEX_FIRST, rv xb_14, .unset, .unset] [(.ref xb_14)])) t := by
    intro t k
    refine X14.arraylength hx (by exact Ar21.1) (State.isArrayOf_alike hZ.alike Ar21.2.1) (g := (mkF m 125 #[iv p0, jv p1, .second, jv p2, .second, jv p3, .second, jv p4, .second, iv 1, iv 0, jv x0, .second, jv x1, .second, jv x2, .second, jv xe, .second, rv ob7, rv as_FIRST_INDEX_FIRST, rv xb_14, .unset, .unset] [(.ref xb_14)])) rfl rfl (hb hby at_125) _ ?_
    rw [len_of Sx21 N21']
    exact k
  refine own_lift st21 ?_
  show own_Go p.tables e below (T14.setTop (mkF m 126 #[iv p0, jv p1, .second, jv p2, .second, jv p3, .second, jv p4, .second, iv 1, iv 0, jv x0, .second, jv x1, .second, jv x2, .second, jv xe, .second, rv ob7, rv as_FIRST_INDEX_FIRST, rv xb_14, .unset, .unset] [(.int 0)])) _
  have sg22 : ∀ t, Steps p.tables e below (T14.setTop (mkF m 134 #[iv p0, jv p1, .second, jv p2, .second, jv p3, .second, jv p4, .second, iv 1, iv 0, jv x0, .second, jv x1, .second, jv x2, .second, jv xe, .second, rv ob7, rv as_FIRST_INDEX_FIRST, rv xb_14, .unset, .unset] [(.int 3)])) t → Steps p.tables e below (T14.setTop (mkF m 126 #[iv p0, jv p1, .second, jv p2, .second, jv p3, .second, jv p4, .second, iv 1, iv 0, jv x0, .second, jv x1, .second, jv x2, .second, jv xe, .second, rv ob7, rv as_FIRST_INDEX_FIRST, rv xb_14, .unset, .unset] [(.int 0)])) t := by
    intro t k
    refine XS.iload X14.here hx rfl (hb hby at_126) rfl ?_
    show Steps p.tables e below (T14.setTop (mkF m 128 #[iv p0, jv p1, .second, jv p2, .second, jv p3, .second, jv p4, .second, iv 1, iv 0, jv x0, .second, jv x1, .second, jv x2, .second, jv xe, .second, rv ob7, rv as_FIRST_INDEX_FIRST, rv xb_14, .unset, .unset] [(.int 0), (.int 0)])) _
    refine XS.icmpYes X14.here hx rfl (pc0 := 128) (pc' := 133) rfl (hb hby at_128) rfl (teq (by decide : (0 : Int32) = (0 : Int32))).1 (by decide) (by decide) ?_
    refine XS.iconst X14.here hx rfl (hb hby at_133) ?_
    show Steps p.tables e below (T14.setTop (mkF m 134 #[iv p0, jv p1, .second, jv p2, .second, jv p3, .second, jv p4, .second, iv 1, iv 0, jv x0, .second, jv x1, .second, jv x2, .second, jv xe, .second, rv ob7, rv as_FIRST_INDEX_FIRST, rv xb_14, .unset, .unset] [(.int 3)])) _
    exact k
  refine own_lift sg22 ?_
  show own_Go p.tables e below (T14.setTop (mkF m 134 #[iv p0, jv p1, .second, jv p2, .second, jv p3, .second, jv p4, .second, iv 1, iv 0, jv x0, .second, jv x1, .second, jv x2, .second, jv xe, .second, rv ob7, rv as_FIRST_INDEX_FIRST, rv xb_14, .unset, .unset] [(.int 3)])) _
  obtain ⟨T23, h23, ka23, X23, e23, Ex23, Ax23, st23⟩ := newP X14 hx hZ (wd hw 2 rfl) rfl (g := (mkF m 134 #[iv p0, jv p1, .second, jv p2, .second, jv p3, .second, jv p4, .second, iv 1, iv 0, jv x0, .second, jv x1, .second, jv x2, .second, jv xe, .second, rv ob7, rv as_FIRST_INDEX_FIRST, rv xb_14, .unset, .unset] [(.int 3)])) rfl (hb hby at_134) rfl (by decide) (cap := 3) (by decide) (by decide) (by decide) (by decide)
  obtain ⟨ob23, g23⟩ : ∃ z, z = T14.heap.size := ⟨_, rfl⟩
  rw [← g23] at Ax23 st23
  have Fc24 : Exa Z T14.heap as_LAST_INDEX_FIRST "com/example/halyard/halyard/east/ArrayStorage" := (Fc16.keep p14_0)
  have ne25 : as_LAST_INDEX_FIRST ≠ ob23 := Nat.ne_of_lt (Nat.lt_of_lt_of_le Fc24.lt (Nat.le_of_eq g23.symm))
  have Fc26 : Exa Z T14.heap as_FIRST_INDEX_FIRST "com/example/halyard/halyard/east/ArrayStorage" := (Fc15.keep p14_0)
  have ne27 : as_FIRST_INDEX_FIRST ≠ ob23 := Nat.ne_of_lt (Nat.lt_of_lt_of_le Fc26.lt (Nat.le_of_eq g23.symm))
  have Fc28 : Arv Z T14.heap ob7 ka7 .long (0 : Int32) [] (.long 0) := (Vn7.keep p14_0 nin0)
  have ne29 : ob7 ≠ ob23 := Nat.ne_of_lt (Nat.lt_of_lt_of_le Fc28.lt (Nat.le_of_eq g23.symm))
  have ne30 : xb_14 ≠ ob23 := Nat.ne_of_lt (Nat.lt_of_lt_of_le p14_2.lt (Nat.le_of_eq g23.symm))
  have Z23 : n0 ≤ h23.size := Nat.le_trans Z14 Ex23.1
  have ge23 : n0 ≤ ob23 := Nat.le_trans Z14 (Nat.le_of_eq g23.symm)
  have Vn23 : Arv Z h23 ob23 ka23 .long (3 : Int32) [(.long 0), (.long 0), (.long 0)] (.long 0) := (Arv.new Ax23 (by decide)).pad (pad_rep [] (.long 0) 3)
  refine own_lift st23 ?_
  show own_Go p.tables e below (T23.setTop (mkF m 136 #[iv p0, jv p1, .second, jv p2, .second, jv p3, .second, jv p4, .second, iv 1, iv 0, jv x0, .second, jv x1, .second, jv x2, .second, jv xe, .second, rv ob7, rv as_FIRST_INDEX_FIRST, rv xb_14, .unset, .unset] [(.ref ob23)])) _
  have sg31 : ∀ t, Steps p.tables e below (T23.setTop (mkF m 392 #[iv p0, jv p1, .second, jv p2, .second, jv p3, .second, jv p4, .second, iv 1, iv 0, jv x0, .second, jv x1, .second, jv x2, .second, jv xe, .second, rv ob7, rv as_FIRST_INDEX_FIRST, rv xb_14, rv ob23, iv 1] [(.int 1)])) t → Steps p.tables e below (T23.setTop (mkF m 136 #[iv p0, jv p1, .second, jv p2, .second, jv p3, .second, jv p4, .second, iv 1, iv 0, jv x0, .second, jv x1, .second, jv x2, .second, jv xe, .second, rv ob7, rv as_FIRST_INDEX_FIRST, rv xb_14, .unset, .unset] [(.ref ob23)])) t := by
    intro t k
    refine XS.astore X23.here hx rfl (hb hby at_136) rfl rfl (l' := #[iv p0, jv p1, .second, jv p2, .second, jv p3, .second, jv p4, .second, iv 1, iv 0, jv x0, .second, jv x1, .second, jv x2, .second, jv xe, .second, rv ob7, rv as_FIRST_INDEX_FIRST, rv xb_14, rv ob23, .unset]) rfl ?_
    show Steps p.tables e below (T23.setTop (mkF m 138 #[iv p0, jv p1, .second, jv p2, .second, jv p3, .second, jv p4, .second, iv 1, iv 0, jv x0, .second, jv x1, .second, jv x2, .second, jv xe, .second, rv ob7, rv as_FIRST_INDEX_FIRST, rv xb_14, rv ob23, .unset] [])) _
    refine XS.iload X23.here hx rfl (hb hby at_138) rfl ?_
    refine XS.iconst X23.here hx rfl (hb hby at_140) ?_
    show Steps p.tables e below (T23.setTop (mkF m 141 #[iv p0, jv p1, .second, jv p2, .second, jv p3, .second, jv p4, .second, iv 1, iv 0, jv x0, .second, jv x1, .second, jv x2, .second, jv xe, .second, rv ob7, rv as_FIRST_INDEX_FIRST, rv xb_14, rv ob23, .unset] [(.int 1), (.int 0)])) _
    refine XS.icmpYes X23.here hx rfl (pc0 := 141) (pc' := 153) rfl (hb hby at_141) rfl (feq (by decide : ¬ ((0 : Int32) = (1 : Int32)))).2 (by decide) (by decide) ?_
    refine XS.iload X23.here hx rfl (hb hby at_153) rfl ?_
    show Steps p.tables e below (T23.setTop (mkF m 155 #[iv p0, jv p1, .second, jv p2, .second, jv p3, .second, jv p4, .second, iv 1, iv 0, jv x0, .second, jv x1, .second, jv x2, .second, jv xe, .second, rv ob7, rv as_FIRST_INDEX_FIRST, rv xb_14, rv ob23, .unset] [(.int 0)])) _
    refine XS.iconst X23.here hx rfl (hb hby at_155) ?_
    refine XS.icmpYes X23.here hx rfl (pc0 := 156) (pc' := 200) rfl (hb hby at_156) rfl (feq (by decide : ¬ ((0 : Int32) = (2 : Int32)))).2 (by decide) (by decide) ?_
    show Steps p.tables e below (T23.setTop (mkF m 200 #[iv p0, jv p1, .second, jv p2, .second, jv p3, .second, jv p4, .second, iv 1, iv 0, jv x0, .second, jv x1, .second, jv x2, .second, jv xe, .second, rv ob7, rv as_FIRST_INDEX_FIRST, rv xb_14, rv ob23, .unset] [])) _
    refine XS.iload X23.here hx rfl (hb hby at_200) rfl ?_
    refine XS.iconst X23.here hx rfl (hb hby at_202) ?_
    show Steps p.tables e below (T23.setTop (mkF m 203 #[iv p0, jv p1, .second, jv p2, .second, jv p3, .second, jv p4, .second, iv 1, iv 0, jv x0, .second, jv x1, .second, jv x2, .second, jv xe, .second, rv ob7, rv as_FIRST_INDEX_FIRST, rv xb_14, rv ob23, .unset] [(.int 3), (.int 0)])) _
    refine XS.icmpYes X23.here hx rfl (pc0 := 203) (pc' := 268) rfl (hb hby at_203) rfl (feq (by decide : ¬ ((0 : Int32) = (3 : Int32)))).2 (by decide) (by decide) ?_
    refine XS.iconst X23.here hx rfl (hb hby at_268) ?_
    show Steps p.tables e below (T23.setTop (mkF m 269 #[iv p0, jv p1, .second, jv p2, .second, jv p3, .second, jv p4, .second, iv 1, iv 0, jv x0, .second, jv x1, .second, jv x2, .second, jv xe, .second, rv ob7, rv as_FIRST_INDEX_FIRST, rv xb_14, rv ob23, .unset] [(.int 1)])) _
    refine XS.istore X23.here hx rfl (hb hby at_269) rfl (l' := #[iv p0, jv p1, .second, jv p2, .second, jv p3, .second, jv p4, .second, iv 1, iv 0, jv x0, .second, jv x1, .second, jv x2, .second, jv xe, .second, rv ob7, rv as_FIRST_INDEX_FIRST, rv xb_14, rv ob23, iv 1]) rfl ?_
    refine XS.iload X23.here hx rfl (hb hby at_271) rfl ?_
    show Steps p.tables e below (T23.setTop (mkF m 273 #[iv p0, jv p1, .second, jv p2, .second, jv p3, .second, jv p4, .second, iv 1, iv 0, jv x0, .second, jv x1, .second, jv x2, .second, jv xe, .second, rv ob7, rv as_FIRST_INDEX_FIRST, rv xb_14, rv ob23, iv 1] [(.int 0)])) _
    refine XS.ifYes X23.here hx rfl (pc0 := 273) (pc' := 310) rfl (hb hby at_273) rfl ((if0 _ _).trans (flt (by decide : ¬ ((0 : Int32) < (0 : Int32)))).2.2.2) (by decide) (by decide) ?_
    refine XS.iload X23.here hx rfl (hb hby at_310) rfl ?_
    show Steps p.tables e below (T23.setTop (mkF m 312 #[iv p0, jv p1, .second, jv p2, .second, jv p3, .second, jv p4, .second, iv 1, iv 0, jv x0, .second, jv x1, .second, jv x2, .second, jv xe, .second, rv ob7, rv as_FIRST_INDEX_FIRST, rv xb_14, rv ob23, iv 1] [(.int 0)])) _
    refine XS.iconst X23.here hx rfl (hb hby at_312) ?_
    refine XS.icmpYes X23.here hx rfl (pc0 := 313) (pc' := 350) rfl (hb hby at_313) rfl (flt (by decide : ¬ ((1 : Int32) < (0 : Int32)))).2.2.2 (by decide) (by decide) ?_
    show Steps p.tables e below (T23.setTop (mkF m 350 #[iv p0, jv p1, .second, jv p2, .second, jv p3, .second, jv p4, .second, iv 1, iv 0, jv x0, .second, jv x1, .second, jv x2, .second, jv xe, .second, rv ob7, rv as_FIRST_INDEX_FIRST, rv xb_14, rv ob23, iv 1] [])) _
    refine XS.iload X23.here hx rfl (hb hby at_350) rfl ?_
    refine XS.iconst X23.here hx rfl (hb hby at_352) ?_
    show Steps p.tables e below (T23.setTop (mkF m 353 #[iv p0, jv p1, .second, jv p2, .second, jv p3, .second, jv p4, .second, iv 1, iv 0, jv x0, .second, jv x1, .second, jv x2, .second, jv xe, .second, rv ob7, rv as_FIRST_INDEX_FIRST, rv xb_14, rv ob23, iv 1] [(.int 2), (.int 0)])) _
    refine XS.icmpYes X23.here hx rfl (pc0 := 353) (pc' := 390) rfl (hb hby at_353) rfl (flt (by decide : ¬ ((2 : Int32) < (0 : Int32)))).2.2.2 (by decide) (by decide) ?_
    refine XS.iload X23.here hx rfl (hb hby at_390) rfl ?_
    show Steps p.tables e below (T23.setTop (mkF m 392 #[iv p0, jv p1, .second, jv p2, .second, jv p3, .second, jv p4, .second, iv 1, iv 0, jv x0, .second, jv x1, .second, jv x2, .second, jv xe, .second, rv ob7, rv as_FIRST_INDEX_FIRST, rv xb_14, rv ob23, iv 1] [(.int 1)])) _
    exact k
  refine own_lift sg31 ?_
  show own_Go p.tables e below (T23.setTop (mkF m 392 #[iv p0, jv p1, .second, jv p2, .second, jv p3, .second, jv p4, .second, iv 1, iv 0, jv x0, .second, jv x1, .second, jv x2, .second, jv xe, .second, rv ob7, rv as_FIRST_INDEX_FIRST, rv xb_14, rv ob23, iv 1] [(.int 1)])) _
  obtain ⟨fs, hr, hrun, hended, hW, hsame⟩ := X23.leave (v := some (.int 1)) (fun h => by rw [Bd.returns] at h; cases h)
  refine ⟨_, _, ?_, hrun, hended, _, _, rfl, ?_, ⟨_, rfl⟩, hW, hsame.mono (by decide) (by decide)⟩
  · exact retN X23 hx (t := .boolean) Bd.returns (by simp) (hb hby at_392) hr
  · show Q0 Z  h0 n0 _ T23.heap _
    rw [e23]
    exact ⟨rfl, N14⟩
theorem ef_rm0_1F (m : MethodId) (x0 : Int32) (x1 : Int64) (x2 : Int64) (x3 : Int64) (x4 : Int64) : entryFrame m #[(.int x0), (.long x1), (.long x2), (.long x3), (.long x4)] maxLocals = mkF m 0 #[.val (.int x0), .val (.long x1), .second, .val (.long x2), .second, .val (.long x3), .second, .val (.long x4), .second, .unset, .unset, .unset, .unset, .unset, .unset, .unset, .unset, .unset, .unset, .unset, .unset, .unset, .unset, .unset] [] := by first | (simp [entryFrame, mkF, argsToLocals, Value.category, maxLocals]; done) | rfl
set_option maxRecDepth 65536 in
set_option maxHeartbeats 40000000 in
theorem rm0_1F (l : Launch) (Z : State) (a0 : Array Value) (hw : ∀ d ∈ tables_1, d.before a0 Z = true) (ws : List Jvm.Cond) (p0 : Int32) (p1 : Int64) (p2 : Int64) (p3 : Int64) (p4 : Int64) (as_LAST_INDEX_FIRST : Addr) (as_FIRST_INDEX_FIRST : Addr) (x0 : Int64) (x1 : Int64) (x2 : Int64) (xe : Int64) (h0 : Heap) (n0 : Nat) (Z0 : n0 ≤ h0.size) (S_LAST_INDEX_FIRST : Sta Z h0 "com/example/halyard/halyard/east/ArrayStorage" "LAST_INDEX_FIRST" "Lcom/example/halyard/halyard/east/ArrayStorage;" (.ref as_LAST_INDEX_FIRST)) (E_LAST_INDEX_FIRST : Exa Z h0 as_LAST_INDEX_FIRST "com/example/halyard/halyard/east/ArrayStorage") (O_LAST_INDEX_FIRST : Fld Z h0 as_LAST_INDEX_FIRST "java/lang/Enum" "ordinal" "I" (.int 1)) (S_FIRST_INDEX_FIRST : Sta Z h0 "com/example/halyard/halyard/east/ArrayStorage" "FIRST_INDEX_FIRST" "Lcom/example/halyard/halyard/east/ArrayStorage;" (.ref as_FIRST_INDEX_FIRST)) (E_FIRST_INDEX_FIRST : Exa Z h0 as_FIRST_INDEX_FIRST "com/example/halyard/halyard/east/ArrayStorage") (O_FIRST_INDEX_FIRST : Fld Z h0 as_FIRST_INDEX_FIRST "java/lang/Enum" "ordinal" "I" (.int 0)) (hx0 : (p1 &&& (65535 : Int64)) = x0) (hx1 : (p2 &&& (65535 : Int64)) = x1) (hx2 : (p3 &&& (65535 : Int64)) = x2) (hxe : (p4 &&& (32767 : Int64)) = xe) (b1 : ¬ ((p0 &&& (1 : Int32)) = (0 : Int32))) (hn : (((p0.toUInt32 >>> ((1 : Int32) &&& 31).toUInt32).toInt32) &&& (3 : Int32)) = (1 : Int32)) (hne : ¬ (as_LAST_INDEX_FIRST = as_FIRST_INDEX_FIRST)) :
    MetFree l x (head1 (Jvm.Cond.code x code maxLocals ret :: ws) room_1) (fun a U => a = #[(.int p0), (.long p1), (.long p2), (.long p3), (.long p4)] ∧ Z.Warmed39 U.vm ∧ U.heap = h0) (fun _ _ _ _ _ => True) (fun _ U o U' => ∃ v L, o = .returned v ∧ Q0 Z  h0 n0 v U'.heap L ∧ FrameEnd U o U' L 16 128) := by
  refine MetFree.of_bodySF (plainFor_of_name pn_1) hisR ?_
  intro p e s m args below meth c s₁ Bd hml0 hP hK
  obtain ⟨rfl, hZ, hh⟩ := hP
  have hx := Bd.exec
  have hby := Bd.bytes
  have hml : c.maxLocals = 24 := hml0
  have hown : s.vm.findClass "com/example/halyard/halyard/east/ArrayStorageStridesPinLaw" = some m.cls := findClass_of_methodNamed Bd.named
  have hnm := (name_of_methodNamed Bd.named Bd.method).1
  have X0 : Stand p l e room_1 s m #[(.int p0), (.long p1), (.long p2), (.long p3), (.long p4)] below meth c s₁ [] 0 0 := Stand.of_body Bd
  have e0 : s₁.heap = h0 := by rw [← hh, Bd.state]; rfl
  have N0 := Fr.nil n0
  refine own_go (own_lift (fun t k => castTop (ef_rm0_1F m p0 p1 p2 p3 p4) k) ?_)
  show own_Go p.tables e below (s₁.setTop (mkF m 0 #[iv p0, jv p1, .second, jv p2, .second, jv p3, .second, jv p4, .second, .unset, .unset, .unset, .unset, .unset, .unset, .unset, .unset, .unset, .unset, .unset, .unset, .unset, .unset, .unset] [])) _
  have sg1 : ∀ t, Steps p.tables e below (s₁.setTop (mkF m 18 #[iv p0, jv p1, .second, jv p2, .second, jv p3, .second, jv p4, .second, iv 1, .unset, .unset, .unset, .unset, .unset, .unset, .unset, .unset, .unset, .unset, .unset, .unset, .unset, .unset] [(.int (((p0.toUInt32 >>> ((1 : Int32) &&& 31).toUInt32).toInt32) &&& (3 : Int32)))])) t → Steps p.tables e below (s₁.setTop (mkF m 0 #[iv p0, jv p1, .second, jv p2, .second, jv p3, .second, jv p4, .second, .unset, .unset, .unset, .unset, .unset, .unset, .unset, .unset, .unset, .unset, .unset, .unset, .unset, .unset, .unset] [])) t := by
    intro t k
    refine XS.iloadN X0.here hx rfl (hb hby at_0) rfl ?_
    show Steps p.tables e below (s₁.setTop (mkF m 1 #[iv p0, jv p1, .second, jv p2, .second, jv p3, .second, jv p4, .second, .unset, .unset, .unset, .unset, .unset, .unset, .unset, .unset, .unset, .unset, .unset, .unset, .unset, .unset, .unset] [(.int p0)])) _
    refine XS.iconst X0.here hx rfl (hb hby at_1) ?_
    refine XS.iand X0.here hx rfl (hb hby at_2) rfl ?_
    show Steps p.tables e below (s₁.setTop (mkF m 3 #[iv p0, jv p1, .second, jv p2, .second, jv p3, .second, jv p4, .second, .unset, .unset, .unset, .unset, .unset, .unset, .unset, .unset, .unset, .unset, .unset, .unset, .unset, .unset, .unset] [(.int (p0 &&& (1 : Int32)))])) _
    refine XS.ifNo X0.here hx rfl (hb hby at_3) rfl ((if0 _ _).trans (feq b1).1) ?_
    refine XS.iconst X0.here hx rfl (hb hby at_6) ?_
    show Steps p.tables e below (s₁.setTop (mkF m 7 #[iv p0, jv p1, .second, jv p2, .second, jv p3, .second, jv p4, .second, .unset, .unset, .unset, .unset, .unset, .unset, .unset, .unset, .unset, .unset, .unset, .unset, .unset, .unset, .unset] [(.int 1)])) _
    refine XS.goto X0.here hx rfl (pc0 := 7) (pc' := 11) rfl (hb hby at_7) (by decide) (by decide) ?_
    refine XS.istore X0.here hx rfl (hb hby at_11) rfl (l' := #[iv p0, jv p1, .second, jv p2, .second, jv p3, .second, jv p4, .second, iv 1, .unset, .unset, .unset, .unset, .unset, .unset, .unset, .unset, .unset, .unset, .unset, .unset, .unset, .unset]) rfl ?_
    show Steps p.tables e below (s₁.setTop (mkF m 13 #[iv p0, jv p1, .second, jv p2, .second, jv p3, .second, jv p4, .second, iv 1, .unset, .unset, .unset, .unset, .unset, .unset, .unset, .unset, .unset, .unset, .unset, .unset, .unset, .unset] [])) _
    refine XS.iloadN X0.here hx rfl (hb hby at_13) rfl ?_
    refine XS.iconst X0.here hx rfl (hb hby at_14) ?_
    show Steps p.tables e below (s₁.setTop (mkF m 15 #[iv p0, jv p1, .second, jv p2, .second, jv p3, .second, jv p4, .second, iv 1, .unset, .unset, .unset, .unset, .unset, .unset, .unset, .unset, .unset, .unset, .unset, .unset, .unset, .unset] [(.int 1), (.int p0)])) _
    refine XS.iushr X0.here hx rfl (hb hby at_15) rfl ?_
    refine XS.iconst X0.here hx rfl (hb hby at_16) ?_
    show Steps p.tables e below (s₁.setTop (mkF m 17 #[iv p0, jv p1, .second, jv p2, .second, jv p3, .second, jv p4, .second, iv 1, .unset, .unset, .unset, .unset, .unset, .unset, .unset, .unset, .unset, .unset, .unset, .unset, .unset, .unset] [(.int 3), (.int ((p0.toUInt32 >>> ((1 : Int32) &&& 31).toUInt32).toInt32))])) _
    refine XS.iand X0.here hx rfl (hb hby at_17) rfl ?_
    show Steps p.tables e below (s₁.setTop (mkF m 18 #[iv p0, jv p1, .second, jv p2, .second, jv p3, .second, jv p4, .second, iv 1, .unset, .unset, .unset, .unset, .unset, .unset, .unset, .unset, .unset, .unset, .unset, .unset, .unset, .unset] [(.int (((p0.toUInt32 >>> ((1 : Int32) &&& 31).toUInt32).toInt32) &&& (3 : Int32)))])) _
    exact k
  refine own_lift sg1 ?_
  show own_Go p.tables e below (s₁.setTop (mkF m 18 #[iv p0, jv p1, .second, jv p2, .second, jv p3, .second, jv p4, .second, iv 1, .unset, .unset, .unset, .unset, .unset, .unset, .unset, .unset, .unset, .unset, .unset, .unset, .unset, .unset] [(.int (((p0.toUInt32 >>> ((1 : Int32) &&& 31).toUInt32).toInt32) &&& (3 : Int32)))])) _
  rw [hn]
  show own_Go p.tables e below (s₁.setTop (mkF m 18 #[iv p0, jv p1, .second, jv p2, .second, jv p3, .second, jv p4, .second, iv 1, .unset, .unset, .unset, .unset, .unset, .unset, .unset, .unset, .unset, .unset, .unset, .unset, .unset, .unset] [(.int 1)])) _
  have sg2 : ∀ t, Steps p.tables e below (s₁.setTop (mkF m 25 #[iv p0, jv p1, .second, jv p2, .second, jv p3, .second, jv p4, .second, iv 1, iv 1, .unset, .unset, .unset, .unset, .unset, .unset, .unset, .unset, .unset, .unset, .unset, .unset, .unset] [(.long (p1 &&& (65535 : Int64)))])) t → Steps p.tables e below (s₁.setTop (mkF m 18 #[iv p0, jv p1, .second, jv p2, .second, jv p3, .second, jv p4, .second, iv 1, .unset, .unset, .unset, .unset, .unset, .unset, .unset, .unset, .unset, .unset, .unset, .unset, .unset, .unset] [(.int 1)])) t := by
    intro t k
    refine XS.istore X0.here hx rfl (hb hby at_18) rfl (l' := #[iv p0, jv p1, .second, jv p2, .second, jv p3, .second, jv p4, .second, iv 1, iv 1, .unset, .unset, .unset, .unset, .unset, .unset, .unset, .unset, .unset, .unset, .unset, .unset, .unset]) rfl ?_
    show Steps p.tables e below (s₁.setTop (mkF m 20 #[iv p0, jv p1, .second, jv p2, .second, jv p3, .second, jv p4, .second, iv 1, iv 1, .unset, .unset, .unset, .unset, .unset, .unset, .unset, .unset, .unset, .unset, .unset, .unset, .unset] [])) _
    refine XS.lloadN X0.here hx rfl (hb hby at_20) rfl ?_
    refine X0.ldc2Long hx hown (mvT hZ (wd hw 0 rfl)) (g := (mkF m 21 #[iv p0, jv p1, .second, jv p2, .second, jv p3, .second, jv p4, .second, iv 1, iv 1, .unset, .unset, .unset, .unset, .unset, .unset, .unset, .unset, .unset, .unset, .unset, .unset, .unset] [(.long p1)])) rfl (hb hby at_21) _ ?_
    show Steps p.tables e below (s₁.setTop (mkF m 24 #[iv p0, jv p1, .second, jv p2, .second, jv p3, .second, jv p4, .second, iv 1, iv 1, .unset, .unset, .unset, .unset, .unset, .unset, .unset, .unset, .unset, .unset, .unset, .unset, .unset] [(.long 65535), (.long p1)])) _
    refine XS.land X0.here hx rfl (hb hby at_24) rfl ?_
    show Steps p.tables e below (s₁.setTop (mkF m 25 #[iv p0, jv p1, .second, jv p2, .second, jv p3, .second, jv p4, .second, iv 1, iv 1, .unset, .unset, .unset, .unset, .unset, .unset, .unset, .unset, .unset, .unset, .unset, .unset, .unset] [(.long (p1 &&& (65535 : Int64)))])) _
    exact k
  refine own_lift sg2 ?_
  show own_Go p.tables e below (s₁.setTop (mkF m 25 #[iv p0, jv p1, .second, jv p2, .second, jv p3, .second, jv p4, .second, iv 1, iv 1, .unset, .unset, .unset, .unset, .unset, .unset, .unset, .unset, .unset, .unset, .unset, .unset, .unset] [(.long (p1 &&& (65535 : Int64)))])) _
  rw [hx0]
  show own_Go p.tables e below (s₁.setTop (mkF m 25 #[iv p0, jv p1, .second, jv p2, .second, jv p3, .second, jv p4, .second, iv 1, iv 1, .unset, .unset, .unset, .unset, .unset, .unset, .unset, .unset, .unset, .unset, .unset, .unset, .unset] [(.long x0)])) _
  have sg3 : ∀ t, Steps p.tables e below (s₁.setTop (mkF m 32 #[iv p0, jv p1, .second, jv p2, .second, jv p3, .second, jv p4, .second, iv 1, iv 1, jv x0, .second, .unset, .unset, .unset, .unset, .unset, .unset, .unset, .unset, .unset, .unset, .unset] [(.long (p2 &&& (65535 : Int64)))])) t → Steps p.tables e below (s₁.setTop (mkF m 25 #[iv p0, jv p1, .second, jv p2, .second, jv p3, .second, jv p4, .second, iv 1, iv 1, .unset, .unset, .unset, .unset, .unset, .unset, .unset, .unset, .unset, .unset, .unset, .unset, .unset] [(.long x0)])) t := by
    intro t k
    refine XS.lstore X0.here hx rfl (hb hby at_25) rfl (l' := #[iv p0, jv p1, .second, jv p2, .second, jv p3, .second, jv p4, .second, iv 1, iv 1, jv x0, .second, .unset, .unset, .unset, .unset, .unset, .unset, .unset, .unset, .unset, .unset, .unset]) rfl ?_
    show Steps p.tables e below (s₁.setTop (mkF m 27 #[iv p0, jv p1, .second, jv p2, .second, jv p3, .second, jv p4, .second, iv 1, iv 1, jv x0, .second, .unset, .unset, .unset, .unset, .unset, .unset, .unset, .unset, .unset, .unset, .unset] [])) _
    refine XS.lloadN X0.here hx rfl (hb hby at_27) rfl ?_
    refine X0.ldc2Long hx hown (mvT hZ (wd hw 0 rfl)) (g := (mkF m 28 #[iv p0, jv p1, .second, jv p2, .second, jv p3, .second, jv p4, .second, iv 1, iv 1, jv x0, .second, .unset, .unset, .unset, .unset, .unset, .unset, .unset, .unset, .unset, .unset, .unset] [(.long p2)])) rfl (hb hby at_28) _ ?_
    show Steps p.tables e below (s₁.setTop (mkF m 31 #[iv p0, jv p1, .second, jv p2, .second, jv p3, .second, jv p4, .second, iv 1, iv 1, jv x0, .second, .unset, .unset, .unset, .unset, .unset, .unset, .unset, .unset, .unset, .unset, .unset] [(.long 65535), (.long p2)])) _
    refine XS.land X0.here hx rfl (hb hby at_31) rfl ?_
    show Steps p.tables e below (s₁.setTop (mkF m 32 #[iv p0, jv p1, .second, jv p2, .second, jv p3, .second, jv p4, .second, iv 1, iv 1, jv x0, .second, .unset, .unset, .unset, .unset, .unset, .unset, .unset, .unset, .unset, .unset, .unset] [(.long (p2 &&& (65535 : Int64)))])) _
    exact k
  refine own_lift sg3 ?_
  show own_Go p.tables e below (s₁.setTop (mkF m 32 #[iv p0, jv p1, .second, jv p2, .second, jv p3, .second, jv p4, .second, iv 1, iv 1, jv x0, .second, .unset, .unset, .unset, .unset, .unset, .unset, .unset, .unset, .unset, .unset, .unset] [(.long (p2 &&& (65535 : Int64)))])) _
  rw [hx1]
  show own_Go p.tables e below (s₁.setTop (mkF m 32 #[iv p0, jv p1, .second, jv p2, .second, jv p3, .second, jv p4, .second, iv 1, iv 1, jv x0, .second, .unset, .unset, .unset, .unset, .unset, .unset, .unset, .unset, .unset, .unset, .unset] [(.long x1)])) _
  have sg4 : ∀ t, Steps p.tables e below (s₁.setTop (mkF m 40 #[iv p0, jv p1, .second, jv p2, .second, jv p3, .second, jv p4, .second, iv 1, iv 1, jv x0, .second, jv x1, .second, .unset, .unset, .unset, .unset, .unset, .unset, .unset, .unset, .unset] [(.long (p3 &&& (65535 : Int64)))])) t → Steps p.tables e below (s₁.setTop (mkF m 32 #[iv p0, jv p1, .second, jv p2, .second, jv p3, .second, jv p4, .second, iv 1, iv 1, jv x0, .second, .unset, .unset, .unset, .unset, .unset, .unset, .unset, .unset, .unset, .unset, .unset] [(.long x1)])) t := by
    intro t k
    refine XS.lstore X0.here hx rfl (hb hby at_32) rfl (l' := #[iv p0, jv p1, .second, jv p2, .second, jv p3, .second, jv p4, .second, iv 1, iv 1, jv x0, .second, jv x1, .second, .unset, .unset, .unset, .unset, .unset, .unset, .unset, .unset, .unset]) rfl ?_
    show Steps p.tables e below (s₁.setTop (mkF m 34 #[iv p0, jv p1, .second, jv p2, .second, jv p3, .second, jv p4, .second, iv 1, iv 1, jv x0, .second, jv x1, .second, .unset, .unset, .unset, .unset, .unset, .unset, .unset, .unset, .unset] [])) _
    refine XS.lload X0.here hx rfl (hb hby at_34) rfl ?_
    refine X0.ldc2Long hx hown (mvT hZ (wd hw 0 rfl)) (g := (mkF m 36 #[iv p0, jv p1, .second, jv p2, .second, jv p3, .second, jv p4, .second, iv 1, iv 1, jv x0, .second, jv x1, .second, .unset, .unset, .unset, .unset, .unset, .unset, .unset, .unset, .unset] [(.long p3)])) rfl (hb hby at_36) _ ?_
    show Steps p.tables e below (s₁.setTop (mkF m 39 #[iv p0, jv p1, .second, jv p2, .second, jv p3, .second, jv p4, .second, iv 1, iv 1, jv x0, .second, jv x1, .second, .unset, .unset, .unset, .unset, .unset, .unset, .unset, .unset, .unset] [(.long 65535), (.long p3)])) _
    refine XS.land X0.here hx rfl (hb hby at_39) rfl ?_
    show Steps p.tables e below (s₁.setTop (mkF m 40 #[iv p0, jv p1, .second, jv p2, .second, jv p3, .second, jv p4, .second, iv 1, iv 1, jv x0, .second, jv x1, .second, .unset, .unset, .unset, .unset, .unset, .unset, .unset, .unset, .unset] [(.long (p3 &&& (65535 : Int64)))])) _
    exact k
  refine own_lift sg4 ?_
  show own_Go p.tables e below (s₁.setTop (mkF m 40 #[iv p0, jv p1, .second, jv p2, .second, jv p3, .second, jv p4, .second, iv 1, iv 1, jv x0, .second, jv x1, .second, .unset, .unset, .unset, .unset, .unset, .unset, .unset, .unset, .unset] [(.long (p3 &&& (65535 : Int64)))])) _
  rw [hx2]
  show own_Go p.tables e below (s₁.setTop (mkF m 40 #[iv p0, jv p1, .second, jv p2, .second, jv p3, .second, jv p4, .second, iv 1, iv 1, jv x0, .second, jv x1, .second, .unset, .unset, .unset, .unset, .unset, .unset, .unset, .unset, .unset] [(.long x2)])) _
  have sg5 : ∀ t, Steps p.tables e below (s₁.setTop (mkF m 48 #[iv p0, jv p1, .second, jv p2, .second, jv p3, .second, jv p4, .second, iv 1, iv 1, jv x0, .second, jv x1, .second, jv x2, .second, .unset, .unset, .unset, .unset, .unset, .unset, .unset] [(.long (p4 &&& (32767 : Int64)))])) t → Steps p.tables e below (s₁.setTop (mkF m 40 #[iv p0, jv p1, .second, jv p2, .second, jv p3, .second, jv p4, .second, iv 1, iv 1, jv x0, .second, jv x1, .second, .unset, .unset, .unset, .unset, .unset, .unset, .unset, .unset, .unset] [(.long x2)])) t := by
    intro t k
    refine XS.lstore X0.here hx rfl (hb hby at_40) rfl (l' := #[iv p0, jv p1, .second, jv p2, .second, jv p3, .second, jv p4, .second, iv 1, iv 1, jv x0, .second, jv x1, .second, jv x2, .second, .unset, .unset, .unset, .unset, .unset, .unset, .unset]) rfl ?_
    show Steps p.tables e below (s₁.setTop (mkF m 42 #[iv p0, jv p1, .second, jv p2, .second, jv p3, .second, jv p4, .second, iv 1, iv 1, jv x0, .second, jv x1, .second, jv x2, .second, .unset, .unset, .unset, .unset, .unset, .unset, .unset] [])) _
    refine XS.lload X0.here hx rfl (hb hby at_42) rfl ?_
    refine X0.ldc2Long hx hown (mvT hZ (wd hw 1 rfl)) (g := (mkF m 44 #[iv p0, jv p1, .second, jv p2, .second, jv p3, .second, jv p4, .second, iv 1, iv 1, jv x0, .second, jv x1, .second, jv x2, .second, .unset, .unset, .unset, .unset, .unset, .unset, .unset] [(.long p4)])) rfl (hb hby at_44) _ ?_
    show Steps p.tables e below (s₁.setTop (mkF m 47 #[iv p0, jv p1, .second, jv p2, .second, jv p3, .second, jv p4, .second, iv 1, iv 1, jv x0, .second, jv x1, .second, jv x2, .second, .unset, .unset, .unset, .unset, .unset, .unset, .unset] [(.long 32767), (.long p4)])) _
    refine XS.land X0.here hx rfl (hb hby at_47) rfl ?_
    show Steps p.tables e below (s₁.setTop (mkF m 48 #[iv p0, jv p1, .second, jv p2, .second, jv p3, .second, jv p4, .second, iv 1, iv 1, jv x0, .second, jv x1, .second, jv x2, .second, .unset, .unset, .unset, .unset, .unset, .unset, .unset] [(.long (p4 &&& (32767 : Int64)))])) _
    exact k
  refine own_lift sg5 ?_
  show own_Go p.tables e below (s₁.setTop (mkF m 48 #[iv p0, jv p1, .second, jv p2, .second, jv p3, .second, jv p4, .second, iv 1, iv 1, jv x0, .second, jv x1, .second, jv x2, .second, .unset, .unset, .unset, .unset, .unset, .unset, .unset] [(.long (p4 &&& (32767 : Int64)))])) _
  rw [hxe]
  show own_Go p.tables e below (s₁.setTop (mkF m 48 #[iv p0, jv p1, .second, jv p2, .second, jv p3, .second, jv p4, .second, iv 1, iv 1, jv x0, .second, jv x1, .second, jv x2, .second, .unset, .unset, .unset, .unset, .unset, .unset, .unset] [(.long xe)])) _
  have sg6 : ∀ t, Steps p.tables e below (s₁.setTop (mkF m 52 #[iv p0, jv p1, .second, jv p2, .second, jv p3, .second, jv p4, .second, iv 1, iv 1, jv x0, .second, jv x1, .second, jv x2, .second, jv xe, .second, .unset, .unset, .unset, .unset, .unset] [(.int 1)])) t → Steps p.tables e below (s₁.setTop (mkF m 48 #[iv p0, jv p1, .second, jv p2, .second, jv p3, .second, jv p4, .second, iv 1, iv 1, jv x0, .second, jv x1, .second, jv x2, .second, .unset, .unset, .unset, .unset, .unset, .unset, .unset] [(.long xe)])) t := by
    intro t k
    refine XS.lstore X0.here hx rfl (hb hby at_48) rfl (l' := #[iv p0, jv p1, .second, jv p2, .second, jv p3, .second, jv p4, .second, iv 1, iv 1, jv x0, .second, jv x1, .second, jv x2, .second, jv xe, .second, .unset, .unset, .unset, .unset, .unset]) rfl ?_
    show Steps p.tables e below (s₁.setTop (mkF m 50 #[iv p0, jv p1, .second, jv p2, .second, jv p3, .second, jv p4, .second, iv 1, iv 1, jv x0, .second, jv x1, .second, jv x2, .second, jv xe, .second, .unset, .unset, .unset, .unset, .unset] [])) _
    refine XS.iload X0.here hx rfl (hb hby at_50) rfl ?_
    show Steps p.tables e below (s₁.setTop (mkF m 52 #[iv p0, jv p1, .second, jv p2, .second, jv p3, .second, jv p4, .second, iv 1, iv 1, jv x0, .second, jv x1, .second, jv x2, .second, jv xe, .second, .unset, .unset, .unset, .unset, .unset] [(.int 1)])) _
    exact k
  refine own_lift sg6 ?_
  show own_Go p.tables e below (s₁.setTop (mkF m 52 #[iv p0, jv p1, .second, jv p2, .second, jv p3, .second, jv p4, .second, iv 1, iv 1, jv x0, .second, jv x1, .second, jv x2, .second, jv xe, .second, .unset, .unset, .unset, .unset, .unset] [(.int 1)])) _
  obtain ⟨T7, h7, ka7, X7, e7, Ex7, Ax7, st7⟩ := newP X0 hx hZ (wd hw 2 rfl) e0 (g := (mkF m 52 #[iv p0, jv p1, .second, jv p2, .second, jv p3, .second, jv p4, .second, iv 1, iv 1, jv x0, .second, jv x1, .second, jv x2, .second, jv xe, .second, .unset, .unset, .unset, .unset, .unset] [(.int 1)])) rfl (hb hby at_52) rfl (by decide) (cap := 1) (by decide) (by decide) (by decide) (by decide)
  obtain ⟨ob7, g7⟩ : ∃ z, z = h0.size := ⟨_, rfl⟩
  rw [← g7] at Ax7 st7
  have ne8 : as_LAST_INDEX_FIRST ≠ ob7 := Nat.ne_of_lt (Nat.lt_of_lt_of_le E_LAST_INDEX_FIRST.lt (Nat.le_of_eq g7.symm))
  have ne9 : as_FIRST_INDEX_FIRST ≠ ob7 := Nat.ne_of_lt (Nat.lt_of_lt_of_le E_FIRST_INDEX_FIRST.lt (Nat.le_of_eq g7.symm))
  have Z7 : n0 ≤ h7.size := Nat.le_trans Z0 Ex7.1
  have ge7 : n0 ≤ ob7 := Nat.le_trans Z0 (Nat.le_of_eq g7.symm)
  have Vn7 : Arv Z h7 ob7 ka7 .long (1 : Int32) [(.long 0)] (.long 0) := (Arv.new Ax7 (by decide)).pad (pad_rep [] (.long 0) 1)
  refine own_lift st7 ?_
  show own_Go p.tables e below (T7.setTop (mkF m 54 #[iv p0, jv p1, .second, jv p2, .second, jv p3, .second, jv p4, .second, iv 1, iv 1, jv x0, .second, jv x1, .second, jv x2, .second, jv xe, .second, .unset, .unset, .unset, .unset, .unset] [(.ref ob7)])) _
  have sg10 : ∀ t, Steps p.tables e below (T7.setTop (mkF m 66 #[iv p0, jv p1, .second, jv p2, .second, jv p3, .second, jv p4, .second, iv 1, iv 1, jv x0, .second, jv x1, .second, jv x2, .second, jv xe, .second, rv ob7, .unset, .unset, .unset, .unset] [(.long x0), (.int 0), (.ref ob7)])) t → Steps p.tables e below (T7.setTop (mkF m 54 #[iv p0, jv p1, .second, jv p2, .second, jv p3, .second, jv p4, .second, iv 1, iv 1, jv x0, .second, jv x1, .second, jv x2, .second, jv xe, .second, .unset, .unset, .unset, .unset, .unset] [(.ref ob7)])) t := by
    intro t k
    refine XS.astore X7.here hx rfl (hb hby at_54) rfl rfl (l' := #[iv p0, jv p1, .second, jv p2, .second, jv p3, .second, jv p4, .second, iv 1, iv 1, jv x0, .second, jv x1, .second, jv x2, .second, jv xe, .second, rv ob7, .unset, .unset, .unset, .unset]) rfl ?_
    show Steps p.tables e below (T7.setTop (mkF m 56 #[iv p0, jv p1, .second, jv p2, .second, jv p3, .second, jv p4, .second, iv 1, iv 1, jv x0, .second, jv x1, .second, jv x2, .second, jv xe, .second, rv ob7, .unset, .unset, .unset, .unset] [])) _
    refine XS.iload X7.here hx rfl (hb hby at_56) rfl ?_
    refine XS.ifNo X7.here hx rfl (hb hby at_58) rfl ((if0 _ _).trans (tlt (by decide : (0 : Int32) < (1 : Int32))).2.2.2) ?_
    show Steps p.tables e below (T7.setTop (mkF m 61 #[iv p0, jv p1, .second, jv p2, .second, jv p3, .second, jv p4, .second, iv 1, iv 1, jv x0, .second, jv x1, .second, jv x2, .second, jv xe, .second, rv ob7, .unset, .unset, .unset, .unset] [])) _
    refine XS.aload X7.here hx rfl (hb hby at_61) rfl rfl ?_
    refine XS.iconst X7.here hx rfl (hb hby at_63) ?_
    show Steps p.tables e below (T7.setTop (mkF m 64 #[iv p0, jv p1, .second, jv p2, .second, jv p3, .second, jv p4, .second, iv 1, iv 1, jv x0, .second, jv x1, .second, jv x2, .second, jv xe, .second, rv ob7, .unset, .unset, .unset, .unset] [(.int 0), (.ref ob7)])) _
    refine XS.lload X7.here hx rfl (hb hby at_64) rfl ?_
    show Steps p.tables e below (T7.setTop (mkF m 66 #[iv p0, jv p1, .second, jv p2, .second, jv p3, .second, jv p4, .second, iv 1, iv 1, jv x0, .second, jv x1, .second, jv x2, .second, jv xe, .second, rv ob7, .unset, .unset, .unset, .unset] [(.long x0), (.int 0), (.ref ob7)])) _
    exact k
  refine own_lift sg10 ?_
  show own_Go p.tables e below (T7.setTop (mkF m 66 #[iv p0, jv p1, .second, jv p2, .second, jv p3, .second, jv p4, .second, iv 1, iv 1, jv x0, .second, jv x1, .second, jv x2, .second, jv xe, .second, rv ob7, .unset, .unset, .unset, .unset] [(.long x0), (.int 0), (.ref ob7)])) _
  obtain ⟨cl11, Ar11, qx11, Sx11, N11', H11', G11'⟩ := id (Vn7)
  have hin11 : ¬ ((0 : Int32) < 0 ∨ cl11.slots.size ≤ ((0 : Int32)).toNatClampNeg) := inb_of Sx11 ⟨(by decide : ¬ ((0 : Int32) < (0 : Int32))), (by decide : (0 : Int32) < (1 : Int32))⟩
  obtain ⟨T12, h12, X12, e12, W12, st12⟩ := stJ X7 hx hZ e7 Ar11 (j := (0 : Int32)) hin11 (g := (mkF m 66 #[iv p0, jv p1, .second, jv p2, .second, jv p3, .second, jv p4, .second, iv 1, iv 1, jv x0, .second, jv x1, .second, jv x2, .second, jv xe, .second, rv ob7, .unset, .unset, .unset, .unset] [(.long x0), (.int 0), (.ref ob7)])) rfl rfl (hb hby at_66)
  have N12 := Fr.snoc X12 N0 ge7
  have Z12 : n0 ≤ h12.size := Nat.le_trans Z7 (Nat.le_of_eq W12.size.symm)
  have Vn12 : Arv Z h12 ob7 ka7 .long (1 : Int32) [(.long x0)] (.long 0) := Arv.set Ar11 qx11 Sx11 N11' H11' G11' rfl W12 0 rfl (Nat.le_of_ble_eq_true rfl)
  refine own_lift st12 ?_
  show own_Go p.tables e below (T12.setTop (mkF m 67 #[iv p0, jv p1, .second, jv p2, .second, jv p3, .second, jv p4, .second, iv 1, iv 1, jv x0, .second, jv x1, .second, jv x2, .second, jv xe, .second, rv ob7, .unset, .unset, .unset, .unset] [])) _
  have sg13 : ∀ t, Steps p.tables e below (T12.setTop (mkF m 96 #[iv p0, jv p1, .second, jv p2, .second, jv p3, .second, jv p4, .second, iv 1, iv 1, jv x0, .second, jv x1, .second, jv x2, .second, jv xe, .second, rv ob7, .unset, .unset, .unset, .unset] [])) t → Steps p.tables e below (T12.setTop (mkF m 67 #[iv p0, jv p1, .second, jv p2, .second, jv p3, .second, jv p4, .second, iv 1, iv 1, jv x0, .second, jv x1, .second, jv x2, .second, jv xe, .second, rv ob7, .unset, .unset, .unset, .unset] [])) t := by
    intro t k
    refine XS.iload X12.here hx rfl (hb hby at_67) rfl ?_
    show Steps p.tables e below (T12.setTop (mkF m 69 #[iv p0, jv p1, .second, jv p2, .second, jv p3, .second, jv p4, .second, iv 1, iv 1, jv x0, .second, jv x1, .second, jv x2, .second, jv xe, .second, rv ob7, .unset, .unset, .unset, .unset] [(.int 1)])) _
    refine XS.iconst X12.here hx rfl (hb hby at_69) ?_
    refine XS.icmpYes X12.here hx rfl (pc0 := 70) (pc' := 79) rfl (hb hby at_70) rfl (flt (by decide : ¬ ((1 : Int32) < (1 : Int32)))).2.2.2 (by decide) (by decide) ?_
    show Steps p.tables e below (T12.setTop (mkF m 79 #[iv p0, jv p1, .second, jv p2, .second, jv p3, .second, jv p4, .second, iv 1, iv 1, jv x0, .second, jv x1, .second, jv x2, .second, jv xe, .second, rv ob7, .unset, .unset, .unset, .unset] [])) _
    refine XS.iload X12.here hx rfl (hb hby at_79) rfl ?_
    refine XS.iconst X12.here hx rfl (hb hby at_81) ?_
    show Steps p.tables e below (T12.setTop (mkF m 82 #[iv p0, jv p1, .second, jv p2, .second, jv p3, .second, jv p4, .second, iv 1, iv 1, jv x0, .second, jv x1, .second, jv x2, .second, jv xe, .second, rv ob7, .unset, .unset, .unset, .unset] [(.int 2), (.int 1)])) _
    refine XS.icmpYes X12.here hx rfl (pc0 := 82) (pc' := 91) rfl (hb hby at_82) rfl (flt (by decide : ¬ ((2 : Int32) < (1 : Int32)))).2.2.2 (by decide) (by decide) ?_
    refine XS.iload X12.here hx rfl (hb hby at_91) rfl ?_
    show Steps p.tables e below (T12.setTop (mkF m 93 #[iv p0, jv p1, .second, jv p2, .second, jv p3, .second, jv p4, .second, iv 1, iv 1, jv x0, .second, jv x1, .second, jv x2, .second, jv xe, .second, rv ob7, .unset, .unset, .unset, .unset] [(.int 1)])) _
    refine XS.ifNo X12.here hx rfl (hb hby at_93) rfl ((if0 _ _).trans (feq (by decide : ¬ ((1 : Int32) = (0 : Int32)))).1) ?_
    show Steps p.tables e below (T12.setTop (mkF m 96 #[iv p0, jv p1, .second, jv p2, .second, jv p3, .second, jv p4, .second, iv 1, iv 1, jv x0, .second, jv x1, .second, jv x2, .second, jv xe, .second, rv ob7, .unset, .unset, .unset, .unset] [])) _
    exact k
  refine own_lift sg13 ?_
  show own_Go p.tables e below (T12.setTop (mkF m 96 #[iv p0, jv p1, .second, jv p2, .second, jv p3, .second, jv p4, .second, iv 1, iv 1, jv x0, .second, jv x1, .second, jv x2, .second, jv xe, .second, rv ob7, .unset, .unset, .unset, .unset] [])) _
  have Fc14 : Sta Z h12 "com/example/halyard/halyard/east/ArrayStorage" "FIRST_INDEX_FIRST" "Lcom/example/halyard/halyard/east/ArrayStorage;" (.ref as_FIRST_INDEX_FIRST) := ((S_FIRST_INDEX_FIRST.ext Ex7).wr W12)
  obtain ⟨T15, X15, e15, st15⟩ := getS X12 hx hZ hown (host := "") (wd hw 11 rfl) Via.refl e12 Fc14 (g := (mkF m 96 #[iv p0, jv p1, .second, jv p2, .second, jv p3, .second, jv p4, .second, iv 1, iv 1, jv x0, .second, jv x1, .second, jv x2, .second, jv xe, .second, rv ob7, .unset, .unset, .unset, .unset] [])) rfl (hb hby at_96)
  refine own_lift st15 ?_
  show own_Go p.tables e below (T15.setTop (mkF m 99 #[iv p0, jv p1, .second, jv p2, .second, jv p3, .second, jv p4, .second, iv 1, iv 1, jv x0, .second, jv x1, .second, jv x2, .second, jv xe, .second, rv ob7, .unset, .unset, .unset, .unset] [(.ref as_FIRST_INDEX_FIRST)])) _
  have sg16 : ∀ t, Steps p.tables e below (T15.setTop (mkF m 113 #[iv p0, jv p1, .second, jv p2, .second, jv p3, .second, jv p4, .second, iv 1, iv 1, jv x0, .second, jv x1, .second, jv x2, .second, jv xe, .second, rv ob7, rv as_FIRST_INDEX_FIRST, .unset, .unset, .unset] [(.long xe), (.ref ob7), (.ref as_FIRST_INDEX_FIRST)])) t → Steps p.tables e below (T15.setTop (mkF m 99 #[iv p0, jv p1, .second, jv p2, .second, jv p3, .second, jv p4, .second, iv 1, iv 1, jv x0, .second, jv x1, .second, jv x2, .second, jv xe, .second, rv ob7, .unset, .unset, .unset, .unset] [(.ref as_FIRST_INDEX_FIRST)])) t := by
    intro t k
    refine XS.goto X15.here hx rfl (pc0 := 99) (pc' := 105) rfl (hb hby at_99) (by decide) (by decide) ?_
    show Steps p.tables e below (T15.setTop (mkF m 105 #[iv p0, jv p1, .second, jv p2, .second, jv p3, .second, jv p4, .second, iv 1, iv 1, jv x0, .second, jv x1, .second, jv x2, .second, jv xe, .second, rv ob7, .unset, .unset, .unset, .unset] [(.ref as_FIRST_INDEX_FIRST)])) _
    refine XS.astore X15.here hx rfl (hb hby at_105) rfl rfl (l' := #[iv p0, jv p1, .second, jv p2, .second, jv p3, .second, jv p4, .second, iv 1, iv 1, jv x0, .second, jv x1, .second, jv x2, .second, jv xe, .second, rv ob7, rv as_FIRST_INDEX_FIRST, .unset, .unset, .unset]) rfl ?_
    refine XS.aload X15.here hx rfl (hb hby at_107) rfl rfl ?_
    show Steps p.tables e below (T15.setTop (mkF m 109 #[iv p0, jv p1, .second, jv p2, .second, jv p3, .second, jv p4, .second, iv 1, iv 1, jv x0, .second, jv x1, .second, jv x2, .second, jv xe, .second, rv ob7, rv as_FIRST_INDEX_FIRST, .unset, .unset, .unset] [(.ref as_FIRST_INDEX_FIRST)])) _
    refine XS.aload X15.here hx rfl (hb hby at_109) rfl rfl ?_
    refine XS.lload X15.here hx rfl (hb hby at_111) rfl ?_
    show Steps p.tables e below (T15.setTop (mkF m 113 #[iv p0, jv p1, .second, jv p2, .second, jv p3, .second, jv p4, .second, iv 1, iv 1, jv x0, .second, jv x1, .second, jv x2, .second, jv xe, .second, rv ob7, rv as_FIRST_INDEX_FIRST, .unset, .unset, .unset] [(.long xe), (.ref ob7), (.ref as_FIRST_INDEX_FIRST)])) _
    exact k
  refine own_lift sg16 ?_
  show own_Go p.tables e below (T15.setTop (mkF m 113 #[iv p0, jv p1, .second, jv p2, .second, jv p3, .second, jv p4, .second, iv 1, iv 1, jv x0, .second, jv x1, .second, jv x2, .second, jv xe, .second, rv ob7, rv as_FIRST_INDEX_FIRST, .unset, .unset, .unset] [(.long xe), (.ref ob7), (.ref as_FIRST_INDEX_FIRST)])) _
  have Fc18 : Exa Z h12 as_FIRST_INDEX_FIRST "com/example/halyard/halyard/east/ArrayStorage" := ((E_FIRST_INDEX_FIRST.ext Ex7).wr W12)
  obtain ⟨cq17, kq17, q17a, q17b, q17c⟩ := isOf hZ e15 Fc18
  obtain ⟨_, _, ⟨T17, Lx17, kx17, nx17⟩, -, X17, ⟨Lc17, hQ17, lx17, yx17, zx17⟩, st17⟩ := X15.virtualBack hx (y := (⟨"com/example/halyard/halyard/east/ArrayStorage", "strides", "([JJ)[J"⟩ : MethodName)) (z := (⟨"com/example/halyard/halyard/east/ArrayStorage", "strides", "([JJ)[J"⟩ : MethodName)) hown (mvT hZ (wd hw 6 rfl)) (mvT hZ (wd hw 7 rfl)) (notFace_of_selects (args := #[]) (mvT hZ (wd hw 9 rfl))) (mvT hZ (wd hw 9 rfl)) (mvT hZ (wd hw 8 rfl)) (by decide) (backOf (W := 0) (rmStr1F l Z a0 hw [] as_FIRST_INDEX_FIRST ob7 xe ka7 x0 h12 n0 Z12 Vn12 Fc14) hZ (wd hw 10 rfl) (wd hw 4 rfl) (by decide) (by decide)) q17a q17c (g := (mkF m 113 #[iv p0, jv p1, .second, jv p2, .second, jv p3, .second, jv p4, .second, iv 1, iv 1, jv x0, .second, jv x1, .second, jv x2, .second, jv xe, .second, rv ob7, rv as_FIRST_INDEX_FIRST, .unset, .unset, .unset] [(.long xe), (.ref ob7), (.ref as_FIRST_INDEX_FIRST)])) rfl (by rw [hml]; rfl) (Steps.refl _) (argsL := [(.ref ob7), (.long xe)]) (rest := []) (lenOf pd_0 rfl) rfl (by show 2 * 0 + _ ≤ _; exact Nat.le_of_eq rfl) (hb hby at_113) (fun _ _ => ⟨rfl, e15, (by decide : 1 + 1 ≤ _), (by decide : 1 + 1 ≤ _)⟩)
  dsimp only [Pt.U, Pt.locs, Pt.cells, Pt.slots] at X17 lx17 yx17 zx17 st17 hQ17
  subst lx17 yx17 zx17
  obtain ⟨xb_17, xkb_17, rfl, N17q, p17_0, p17_1, p17_2⟩ := hQ17
  have N17 := Fr.app N12 N17q
  have Fc19 : Exa Z h12 as_LAST_INDEX_FIRST "com/example/halyard/halyard/east/ArrayStorage" := ((E_LAST_INDEX_FIRST.ext Ex7).wr W12)
  have ne20 : as_LAST_INDEX_FIRST ≠ xb_17 := Nat.ne_of_lt (Nat.lt_of_lt_of_le Fc19.lt p17_1)
  have ne21 : as_FIRST_INDEX_FIRST ≠ xb_17 := Nat.ne_of_lt (Nat.lt_of_lt_of_le Fc18.lt p17_1)
  have ne22 : ob7 ≠ xb_17 := Nat.ne_of_lt (Nat.lt_of_lt_of_le Vn12.lt p17_1)
  have Z17 : n0 ≤ T17.heap.size := Nat.le_trans Z12 p17_0.1
  have ge17_1 : n0 ≤ xb_17 := Nat.le_trans Z12 p17_1
  refine own_lift (fun t k => st17.trans k) ?_
  show own_Go p.tables e below (T17.setTop (mkF m 116 #[iv p0, jv p1, .second, jv p2, .second, jv p3, .second, jv p4, .second, iv 1, iv 1, jv x0, .second, jv x1, .second, jv x2, .second, jv xe, .second, rv ob7, rv as_FIRST_INDEX_FIRST, .unset, .unset, .unset] [(.ref xb_17)])) _
  have sg23 : ∀ t, Steps p.tables e below (T17.setTop (mkF m 125 #[iv p0, jv p1, .second, jv p2, .second, jv p3, .second, jv p4, .second, iv 1, iv 1, jv x0, .second, jv x1, .second, jv x2, .second, jv xe, .second, rv ob7, rv as_FIRST_INDEX_FIRST, rv xb_17, .unset, .unset] [(.ref xb_17)])) t → Steps p.tables e below (T17.setTop (mkF m 116 #[iv p0, jv p1, .second, jv p2, .second, jv p3, .second, jv p4, .second, iv 1, iv 1, jv x0, .second, jv x1, .second, jv x2, .second, jv xe, .second, rv ob7, rv as_FIRST_INDEX_FIRST, .unset, .unset, .unset] [(.ref xb_17)])) t := by
    intro t k
    refine XS.astore X17.here hx rfl (hb hby at_116) rfl rfl (l' := #[iv p0, jv p1, .second, jv p2, .second, jv p3, .second, jv p4, .second, iv 1, iv 1, jv x0, .second, jv x1, .second, jv x2, .second, jv xe, .second, rv ob7, rv as_FIRST_INDEX_FIRST, rv xb_17, .unset, .unset]) rfl ?_
    show Steps p.tables e below (T17.setTop (mkF m 118 #[iv p0, jv p1, .second, jv p2, .second, jv p3, .second, jv p4, .second, iv 1, iv 1, jv x0, .second, jv x1, .second, jv x2, .second, jv xe, .second, rv ob7, rv as_FIRST_INDEX_FIRST, rv xb_17, .unset, .unset] [])) _
    refine XS.aload X17.here hx rfl (hb hby at_118) rfl rfl ?_
    refine XS.ifnullNo X17.here hx rfl (hb hby at_120) rfl ?_
    show Steps p.tables e below (T17.setTop (mkF m 123 #[iv p0, jv p1, .second, jv p2, .second, jv p3, .second, jv p4, .second, iv 1, iv 1, jv x0, .second, jv x1, .second, jv x2, .second, jv xe, .second, rv ob7, rv as_FIRST_INDEX_FIRST, rv xb_17, .unset, .unset] [])) _
    refine XS.aload X17.here hx rfl (hb hby at_123) rfl rfl ?_
    show Steps p.tables e below (T17.setTop (mkF m 125 #[iv p0, jv p1, .second, jv p2, .second, jv p3, .second, jv p4, .second, iv 1, iv 1, jv x0, .second, jv x1, .second, jv x2, .second, jv xe, .second, rv ob7, rv as_FIRST_INDEX_FIRST, rv xb_17, .unset, .unset] [(.ref xb_17)])) _
    exact k
  refine own_lift sg23 ?_
  show own_Go p.tables e below (T17.setTop (mkF m 125 #[iv p0, jv p1, .second, jv p2, .second, jv p3, .second, jv p4, .second, iv 1, iv 1, jv x0, .second, jv x1, .second, jv x2, .second, jv xe, .second, rv ob7, rv as_FIRST_INDEX_FIRST, rv xb_17, .unset, .unset] [(.ref xb_17)])) _
  obtain ⟨cl24, Ar24, -, Sx24, N24', -, -⟩ := id (p17_2)
  have st24 : ∀ t, Steps p.tables e below (T17.setTop (mkF m 126 #[iv p0, jv p1, .second, jv p2, .second, jv p3, .second, jv p4, .second, iv 1, iv 1, jv x0, .second, jv x1, .second, jv x2, .second, jv xe, .second, rv ob7, rv as_FIRST_INDEX_FIRST, rv xb_17, .unset, .unset] [(.int 1)])) t → Steps p.tables e below (T17.setTop (mkF m 125 #[iv p0, jv p1, .second, jv p2, .second, jv p3, .second, jv p4, .second, iv 1, iv 1, jv x0, .second, jv x1, .second, jv x2, .second, jv xe, .second, rv ob7, rv as_FIRST_INDEX_FIRST, rv xb_17, .unset, .unset] [(.ref xb_17)])) t := by
    intro t k
    refine X17.arraylength hx (by exact Ar24.1) (State.isArrayOf_alike hZ.alike Ar24.2.1) (g := (mkF m 125 #[iv p0, jv p1, .second, jv p2, .second, jv p3, .second, jv p4, .second, iv 1, iv 1, jv x0, .second, jv x1, .second, jv x2, .second, jv xe, .second, rv ob7, rv as_FIRST_INDEX_FIRST, rv xb_17, .unset, .unset] [(.ref xb_17)])) rfl rfl (hb hby at_125) _ ?_
    rw [len_of Sx24 N24']
    exact k
  refine own_lift st24 ?_
  show own_Go p.tables e below (T17.setTop (mkF m 126 #[iv p0, jv p1, .second, jv p2, .second, jv p3, .second, jv p4, .second, iv 1, iv 1, jv x0, .second, jv x1, .second, jv x2, .second, jv xe, .second, rv ob7, rv as_FIRST_INDEX_FIRST, rv xb_17, .unset, .unset] [(.int 1)])) _
  have sg25 : ∀ t, Steps p.tables e below (T17.setTop (mkF m 134 #[iv p0, jv p1, .second, jv p2, .second, jv p3, .second, jv p4, .second, iv 1, iv 1, jv x0, .second, jv x1, .second, jv x2, .second, jv xe, .second, rv ob7, rv as_FIRST_INDEX_FIRST, rv xb_17, .unset, .unset] [(.int 3)])) t → Steps p.tables e below (T17.setTop (mkF m 126 #[iv p0, jv p1, .second, jv p2, .second, jv p3, .second, jv p4, .second, iv 1, iv 1, jv x0, .second, jv x1, .second, jv x2, .second, jv xe, .second, rv ob7, rv as_FIRST_INDEX_FIRST, rv xb_17, .unset, .unset] [(.int 1)])) t := by
    intro t k
    refine XS.iload X17.here hx rfl (hb hby at_126) rfl ?_
    show Steps p.tables e below (T17.setTop (mkF m 128 #[iv p0, jv p1, .second, jv p2, .second, jv p3, .second, jv p4, .second, iv 1, iv 1, jv x0, .second, jv x1, .second, jv x2, .second, jv xe, .second, rv ob7, rv as_FIRST_INDEX_FIRST, rv xb_17, .unset, .unset] [(.int 1), (.int 1)])) _
    refine XS.icmpYes X17.here hx rfl (pc0 := 128) (pc' := 133) rfl (hb hby at_128) rfl (teq (by decide : (1 : Int32) = (1 : Int32))).1 (by decide) (by decide) ?_
    refine XS.iconst X17.here hx rfl (hb hby at_133) ?_
    show Steps p.tables e below (T17.setTop (mkF m 134 #[iv p0, jv p1, .second, jv p2, .second, jv p3, .second, jv p4, .second, iv 1, iv 1, jv x0, .second, jv x1, .second, jv x2, .second, jv xe, .second, rv ob7, rv as_FIRST_INDEX_FIRST, rv xb_17, .unset, .unset] [(.int 3)])) _
    exact k
  refine own_lift sg25 ?_
  show own_Go p.tables e below (T17.setTop (mkF m 134 #[iv p0, jv p1, .second, jv p2, .second, jv p3, .second, jv p4, .second, iv 1, iv 1, jv x0, .second, jv x1, .second, jv x2, .second, jv xe, .second, rv ob7, rv as_FIRST_INDEX_FIRST, rv xb_17, .unset, .unset] [(.int 3)])) _
  obtain ⟨T26, h26, ka26, X26, e26, Ex26, Ax26, st26⟩ := newP X17 hx hZ (wd hw 2 rfl) rfl (g := (mkF m 134 #[iv p0, jv p1, .second, jv p2, .second, jv p3, .second, jv p4, .second, iv 1, iv 1, jv x0, .second, jv x1, .second, jv x2, .second, jv xe, .second, rv ob7, rv as_FIRST_INDEX_FIRST, rv xb_17, .unset, .unset] [(.int 3)])) rfl (hb hby at_134) rfl (by decide) (cap := 3) (by decide) (by decide) (by decide) (by decide)
  obtain ⟨ob26, g26⟩ : ∃ z, z = T17.heap.size := ⟨_, rfl⟩
  rw [← g26] at Ax26 st26
  have Fc27 : Exa Z T17.heap as_LAST_INDEX_FIRST "com/example/halyard/halyard/east/ArrayStorage" := (Fc19.keep p17_0)
  have ne28 : as_LAST_INDEX_FIRST ≠ ob26 := Nat.ne_of_lt (Nat.lt_of_lt_of_le Fc27.lt (Nat.le_of_eq g26.symm))
  have Fc29 : Exa Z T17.heap as_FIRST_INDEX_FIRST "com/example/halyard/halyard/east/ArrayStorage" := (Fc18.keep p17_0)
  have ne30 : as_FIRST_INDEX_FIRST ≠ ob26 := Nat.ne_of_lt (Nat.lt_of_lt_of_le Fc29.lt (Nat.le_of_eq g26.symm))
  have Fc31 : Arv Z T17.heap ob7 ka7 .long (1 : Int32) [(.long x0)] (.long 0) := (Vn12.keep p17_0 nin0)
  have ne32 : ob7 ≠ ob26 := Nat.ne_of_lt (Nat.lt_of_lt_of_le Fc31.lt (Nat.le_of_eq g26.symm))
  have ne33 : xb_17 ≠ ob26 := Nat.ne_of_lt (Nat.lt_of_lt_of_le p17_2.lt (Nat.le_of_eq g26.symm))
  have Z26 : n0 ≤ h26.size := Nat.le_trans Z17 Ex26.1
  have ge26 : n0 ≤ ob26 := Nat.le_trans Z17 (Nat.le_of_eq g26.symm)
  have Vn26 : Arv Z h26 ob26 ka26 .long (3 : Int32) [(.long 0), (.long 0), (.long 0)] (.long 0) := (Arv.new Ax26 (by decide)).pad (pad_rep [] (.long 0) 3)
  refine own_lift st26 ?_
  show own_Go p.tables e below (T26.setTop (mkF m 136 #[iv p0, jv p1, .second, jv p2, .second, jv p3, .second, jv p4, .second, iv 1, iv 1, jv x0, .second, jv x1, .second, jv x2, .second, jv xe, .second, rv ob7, rv as_FIRST_INDEX_FIRST, rv xb_17, .unset, .unset] [(.ref ob26)])) _
  have sg34 : ∀ t, Steps p.tables e below (T26.setTop (mkF m 149 #[iv p0, jv p1, .second, jv p2, .second, jv p3, .second, jv p4, .second, iv 1, iv 1, jv x0, .second, jv x1, .second, jv x2, .second, jv xe, .second, rv ob7, rv as_FIRST_INDEX_FIRST, rv xb_17, rv ob26, .unset] [(.long xe), (.int 0), (.ref ob26)])) t → Steps p.tables e below (T26.setTop (mkF m 136 #[iv p0, jv p1, .second, jv p2, .second, jv p3, .second, jv p4, .second, iv 1, iv 1, jv x0, .second, jv x1, .second, jv x2, .second, jv xe, .second, rv ob7, rv as_FIRST_INDEX_FIRST, rv xb_17, .unset, .unset] [(.ref ob26)])) t := by
    intro t k
    refine XS.astore X26.here hx rfl (hb hby at_136) rfl rfl (l' := #[iv p0, jv p1, .second, jv p2, .second, jv p3, .second, jv p4, .second, iv 1, iv 1, jv x0, .second, jv x1, .second, jv x2, .second, jv xe, .second, rv ob7, rv as_FIRST_INDEX_FIRST, rv xb_17, rv ob26, .unset]) rfl ?_
    show Steps p.tables e below (T26.setTop (mkF m 138 #[iv p0, jv p1, .second, jv p2, .second, jv p3, .second, jv p4, .second, iv 1, iv 1, jv x0, .second, jv x1, .second, jv x2, .second, jv xe, .second, rv ob7, rv as_FIRST_INDEX_FIRST, rv xb_17, rv ob26, .unset] [])) _
    refine XS.iload X26.here hx rfl (hb hby at_138) rfl ?_
    refine XS.iconst X26.here hx rfl (hb hby at_140) ?_
    show Steps p.tables e below (T26.setTop (mkF m 141 #[iv p0, jv p1, .second, jv p2, .second, jv p3, .second, jv p4, .second, iv 1, iv 1, jv x0, .second, jv x1, .second, jv x2, .second, jv xe, .second, rv ob7, rv as_FIRST_INDEX_FIRST, rv xb_17, rv ob26, .unset] [(.int 1), (.int 1)])) _
    refine XS.icmpNo X26.here hx rfl (hb hby at_141) rfl (teq (by decide : (1 : Int32) = (1 : Int32))).2 ?_
    refine XS.aload X26.here hx rfl (hb hby at_144) rfl rfl ?_
    show Steps p.tables e below (T26.setTop (mkF m 146 #[iv p0, jv p1, .second, jv p2, .second, jv p3, .second, jv p4, .second, iv 1, iv 1, jv x0, .second, jv x1, .second, jv x2, .second, jv xe, .second, rv ob7, rv as_FIRST_INDEX_FIRST, rv xb_17, rv ob26, .unset] [(.ref ob26)])) _
    refine XS.iconst X26.here hx rfl (hb hby at_146) ?_
    refine XS.lload X26.here hx rfl (hb hby at_147) rfl ?_
    show Steps p.tables e below (T26.setTop (mkF m 149 #[iv p0, jv p1, .second, jv p2, .second, jv p3, .second, jv p4, .second, iv 1, iv 1, jv x0, .second, jv x1, .second, jv x2, .second, jv xe, .second, rv ob7, rv as_FIRST_INDEX_FIRST, rv xb_17, rv ob26, .unset] [(.long xe), (.int 0), (.ref ob26)])) _
    exact k
  refine own_lift sg34 ?_
  show own_Go p.tables e below (T26.setTop (mkF m 149 #[iv p0, jv p1, .second, jv p2, .second, jv p3, .second, jv p4, .second, iv 1, iv 1, jv x0, .second, jv x1, .second, jv x2, .second, jv xe, .second, rv ob7, rv as_FIRST_INDEX_FIRST, rv xb_17, rv ob26, .unset] [(.long xe), (.int 0), (.ref ob26)])) _
  obtain ⟨cl35, Ar35, qx35, Sx35, N35', H35', G35'⟩ := id (Vn26)
  have hin35 : ¬ ((0 : Int32) < 0 ∨ cl35.slots.size ≤ ((0 : Int32)).toNatClampNeg) := inb_of Sx35 ⟨(by decide : ¬ ((0 : Int32) < (0 : Int32))), (by decide : (0 : Int32) < (3 : Int32))⟩
  obtain ⟨T36, h36, X36, e36, W36, st36⟩ := stJ X26 hx hZ e26 Ar35 (j := (0 : Int32)) hin35 (g := (mkF m 149 #[iv p0, jv p1, .second, jv p2, .second, jv p3, .second, jv p4, .second, iv 1, iv 1, jv x0, .second, jv x1, .second, jv x2, .second, jv xe, .second, rv ob7, rv as_FIRST_INDEX_FIRST, rv xb_17, rv ob26, .unset] [(.long xe), (.int 0), (.ref ob26)])) rfl rfl (hb hby at_149)
  have N36 := Fr.snoc X36 N17 ge26
  have Z36 : n0 ≤ h36.size := Nat.le_trans Z26 (Nat.le_of_eq W36.size.symm)
  have Vn36 : Arv Z h36 ob26 ka26 .long (3 : Int32) [(.long xe), (.long 0), (.long 0)] (.long 0) := Arv.set Ar35 qx35 Sx35 N35' H35' G35' rfl W36 0 rfl (Nat.le_of_ble_eq_true rfl)
  refine own_lift st36 ?_
  show own_Go p.tables e below (T36.setTop (mkF m 150 #[iv p0, jv p1, .second, jv p2, .second, jv p3, .second, jv p4, .second, iv 1, iv 1, jv x0, .second, jv x1, .second, jv x2, .second, jv xe, .second, rv ob7, rv as_FIRST_INDEX_FIRST, rv xb_17, rv ob26, .unset] [])) _
  have sg37 : ∀ t, Steps p.tables e below (T36.setTop (mkF m 284 #[iv p0, jv p1, .second, jv p2, .second, jv p3, .second, jv p4, .second, iv 1, iv 1, jv x0, .second, jv x1, .second, jv x2, .second, jv xe, .second, rv ob7, rv as_FIRST_INDEX_FIRST, rv xb_17, rv ob26, iv 1] [(.int 0), (.ref xb_17)])) t → Steps p.tables e below (T36.setTop (mkF m 150 #[iv p0, jv p1, .second, jv p2, .second, jv p3, .second, jv p4, .second, iv 1, iv 1, jv x0, .second, jv x1, .second, jv x2, .second, jv xe, .second, rv ob7, rv as_FIRST_INDEX_FIRST, rv xb_17, rv ob26, .unset] [])) t := by
    intro t k
    refine XS.goto X36.here hx rfl (pc0 := 150) (pc' := 268) rfl (hb hby at_150) (by decide) (by decide) ?_
    show Steps p.tables e below (T36.setTop (mkF m 268 #[iv p0, jv p1, .second, jv p2, .second, jv p3, .second, jv p4, .second, iv 1, iv 1, jv x0, .second, jv x1, .second, jv x2, .second, jv xe, .second, rv ob7, rv as_FIRST_INDEX_FIRST, rv xb_17, rv ob26, .unset] [])) _
    refine XS.iconst X36.here hx rfl (hb hby at_268) ?_
    refine XS.istore X36.here hx rfl (hb hby at_269) rfl (l' := #[iv p0, jv p1, .second, jv p2, .second, jv p3, .second, jv p4, .second, iv 1, iv 1, jv x0, .second, jv x1, .second, jv x2, .second, jv xe, .second, rv ob7, rv as_FIRST_INDEX_FIRST, rv xb_17, rv ob26, iv 1]) rfl ?_
    show Steps p.tables e below (T36.setTop (mkF m 271 #[iv p0, jv p1, .second, jv p2, .second, jv p3, .second, jv p4, .second, iv 1, iv 1, jv x0, .second, jv x1, .second, jv x2, .second, jv xe, .second, rv ob7, rv as_FIRST_INDEX_FIRST, rv xb_17, rv ob26, iv 1] [])) _
    refine XS.iload X36.here hx rfl (hb hby at_271) rfl ?_
    refine XS.ifNo X36.here hx rfl (hb hby at_273) rfl ((if0 _ _).trans (tlt (by decide : (0 : Int32) < (1 : Int32))).2.2.2) ?_
    show Steps p.tables e below (T36.setTop (mkF m 276 #[iv p0, jv p1, .second, jv p2, .second, jv p3, .second, jv p4, .second, iv 1, iv 1, jv x0, .second, jv x1, .second, jv x2, .second, jv xe, .second, rv ob7, rv as_FIRST_INDEX_FIRST, rv xb_17, rv ob26, iv 1] [])) _
    refine XS.iload X36.here hx rfl (hb hby at_276) rfl ?_
    refine XS.ifNo X36.here hx rfl (hb hby at_278) rfl ((if0 _ _).trans (feq (by decide : ¬ ((1 : Int32) = (0 : Int32)))).1) ?_
    show Steps p.tables e below (T36.setTop (mkF m 281 #[iv p0, jv p1, .second, jv p2, .second, jv p3, .second, jv p4, .second, iv 1, iv 1, jv x0, .second, jv x1, .second, jv x2, .second, jv xe, .second, rv ob7, rv as_FIRST_INDEX_FIRST, rv xb_17, rv ob26, iv 1] [])) _
    refine XS.aload X36.here hx rfl (hb hby at_281) rfl rfl ?_
    refine XS.iconst X36.here hx rfl (hb hby at_283) ?_
    show Steps p.tables e below (T36.setTop (mkF m 284 #[iv p0, jv p1, .second, jv p2, .second, jv p3, .second, jv p4, .second, iv 1, iv 1, jv x0, .second, jv x1, .second, jv x2, .second, jv xe, .second, rv ob7, rv as_FIRST_INDEX_FIRST, rv xb_17, rv ob26, iv 1] [(.int 0), (.ref xb_17)])) _
    exact k
  refine own_lift sg37 ?_
  show own_Go p.tables e below (T36.setTop (mkF m 284 #[iv p0, jv p1, .second, jv p2, .second, jv p3, .second, jv p4, .second, iv 1, iv 1, jv x0, .second, jv x1, .second, jv x2, .second, jv xe, .second, rv ob7, rv as_FIRST_INDEX_FIRST, rv xb_17, rv ob26, iv 1] [(.int 0), (.ref xb_17)])) _
  have Fc38 : Arv Z h36 xb_17 xkb_17 .long (1 : Int32) [(.long xe)] (.long (0 : Int64)) := ((p17_2.ext Ex26).other W36 ne33)
  obtain ⟨cl39, Ar39, qx39, Sx39, N39', H39', G39'⟩ := id (Fc38)
  have hin39 : ¬ ((0 : Int32) < 0 ∨ cl39.slots.size ≤ ((0 : Int32)).toNatClampNeg) := inb_of Sx39 ⟨(by decide : ¬ ((0 : Int32) < (0 : Int32))), (by decide : (0 : Int32) < (1 : Int32))⟩
  have hat39 : cl39.slots[((0 : Int32)).toNatClampNeg]? = some (.long xe) := Has.at H39' hin39 rfl
  have sg40 : ∀ t, Steps p.tables e below (T36.setTop (mkF m 288 #[iv p0, jv p1, .second, jv p2, .second, jv p3, .second, jv p4, .second, iv 1, iv 1, jv x0, .second, jv x1, .second, jv x2, .second, jv xe, .second, rv ob7, rv as_FIRST_INDEX_FIRST, rv xb_17, rv ob26, iv 1] [(.int 0), (.ref ob26), (.long xe)])) t → Steps p.tables e below (T36.setTop (mkF m 284 #[iv p0, jv p1, .second, jv p2, .second, jv p3, .second, jv p4, .second, iv 1, iv 1, jv x0, .second, jv x1, .second, jv x2, .second, jv xe, .second, rv ob7, rv as_FIRST_INDEX_FIRST, rv xb_17, rv ob26, iv 1] [(.int 0), (.ref xb_17)])) t := by
    intro t k
    refine X36.laload hx (j := (0 : Int32)) (v := (.long xe)) (by rw [e36]; exact Ar39.1) (State.isArrayOf_alike hZ.alike Ar39.2.1) Ar39.2.2 hin39 hat39 (g := (mkF m 284 #[iv p0, jv p1, .second, jv p2, .second, jv p3, .second, jv p4, .second, iv 1, iv 1, jv x0, .second, jv x1, .second, jv x2, .second, jv xe, .second, rv ob7, rv as_FIRST_INDEX_FIRST, rv xb_17, rv ob26, iv 1] [(.int 0), (.ref xb_17)])) rfl rfl (hb hby at_284) _ ?_
    show Steps p.tables e below (T36.setTop (mkF m 285 #[iv p0, jv p1, .second, jv p2, .second, jv p3, .second, jv p4, .second, iv 1, iv 1, jv x0, .second, jv x1, .second, jv x2, .second, jv xe, .second, rv ob7, rv as_FIRST_INDEX_FIRST, rv xb_17, rv ob26, iv 1] [(.long xe)])) _
    refine XS.aload X36.here hx rfl (hb hby at_285) rfl rfl ?_
    refine XS.iconst X36.here hx rfl (hb hby at_287) ?_
    show Steps p.tables e below (T36.setTop (mkF m 288 #[iv p0, jv p1, .second, jv p2, .second, jv p3, .second, jv p4, .second, iv 1, iv 1, jv x0, .second, jv x1, .second, jv x2, .second, jv xe, .second, rv ob7, rv as_FIRST_INDEX_FIRST, rv xb_17, rv ob26, iv 1] [(.int 0), (.ref ob26), (.long xe)])) _
    exact k
  refine own_lift sg40 ?_
  show own_Go p.tables e below (T36.setTop (mkF m 288 #[iv p0, jv p1, .second, jv p2, .second, jv p3, .second, jv p4, .second, iv 1, iv 1, jv x0, .second, jv x1, .second, jv x2, .second, jv xe, .second, rv ob7, rv as_FIRST_INDEX_FIRST, rv xb_17, rv ob26, iv 1] [(.int 0), (.ref ob26), (.long xe)])) _
  obtain ⟨cl41, Ar41, qx41, Sx41, N41', H41', G41'⟩ := id (Vn36)
  have hin41 : ¬ ((0 : Int32) < 0 ∨ cl41.slots.size ≤ ((0 : Int32)).toNatClampNeg) := inb_of Sx41 ⟨(by decide : ¬ ((0 : Int32) < (0 : Int32))), (by decide : (0 : Int32) < (3 : Int32))⟩
  have hat41 : cl41.slots[((0 : Int32)).toNatClampNeg]? = some (.long xe) := Has.at H41' hin41 rfl
  have sg42 : ∀ t, Steps p.tables e below (T36.setTop (mkF m 296 #[iv p0, jv p1, .second, jv p2, .second, jv p3, .second, jv p4, .second, iv 1, iv 1, jv x0, .second, jv x1, .second, jv x2, .second, jv xe, .second, rv ob7, rv as_FIRST_INDEX_FIRST, rv xb_17, rv ob26, iv 1] [(.int 0), (.ref ob7)])) t → Steps p.tables e below (T36.setTop (mkF m 288 #[iv p0, jv p1, .second, jv p2, .second, jv p3, .second, jv p4, .second, iv 1, iv 1, jv x0, .second, jv x1, .second, jv x2, .second, jv xe, .second, rv ob7, rv as_FIRST_INDEX_FIRST, rv xb_17, rv ob26, iv 1] [(.int 0), (.ref ob26), (.long xe)])) t := by
    intro t k
    refine X36.laload hx (j := (0 : Int32)) (v := (.long xe)) (by rw [e36]; exact Ar41.1) (State.isArrayOf_alike hZ.alike Ar41.2.1) Ar41.2.2 hin41 hat41 (g := (mkF m 288 #[iv p0, jv p1, .second, jv p2, .second, jv p3, .second, jv p4, .second, iv 1, iv 1, jv x0, .second, jv x1, .second, jv x2, .second, jv xe, .second, rv ob7, rv as_FIRST_INDEX_FIRST, rv xb_17, rv ob26, iv 1] [(.int 0), (.ref ob26), (.long xe)])) rfl rfl (hb hby at_288) _ ?_
    show Steps p.tables e below (T36.setTop (mkF m 289 #[iv p0, jv p1, .second, jv p2, .second, jv p3, .second, jv p4, .second, iv 1, iv 1, jv x0, .second, jv x1, .second, jv x2, .second, jv xe, .second, rv ob7, rv as_FIRST_INDEX_FIRST, rv xb_17, rv ob26, iv 1] [(.long xe), (.long xe)])) _
    refine XS.lcmp X36.here hx rfl (hb hby at_289) rfl ?_
    refine XS.ifNo X36.here hx rfl (hb hby at_290) rfl ((if0 _ _).trans (teq ((lw_eq xe xe).2 (rfl : xe = xe))).2) ?_
    show Steps p.tables e below (T36.setTop (mkF m 293 #[iv p0, jv p1, .second, jv p2, .second, jv p3, .second, jv p4, .second, iv 1, iv 1, jv x0, .second, jv x1, .second, jv x2, .second, jv xe, .second, rv ob7, rv as_FIRST_INDEX_FIRST, rv xb_17, rv ob26, iv 1] [])) _
    refine XS.aload X36.here hx rfl (hb hby at_293) rfl rfl ?_
    refine XS.iconst X36.here hx rfl (hb hby at_295) ?_
    show Steps p.tables e below (T36.setTop (mkF m 296 #[iv p0, jv p1, .second, jv p2, .second, jv p3, .second, jv p4, .second, iv 1, iv 1, jv x0, .second, jv x1, .second, jv x2, .second, jv xe, .second, rv ob7, rv as_FIRST_INDEX_FIRST, rv xb_17, rv ob26, iv 1] [(.int 0), (.ref ob7)])) _
    exact k
  refine own_lift sg42 ?_
  show own_Go p.tables e below (T36.setTop (mkF m 296 #[iv p0, jv p1, .second, jv p2, .second, jv p3, .second, jv p4, .second, iv 1, iv 1, jv x0, .second, jv x1, .second, jv x2, .second, jv xe, .second, rv ob7, rv as_FIRST_INDEX_FIRST, rv xb_17, rv ob26, iv 1] [(.int 0), (.ref ob7)])) _
  have Fc43 : Arv Z h36 ob7 ka7 .long (1 : Int32) [(.long x0)] (.long 0) := ((Fc31.ext Ex26).other W36 ne32)
  obtain ⟨cl44, Ar44, qx44, Sx44, N44', H44', G44'⟩ := id (Fc43)
  have hin44 : ¬ ((0 : Int32) < 0 ∨ cl44.slots.size ≤ ((0 : Int32)).toNatClampNeg) := inb_of Sx44 ⟨(by decide : ¬ ((0 : Int32) < (0 : Int32))), (by decide : (0 : Int32) < (1 : Int32))⟩
  have hat44 : cl44.slots[((0 : Int32)).toNatClampNeg]? = some (.long x0) := Has.at H44' hin44 rfl
  have sg45 : ∀ t, Steps p.tables e below (T36.setTop (mkF m 392 #[iv p0, jv p1, .second, jv p2, .second, jv p3, .second, jv p4, .second, iv 1, iv 1, jv x0, .second, jv x1, .second, jv x2, .second, jv xe, .second, rv ob7, rv as_FIRST_INDEX_FIRST, rv xb_17, rv ob26, iv 1] [(.int 1)])) t → Steps p.tables e below (T36.setTop (mkF m 296 #[iv p0, jv p1, .second, jv p2, .second, jv p3, .second, jv p4, .second, iv 1, iv 1, jv x0, .second, jv x1, .second, jv x2, .second, jv xe, .second, rv ob7, rv as_FIRST_INDEX_FIRST, rv xb_17, rv ob26, iv 1] [(.int 0), (.ref ob7)])) t := by
    intro t k
    refine X36.laload hx (j := (0 : Int32)) (v := (.long x0)) (by rw [e36]; exact Ar44.1) (State.isArrayOf_alike hZ.alike Ar44.2.1) Ar44.2.2 hin44 hat44 (g := (mkF m 296 #[iv p0, jv p1, .second, jv p2, .second, jv p3, .second, jv p4, .second, iv 1, iv 1, jv x0, .second, jv x1, .second, jv x2, .second, jv xe, .second, rv ob7, rv as_FIRST_INDEX_FIRST, rv xb_17, rv ob26, iv 1] [(.int 0), (.ref ob7)])) rfl rfl (hb hby at_296) _ ?_
    show Steps p.tables e below (T36.setTop (mkF m 297 #[iv p0, jv p1, .second, jv p2, .second, jv p3, .second, jv p4, .second, iv 1, iv 1, jv x0, .second, jv x1, .second, jv x2, .second, jv xe, .second, rv ob7, rv as_FIRST_INDEX_FIRST, rv xb_17, rv ob26, iv 1] [(.long x0)])) _
    refine XS.lload X36.here hx rfl (hb hby at_297) rfl ?_
    refine XS.lcmp X36.here hx rfl (hb hby at_299) rfl ?_
    show Steps p.tables e below (T36.setTop (mkF m 300 #[iv p0, jv p1, .second, jv p2, .second, jv p3, .second, jv p4, .second, iv 1, iv 1, jv x0, .second, jv x1, .second, jv x2, .second, jv xe, .second, rv ob7, rv as_FIRST_INDEX_FIRST, rv xb_17, rv ob26, iv 1] [(.int (lcmpW x0 x0))])) _
    refine XS.ifNo X36.here hx rfl (hb hby at_300) rfl ((if0 _ _).trans (teq ((lw_eq x0 x0).2 (rfl : x0 = x0))).2) ?_
    refine XS.iconst X36.here hx rfl (hb hby at_303) ?_
    show Steps p.tables e below (T36.setTop (mkF m 304 #[iv p0, jv p1, .second, jv p2, .second, jv p3, .second, jv p4, .second, iv 1, iv 1, jv x0, .second, jv x1, .second, jv x2, .second, jv xe, .second, rv ob7, rv as_FIRST_INDEX_FIRST, rv xb_17, rv ob26, iv 1] [(.int 1)])) _
    refine XS.goto X36.here hx rfl (pc0 := 304) (pc' := 308) rfl (hb hby at_304) (by decide) (by decide) ?_
    refine XS.istore X36.here hx rfl (hb hby at_308) rfl (l' := #[iv p0, jv p1, .second, jv p2, .second, jv p3, .second, jv p4, .second, iv 1, iv 1, jv x0, .second, jv x1, .second, jv x2, .second, jv xe, .second, rv ob7, rv as_FIRST_INDEX_FIRST, rv xb_17, rv ob26, iv 1]) rfl ?_
    show Steps p.tables e below (T36.setTop (mkF m 310 #[iv p0, jv p1, .second, jv p2, .second, jv p3, .second, jv p4, .second, iv 1, iv 1, jv x0, .second, jv x1, .second, jv x2, .second, jv xe, .second, rv ob7, rv as_FIRST_INDEX_FIRST, rv xb_17, rv ob26, iv 1] [])) _
    refine XS.iload X36.here hx rfl (hb hby at_310) rfl ?_
    refine XS.iconst X36.here hx rfl (hb hby at_312) ?_
    show Steps p.tables e below (T36.setTop (mkF m 313 #[iv p0, jv p1, .second, jv p2, .second, jv p3, .second, jv p4, .second, iv 1, iv 1, jv x0, .second, jv x1, .second, jv x2, .second, jv xe, .second, rv ob7, rv as_FIRST_INDEX_FIRST, rv xb_17, rv ob26, iv 1] [(.int 1), (.int 1)])) _
    refine XS.icmpYes X36.here hx rfl (pc0 := 313) (pc' := 350) rfl (hb hby at_313) rfl (flt (by decide : ¬ ((1 : Int32) < (1 : Int32)))).2.2.2 (by decide) (by decide) ?_
    refine XS.iload X36.here hx rfl (hb hby at_350) rfl ?_
    show Steps p.tables e below (T36.setTop (mkF m 352 #[iv p0, jv p1, .second, jv p2, .second, jv p3, .second, jv p4, .second, iv 1, iv 1, jv x0, .second, jv x1, .second, jv x2, .second, jv xe, .second, rv ob7, rv as_FIRST_INDEX_FIRST, rv xb_17, rv ob26, iv 1] [(.int 1)])) _
    refine XS.iconst X36.here hx rfl (hb hby at_352) ?_
    refine XS.icmpYes X36.here hx rfl (pc0 := 353) (pc' := 390) rfl (hb hby at_353) rfl (flt (by decide : ¬ ((2 : Int32) < (1 : Int32)))).2.2.2 (by decide) (by decide) ?_
    show Steps p.tables e below (T36.setTop (mkF m 390 #[iv p0, jv p1, .second, jv p2, .second, jv p3, .second, jv p4, .second, iv 1, iv 1, jv x0, .second, jv x1, .second, jv x2, .second, jv xe, .second, rv ob7, rv as_FIRST_INDEX_FIRST, rv xb_17, rv ob26, iv 1] [])) _
    refine XS.iload X36.here hx rfl (hb hby at_390) rfl ?_
    show Steps p.tables e below (T36.setTop (mkF m 392 #[iv p0, jv p1, .second, jv p2, .second, jv p3, .second, jv p4, .second, iv 1, iv 1, jv x0, .second, jv x1, .second, jv x2, .second, jv xe, .second, rv ob7, rv as_FIRST_INDEX_FIRST, rv xb_17, rv ob26, iv 1] [(.int 1)])) _
    exact k
  refine own_lift sg45 ?_
  show own_Go p.tables e below (T36.setTop (mkF m 392 #[iv p0, jv p1, .second, jv p2, .second, jv p3, .second, jv p4, .second, iv 1, iv 1, jv x0, .second, jv x1, .second, jv x2, .second, jv xe, .second, rv ob7, rv as_FIRST_INDEX_FIRST, rv xb_17, rv ob26, iv 1] [(.int 1)])) _
  obtain ⟨fs, hr, hrun, hended, hW, hsame⟩ := X36.leave (v := some (.int 1)) (fun h => by rw [Bd.returns] at h; cases h)
  refine ⟨_, _, ?_, hrun, hended, _, _, rfl, ?_, ⟨_, rfl⟩, hW, hsame.mono (by decide) (by decide)⟩
  · exact retN X36 hx (t := .boolean) Bd.returns (by simp) (hb hby at_392) hr
  · show Q0 Z  h0 n0 _ T36.heap _
    rw [e36]
    exact ⟨rfl, N36⟩
theorem ef_rm0_2F (m : MethodId) (x0 : Int32) (x1 : Int64) (x2 : Int64) (x3 : Int64) (x4 : Int64) : entryFrame m #[(.int x0), (.long x1), (.long x2), (.long x3), (.long x4)] maxLocals = mkF m 0 #[.val (.int x0), .val (.long x1), .second, .val (.long x2), .second, .val (.long x3), .second, .val (.long x4), .second, .unset, .unset, .unset, .unset, .unset, .unset, .unset, .unset, .unset, .unset, .unset, .unset, .unset, .unset, .unset] [] := by first | (simp [entryFrame, mkF, argsToLocals, Value.category, maxLocals]; done) | rfl
set_option maxRecDepth 65536 in
set_option maxHeartbeats 40000000 in
theorem rm0_2F (l : Launch) (Z : State) (a0 : Array Value) (hw : ∀ d ∈ tables_1, d.before a0 Z = true) (ws : List Jvm.Cond) (p0 : Int32) (p1 : Int64) (p2 : Int64) (p3 : Int64) (p4 : Int64) (as_LAST_INDEX_FIRST : Addr) (as_FIRST_INDEX_FIRST : Addr) (x0 : Int64) (x1 : Int64) (x2 : Int64) (xe : Int64) (h0 : Heap) (n0 : Nat) (Z0 : n0 ≤ h0.size) (S_LAST_INDEX_FIRST : Sta Z h0 "com/example/halyard/halyard/east/ArrayStorage" "LAST_INDEX_FIRST" "Lcom/example/halyard/halyard/east/ArrayStorage;" (.ref as_LAST_INDEX_FIRST)) (E_LAST_INDEX_FIRST : Exa Z h0 as_LAST_INDEX_FIRST "com/example/halyard/halyard/east/ArrayStorage") (O_LAST_INDEX_FIRST : Fld Z h0 as_LAST_INDEX_FIRST "java/lang/Enum" "ordinal" "I" (.int 1)) (S_FIRST_INDEX_FIRST : Sta Z h0 "com/example/halyard/halyard/east/ArrayStorage" "FIRST_INDEX_FIRST" "Lcom/example/halyard/halyard/east/ArrayStorage;" (.ref as_FIRST_INDEX_FIRST)) (E_FIRST_INDEX_FIRST : Exa Z h0 as_FIRST_INDEX_FIRST "com/example/halyard/halyard/east/ArrayStorage") (O_FIRST_INDEX_FIRST : Fld Z h0 as_FIRST_INDEX_FIRST "java/lang/Enum" "ordinal" "I" (.int 0)) (hx0 : (p1 &&& (65535 : Int64)) = x0) (hx1 : (p2 &&& (65535 : Int64)) = x1) (hx2 : (p3 &&& (65535 : Int64)) = x2) (hxe : (p4 &&& (32767 : Int64)) = xe) (b1 : ¬ ((p0 &&& (1 : Int32)) = (0 : Int32))) (hn : (((p0.toUInt32 >>> ((1 : Int32) &&& 31).toUInt32).toInt32) &&& (3 : Int32)) = (2 : Int32)) (hne : ¬ (as_LAST_INDEX_FIRST = as_FIRST_INDEX_FIRST)) :
    MetFree l x (head1 (Jvm.Cond.code x code maxLocals ret :: ws) room_1) (fun a U => a = #[(.int p0), (.long p1), (.long p2), (.long p3), (.long p4)] ∧ Z.Warmed39 U.vm ∧ U.heap = h0) (fun _ _ _ _ _ => True) (fun _ U o U' => ∃ v L, o = .returned v ∧ Q0 Z  h0 n0 v U'.heap L ∧ FrameEnd U o U' L 16 128) := by
  refine MetFree.of_bodySF (plainFor_of_name pn_1) hisR ?_
  intro p e s m args below meth c s₁ Bd hml0 hP hK
  obtain ⟨rfl, hZ, hh⟩ := hP
  have hx := Bd.exec
  have hby := Bd.bytes
  have hml : c.maxLocals = 24 := hml0
  have hown : s.vm.findClass "com/example/halyard/halyard/east/ArrayStorageStridesPinLaw" = some m.cls := findClass_of_methodNamed Bd.named
  have hnm := (name_of_methodNamed Bd.named Bd.method).1
  have X0 : Stand p l e room_1 s m #[(.int p0), (.long p1), (.long p2), (.long p3), (.long p4)] below meth c s₁ [] 0 0 := Stand.of_body Bd
  have e0 : s₁.heap = h0 := by rw [← hh, Bd.state]; rfl
  have N0 := Fr.nil n0
  refine own_go (own_lift (fun t k => castTop (ef_rm0_2F m p0 p1 p2 p3 p4) k) ?_)
  show own_Go p.tables e below (s₁.setTop (mkF m 0 #[iv p0, jv p1, .second, jv p2, .second, jv p3, .second, jv p4, .second, .unset, .unset, .unset, .unset, .unset, .unset, .unset, .unset, .unset, .unset, .unset, .unset, .unset, .unset, .unset] [])) _
  have sg1 : ∀ t, Steps p.tables e below (s₁.setTop (mkF m 18 #[iv p0, jv p1, .second, jv p2, .second, jv p3, .second, jv p4, .second, iv 1, .unset, .unset, .unset, .unset, .unset, .unset, .unset, .unset, .unset, .unset, .unset, .unset, .unset, .unset] [(.int (((p0.toUInt32 >>> ((1 : Int32) &&& 31).toUInt32).toInt32) &&& (3 : Int32)))])) t → Steps p.tables e below (s₁.setTop (mkF m 0 #[iv p0, jv p1, .second, jv p2, .second, jv p3, .second, jv p4, .second, .unset, .unset, .unset, .unset, .unset, .unset, .unset, .unset, .unset, .unset, .unset, .unset, .unset, .unset, .unset] [])) t := by
    intro t k
    refine XS.iloadN X0.here hx rfl (hb hby at_0) rfl ?_
    show Steps p.tables e below (s₁.setTop (mkF m 1 #[iv p0, jv p1, .second, jv p2, .second, jv p3, .second, jv p4, .second, .unset, .unset, .unset, .unset, .unset, .unset, .unset, .unset, .unset, .unset, .unset, .unset, .unset, .unset, .unset] [(.int p0)])) _
    refine XS.iconst X0.here hx rfl (hb hby at_1) ?_
    refine XS.iand X0.here hx rfl (hb hby at_2) rfl ?_
    show Steps p.tables e below (s₁.setTop (mkF m 3 #[iv p0, jv p1, .second, jv p2, .second, jv p3, .second, jv p4, .second, .unset, .unset, .unset, .unset, .unset, .unset, .unset, .unset, .unset, .unset, .unset, .unset, .unset, .unset, .unset] [(.int (p0 &&& (1 : Int32)))])) _
    refine XS.ifNo X0.here hx rfl (hb hby at_3) rfl ((if0 _ _).trans (feq b1).1) ?_
    refine XS.iconst X0.here hx rfl (hb hby at_6) ?_
    show Steps p.tables e below (s₁.setTop (mkF m 7 #[iv p0, jv p1, .second, jv p2, .second, jv p3, .second, jv p4, .second, .unset, .unset, .unset, .unset, .unset, .unset, .unset, .unset, .unset, .unset, .unset, .unset, .unset, .unset, .unset] [(.int 1)])) _
    refine XS.goto X0.here hx rfl (pc0 := 7) (pc' := 11) rfl (hb hby at_7) (by decide) (by decide) ?_
    refine XS.istore X0.here hx rfl (hb hby at_11) rfl (l' := #[iv p0, jv p1, .second, jv p2, .second, jv p3, .second, jv p4, .second, iv 1, .unset, .unset, .unset, .unset, .unset, .unset, .unset, .unset, .unset, .unset, .unset, .unset, .unset, .unset]) rfl ?_
    show Steps p.tables e below (s₁.setTop (mkF m 13 #[iv p0, jv p1, .second, jv p2, .second, jv p3, .second, jv p4, .second, iv 1, .unset, .unset, .unset, .unset, .unset, .unset, .unset, .unset, .unset, .unset, .unset, .unset, .unset, .unset] [])) _
    refine XS.iloadN X0.here hx rfl (hb hby at_13) rfl ?_
    refine XS.iconst X0.here hx rfl (hb hby at_14) ?_
    show Steps p.tables e below (s₁.setTop (mkF m 15 #[iv p0, jv p1, .second, jv p2, .second, jv p3, .second, jv p4, .second, iv 1, .unset, .unset, .unset, .unset, .unset, .unset, .unset, .unset, .unset, .unset, .unset, .unset, .unset, .unset] [(.int 1), (.int p0)])) _
    refine XS.iushr X0.here hx rfl (hb hby at_15) rfl ?_
    refine XS.iconst X0.here hx rfl (hb hby at_16) ?_
    show Steps p.tables e below (s₁.setTop (mkF m 17 #[iv p0, jv p1, .second, jv p2, .second, jv p3, .second, jv p4, .second, iv 1, .unset, .unset, .unset, .unset, .unset, .unset, .unset, .unset, .unset, .unset, .unset, .unset, .unset, .unset] [(.int 3), (.int ((p0.toUInt32 >>> ((1 : Int32) &&& 31).toUInt32).toInt32))])) _
    refine XS.iand X0.here hx rfl (hb hby at_17) rfl ?_
    show Steps p.tables e below (s₁.setTop (mkF m 18 #[iv p0, jv p1, .second, jv p2, .second, jv p3, .second, jv p4, .second, iv 1, .unset, .unset, .unset, .unset, .unset, .unset, .unset, .unset, .unset, .unset, .unset, .unset, .unset, .unset] [(.int (((p0.toUInt32 >>> ((1 : Int32) &&& 31).toUInt32).toInt32) &&& (3 : Int32)))])) _
    exact k
  refine own_lift sg1 ?_
  show own_Go p.tables e below (s₁.setTop (mkF m 18 #[iv p0, jv p1, .second, jv p2, .second, jv p3, .second, jv p4, .second, iv 1, .unset, .unset, .unset, .unset, .unset, .unset, .unset, .unset, .unset, .unset, .unset, .unset, .unset, .unset] [(.int (((p0.toUInt32 >>> ((1 : Int32) &&& 31).toUInt32).toInt32) &&& (3 : Int32)))])) _
  rw [hn]
  show own_Go p.tables e below (s₁.setTop (mkF m 18 #[iv p0, jv p1, .second, jv p2, .second, jv p3, .second, jv p4, .second, iv 1, .unset, .unset, .unset, .unset, .unset, .unset, .unset, .unset, .unset, .unset, .unset, .unset, .unset, .unset] [(.int 2)])) _
  have sg2 : ∀ t, Steps p.tables e below (s₁.setTop (mkF m 25 #[iv p0, jv p1, .second, jv p2, .second, jv p3, .second, jv p4, .second, iv 1, iv 2, .unset, .unset, .unset, .unset, .unset, .unset, .unset, .unset, .unset, .unset, .unset, .unset, .unset] [(.long (p1 &&& (65535 : Int64)))])) t → Steps p.tables e below (s₁.setTop (mkF m 18 #[iv p0, jv p1, .second, jv p2, .second, jv p3, .second, jv p4, .second, iv 1, .unset, .unset, .unset, .unset, .unset, .unset, .unset, .unset, .unset, .unset, .unset, .unset, .unset, .unset] [(.int 2)])) t := by
    intro t k
    refine XS.istore X0.here hx rfl (hb hby at_18) rfl (l' := #[iv p0, jv p1, .second, jv p2, .second, jv p3, .second, jv p4, .second, iv 1, iv 2, .unset, .unset, .unset, .unset, .unset, .unset, .unset, .unset, .unset, .unset, .unset, .unset, .unset]) rfl ?_
    show Steps p.tables e below (s₁.setTop (mkF m 20 #[iv p0, jv p1, .second, jv p2, .second, jv p3, .second, jv p4, .second, iv 1, iv 2, .unset, .unset, .unset, .unset, .unset, .unset, .unset, .unset, .unset, .unset, .unset, .unset, .unset] [])) _
    refine XS.lloadN X0.here hx rfl (hb hby at_20) rfl ?_
    refine X0.ldc2Long hx hown (mvT hZ (wd hw 0 rfl)) (g := (mkF m 21 #[iv p0, jv p1, .second, jv p2, .second, jv p3, .second, jv p4, .second, iv 1, iv 2, .unset, .unset, .unset, .unset, .unset, .unset, .unset, .unset, .unset, .unset, .unset, .unset, .unset] [(.long p1)])) rfl (hb hby at_21) _ ?_
    show Steps p.tables e below (s₁.setTop (mkF m 24 #[iv p0, jv p1, .second, jv p2, .second, jv p3, .second, jv p4, .second, iv 1, iv 2, .unset, .unset, .unset, .unset, .unset, .unset, .unset, .unset, .unset, .unset, .unset, .unset, .unset] [(.long 65535), (.long p1)])) _
    refine XS.land X0.here hx rfl (hb hby at_24) rfl ?_
    show Steps p.tables e below (s₁.setTop (mkF m 25 #[iv p0, jv p1, .second, jv p2, .second, jv p3, .second, jv p4, .second, iv 1, iv 2, .unset, .unset, .unset, .unset, .unset, .unset, .unset, .unset, .unset, .unset, .unset, .unset, .unset] [(.long (p1 &&& (65535 : Int64)))])) _
    exact k
  refine own_lift sg2 ?_
  show own_Go p.tables e below (s₁.setTop (mkF m 25 #[iv p0, jv p1, .second, jv p2, .second, jv p3, .second, jv p4, .second, iv 1, iv 2, .unset, .unset, .unset, .unset, .unset, .unset, .unset, .unset, .unset, .unset, .unset, .unset, .unset] [(.long (p1 &&& (65535 : Int64)))])) _
  rw [hx0]
  show own_Go p.tables e below (s₁.setTop (mkF m 25 #[iv p0, jv p1, .second, jv p2, .second, jv p3, .second, jv p4, .second, iv 1, iv 2, .unset, .unset, .unset, .unset, .unset, .unset, .unset, .unset, .unset, .unset, .unset, .unset, .unset] [(.long x0)])) _
  have sg3 : ∀ t, Steps p.tables e below (s₁.setTop (mkF m 32 #[iv p0, jv p1, .second, jv p2, .second, jv p3, .second, jv p4, .second, iv 1, iv 2, jv x0, .second, .unset, .unset, .unset, .unset, .unset, .unset, .unset, .unset, .unset, .unset, .unset] [(.long (p2 &&& (65535 : Int64)))])) t → Steps p.tables e below (s₁.setTop (mkF m 25 #[iv p0, jv p1, .second, jv p2, .second, jv p3, .second, jv p4, .second, iv 1, iv 2, .unset, .unset, .unset, .unset, .unset, .unset, .unset, .unset, .unset, .unset, .unset, .unset, .unset] [(.long x0)])) t := by
    intro t k
    refine XS.lstore X0.here hx rfl (hb hby at_25) rfl (l' := #[iv p0, jv p1, .second, jv p2, .second, jv p3, .second, jv p4, .second, iv 1, iv 2, jv x0, .second, .unset, .unset, .unset, .unset, .unset, .unset, .unset, .unset, .unset, .unset, .unset]) rfl ?_
    show Steps p.tables e below (s₁.setTop (mkF m 27 #[iv p0, jv p1, .second, jv p2, .second, jv p3, .second, jv p4, .second, iv 1, iv 2, jv x0, .second, .unset, .unset, .unset, .unset, .unset, .unset, .unset, .unset, .unset, .unset, .unset] [])) _
    refine XS.lloadN X0.here hx rfl (hb hby at_27) rfl ?_
    refine X0.ldc2Long hx hown (mvT hZ (wd hw 0 rfl)) (g := (mkF m 28 #[iv p0, jv p1, .second, jv p2, .second, jv p3, .second, jv p4, .second, iv 1, iv 2, jv x0, .second, .unset, .unset, .unset, .unset, .unset, .unset, .unset, .unset, .unset, .unset, .unset] [(.long p2)])) rfl (hb hby at_28) _ ?_
    show Steps p.tables e below (s₁.setTop (mkF m 31 #[iv p0, jv p1, .second, jv p2, .second, jv p3, .second, jv p4, .second, iv 1, iv 2, jv x0, .second, .unset, .unset, .unset, .unset, .unset, .unset, .unset, .unset, .unset, .unset, .unset] [(.long 65535), (.long p2)])) _
    refine XS.land X0.here hx rfl (hb hby at_31) rfl ?_
    show Steps p.tables e below (s₁.setTop (mkF m 32 #[iv p0, jv p1, .second, jv p2, .second, jv p3, .second, jv p4, .second, iv 1, iv 2, jv x0, .second, .unset, .unset, .unset, .unset, .unset, .unset, .unset, .unset, .unset, .unset, .unset] [(.long (p2 &&& (65535 : Int64)))])) _
    exact k
  refine own_lift sg3 ?_
  show own_Go p.tables e below (s₁.setTop (mkF m 32 #[iv p0, jv p1, .second, jv p2, .second, jv p3, .second, jv p4, .second, iv 1, iv 2, jv x0, .second, .unset, .unset, .unset, .unset, .unset, .unset, .unset, .unset, .unset, .unset, .unset] [(.long (p2 &&& (65535 : Int64)))])) _
  rw [hx1]
  show own_Go p.tables e below (s₁.setTop (mkF m 32 #[iv p0, jv p1, .second, jv p2, .second, jv p3, .second, jv p4, .second, iv 1, iv 2, jv x0, .second, .unset, .unset, .unset, .unset, .unset, .unset, .unset, .unset, .unset, .unset, .unset] [(.long x1)])) _
  have sg4 : ∀ t, Steps p.tables e below (s₁.setTop (mkF m 40 #[iv p0, jv p1, .second, jv p2, .second, jv p3, .second, jv p4, .second, iv 1, iv 2, jv x0, .second, jv x1, .second, .unset, .unset, .unset, .unset, .unset, .unset, .unset, .unset, .unset] [(.long (p3 &&& (65535 : Int64)))])) t → Steps p.tables e below (s₁.setTop (mkF m 32 #[iv p0, jv p1, .second, jv p2, .second, jv p3, .second, jv p4, .second, iv 1, iv 2, jv x0, .second, .unset, .unset, .unset, .unset, .unset, .unset, .unset, .unset, .unset, .unset, .unset] [(.long x1)])) t := by
    intro t k
    refine XS.lstore X0.here hx rfl (hb hby at_32) rfl (l' := #[iv p0, jv p1, .second, jv p2, .second, jv p3, .second, jv p4, .second, iv 1, iv 2, jv x0, .second, jv x1, .second, .unset, .unset, .unset, .unset, .unset, .unset, .unset, .unset, .unset]) rfl ?_
    show Steps p.tables e below (s₁.setTop (mkF m 34 #[iv p0, jv p1, .second, jv p2, .second, jv p3, .second, jv p4, .second, iv 1, iv 2, jv x0, .second, jv x1, .second, .unset, .unset, .unset, .unset, .unset, .unset, .unset, .unset, .unset] [])) _
    refine XS.lload X0.here hx rfl (hb hby at_34) rfl ?_
    refine X0.ldc2Long hx hown (mvT hZ (wd hw 0 rfl)) (g := (mkF m 36 #[iv p0, jv p1, .second, jv p2, .second, jv p3, .second, jv p4, .second, iv 1, iv 2, jv x0, .second, jv x1, .second, .unset, .unset, .unset, .unset, .unset, .unset, .unset, .unset, .unset] [(.long p3)])) rfl (hb hby at_36) _ ?_
    show Steps p.tables e below (s₁.setTop (mkF m 39 #[iv p0, jv p1, .second, jv p2, .second, jv p3, .second, jv p4, .second, iv 1, iv 2, jv x0, .second, jv x1, .second, .unset, .unset, .unset, .unset, .unset, .unset, .unset, .unset, .unset] [(.long 65535), (.long p3)])) _
    refine XS.land X0.here hx rfl (hb hby at_39) rfl ?_
    show Steps p.tables e below (s₁.setTop (mkF m 40 #[iv p0, jv p1, .second, jv p2, .second, jv p3, .second, jv p4, .second, iv 1, iv 2, jv x0, .second, jv x1, .second, .unset, .unset, .unset, .unset, .unset, .unset, .unset, .unset, .unset] [(.long (p3 &&& (65535 : Int64)))])) _
    exact k
  refine own_lift sg4 ?_
  show own_Go p.tables e below (s₁.setTop (mkF m 40 #[iv p0, jv p1, .second, jv p2, .second, jv p3, .second, jv p4, .second, iv 1, iv 2, jv x0, .second, jv x1, .second, .unset, .unset, .unset, .unset, .unset, .unset, .unset, .unset, .unset] [(.long (p3 &&& (65535 : Int64)))])) _
  rw [hx2]
  show own_Go p.tables e below (s₁.setTop (mkF m 40 #[iv p0, jv p1, .second, jv p2, .second, jv p3, .second, jv p4, .second, iv 1, iv 2, jv x0, .second, jv x1, .second, .unset, .unset, .unset, .unset, .unset, .unset, .unset, .unset, .unset] [(.long x2)])) _
  have sg5 : ∀ t, Steps p.tables e below (s₁.setTop (mkF m 48 #[iv p0, jv p1, .second, jv p2, .second, jv p3, .second, jv p4, .second, iv 1, iv 2, jv x0, .second, jv x1, .second, jv x2, .second, .unset, .unset, .unset, .unset, .unset, .unset, .unset] [(.long (p4 &&& (32767 : Int64)))])) t → Steps p.tables e below (s₁.setTop (mkF m 40 #[iv p0, jv p1, .second, jv p2, .second, jv p3, .second, jv p4, .second, iv 1, iv 2, jv x0, .second, jv x1, .second, .unset, .unset, .unset, .unset, .unset, .unset, .unset, .unset, .unset] [(.long x2)])) t := by
    intro t k
    refine XS.lstore X0.here hx rfl (hb hby at_40) rfl (l' := #[iv p0, jv p1, .second, jv p2, .second, jv p3, .second, jv p4, .second, iv 1, iv 2, jv x0, .second, jv x1, .second, jv x2, .second, .unset, .unset, .unset, .unset, .unset, .unset, .unset]) rfl ?_
    show Steps p.tables e below (s₁.setTop (mkF m 42 #[iv p0, jv p1, .second, jv p2, .second, jv p3, .second, jv p4, .second, iv 1, iv 2, jv x0, .second, jv x1, .second, jv x2, .second, .unset, .unset, .unset, .unset, .unset, .unset, .unset] [])) _
    refine XS.lload X0.here hx rfl (hb hby at_42) rfl ?_
    refine X0.ldc2Long hx hown (mvT hZ (wd hw 1 rfl)) (g := (mkF m 44 #[iv p0, jv p1, .second, jv p2, .second, jv p3, .second, jv p4, .second, iv 1, iv 2, jv x0, .second, jv x1, .second, jv x2, .second, .unset, .unset, .unset, .unset, .unset, .unset, .unset] [(.long p4)])) rfl (hb hby at_44) _ ?_
    show Steps p.tables e below (s₁.setTop (mkF m 47 #[iv p0, jv p1, .second, jv p2, .second, jv p3, .second, jv p4, .second, iv 1, iv 2, jv x0, .second, jv x1, .second, jv x2, .second, .unset, .unset, .unset, .unset, .unset, .unset, .unset] [(.long 32767), (.long p4)])) _
    refine XS.land X0.here hx rfl (hb hby at_47) rfl ?_
    show Steps p.tables e below (s₁.setTop (mkF m 48 #[iv p0, jv p1, .second, jv p2, .second, jv p3, .second, jv p4, .second, iv 1, iv 2, jv x0, .second, jv x1, .second, jv x2, .second, .unset, .unset, .unset, .unset, .unset, .unset, .unset] [(.long (p4 &&& (32767 : Int64)))])) _
    exact k
  refine own_lift sg5 ?_
  show own_Go p.tables e below (s₁.setTop (mkF m 48 #[iv p0, jv p1, .second, jv p2, .second, jv p3, .second, jv p4, .second, iv 1, iv 2, jv x0, .second, jv x1, .second, jv x2, .second, .unset, .unset, .unset, .unset, .unset, .unset, .unset] [(.long (p4 &&& (32767 : Int64)))])) _
  rw [hxe]
  show own_Go p.tables e below (s₁.setTop (mkF m 48 #[iv p0, jv p1, .second, jv p2, .second, jv p3, .second, jv p4, .second, iv 1, iv 2, jv x0, .second, jv x1, .second, jv x2, .second, .unset, .unset, .unset, .unset, .unset, .unset, .unset] [(.long xe)])) _
  have sg6 : ∀ t, Steps p.tables e below (s₁.setTop (mkF m 52 #[iv p0, jv p1, .second, jv p2, .second, jv p3, .second, jv p4, .second, iv 1, iv 2, jv x0, .second, jv x1, .second, jv x2, .second, jv xe, .second, .unset, .unset, .unset, .unset, .unset] [(.int 2)])) t → Steps p.tables e below (s₁.setTop (mkF m 48 #[iv p0, jv p1, .second, jv p2, .second, jv p3, .second, jv p4, .second, iv 1, iv 2, jv x0, .second, jv x1, .second, jv x2, .second, .unset, .unset, .unset, .unset, .unset, .unset, .unset] [(.long xe)])) t := by
    intro t k
    refine XS.lstore X0.here hx rfl (hb hby at_48) rfl (l' := #[iv p0, jv p1, .second, jv p2, .second, jv p3, .second, jv p4, .second, iv 1, iv 2, jv x0, .second, jv x1, .second, jv x2, .second, jv xe, .second, .unset, .unset, .unset, .unset, .unset]) rfl ?_
    show Steps p.tables e below (s₁.setTop (mkF m 50 #[iv p0, jv p1, .second, jv p2, .second, jv p3, .second, jv p4, .second, iv 1, iv 2, jv x0, .second, jv x1, .second, jv x2, .second, jv xe, .second, .unset, .unset, .unset, .unset, .unset] [])) _
    refine XS.iload X0.here hx rfl (hb hby at_50) rfl ?_
    show Steps p.tables e below (s₁.setTop (mkF m 52 #[iv p0, jv p1, .second, jv p2, .second, jv p3, .second, jv p4, .second, iv 1, iv 2, jv x0, .second, jv x1, .second, jv x2, .second, jv xe, .second, .unset, .unset, .unset, .unset, .unset] [(.int 2)])) _
    exact k
  refine own_lift sg6 ?_
  show own_Go p.tables e below (s₁.setTop (mkF m 52 #[iv p0, jv p1, .second, jv p2, .second, jv p3, .second, jv p4, .second, iv 1, iv 2, jv x0, .second, jv x1, .second, jv x2, .second, jv xe, .second, .unset, .unset, .unset, .unset, .unset] [(.int 2)])) _
  obtain ⟨T7, h7, ka7, X7, e7, Ex7, Ax7, st7⟩ := newP X0 hx hZ (wd hw 2 rfl) e0 (g := (mkF m 52 #[iv p0, jv p1, .second, jv p2, .second, jv p3, .second, jv p4, .second, iv 1, iv 2, jv x0, .second, jv x1, .second, jv x2, .second, jv xe, .second, .unset, .unset, .unset, .unset, .unset] [(.int 2)])) rfl (hb hby at_52) rfl (by decide) (cap := 2) (by decide) (by decide) (by decide) (by decide)
  obtain ⟨ob7, g7⟩ : ∃ z, z = h0.size := ⟨_, rfl⟩
  rw [← g7] at Ax7 st7
  have ne8 : as_LAST_INDEX_FIRST ≠ ob7 := Nat.ne_of_lt (Nat.lt_of_lt_of_le E_LAST_INDEX_FIRST.lt (Nat.le_of_eq g7.symm))
  have ne9 : as_FIRST_INDEX_FIRST ≠ ob7 := Nat.ne_of_lt (Nat.lt_of_lt_of_le E_FIRST_INDEX_FIRST.lt (Nat.le_of_eq g7.symm))
  have Z7 : n0 ≤ h7.size := Nat.le_trans Z0 Ex7.1
  have ge7 : n0 ≤ ob7 := Nat.le_trans Z0 (Nat.le_of_eq g7.symm)
  have Vn7 : Arv Z h7 ob7 ka7 .long (2 : Int32) [(.long 0), (.long 0)] (.long 0) := (Arv.new Ax7 (by decide)).pad (pad_rep [] (.long 0) 2)
  refine own_lift st7 ?_
  show own_Go p.tables e below (T7.setTop (mkF m 54 #[iv p0, jv p1, .second, jv p2, .second, jv p3, .second, jv p4, .second, iv 1, iv 2, jv x0, .second, jv x1, .second, jv x2, .second, jv xe, .second, .unset, .unset, .unset, .unset, .unset] [(.ref ob7)])) _
  have sg10 : ∀ t, Steps p.tables e below (T7.setTop (mkF m 66 #[iv p0, jv p1, .second, jv p2, .second, jv p3, .second, jv p4, .second, iv 1, iv 2, jv x0, .second, jv x1, .second, jv x2, .second, jv xe, .second, rv ob7, .unset, .unset, .unset, .unset] [(.long x0), (.int 0), (.ref ob7)])) t → Steps p.tables e below (T7.setTop (mkF m 54 #[iv p0, jv p1, .second, jv p2, .second, jv p3, .second, jv p4, .second, iv 1, iv 2, jv x0, .second, jv x1, .second, jv x2, .second, jv xe, .second, .unset, .unset, .unset, .unset, .unset] [(.ref ob7)])) t := by
    intro t k
    refine XS.astore X7.here hx rfl (hb hby at_54) rfl rfl (l' := #[iv p0, jv p1, .second, jv p2, .second, jv p3, .second, jv p4, .second, iv 1, iv 2, jv x0, .second, jv x1, .second, jv x2, .second, jv xe, .second, rv ob7, .unset, .unset, .unset, .unset]) rfl ?_
    show Steps p.tables e below (T7.setTop (mkF m 56 #[iv p0, jv p1, .second, jv p2, .second, jv p3, .second, jv p4, .second, iv 1, iv 2, jv x0, .second, jv x1, .second, jv x2, .second, jv xe, .second, rv ob7, .unset, .unset, .unset, .unset] [])) _
    refine XS.iload X7.here hx rfl (hb hby at_56) rfl ?_
    refine XS.ifNo X7.here hx rfl (hb hby at_58) rfl ((if0 _ _).trans (tlt (by decide : (0 : Int32) < (2 : Int32))).2.2.2) ?_
    show Steps p.tables e below (T7.setTop (mkF m 61 #[iv p0, jv p1, .second, jv p2, .second, jv p3, .second, jv p4, .second, iv 1, iv 2, jv x0, .second, jv x1, .second, jv x2, .second, jv xe, .second, rv ob7, .unset, .unset, .unset, .unset] [])) _
    refine XS.aload X7.here hx rfl (hb hby at_61) rfl rfl ?_
    refine XS.iconst X7.here hx rfl (hb hby at_63) ?_
    show Steps p.tables e below (T7.setTop (mkF m 64 #[iv p0, jv p1, .second, jv p2, .second, jv p3, .second, jv p4, .second, iv 1, iv 2, jv x0, .second, jv x1, .second, jv x2, .second, jv xe, .second, rv ob7, .unset, .unset, .unset, .unset] [(.int 0), (.ref ob7)])) _
    refine XS.lload X7.here hx rfl (hb hby at_64) rfl ?_
    show Steps p.tables e below (T7.setTop (mkF m 66 #[iv p0, jv p1, .second, jv p2, .second, jv p3, .second, jv p4, .second, iv 1, iv 2, jv x0, .second, jv x1, .second, jv x2, .second, jv xe, .second, rv ob7, .unset, .unset, .unset, .unset] [(.long x0), (.int 0), (.ref ob7)])) _
    exact k
  refine own_lift sg10 ?_
  show own_Go p.tables e below (T7.setTop (mkF m 66 #[iv p0, jv p1, .second, jv p2, .second, jv p3, .second, jv p4, .second, iv 1, iv 2, jv x0, .second, jv x1, .second, jv x2, .second, jv xe, .second, rv ob7, .unset, .unset, .unset, .unset] [(.long x0), (.int 0), (.ref ob7)])) _
  obtain ⟨cl11, Ar11, qx11, Sx11, N11', H11', G11'⟩ := id (Vn7)
  have hin11 : ¬ ((0 : Int32) < 0 ∨ cl11.slots.size ≤ ((0 : Int32)).toNatClampNeg) := inb_of Sx11 ⟨(by decide : ¬ ((0 : Int32) < (0 : Int32))), (by decide : (0 : Int32) < (2 : Int32))⟩
  obtain ⟨T12, h12, X12, e12, W12, st12⟩ := stJ X7 hx hZ e7 Ar11 (j := (0 : Int32)) hin11 (g := (mkF m 66 #[iv p0, jv p1, .second, jv p2, .second, jv p3, .second, jv p4, .second, iv 1, iv 2, jv x0, .second, jv x1, .second, jv x2, .second, jv xe, .second, rv ob7, .unset, .unset, .unset, .unset] [(.long x0), (.int 0), (.ref ob7)])) rfl rfl (hb hby at_66)
  have N12 := Fr.snoc X12 N0 ge7
  have Z12 : n0 ≤ h12.size := Nat.le_trans Z7 (Nat.le_of_eq W12.size.symm)
  have Vn12 : Arv Z h12 ob7 ka7 .long (2 : Int32) [(.long x0), (.long 0)] (.long 0) := Arv.set Ar11 qx11 Sx11 N11' H11' G11' rfl W12 0 rfl (Nat.le_of_ble_eq_true rfl)
  refine own_lift st12 ?_
  show own_Go p.tables e below (T12.setTop (mkF m 67 #[iv p0, jv p1, .second, jv p2, .second, jv p3, .second, jv p4, .second, iv 1, iv 2, jv x0, .second, jv x1, .second, jv x2, .second, jv xe, .second, rv ob7, .unset, .unset, .unset, .unset] [])) _
  have sg13 : ∀ t, Steps p.tables e below (T12.setTop (mkF m 78 #[iv p0, jv p1, .second, jv p2, .second, jv p3, .second, jv p4, .second, iv 1, iv 2, jv x0, .second, jv x1, .second, jv x2, .second, jv xe, .second, rv ob7, .unset, .unset, .unset, .unset] [(.long x1), (.int 1), (.ref ob7)])) t → Steps p.tables e below (T12.setTop (mkF m 67 #[iv p0, jv p1, .second, jv p2, .second, jv p3, .second, jv p4, .second, iv 1, iv 2, jv x0, .second, jv x1, .second, jv x2, .second, jv xe, .second, rv ob7, .unset, .unset, .unset, .unset] [])) t := by
    intro t k
    refine XS.iload X12.here hx rfl (hb hby at_67) rfl ?_
    show Steps p.tables e below (T12.setTop (mkF m 69 #[iv p0, jv p1, .second, jv p2, .second, jv p3, .second, jv p4, .second, iv 1, iv 2, jv x0, .second, jv x1, .second, jv x2, .second, jv xe, .second, rv ob7, .unset, .unset, .unset, .unset] [(.int 2)])) _
    refine XS.iconst X12.here hx rfl (hb hby at_69) ?_
    refine XS.icmpNo X12.here hx rfl (hb hby at_70) rfl (tlt (by decide : (1 : Int32) < (2 : Int32))).2.2.2 ?_
    show Steps p.tables e below (T12.setTop (mkF m 73 #[iv p0, jv p1, .second, jv p2, .second, jv p3, .second, jv p4, .second, iv 1, iv 2, jv x0, .second, jv x1, .second, jv x2, .second, jv xe, .second, rv ob7, .unset, .unset, .unset, .unset] [])) _
    refine XS.aload X12.here hx rfl (hb hby at_73) rfl rfl ?_
    refine XS.iconst X12.here hx rfl (hb hby at_75) ?_
    show Steps p.tables e below (T12.setTop (mkF m 76 #[iv p0, jv p1, .second, jv p2, .second, jv p3, .second, jv p4, .second, iv 1, iv 2, jv x0, .second, jv x1, .second, jv x2, .second, jv xe, .second, rv ob7, .unset, .unset, .unset, .unset] [(.int 1), (.ref ob7)])) _
    refine XS.lload X12.here hx rfl (hb hby at_76) rfl ?_
    show Steps p.tables e below (T12.setTop (mkF m 78 #[iv p0, jv p1, .second, jv p2, .second, jv p3, .second, jv p4, .second, iv 1, iv 2, jv x0, .second, jv x1, .second, jv x2, .second, jv xe, .second, rv ob7, .unset, .unset, .unset, .unset] [(.long x1), (.int 1), (.ref ob7)])) _
    exact k
  refine own_lift sg13 ?_
  show own_Go p.tables e below (T12.setTop (mkF m 78 #[iv p0, jv p1, .second, jv p2, .second, jv p3, .second, jv p4, .second, iv 1, iv 2, jv x0, .second, jv x1, .second, jv x2, .second, jv xe, .second, rv ob7, .unset, .unset, .unset, .unset] [(.long x1), (.int 1), (.ref ob7)])) _
  obtain ⟨cl14, Ar14, qx14, Sx14, N14', H14', G14'⟩ := id (Vn12)
  have hin14 : ¬ ((1 : Int32) < 0 ∨ cl14.slots.size ≤ ((1 : Int32)).toNatClampNeg) := inb_of Sx14 ⟨(by decide : ¬ ((1 : Int32) < (0 : Int32))), (by decide : (1 : Int32) < (2 : Int32))⟩
  obtain ⟨T15, h15, X15, e15, W15, st15⟩ := stJ X12 hx hZ e12 Ar14 (j := (1 : Int32)) hin14 (g := (mkF m 78 #[iv p0, jv p1, .second, jv p2, .second, jv p3, .second, jv p4, .second, iv 1, iv 2, jv x0, .second, jv x1, .second, jv x2, .second, jv xe, .second, rv ob7, .unset, .unset, .unset, .unset] [(.long x1), (.int 1), (.ref ob7)])) rfl rfl (hb hby at_78)
  have N15 := Fr.snoc X15 N12 ge7
  have Z15 : n0 ≤ h15.size := Nat.le_trans Z12 (Nat.le_of_eq W15.size.symm)
  have Vn15 : Arv Z h15 ob7 ka7 .long (2 : Int32) [(.long x0), (.long x1)] (.long 0) := Arv.set Ar14 qx14 Sx14 N14' H14' G14' rfl W15 1 rfl (Nat.le_of_ble_eq_true rfl)
  refine own_lift st15 ?_
  show own_Go p.tables e below (T15.setTop (mkF m 79 #[iv p0, jv p1, .second, jv p2, .second, jv p3, .second, jv p4, .second, iv 1, iv 2, jv x0, .second, jv x1, .second, jv x2, .second, jv xe, .second, rv ob7, .unset, .unset, .unset, .unset] [])) _
  have sg16 : ∀ t, Steps p.tables e below (T15.setTop (mkF m 96 #[iv p0, jv p1, .second, jv p2, .second, jv p3, .second, jv p4, .second, iv 1, iv 2, jv x0, .second, jv x1, .second, jv x2, .second, jv xe, .second, rv ob7, .unset, .unset, .unset, .unset] [])) t → Steps p.tables e below (T15.setTop (mkF m 79 #[iv p0, jv p1, .second, jv p2, .second, jv p3, .second, jv p4, .second, iv 1, iv 2, jv x0, .second, jv x1, .second, jv x2, .second, jv xe, .second, rv ob7, .unset, .unset, .unset, .unset] [])) t := by
    intro t k
    refine XS.iload X15.here hx rfl (hb hby at_79) rfl ?_
    show Steps p.tables e below (T15.setTop (mkF m 81 #[iv p0, jv p1, .second, jv p2, .second, jv p3, .second, jv p4, .second, iv 1, iv 2, jv x0, .second, jv x1, .second, jv x2, .second, jv xe, .second, rv ob7, .unset, .unset, .unset, .unset] [(.int 2)])) _
    refine XS.iconst X15.here hx rfl (hb hby at_81) ?_
    refine XS.icmpYes X15.here hx rfl (pc0 := 82) (pc' := 91) rfl (hb hby at_82) rfl (flt (by decide : ¬ ((2 : Int32) < (2 : Int32)))).2.2.2 (by decide) (by decide) ?_
    show Steps p.tables e below (T15.setTop (mkF m 91 #[iv p0, jv p1, .second, jv p2, .second, jv p3, .second, jv p4, .second, iv 1, iv 2, jv x0, .second, jv x1, .second, jv x2, .second, jv xe, .second, rv ob7, .unset, .unset, .unset, .unset] [])) _
    refine XS.iload X15.here hx rfl (hb hby at_91) rfl ?_
    refine XS.ifNo X15.here hx rfl (hb hby at_93) rfl ((if0 _ _).trans (feq (by decide : ¬ ((1 : Int32) = (0 : Int32)))).1) ?_
    show Steps p.tables e below (T15.setTop (mkF m 96 #[iv p0, jv p1, .second, jv p2, .second, jv p3, .second, jv p4, .second, iv 1, iv 2, jv x0, .second, jv x1, .second, jv x2, .second, jv xe, .second, rv ob7, .unset, .unset, .unset, .unset] [])) _
    exact k
  refine own_lift sg16 ?_
  show own_Go p.tables e below (T15.setTop (mkF m 96 #[iv p0, jv p1, .second, jv p2, .second, jv p3, .second, jv p4, .second, iv 1, iv 2, jv x0, .second, jv x1, .second, jv x2, .second, jv xe, .second, rv ob7, .unset, .unset, .unset, .unset] [])) _
  have Fc17 : Sta Z h15 "com/example/halyard/halyard/east/ArrayStorage" "FIRST_INDEX_FIRST" "Lcom/example/halyard/halyard/east/ArrayStorage;" (.ref as_FIRST_INDEX_FIRST) := (((S_FIRST_INDEX_FIRST.ext Ex7).wr W12).wr W15)
  obtain ⟨T18, X18, e18, st18⟩ := getS X15 hx hZ hown (host := "") (wd hw 11 rfl) Via.refl e15 Fc17 (g := (mkF m 96 #[iv p0, jv p1, .second, jv p2, .second, jv p3, .second, jv p4, .second, iv 1, iv 2, jv x0, .second, jv x1, .second, jv x2, .second, jv xe, .second, rv ob7, .unset, .unset, .unset, .unset] [])) rfl (hb hby at_96)
  refine own_lift st18 ?_
  show own_Go p.tables e below (T18.setTop (mkF m 99 #[iv p0, jv p1, .second, jv p2, .second, jv p3, .second, jv p4, .second, iv 1, iv 2, jv x0, .second, jv x1, .second, jv x2, .second, jv xe, .second, rv ob7, .unset, .unset, .unset, .unset] [(.ref as_FIRST_INDEX_FIRST)])) _
  have sg19 : ∀ t, Steps p.tables e below (T18.setTop (mkF m 113 #[iv p0, jv p1, .second, jv p2, .second, jv p3, .second, jv p4, .second, iv 1, iv 2, jv x0, .second, jv x1, .second, jv x2, .second, jv xe, .second, rv ob7, rv as_FIRST_INDEX_FIRST, .unset, .unset, .unset] [(.long xe), (.ref ob7), (.ref as_FIRST_INDEX_FIRST)])) t → Steps p.tables e below (T18.setTop (mkF m 99 #[iv p0, jv p1, .second, jv p2, .second, jv p3, .second, jv p4, .second, iv 1, iv 2, jv x0, .second, jv x1, .second, jv x2, .second, jv xe, .second, rv ob7, .unset, .unset, .unset, .unset] [(.ref as_FIRST_INDEX_FIRST)])) t := by
    intro t k
    refine XS.goto X18.here hx rfl (pc0 := 99) (pc' := 105) rfl (hb hby at_99) (by decide) (by decide) ?_
    show Steps p.tables e below (T18.setTop (mkF m 105 #[iv p0, jv p1, .second, jv p2, .second, jv p3, .second, jv p4, .second, iv 1, iv 2, jv x0, .second, jv x1, .second, jv x2, .second, jv xe, .second, rv ob7, .unset, .unset, .unset, .unset] [(.ref as_FIRST_INDEX_FIRST)])) _
    refine XS.astore X18.here hx rfl (hb hby at_105) rfl rfl (l' := #[iv p0, jv p1, .second, jv p2, .second, jv p3, .second, jv p4, .second, iv 1, iv 2, jv x0, .second, jv x1, .second, jv x2, .second, jv xe, .second, rv ob7, rv as_FIRST_INDEX_FIRST, .unset, .unset, .unset]) rfl ?_
    refine XS.aload X18.here hx rfl (hb hby at_107) rfl rfl ?_
    show Steps p.tables e below (T18.setTop (mkF m 109 #[iv p0, jv p1, .second, jv p2, .second, jv p3, .second, jv p4, .second, iv 1, iv 2, jv x0, .second, jv x1, .second, jv x2, .second, jv xe, .second, rv ob7, rv as_FIRST_INDEX_FIRST, .unset, .unset, .unset] [(.ref as_FIRST_INDEX_FIRST)])) _
    refine XS.aload X18.here hx rfl (hb hby at_109) rfl rfl ?_
    refine XS.lload X18.here hx rfl (hb hby at_111) rfl ?_
    show Steps p.tables e below (T18.setTop (mkF m 113 #[iv p0, jv p1, .second, jv p2, .second, jv p3, .second, jv p4, .second, iv 1, iv 2, jv x0, .second, jv x1, .second, jv x2, .second, jv xe, .second, rv ob7, rv as_FIRST_INDEX_FIRST, .unset, .unset, .unset] [(.long xe), (.ref ob7), (.ref as_FIRST_INDEX_FIRST)])) _
    exact k
  refine own_lift sg19 ?_
  show own_Go p.tables e below (T18.setTop (mkF m 113 #[iv p0, jv p1, .second, jv p2, .second, jv p3, .second, jv p4, .second, iv 1, iv 2, jv x0, .second, jv x1, .second, jv x2, .second, jv xe, .second, rv ob7, rv as_FIRST_INDEX_FIRST, .unset, .unset, .unset] [(.long xe), (.ref ob7), (.ref as_FIRST_INDEX_FIRST)])) _
  have Fc21 : Exa Z h15 as_FIRST_INDEX_FIRST "com/example/halyard/halyard/east/ArrayStorage" := (((E_FIRST_INDEX_FIRST.ext Ex7).wr W12).wr W15)
  obtain ⟨cq20, kq20, q20a, q20b, q20c⟩ := isOf hZ e18 Fc21
  obtain ⟨_, _, ⟨T20, Lx20, kx20, nx20⟩, -, X20, ⟨Lc20, hQ20, lx20, yx20, zx20⟩, st20⟩ := X18.virtualBack hx (y := (⟨"com/example/halyard/halyard/east/ArrayStorage", "strides", "([JJ)[J"⟩ : MethodName)) (z := (⟨"com/example/halyard/halyard/east/ArrayStorage", "strides", "([JJ)[J"⟩ : MethodName)) hown (mvT hZ (wd hw 6 rfl)) (mvT hZ (wd hw 7 rfl)) (notFace_of_selects (args := #[]) (mvT hZ (wd hw 9 rfl))) (mvT hZ (wd hw 9 rfl)) (mvT hZ (wd hw 8 rfl)) (by decide) (backOf (W := 0) (rmStr2F l Z a0 hw [] as_FIRST_INDEX_FIRST ob7 xe ka7 x0 x1 h15 n0 Z15 Vn15 Fc17) hZ (wd hw 10 rfl) (wd hw 4 rfl) (by decide) (by decide)) q20a q20c (g := (mkF m 113 #[iv p0, jv p1, .second, jv p2, .second, jv p3, .second, jv p4, .second, iv 1, iv 2, jv x0, .second, jv x1, .second, jv x2, .second, jv xe, .second, rv ob7, rv as_FIRST_INDEX_FIRST, .unset, .unset, .unset] [(.long xe), (.ref ob7), (.ref as_FIRST_INDEX_FIRST)])) rfl (by rw [hml]; rfl) (Steps.refl _) (argsL := [(.ref ob7), (.long xe)]) (rest := []) (lenOf pd_0 rfl) rfl (by show 2 * 0 + _ ≤ _; exact Nat.le_of_eq rfl) (hb hby at_113) (fun _ _ => ⟨rfl, e18, (by decide : 1 + 1 ≤ _), (by decide : 2 + 2 ≤ _)⟩)
  dsimp only [Pt.U, Pt.locs, Pt.cells, Pt.slots] at X20 lx20 yx20 zx20 st20 hQ20
  subst lx20 yx20 zx20
  obtain ⟨xb_20, xkb_20, rfl, N20q, p20_0, p20_1, p20_2⟩ := hQ20
  have N20 := Fr.app N15 N20q
  have Fc22 : Exa Z h15 as_LAST_INDEX_FIRST "com/example/halyard/halyard/east/ArrayStorage" := (((E_LAST_INDEX_FIRST.ext Ex7).wr W12).wr W15)
  have ne23 : as_LAST_INDEX_FIRST ≠ xb_20 := Nat.ne_of_lt (Nat.lt_of_lt_of_le Fc22.lt p20_1)
  have ne24 : as_FIRST_INDEX_FIRST ≠ xb_20 := Nat.ne_of_lt (Nat.lt_of_lt_of_le Fc21.lt p20_1)
  have ne25 : ob7 ≠ xb_20 := Nat.ne_of_lt (Nat.lt_of_lt_of_le Vn15.lt p20_1)
  have Z20 : n0 ≤ T20.heap.size := Nat.le_trans Z15 p20_0.1
  have ge20_1 : n0 ≤ xb_20 := Nat.le_trans Z15 p20_1
  refine own_lift (fun t k => st20.trans k) ?_
  show own_Go p.tables e below (T20.setTop (mkF m 116 #[iv p0, jv p1, .second, jv p2, .second, jv p3, .second, jv p4, .second, iv 1, iv 2, jv x0, .second, jv x1, .second, jv x2, .second, jv xe, .second, rv ob7, rv as_FIRST_INDEX_FIRST, .unset, .unset, .unset] [(.ref xb_20)])) _
  have sg26 : ∀ t, Steps p.tables e below (T20.setTop (mkF m 125 #[iv p0, jv p1, .second, jv p2, .second, jv p3, .second, jv p4, .second, iv 1, iv 2, jv x0, .second, jv x1, .second, jv x2, .second, jv xe, .second, rv ob7, rv as_FIRST_INDEX_FIRST, rv xb_20, .unset, .unset] [(.ref xb_20)])) t → Steps p.tables e below (T20.setTop (mkF m 116 #[iv p0, jv p1, .second, jv p2, .second, jv p3, .second, jv p4, .second, iv 1, iv 2, jv x0, .second, jv x1, .second, jv x2, .second, jv xe, .second, rv ob7, rv as_FIRST_INDEX_FIRST, .unset, .unset, .unset] [(.ref xb_20)])) t := by
    intro t k
    refine XS.astore X20.here hx rfl (hb hby at_116) rfl rfl (l' := #[iv p0, jv p1, .second, jv p2, .second, jv p3, .second, jv p4, .second, iv 1, iv 2, jv x0, .second, jv x1, .second, jv x2, .second, jv xe, .second, rv ob7, rv as_FIRST_INDEX_FIRST, rv xb_20, .unset, .unset]) rfl ?_
    show Steps p.tables e below (T20.setTop (mkF m 118 #[iv p0, jv p1, .second, jv p2, .second, jv p3, .second, jv p4, .second, iv 1, iv 2, jv x0, .second, jv x1, .second, jv x2, .second, jv xe, .second, rv ob7, rv as_FIRST_INDEX_FIRST, rv xb_20, .unset, .unset] [])) _
    refine XS.aload X20.here hx rfl (hb hby at_118) rfl rfl ?_
    refine XS.ifnullNo X20.here hx rfl (hb hby at_120) rfl ?_
    show Steps p.tables e below (T20.setTop (mkF m 123 #[iv p0, jv p1, .second, jv p2, .second, jv p3, .second, jv p4, .second, iv 1, iv 2, jv x0, .second, jv x1, .second, jv x2, .second, jv xe, .second, rv ob7, rv as_FIRST_INDEX_FIRST, rv xb_20, .unset, .unset] [])) _
    refine XS.aload X20.here hx rfl (hb hby at_123) rfl rfl ?_
    show Steps p.tables e below (T20.setTop (mkF m 125 #[iv p0, jv p1, .second, jv p2, .second, jv p3, .second, jv p4, .second, iv 1, iv 2, jv x0, .second, jv x1, .second, jv x2, .second, jv xe, .second, rv ob7, rv as_FIRST_INDEX_FIRST, rv xb_20, .unset, .unset] [(.ref xb_20)])) _
    exact k
  refine own_lift sg26 ?_
  show own_Go p.tables e below (T20.setTop (mkF m 125 #[iv p0, jv p1, .second, jv p2, .second, jv p3, .second, jv p4, .second, iv 1, iv 2, jv x0, .second, jv x1, .second, jv x2, .second, jv xe, .second, rv ob7, rv as_FIRST_INDEX_FIRST, rv xb_20, .unset, .unset] [(.ref xb_20)])) _
  obtain ⟨cl27, Ar27, -, Sx27, N27', -, -⟩ := id (p20_2)
  have st27 : ∀ t, Steps p.tables e below (T20.setTop (mkF m 126 #[iv p0, jv p1, .second, jv p2, .second, jv p3, .second, jv p4, .second, iv 1, iv 2, jv x0, .second, jv x1, .second, jv x2, .second, jv xe, .second, rv ob7, rv as_FIRST_INDEX_FIRST, rv xb_20, .unset, .unset] [(.int 2)])) t → Steps p.tables e below (T20.setTop (mkF m 125 #[iv p0, jv p1, .second, jv p2, .second, jv p3, .second, jv p4, .second, iv 1, iv 2, jv x0, .second, jv x1, .second, jv x2, .second, jv xe, .second, rv ob7, rv as_FIRST_INDEX_FIRST, rv xb_20, .unset, .unset] [(.ref xb_20)])) t := by
    intro t k
    refine X20.arraylength hx (by exact Ar27.1) (State.isArrayOf_alike hZ.alike Ar27.2.1) (g := (mkF m 125 #[iv p0, jv p1, .second, jv p2, .second, jv p3, .second, jv p4, .second, iv 1, iv 2, jv x0, .second, jv x1, .second, jv x2, .second, jv xe, .second, rv ob7, rv as_FIRST_INDEX_FIRST, rv xb_20, .unset, .unset] [(.ref xb_20)])) rfl rfl (hb hby at_125) _ ?_
    rw [len_of Sx27 N27']
    exact k
  refine own_lift st27 ?_
  show own_Go p.tables e below (T20.setTop (mkF m 126 #[iv p0, jv p1, .second, jv p2, .second, jv p3, .second, jv p4, .second, iv 1, iv 2, jv x0, .second, jv x1, .second, jv x2, .second, jv xe, .second, rv ob7, rv as_FIRST_INDEX_FIRST, rv xb_20, .unset, .unset] [(.int 2)])) _
  have sg28 : ∀ t, Steps p.tables e below (T20.setTop (mkF m 134 #[iv p0, jv p1, .second, jv p2, .second, jv p3, .second, jv p4, .second, iv 1, iv 2, jv x0, .second, jv x1, .second, jv x2, .second, jv xe, .second, rv ob7, rv as_FIRST_INDEX_FIRST, rv xb_20, .unset, .unset] [(.int 3)])) t → Steps p.tables e below (T20.setTop (mkF m 126 #[iv p0, jv p1, .second, jv p2, .second, jv p3, .second, jv p4, .second, iv 1, iv 2, jv x0, .second, jv x1, .second, jv x2, .second, jv xe, .second, rv ob7, rv as_FIRST_INDEX_FIRST, rv xb_20, .unset, .unset] [(.int 2)])) t := by
    intro t k
    refine XS.iload X20.here hx rfl (hb hby at_126) rfl ?_
    show Steps p.tables e below (T20.setTop (mkF m 128 #[iv p0, jv p1, .second, jv p2, .second, jv p3, .second, jv p4, .second, iv 1, iv 2, jv x0, .second, jv x1, .second, jv x2, .second, jv xe, .second, rv ob7, rv as_FIRST_INDEX_FIRST, rv xb_20, .unset, .unset] [(.int 2), (.int 2)])) _
    refine XS.icmpYes X20.here hx rfl (pc0 := 128) (pc' := 133) rfl (hb hby at_128) rfl (teq (by decide : (2 : Int32) = (2 : Int32))).1 (by decide) (by decide) ?_
    refine XS.iconst X20.here hx rfl (hb hby at_133) ?_
    show Steps p.tables e below (T20.setTop (mkF m 134 #[iv p0, jv p1, .second, jv p2, .second, jv p3, .second, jv p4, .second, iv 1, iv 2, jv x0, .second, jv x1, .second, jv x2, .second, jv xe, .second, rv ob7, rv as_FIRST_INDEX_FIRST, rv xb_20, .unset, .unset] [(.int 3)])) _
    exact k
  refine own_lift sg28 ?_
  show own_Go p.tables e below (T20.setTop (mkF m 134 #[iv p0, jv p1, .second, jv p2, .second, jv p3, .second, jv p4, .second, iv 1, iv 2, jv x0, .second, jv x1, .second, jv x2, .second, jv xe, .second, rv ob7, rv as_FIRST_INDEX_FIRST, rv xb_20, .unset, .unset] [(.int 3)])) _
  obtain ⟨T29, h29, ka29, X29, e29, Ex29, Ax29, st29⟩ := newP X20 hx hZ (wd hw 2 rfl) rfl (g := (mkF m 134 #[iv p0, jv p1, .second, jv p2, .second, jv p3, .second, jv p4, .second, iv 1, iv 2, jv x0, .second, jv x1, .second, jv x2, .second, jv xe, .second, rv ob7, rv as_FIRST_INDEX_FIRST, rv xb_20, .unset, .unset] [(.int 3)])) rfl (hb hby at_134) rfl (by decide) (cap := 3) (by decide) (by decide) (by decide) (by decide)
  obtain ⟨ob29, g29⟩ : ∃ z, z = T20.heap.size := ⟨_, rfl⟩
  rw [← g29] at Ax29 st29
  have Fc30 : Exa Z T20.heap as_LAST_INDEX_FIRST "com/example/halyard/halyard/east/ArrayStorage" := (Fc22.keep p20_0)
  have ne31 : as_LAST_INDEX_FIRST ≠ ob29 := Nat.ne_of_lt (Nat.lt_of_lt_of_le Fc30.lt (Nat.le_of_eq g29.symm))
  have Fc32 : Exa Z T20.heap as_FIRST_INDEX_FIRST "com/example/halyard/halyard/east/ArrayStorage" := (Fc21.keep p20_0)
  have ne33 : as_FIRST_INDEX_FIRST ≠ ob29 := Nat.ne_of_lt (Nat.lt_of_lt_of_le Fc32.lt (Nat.le_of_eq g29.symm))
  have Fc34 : Arv Z T20.heap ob7 ka7 .long (2 : Int32) [(.long x0), (.long x1)] (.long 0) := (Vn15.keep p20_0 nin0)
  have ne35 : ob7 ≠ ob29 := Nat.ne_of_lt (Nat.lt_of_lt_of_le Fc34.lt (Nat.le_of_eq g29.symm))
  have ne36 : xb_20 ≠ ob29 := Nat.ne_of_lt (Nat.lt_of_lt_of_le p20_2.lt (Nat.le_of_eq g29.symm))
  have Z29 : n0 ≤ h29.size := Nat.le_trans Z20 Ex29.1
  have ge29 : n0 ≤ ob29 := Nat.le_trans Z20 (Nat.le_of_eq g29.symm)
  have Vn29 : Arv Z h29 ob29 ka29 .long (3 : Int32) [(.long 0), (.long 0), (.long 0)] (.long 0) := (Arv.new Ax29 (by decide)).pad (pad_rep [] (.long 0) 3)
  refine own_lift st29 ?_
  show own_Go p.tables e below (T29.setTop (mkF m 136 #[iv p0, jv p1, .second, jv p2, .second, jv p3, .second, jv p4, .second, iv 1, iv 2, jv x0, .second, jv x1, .second, jv x2, .second, jv xe, .second, rv ob7, rv as_FIRST_INDEX_FIRST, rv xb_20, .unset, .unset] [(.ref ob29)])) _
  have sg37 : ∀ t, Steps p.tables e below (T29.setTop (mkF m 172 #[iv p0, jv p1, .second, jv p2, .second, jv p3, .second, jv p4, .second, iv 1, iv 2, jv x0, .second, jv x1, .second, jv x2, .second, jv xe, .second, rv ob7, rv as_FIRST_INDEX_FIRST, rv xb_20, rv ob29, .unset] [(.long (xe * x1)), (.int 0), (.ref ob29)])) t → Steps p.tables e below (T29.setTop (mkF m 136 #[iv p0, jv p1, .second, jv p2, .second, jv p3, .second, jv p4, .second, iv 1, iv 2, jv x0, .second, jv x1, .second, jv x2, .second, jv xe, .second, rv ob7, rv as_FIRST_INDEX_FIRST, rv xb_20, .unset, .unset] [(.ref ob29)])) t := by
    intro t k
    refine XS.astore X29.here hx rfl (hb hby at_136) rfl rfl (l' := #[iv p0, jv p1, .second, jv p2, .second, jv p3, .second, jv p4, .second, iv 1, iv 2, jv x0, .second, jv x1, .second, jv x2, .second, jv xe, .second, rv ob7, rv as_FIRST_INDEX_FIRST, rv xb_20, rv ob29, .unset]) rfl ?_
    show Steps p.tables e below (T29.setTop (mkF m 138 #[iv p0, jv p1, .second, jv p2, .second, jv p3, .second, jv p4, .second, iv 1, iv 2, jv x0, .second, jv x1, .second, jv x2, .second, jv xe, .second, rv ob7, rv as_FIRST_INDEX_FIRST, rv xb_20, rv ob29, .unset] [])) _
    refine XS.iload X29.here hx rfl (hb hby at_138) rfl ?_
    refine XS.iconst X29.here hx rfl (hb hby at_140) ?_
    show Steps p.tables e below (T29.setTop (mkF m 141 #[iv p0, jv p1, .second, jv p2, .second, jv p3, .second, jv p4, .second, iv 1, iv 2, jv x0, .second, jv x1, .second, jv x2, .second, jv xe, .second, rv ob7, rv as_FIRST_INDEX_FIRST, rv xb_20, rv ob29, .unset] [(.int 1), (.int 2)])) _
    refine XS.icmpYes X29.here hx rfl (pc0 := 141) (pc' := 153) rfl (hb hby at_141) rfl (feq (by decide : ¬ ((2 : Int32) = (1 : Int32)))).2 (by decide) (by decide) ?_
    refine XS.iload X29.here hx rfl (hb hby at_153) rfl ?_
    show Steps p.tables e below (T29.setTop (mkF m 155 #[iv p0, jv p1, .second, jv p2, .second, jv p3, .second, jv p4, .second, iv 1, iv 2, jv x0, .second, jv x1, .second, jv x2, .second, jv xe, .second, rv ob7, rv as_FIRST_INDEX_FIRST, rv xb_20, rv ob29, .unset] [(.int 2)])) _
    refine XS.iconst X29.here hx rfl (hb hby at_155) ?_
    refine XS.icmpNo X29.here hx rfl (hb hby at_156) rfl (teq (by decide : (2 : Int32) = (2 : Int32))).2 ?_
    show Steps p.tables e below (T29.setTop (mkF m 159 #[iv p0, jv p1, .second, jv p2, .second, jv p3, .second, jv p4, .second, iv 1, iv 2, jv x0, .second, jv x1, .second, jv x2, .second, jv xe, .second, rv ob7, rv as_FIRST_INDEX_FIRST, rv xb_20, rv ob29, .unset] [])) _
    refine XS.iload X29.here hx rfl (hb hby at_159) rfl ?_
    refine XS.ifNo X29.here hx rfl (hb hby at_161) rfl ((if0 _ _).trans (feq (by decide : ¬ ((1 : Int32) = (0 : Int32)))).1) ?_
    show Steps p.tables e below (T29.setTop (mkF m 164 #[iv p0, jv p1, .second, jv p2, .second, jv p3, .second, jv p4, .second, iv 1, iv 2, jv x0, .second, jv x1, .second, jv x2, .second, jv xe, .second, rv ob7, rv as_FIRST_INDEX_FIRST, rv xb_20, rv ob29, .unset] [])) _
    refine XS.aload X29.here hx rfl (hb hby at_164) rfl rfl ?_
    refine XS.iconst X29.here hx rfl (hb hby at_166) ?_
    show Steps p.tables e below (T29.setTop (mkF m 167 #[iv p0, jv p1, .second, jv p2, .second, jv p3, .second, jv p4, .second, iv 1, iv 2, jv x0, .second, jv x1, .second, jv x2, .second, jv xe, .second, rv ob7, rv as_FIRST_INDEX_FIRST, rv xb_20, rv ob29, .unset] [(.int 0), (.ref ob29)])) _
    refine XS.lload X29.here hx rfl (hb hby at_167) rfl ?_
    refine XS.lload X29.here hx rfl (hb hby at_169) rfl ?_
    show Steps p.tables e below (T29.setTop (mkF m 171 #[iv p0, jv p1, .second, jv p2, .second, jv p3, .second, jv p4, .second, iv 1, iv 2, jv x0, .second, jv x1, .second, jv x2, .second, jv xe, .second, rv ob7, rv as_FIRST_INDEX_FIRST, rv xb_20, rv ob29, .unset] [(.long x1), (.long xe), (.int 0), (.ref ob29)])) _
    refine XS.lmul X29.here hx rfl (hb hby at_171) rfl ?_
    show Steps p.tables e below (T29.setTop (mkF m 172 #[iv p0, jv p1, .second, jv p2, .second, jv p3, .second, jv p4, .second, iv 1, iv 2, jv x0, .second, jv x1, .second, jv x2, .second, jv xe, .second, rv ob7, rv as_FIRST_INDEX_FIRST, rv xb_20, rv ob29, .unset] [(.long (xe * x1)), (.int 0), (.ref ob29)])) _
    exact k
  refine own_lift sg37 ?_
  show own_Go p.tables e below (T29.setTop (mkF m 172 #[iv p0, jv p1, .second, jv p2, .second, jv p3, .second, jv p4, .second, iv 1, iv 2, jv x0, .second, jv x1, .second, jv x2, .second, jv xe, .second, rv ob7, rv as_FIRST_INDEX_FIRST, rv xb_20, rv ob29, .unset] [(.long (xe * x1)), (.int 0), (.ref ob29)])) _
  obtain ⟨cl38, Ar38, qx38, Sx38, N38', H38', G38'⟩ := id (Vn29)
  have hin38 : ¬ ((0 : Int32) < 0 ∨ cl38.slots.size ≤ ((0 : Int32)).toNatClampNeg) := inb_of Sx38 ⟨(by decide : ¬ ((0 : Int32) < (0 : Int32))), (by decide : (0 : Int32) < (3 : Int32))⟩
  obtain ⟨T39, h39, X39, e39, W39, st39⟩ := stJ X29 hx hZ e29 Ar38 (j := (0 : Int32)) hin38 (g := (mkF m 172 #[iv p0, jv p1, .second, jv p2, .second, jv p3, .second, jv p4, .second, iv 1, iv 2, jv x0, .second, jv x1, .second, jv x2, .second, jv xe, .second, rv ob7, rv as_FIRST_INDEX_FIRST, rv xb_20, rv ob29, .unset] [(.long (xe * x1)), (.int 0), (.ref ob29)])) rfl rfl (hb hby at_172)
  have N39 := Fr.snoc X39 N20 ge29
  have Z39 : n0 ≤ h39.size := Nat.le_trans Z29 (Nat.le_of_eq W39.size.symm)
  have Vn39 : Arv Z h39 ob29 ka29 .long (3 : Int32) [(.long (xe * x1)), (.long 0), (.long 0)] (.long 0) := Arv.set Ar38 qx38 Sx38 N38' H38' G38' rfl W39 0 rfl (Nat.le_of_ble_eq_true rfl)
  refine own_lift st39 ?_
  show own_Go p.tables e below (T39.setTop (mkF m 173 #[iv p0, jv p1, .second, jv p2, .second, jv p3, .second, jv p4, .second, iv 1, iv 2, jv x0, .second, jv x1, .second, jv x2, .second, jv xe, .second, rv ob7, rv as_FIRST_INDEX_FIRST, rv xb_20, rv ob29, .unset] [])) _
  have sg40 : ∀ t, Steps p.tables e below (T39.setTop (mkF m 178 #[iv p0, jv p1, .second, jv p2, .second, jv p3, .second, jv p4, .second, iv 1, iv 2, jv x0, .second, jv x1, .second, jv x2, .second, jv xe, .second, rv ob7, rv as_FIRST_INDEX_FIRST, rv xb_20, rv ob29, .unset] [(.long xe), (.int 1), (.ref ob29)])) t → Steps p.tables e below (T39.setTop (mkF m 173 #[iv p0, jv p1, .second, jv p2, .second, jv p3, .second, jv p4, .second, iv 1, iv 2, jv x0, .second, jv x1, .second, jv x2, .second, jv xe, .second, rv ob7, rv as_FIRST_INDEX_FIRST, rv xb_20, rv ob29, .unset] [])) t := by
    intro t k
    refine XS.aload X39.here hx rfl (hb hby at_173) rfl rfl ?_
    show Steps p.tables e below (T39.setTop (mkF m 175 #[iv p0, jv p1, .second, jv p2, .second, jv p3, .second, jv p4, .second, iv 1, iv 2, jv x0, .second, jv x1, .second, jv x2, .second, jv xe, .second, rv ob7, rv as_FIRST_INDEX_FIRST, rv xb_20, rv ob29, .unset] [(.ref ob29)])) _
    refine XS.iconst X39.here hx rfl (hb hby at_175) ?_
    refine XS.lload X39.here hx rfl (hb hby at_176) rfl ?_
    show Steps p.tables e below (T39.setTop (mkF m 178 #[iv p0, jv p1, .second, jv p2, .second, jv p3, .second, jv p4, .second, iv 1, iv 2, jv x0, .second, jv x1, .second, jv x2, .second, jv xe, .second, rv ob7, rv as_FIRST_INDEX_FIRST, rv xb_20, rv ob29, .unset] [(.long xe), (.int 1), (.ref ob29)])) _
    exact k
  refine own_lift sg40 ?_
  show own_Go p.tables e below (T39.setTop (mkF m 178 #[iv p0, jv p1, .second, jv p2, .second, jv p3, .second, jv p4, .second, iv 1, iv 2, jv x0, .second, jv x1, .second, jv x2, .second, jv xe, .second, rv ob7, rv as_FIRST_INDEX_FIRST, rv xb_20, rv ob29, .unset] [(.long xe), (.int 1), (.ref ob29)])) _
  obtain ⟨cl41, Ar41, qx41, Sx41, N41', H41', G41'⟩ := id (Vn39)
  have hin41 : ¬ ((1 : Int32) < 0 ∨ cl41.slots.size ≤ ((1 : Int32)).toNatClampNeg) := inb_of Sx41 ⟨(by decide : ¬ ((1 : Int32) < (0 : Int32))), (by decide : (1 : Int32) < (3 : Int32))⟩
  obtain ⟨T42, h42, X42, e42, W42, st42⟩ := stJ X39 hx hZ e39 Ar41 (j := (1 : Int32)) hin41 (g := (mkF m 178 #[iv p0, jv p1, .second, jv p2, .second, jv p3, .second, jv p4, .second, iv 1, iv 2, jv x0, .second, jv x1, .second, jv x2, .second, jv xe, .second, rv ob7, rv as_FIRST_INDEX_FIRST, rv xb_20, rv ob29, .unset] [(.long xe), (.int 1), (.ref ob29)])) rfl rfl (hb hby at_178)
  have N42 := Fr.snoc X42 N39 ge29
  have Z42 : n0 ≤ h42.size := Nat.le_trans Z39 (Nat.le_of_eq W42.size.symm)
  have Vn42 : Arv Z h42 ob29 ka29 .long (3 : Int32) [(.long (xe * x1)), (.long xe), (.long 0)] (.long 0) := Arv.set Ar41 qx41 Sx41 N41' H41' G41' rfl W42 1 rfl (Nat.le_of_ble_eq_true rfl)
  refine own_lift st42 ?_
  show own_Go p.tables e below (T42.setTop (mkF m 179 #[iv p0, jv p1, .second, jv p2, .second, jv p3, .second, jv p4, .second, iv 1, iv 2, jv x0, .second, jv x1, .second, jv x2, .second, jv xe, .second, rv ob7, rv as_FIRST_INDEX_FIRST, rv xb_20, rv ob29, .unset] [])) _
  have sg43 : ∀ t, Steps p.tables e below (T42.setTop (mkF m 284 #[iv p0, jv p1, .second, jv p2, .second, jv p3, .second, jv p4, .second, iv 1, iv 2, jv x0, .second, jv x1, .second, jv x2, .second, jv xe, .second, rv ob7, rv as_FIRST_INDEX_FIRST, rv xb_20, rv ob29, iv 1] [(.int 0), (.ref xb_20)])) t → Steps p.tables e below (T42.setTop (mkF m 179 #[iv p0, jv p1, .second, jv p2, .second, jv p3, .second, jv p4, .second, iv 1, iv 2, jv x0, .second, jv x1, .second, jv x2, .second, jv xe, .second, rv ob7, rv as_FIRST_INDEX_FIRST, rv xb_20, rv ob29, .unset] [])) t := by
    intro t k
    refine XS.goto X42.here hx rfl (pc0 := 179) (pc' := 268) rfl (hb hby at_179) (by decide) (by decide) ?_
    show Steps p.tables e below (T42.setTop (mkF m 268 #[iv p0, jv p1, .second, jv p2, .second, jv p3, .second, jv p4, .second, iv 1, iv 2, jv x0, .second, jv x1, .second, jv x2, .second, jv xe, .second, rv ob7, rv as_FIRST_INDEX_FIRST, rv xb_20, rv ob29, .unset] [])) _
    refine XS.iconst X42.here hx rfl (hb hby at_268) ?_
    refine XS.istore X42.here hx rfl (hb hby at_269) rfl (l' := #[iv p0, jv p1, .second, jv p2, .second, jv p3, .second, jv p4, .second, iv 1, iv 2, jv x0, .second, jv x1, .second, jv x2, .second, jv xe, .second, rv ob7, rv as_FIRST_INDEX_FIRST, rv xb_20, rv ob29, iv 1]) rfl ?_
    show Steps p.tables e below (T42.setTop (mkF m 271 #[iv p0, jv p1, .second, jv p2, .second, jv p3, .second, jv p4, .second, iv 1, iv 2, jv x0, .second, jv x1, .second, jv x2, .second, jv xe, .second, rv ob7, rv as_FIRST_INDEX_FIRST, rv xb_20, rv ob29, iv 1] [])) _
    refine XS.iload X42.here hx rfl (hb hby at_271) rfl ?_
    refine XS.ifNo X42.here hx rfl (hb hby at_273) rfl ((if0 _ _).trans (tlt (by decide : (0 : Int32) < (2 : Int32))).2.2.2) ?_
    show Steps p.tables e below (T42.setTop (mkF m 276 #[iv p0, jv p1, .second, jv p2, .second, jv p3, .second, jv p4, .second, iv 1, iv 2, jv x0, .second, jv x1, .second, jv x2, .second, jv xe, .second, rv ob7, rv as_FIRST_INDEX_FIRST, rv xb_20, rv ob29, iv 1] [])) _
    refine XS.iload X42.here hx rfl (hb hby at_276) rfl ?_
    refine XS.ifNo X42.here hx rfl (hb hby at_278) rfl ((if0 _ _).trans (feq (by decide : ¬ ((1 : Int32) = (0 : Int32)))).1) ?_
    show Steps p.tables e below (T42.setTop (mkF m 281 #[iv p0, jv p1, .second, jv p2, .second, jv p3, .second, jv p4, .second, iv 1, iv 2, jv x0, .second, jv x1, .second, jv x2, .second, jv xe, .second, rv ob7, rv as_FIRST_INDEX_FIRST, rv xb_20, rv ob29, iv 1] [])) _
    refine XS.aload X42.here hx rfl (hb hby at_281) rfl rfl ?_
    refine XS.iconst X42.here hx rfl (hb hby at_283) ?_
    show Steps p.tables e below (T42.setTop (mkF m 284 #[iv p0, jv p1, .second, jv p2, .second, jv p3, .second, jv p4, .second, iv 1, iv 2, jv x0, .second, jv x1, .second, jv x2, .second, jv xe, .second, rv ob7, rv as_FIRST_INDEX_FIRST, rv xb_20, rv ob29, iv 1] [(.int 0), (.ref xb_20)])) _
    exact k
  refine own_lift sg43 ?_
  show own_Go p.tables e below (T42.setTop (mkF m 284 #[iv p0, jv p1, .second, jv p2, .second, jv p3, .second, jv p4, .second, iv 1, iv 2, jv x0, .second, jv x1, .second, jv x2, .second, jv xe, .second, rv ob7, rv as_FIRST_INDEX_FIRST, rv xb_20, rv ob29, iv 1] [(.int 0), (.ref xb_20)])) _
  have Fc44 : Arv Z h42 xb_20 xkb_20 .long (2 : Int32) [(.long (xe * x1)), (.long xe)] (.long (0 : Int64)) := (((p20_2.ext Ex29).other W39 ne36).other W42 ne36)
  obtain ⟨cl45, Ar45, qx45, Sx45, N45', H45', G45'⟩ := id (Fc44)
  have hin45 : ¬ ((0 : Int32) < 0 ∨ cl45.slots.size ≤ ((0 : Int32)).toNatClampNeg) := inb_of Sx45 ⟨(by decide : ¬ ((0 : Int32) < (0 : Int32))), (by decide : (0 : Int32) < (2 : Int32))⟩
  have hat45 : cl45.slots[((0 : Int32)).toNatClampNeg]? = some (.long (xe * x1)) := Has.at H45' hin45 rfl
  have sg46 : ∀ t, Steps p.tables e below (T42.setTop (mkF m 288 #[iv p0, jv p1, .second, jv p2, .second, jv p3, .second, jv p4, .second, iv 1, iv 2, jv x0, .second, jv x1, .second, jv x2, .second, jv xe, .second, rv ob7, rv as_FIRST_INDEX_FIRST, rv xb_20, rv ob29, iv 1] [(.int 0), (.ref ob29), (.long (xe * x1))])) t → Steps p.tables e below (T42.setTop (mkF m 284 #[iv p0, jv p1, .second, jv p2, .second, jv p3, .second, jv p4, .second, iv 1, iv 2, jv x0, .second, jv x1, .second, jv x2, .second, jv xe, .second, rv ob7, rv as_FIRST_INDEX_FIRST, rv xb_20, rv ob29, iv 1] [(.int 0), (.ref xb_20)])) t := by
    intro t k
    refine X42.laload hx (j := (0 : Int32)) (v := (.long (xe * x1))) (by rw [e42]; exact Ar45.1) (State.isArrayOf_alike hZ.alike Ar45.2.1) Ar45.2.2 hin45 hat45 (g := (mkF m 284 #[iv p0, jv p1, .second, jv p2, .second, jv p3, .second, jv p4, .second, iv 1, iv 2, jv x0, .second, jv x1, .second, jv x2, .second, jv xe, .second, rv ob7, rv as_FIRST_INDEX_FIRST, rv xb_20, rv ob29, iv 1] [(.int 0), (.ref xb_20)])) rfl rfl (hb hby at_284) _ ?_
    show Steps p.tables e below (T42.setTop (mkF m 285 #[iv p0, jv p1, .second, jv p2, .second, jv p3, .second, jv p4, .second, iv 1, iv 2, jv x0, .second, jv x1, .second, jv x2, .second, jv xe, .second, rv ob7, rv as_FIRST_INDEX_FIRST, rv xb_20, rv ob29, iv 1] [(.long (xe * x1))])) _
    refine XS.aload X42.here hx rfl (hb hby at_285) rfl rfl ?_
    refine XS.iconst X42.here hx rfl (hb hby at_287) ?_
    show Steps p.tables e below (T42.setTop (mkF m 288 #[iv p0, jv p1, .second, jv p2, .second, jv p3, .second, jv p4, .second, iv 1, iv 2, jv x0, .second, jv x1, .second, jv x2, .second, jv xe, .second, rv ob7, rv as_FIRST_INDEX_FIRST, rv xb_20, rv ob29, iv 1] [(.int 0), (.ref ob29), (.long (xe * x1))])) _
    exact k
  refine own_lift sg46 ?_
  show own_Go p.tables e below (T42.setTop (mkF m 288 #[iv p0, jv p1, .second, jv p2, .second, jv p3, .second, jv p4, .second, iv 1, iv 2, jv x0, .second, jv x1, .second, jv x2, .second, jv xe, .second, rv ob7, rv as_FIRST_INDEX_FIRST, rv xb_20, rv ob29, iv 1] [(.int 0), (.ref ob29), (.long (xe * x1))])) _
  obtain ⟨cl47, Ar47, qx47, Sx47, N47', H47', G47'⟩ := id (Vn42)
  have hin47 : ¬ ((0 : Int32) < 0 ∨ cl47.slots.size ≤ ((0 : Int32)).toNatClampNeg) := inb_of Sx47 ⟨(by decide : ¬ ((0 : Int32) < (0 : Int32))), (by decide : (0 : Int32) < (3 : Int32))⟩
  have hat47 : cl47.slots[((0 : Int32)).toNatClampNeg]? = some (.long (xe * x1)) := Has.at H47' hin47 rfl
  have sg48 : ∀ t, Steps p.tables e below (T42.setTop (mkF m 296 #[iv p0, jv p1, .second, jv p2, .second, jv p3, .second, jv p4, .second, iv 1, iv 2, jv x0, .second, jv x1, .second, jv x2, .second, jv xe, .second, rv ob7, rv as_FIRST_INDEX_FIRST, rv xb_20, rv ob29, iv 1] [(.int 0), (.ref ob7)])) t → Steps p.tables e below (T42.setTop (mkF m 288 #[iv p0, jv p1, .second, jv p2, .second, jv p3, .second, jv p4, .second, iv 1, iv 2, jv x0, .second, jv x1, .second, jv x2, .second, jv xe, .second, rv ob7, rv as_FIRST_INDEX_FIRST, rv xb_20, rv ob29, iv 1] [(.int 0), (.ref ob29), (.long (xe * x1))])) t := by
    intro t k
    refine X42.laload hx (j := (0 : Int32)) (v := (.long (xe * x1))) (by rw [e42]; exact Ar47.1) (State.isArrayOf_alike hZ.alike Ar47.2.1) Ar47.2.2 hin47 hat47 (g := (mkF m 288 #[iv p0, jv p1, .second, jv p2, .second, jv p3, .second, jv p4, .second, iv 1, iv 2, jv x0, .second, jv x1, .second, jv x2, .second, jv xe, .second, rv ob7, rv as_FIRST_INDEX_FIRST, rv xb_20, rv ob29, iv 1] [(.int 0), (.ref ob29), (.long (xe * x1))])) rfl rfl (hb hby at_288) _ ?_
    show Steps p.tables e below (T42.setTop (mkF m 289 #[iv p0, jv p1, .second, jv p2, .second, jv p3, .second, jv p4, .second, iv 1, iv 2, jv x0, .second, jv x1, .second, jv x2, .second, jv xe, .second, rv ob7, rv as_FIRST_INDEX_FIRST, rv xb_20, rv ob29, iv 1] [(.long (xe * x1)), (.long (xe * x1))])) _
    refine XS.lcmp X42.here hx rfl (hb hby at_289) rfl ?_
    refine XS.ifNo X42.here hx rfl (hb hby at_290) rfl ((if0 _ _).trans (teq ((lw_eq (xe * x1) (xe * x1)).2 (rfl : (xe * x1) = (xe * x1)))).2) ?_
    show Steps p.tables e below (T42.setTop (mkF m 293 #[iv p0, jv p1, .second, jv p2, .second, jv p3, .second, jv p4, .second, iv 1, iv 2, jv x0, .second, jv x1, .second, jv x2, .second, jv xe, .second, rv ob7, rv as_FIRST_INDEX_FIRST, rv xb_20, rv ob29, iv 1] [])) _
    refine XS.aload X42.here hx rfl (hb hby at_293) rfl rfl ?_
    refine XS.iconst X42.here hx rfl (hb hby at_295) ?_
    show Steps p.tables e below (T42.setTop (mkF m 296 #[iv p0, jv p1, .second, jv p2, .second, jv p3, .second, jv p4, .second, iv 1, iv 2, jv x0, .second, jv x1, .second, jv x2, .second, jv xe, .second, rv ob7, rv as_FIRST_INDEX_FIRST, rv xb_20, rv ob29, iv 1] [(.int 0), (.ref ob7)])) _
    exact k
  refine own_lift sg48 ?_
  show own_Go p.tables e below (T42.setTop (mkF m 296 #[iv p0, jv p1, .second, jv p2, .second, jv p3, .second, jv p4, .second, iv 1, iv 2, jv x0, .second, jv x1, .second, jv x2, .second, jv xe, .second, rv ob7, rv as_FIRST_INDEX_FIRST, rv xb_20, rv ob29, iv 1] [(.int 0), (.ref ob7)])) _
  have Fc49 : Arv Z h42 ob7 ka7 .long (2 : Int32) [(.long x0), (.long x1)] (.long 0) := (((Fc34.ext Ex29).other W39 ne35).other W42 ne35)
  obtain ⟨cl50, Ar50, qx50, Sx50, N50', H50', G50'⟩ := id (Fc49)
  have hin50 : ¬ ((0 : Int32) < 0 ∨ cl50.slots.size ≤ ((0 : Int32)).toNatClampNeg) := inb_of Sx50 ⟨(by decide : ¬ ((0 : Int32) < (0 : Int32))), (by decide : (0 : Int32) < (2 : Int32))⟩
  have hat50 : cl50.slots[((0 : Int32)).toNatClampNeg]? = some (.long x0) := Has.at H50' hin50 rfl
  have sg51 : ∀ t, Steps p.tables e below (T42.setTop (mkF m 324 #[iv p0, jv p1, .second, jv p2, .second, jv p3, .second, jv p4, .second, iv 1, iv 2, jv x0, .second, jv x1, .second, jv x2, .second, jv xe, .second, rv ob7, rv as_FIRST_INDEX_FIRST, rv xb_20, rv ob29, iv 1] [(.int 1), (.ref xb_20)])) t → Steps p.tables e below (T42.setTop (mkF m 296 #[iv p0, jv p1, .second, jv p2, .second, jv p3, .second, jv p4, .second, iv 1, iv 2, jv x0, .second, jv x1, .second, jv x2, .second, jv xe, .second, rv ob7, rv as_FIRST_INDEX_FIRST, rv xb_20, rv ob29, iv 1] [(.int 0), (.ref ob7)])) t := by
    intro t k
    refine X42.laload hx (j := (0 : Int32)) (v := (.long x0)) (by rw [e42]; exact Ar50.1) (State.isArrayOf_alike hZ.alike Ar50.2.1) Ar50.2.2 hin50 hat50 (g := (mkF m 296 #[iv p0, jv p1, .second, jv p2, .second, jv p3, .second, jv p4, .second, iv 1, iv 2, jv x0, .second, jv x1, .second, jv x2, .second, jv xe, .second, rv ob7, rv as_FIRST_INDEX_FIRST, rv xb_20, rv ob29, iv 1] [(.int 0), (.ref ob7)])) rfl rfl (hb hby at_296) _ ?_
    show Steps p.tables e below (T42.setTop (mkF m 297 #[iv p0, jv p1, .second, jv p2, .second, jv p3, .second, jv p4, .second, iv 1, iv 2, jv x0, .second, jv x1, .second, jv x2, .second, jv xe, .second, rv ob7, rv as_FIRST_INDEX_FIRST, rv xb_20, rv ob29, iv 1] [(.long x0)])) _
    refine XS.lload X42.here hx rfl (hb hby at_297) rfl ?_
    refine XS.lcmp X42.here hx rfl (hb hby at_299) rfl ?_
    show Steps p.tables e below (T42.setTop (mkF m 300 #[iv p0, jv p1, .second, jv p2, .second, jv p3, .second, jv p4, .second, iv 1, iv 2, jv x0, .second, jv x1, .second, jv x2, .second, jv xe, .second, rv ob7, rv as_FIRST_INDEX_FIRST, rv xb_20, rv ob29, iv 1] [(.int (lcmpW x0 x0))])) _
    refine XS.ifNo X42.here hx rfl (hb hby at_300) rfl ((if0 _ _).trans (teq ((lw_eq x0 x0).2 (rfl : x0 = x0))).2) ?_
    refine XS.iconst X42.here hx rfl (hb hby at_303) ?_
    show Steps p.tables e below (T42.setTop (mkF m 304 #[iv p0, jv p1, .second, jv p2, .second, jv p3, .second, jv p4, .second, iv 1, iv 2, jv x0, .second, jv x1, .second, jv x2, .second, jv xe, .second, rv ob7, rv as_FIRST_INDEX_FIRST, rv xb_20, rv ob29, iv 1] [(.int 1)])) _
    refine XS.goto X42.here hx rfl (pc0 := 304) (pc' := 308) rfl (hb hby at_304) (by decide) (by decide) ?_
    refine XS.istore X42.here hx rfl (hb hby at_308) rfl (l' := #[iv p0, jv p1, .second, jv p2, .second, jv p3, .second, jv p4, .second, iv 1, iv 2, jv x0, .second, jv x1, .second, jv x2, .second, jv xe, .second, rv ob7, rv as_FIRST_INDEX_FIRST, rv xb_20, rv ob29, iv 1]) rfl ?_
    show Steps p.tables e below (T42.setTop (mkF m 310 #[iv p0, jv p1, .second, jv p2, .second, jv p3, .second, jv p4, .second, iv 1, iv 2, jv x0, .second, jv x1, .second, jv x2, .second, jv xe, .second, rv ob7, rv as_FIRST_INDEX_FIRST, rv xb_20, rv ob29, iv 1] [])) _
    refine XS.iload X42.here hx rfl (hb hby at_310) rfl ?_
    refine XS.iconst X42.here hx rfl (hb hby at_312) ?_
    show Steps p.tables e below (T42.setTop (mkF m 313 #[iv p0, jv p1, .second, jv p2, .second, jv p3, .second, jv p4, .second, iv 1, iv 2, jv x0, .second, jv x1, .second, jv x2, .second, jv xe, .second, rv ob7, rv as_FIRST_INDEX_FIRST, rv xb_20, rv ob29, iv 1] [(.int 1), (.int 2)])) _
    refine XS.icmpNo X42.here hx rfl (hb hby at_313) rfl (tlt (by decide : (1 : Int32) < (2 : Int32))).2.2.2 ?_
    refine XS.iload X42.here hx rfl (hb hby at_316) rfl ?_
    show Steps p.tables e below (T42.setTop (mkF m 318 #[iv p0, jv p1, .second, jv p2, .second, jv p3, .second, jv p4, .second, iv 1, iv 2, jv x0, .second, jv x1, .second, jv x2, .second, jv xe, .second, rv ob7, rv as_FIRST_INDEX_FIRST, rv xb_20, rv ob29, iv 1] [(.int 1)])) _
    refine XS.ifNo X42.here hx rfl (hb hby at_318) rfl ((if0 _ _).trans (feq (by decide : ¬ ((1 : Int32) = (0 : Int32)))).1) ?_
    refine XS.aload X42.here hx rfl (hb hby at_321) rfl rfl ?_
    show Steps p.tables e below (T42.setTop (mkF m 323 #[iv p0, jv p1, .second, jv p2, .second, jv p3, .second, jv p4, .second, iv 1, iv 2, jv x0, .second, jv x1, .second, jv x2, .second, jv xe, .second, rv ob7, rv as_FIRST_INDEX_FIRST, rv xb_20, rv ob29, iv 1] [(.ref xb_20)])) _
    refine XS.iconst X42.here hx rfl (hb hby at_323) ?_
    show Steps p.tables e below (T42.setTop (mkF m 324 #[iv p0, jv p1, .second, jv p2, .second, jv p3, .second, jv p4, .second, iv 1, iv 2, jv x0, .second, jv x1, .second, jv x2, .second, jv xe, .second, rv ob7, rv as_FIRST_INDEX_FIRST, rv xb_20, rv ob29, iv 1] [(.int 1), (.ref xb_20)])) _
    exact k
  refine own_lift sg51 ?_
  show own_Go p.tables e below (T42.setTop (mkF m 324 #[iv p0, jv p1, .second, jv p2, .second, jv p3, .second, jv p4, .second, iv 1, iv 2, jv x0, .second, jv x1, .second, jv x2, .second, jv xe, .second, rv ob7, rv as_FIRST_INDEX_FIRST, rv xb_20, rv ob29, iv 1] [(.int 1), (.ref xb_20)])) _
  obtain ⟨cl52, Ar52, qx52, Sx52, N52', H52', G52'⟩ := id (Fc44)
  have hin52 : ¬ ((1 : Int32) < 0 ∨ cl52.slots.size ≤ ((1 : Int32)).toNatClampNeg) := inb_of Sx52 ⟨(by decide : ¬ ((1 : Int32) < (0 : Int32))), (by decide : (1 : Int32) < (2 : Int32))⟩
  have hat52 : cl52.slots[((1 : Int32)).toNatClampNeg]? = some (.long xe) := Has.at H52' hin52 rfl
  have sg53 : ∀ t, Steps p.tables e below (T42.setTop (mkF m 328 #[iv p0, jv p1, .second, jv p2, .second, jv p3, .second, jv p4, .second, iv 1, iv 2, jv x0, .second, jv x1, .second, jv x2, .second, jv xe, .second, rv ob7, rv as_FIRST_INDEX_FIRST, rv xb_20, rv ob29, iv 1] [(.int 1), (.ref ob29), (.long xe)])) t → Steps p.tables e below (T42.setTop (mkF m 324 #[iv p0, jv p1, .second, jv p2, .second, jv p3, .second, jv p4, .second, iv 1, iv 2, jv x0, .second, jv x1, .second, jv x2, .second, jv xe, .second, rv ob7, rv as_FIRST_INDEX_FIRST, rv xb_20, rv ob29, iv 1] [(.int 1), (.ref xb_20)])) t := by
    intro t k
    refine X42.laload hx (j := (1 : Int32)) (v := (.long xe)) (by rw [e42]; exact Ar52.1) (State.isArrayOf_alike hZ.alike Ar52.2.1) Ar52.2.2 hin52 hat52 (g := (mkF m 324 #[iv p0, jv p1, .second, jv p2, .second, jv p3, .second, jv p4, .second, iv 1, iv 2, jv x0, .second, jv x1, .second, jv x2, .second, jv xe, .second, rv ob7, rv as_FIRST_INDEX_FIRST, rv xb_20, rv ob29, iv 1] [(.int 1), (.ref xb_20)])) rfl rfl (hb hby at_324) _ ?_
    show Steps p.tables e below (T42.setTop (mkF m 325 #[iv p0, jv p1, .second, jv p2, .second, jv p3, .second, jv p4, .second, iv 1, iv 2, jv x0, .second, jv x1, .second, jv x2, .second, jv xe, .second, rv ob7, rv as_FIRST_INDEX_FIRST, rv xb_20, rv ob29, iv 1] [(.long xe)])) _
    refine XS.aload X42.here hx rfl (hb hby at_325) rfl rfl ?_
    refine XS.iconst X42.here hx rfl (hb hby at_327) ?_
    show Steps p.tables e below (T42.setTop (mkF m 328 #[iv p0, jv p1, .second, jv p2, .second, jv p3, .second, jv p4, .second, iv 1, iv 2, jv x0, .second, jv x1, .second, jv x2, .second, jv xe, .second, rv ob7, rv as_FIRST_INDEX_FIRST, rv xb_20, rv ob29, iv 1] [(.int 1), (.ref ob29), (.long xe)])) _
    exact k
  refine own_lift sg53 ?_
  show own_Go p.tables e below (T42.setTop (mkF m 328 #[iv p0, jv p1, .second, jv p2, .second, jv p3, .second, jv p4, .second, iv 1, iv 2, jv x0, .second, jv x1, .second, jv x2, .second, jv xe, .second, rv ob7, rv as_FIRST_INDEX_FIRST, rv xb_20, rv ob29, iv 1] [(.int 1), (.ref ob29), (.long xe)])) _
  obtain ⟨cl54, Ar54, qx54, Sx54, N54', H54', G54'⟩ := id (Vn42)
  have hin54 : ¬ ((1 : Int32) < 0 ∨ cl54.slots.size ≤ ((1 : Int32)).toNatClampNeg) := inb_of Sx54 ⟨(by decide : ¬ ((1 : Int32) < (0 : Int32))), (by decide : (1 : Int32) < (3 : Int32))⟩
  have hat54 : cl54.slots[((1 : Int32)).toNatClampNeg]? = some (.long xe) := Has.at H54' hin54 rfl
  have sg55 : ∀ t, Steps p.tables e below (T42.setTop (mkF m 336 #[iv p0, jv p1, .second, jv p2, .second, jv p3, .second, jv p4, .second, iv 1, iv 2, jv x0, .second, jv x1, .second, jv x2, .second, jv xe, .second, rv ob7, rv as_FIRST_INDEX_FIRST, rv xb_20, rv ob29, iv 1] [(.int 1), (.ref ob7)])) t → Steps p.tables e below (T42.setTop (mkF m 328 #[iv p0, jv p1, .second, jv p2, .second, jv p3, .second, jv p4, .second, iv 1, iv 2, jv x0, .second, jv x1, .second, jv x2, .second, jv xe, .second, rv ob7, rv as_FIRST_INDEX_FIRST, rv xb_20, rv ob29, iv 1] [(.int 1), (.ref ob29), (.long xe)])) t := by
    intro t k
    refine X42.laload hx (j := (1 : Int32)) (v := (.long xe)) (by rw [e42]; exact Ar54.1) (State.isArrayOf_alike hZ.alike Ar54.2.1) Ar54.2.2 hin54 hat54 (g := (mkF m 328 #[iv p0, jv p1, .second, jv p2, .second, jv p3, .second, jv p4, .second, iv 1, iv 2, jv x0, .second, jv x1, .second, jv x2, .second, jv xe, .second, rv ob7, rv as_FIRST_INDEX_FIRST, rv xb_20, rv ob29, iv 1] [(.int 1), (.ref ob29), (.long xe)])) rfl rfl (hb hby at_328) _ ?_
    show Steps p.tables e below (T42.setTop (mkF m 329 #[iv p0, jv p1, .second, jv p2, .second, jv p3, .second, jv p4, .second, iv 1, iv 2, jv x0, .second, jv x1, .second, jv x2, .second, jv xe, .second, rv ob7, rv as_FIRST_INDEX_FIRST, rv xb_20, rv ob29, iv 1] [(.long xe), (.long xe)])) _
    refine XS.lcmp X42.here hx rfl (hb hby at_329) rfl ?_
    refine XS.ifNo X42.here hx rfl (hb hby at_330) rfl ((if0 _ _).trans (teq ((lw_eq xe xe).2 (rfl : xe = xe))).2) ?_
    show Steps p.tables e below (T42.setTop (mkF m 333 #[iv p0, jv p1, .second, jv p2, .second, jv p3, .second, jv p4, .second, iv 1, iv 2, jv x0, .second, jv x1, .second, jv x2, .second, jv xe, .second, rv ob7, rv as_FIRST_INDEX_FIRST, rv xb_20, rv ob29, iv 1] [])) _
    refine XS.aload X42.here hx rfl (hb hby at_333) rfl rfl ?_
    refine XS.iconst X42.here hx rfl (hb hby at_335) ?_
    show Steps p.tables e below (T42.setTop (mkF m 336 #[iv p0, jv p1, .second, jv p2, .second, jv p3, .second, jv p4, .second, iv 1, iv 2, jv x0, .second, jv x1, .second, jv x2, .second, jv xe, .second, rv ob7, rv as_FIRST_INDEX_FIRST, rv xb_20, rv ob29, iv 1] [(.int 1), (.ref ob7)])) _
    exact k
  refine own_lift sg55 ?_
  show own_Go p.tables e below (T42.setTop (mkF m 336 #[iv p0, jv p1, .second, jv p2, .second, jv p3, .second, jv p4, .second, iv 1, iv 2, jv x0, .second, jv x1, .second, jv x2, .second, jv xe, .second, rv ob7, rv as_FIRST_INDEX_FIRST, rv xb_20, rv ob29, iv 1] [(.int 1), (.ref ob7)])) _
  obtain ⟨cl56, Ar56, qx56, Sx56, N56', H56', G56'⟩ := id (Fc49)
  have hin56 : ¬ ((1 : Int32) < 0 ∨ cl56.slots.size ≤ ((1 : Int32)).toNatClampNeg) := inb_of Sx56 ⟨(by decide : ¬ ((1 : Int32) < (0 : Int32))), (by decide : (1 : Int32) < (2 : Int32))⟩
  have hat56 : cl56.slots[((1 : Int32)).toNatClampNeg]? = some (.long x1) := Has.at H56' hin56 rfl
  have sg57 : ∀ t, Steps p.tables e below (T42.setTop (mkF m 392 #[iv p0, jv p1, .second, jv p2, .second, jv p3, .second, jv p4, .second, iv 1, iv 2, jv x0, .second, jv x1, .second, jv x2, .second, jv xe, .second, rv ob7, rv as_FIRST_INDEX_FIRST, rv xb_20, rv ob29, iv 1] [(.int 1)])) t → Steps p.tables e below (T42.setTop (mkF m 336 #[iv p0, jv p1, .second, jv p2, .second, jv p3, .second, jv p4, .second, iv 1, iv 2, jv x0, .second, jv x1, .second, jv x2, .second, jv xe, .second, rv ob7, rv as_FIRST_INDEX_FIRST, rv xb_20, rv ob29, iv 1] [(.int 1), (.ref ob7)])) t := by
    intro t k
    refine X42.laload hx (j := (1 : Int32)) (v := (.long x1)) (by rw [e42]; exact Ar56.1) (State.isArrayOf_alike hZ.alike Ar56.2.1) Ar56.2.2 hin56 hat56 (g := (mkF m 336 #[iv p0, jv p1, .second, jv p2, .second, jv p3, .second, jv p4, .second, iv 1, iv 2, jv x0, .second, jv x1, .second, jv x2, .second, jv xe, .second, rv ob7, rv as_FIRST_INDEX_FIRST, rv xb_20, rv ob29, iv 1] [(.int 1), (.ref ob7)])) rfl rfl (hb hby at_336) _ ?_
    show Steps p.tables e below (T42.setTop (mkF m 337 #[iv p0, jv p1, .second, jv p2, .second, jv p3, .second, jv p4, .second, iv 1, iv 2, jv x0, .second, jv x1, .second, jv x2, .second, jv xe, .second, rv ob7, rv as_FIRST_INDEX_FIRST, rv xb_20, rv ob29, iv 1] [(.long x1)])) _
    refine XS.lload X42.here hx rfl (hb hby at_337) rfl ?_
    refine XS.lcmp X42.here hx rfl (hb hby at_339) rfl ?_
    show Steps p.tables e below (T42.setTop (mkF m 340 #[iv p0, jv p1, .second, jv p2, .second, jv p3, .second, jv p4, .second, iv 1, iv 2, jv x0, .second, jv x1, .second, jv x2, .second, jv xe, .second, rv ob7, rv as_FIRST_INDEX_FIRST, rv xb_20, rv ob29, iv 1] [(.int (lcmpW x1 x1))])) _
    refine XS.ifNo X42.here hx rfl (hb hby at_340) rfl ((if0 _ _).trans (teq ((lw_eq x1 x1).2 (rfl : x1 = x1))).2) ?_
    refine XS.iconst X42.here hx rfl (hb hby at_343) ?_
    show Steps p.tables e below (T42.setTop (mkF m 344 #[iv p0, jv p1, .second, jv p2, .second, jv p3, .second, jv p4, .second, iv 1, iv 2, jv x0, .second, jv x1, .second, jv x2, .second, jv xe, .second, rv ob7, rv as_FIRST_INDEX_FIRST, rv xb_20, rv ob29, iv 1] [(.int 1)])) _
    refine XS.goto X42.here hx rfl (pc0 := 344) (pc' := 348) rfl (hb hby at_344) (by decide) (by decide) ?_
    refine XS.istore X42.here hx rfl (hb hby at_348) rfl (l' := #[iv p0, jv p1, .second, jv p2, .second, jv p3, .second, jv p4, .second, iv 1, iv 2, jv x0, .second, jv x1, .second, jv x2, .second, jv xe, .second, rv ob7, rv as_FIRST_INDEX_FIRST, rv xb_20, rv ob29, iv 1]) rfl ?_
    show Steps p.tables e below (T42.setTop (mkF m 350 #[iv p0, jv p1, .second, jv p2, .second, jv p3, .second, jv p4, .second, iv 1, iv 2, jv x0, .second, jv x1, .second, jv x2, .second, jv xe, .second, rv ob7, rv as_FIRST_INDEX_FIRST, rv xb_20, rv ob29, iv 1] [])) _
    refine XS.iload X42.here hx rfl (hb hby at_350) rfl ?_
    refine XS.iconst X42.here hx rfl (hb hby at_352) ?_
    show Steps p.tables e below (T42.setTop (mkF m 353 #[iv p0, jv p1, .second, jv p2, .second, jv p3, .second, jv p4, .second, iv 1, iv 2, jv x0, .second, jv x1, .second, jv x2, .second, jv xe, .second, rv ob7, rv as_FIRST_INDEX_FIRST, rv xb_20, rv ob29, iv 1] [(.int 2), (.int 2)])) _
    refine XS.icmpYes X42.here hx rfl (pc0 := 353) (pc' := 390) rfl (hb hby at_353) rfl (flt (by decide : ¬ ((2 : Int32) < (2 : Int32)))).2.2.2 (by decide) (by decide) ?_
    refine XS.iload X42.here hx rfl (hb hby at_390) rfl ?_
    show Steps p.tables e below (T42.setTop (mkF m 392 #[iv p0, jv p1, .second, jv p2, .second, jv p3, .second, jv p4, .second, iv 1, iv 2, jv x0, .second, jv x1, .second, jv x2, .second, jv xe, .second, rv ob7, rv as_FIRST_INDEX_FIRST, rv xb_20, rv ob29, iv 1] [(.int 1)])) _
    exact k
  refine own_lift sg57 ?_
  show own_Go p.tables e below (T42.setTop (mkF m 392 #[iv p0, jv p1, .second, jv p2, .second, jv p3, .second, jv p4, .second, iv 1, iv 2, jv x0, .second, jv x1, .second, jv x2, .second, jv xe, .second, rv ob7, rv as_FIRST_INDEX_FIRST, rv xb_20, rv ob29, iv 1] [(.int 1)])) _
  obtain ⟨fs, hr, hrun, hended, hW, hsame⟩ := X42.leave (v := some (.int 1)) (fun h => by rw [Bd.returns] at h; cases h)
  refine ⟨_, _, ?_, hrun, hended, _, _, rfl, ?_, ⟨_, rfl⟩, hW, hsame.mono (by decide) (by decide)⟩
  · exact retN X42 hx (t := .boolean) Bd.returns (by simp) (hb hby at_392) hr
  · show Q0 Z  h0 n0 _ T42.heap _
    rw [e42]
    exact ⟨rfl, N42⟩
theorem ef_rm0_3F (m : MethodId) (x0 : Int32) (x1 : Int64) (x2 : Int64) (x3 : Int64) (x4 : Int64) : entryFrame m #[(.int x0), (.long x1), (.long x2), (.long x3), (.long x4)] maxLocals = mkF m 0 #[.val (.int x0), .val (.long x1), .second, .val (.long x2), .second, .val (.long x3), .second, .val (.long x4), .second, .unset, .unset, .unset, .unset, .unset, .unset, .unset, .unset, .unset, .unset, .unset, .unset, .unset, .unset, .unset] [] := by first | (simp [entryFrame, mkF, argsToLocals, Value.category, maxLocals]; done) | rfl
set_option maxRecDepth 65536 in
set_option maxHeartbeats 40000000 in
theorem rm0_3F (l : Launch) (Z : State) (a0 : Array Value) (hw : ∀ d ∈ tables_1, d.before a0 Z = true) (ws : List Jvm.Cond) (p0 : Int32) (p1 : Int64) (p2 : Int64) (p3 : Int64) (p4 : Int64) (as_LAST_INDEX_FIRST : Addr) (as_FIRST_INDEX_FIRST : Addr) (x0 : Int64) (x1 : Int64) (x2 : Int64) (xe : Int64) (h0 : Heap) (n0 : Nat) (Z0 : n0 ≤ h0.size) (S_LAST_INDEX_FIRST : Sta Z h0 "com/example/halyard/halyard/east/ArrayStorage" "LAST_INDEX_FIRST" "Lcom/example/halyard/halyard/east/ArrayStorage;" (.ref as_LAST_INDEX_FIRST)) (E_LAST_INDEX_FIRST : Exa Z h0 as_LAST_INDEX_FIRST "com/example/halyard/halyard/east/ArrayStorage") (O_LAST_INDEX_FIRST : Fld Z h0 as_LAST_INDEX_FIRST "java/lang/Enum" "ordinal" "I" (.int 1)) (S_FIRST_INDEX_FIRST : Sta Z h0 "com/example/halyard/halyard/east/ArrayStorage" "FIRST_INDEX_FIRST" "Lcom/example/halyard/halyard/east/ArrayStorage;" (.ref as_FIRST_INDEX_FIRST)) (E_FIRST_INDEX_FIRST : Exa Z h0 as_FIRST_INDEX_FIRST "com/example/halyard/halyard/east/ArrayStorage") (O_FIRST_INDEX_FIRST : Fld Z h0 as_FIRST_INDEX_FIRST "java/lang/Enum" "ordinal" "I" (.int 0)) (hx0 : (p1 &&& (65535 : Int64)) = x0) (hx1 : (p2 &&& (65535 : Int64)) = x1) (hx2 : (p3 &&& (65535 : Int64)) = x2) (hxe : (p4 &&& (32767 : Int64)) = xe) (b1 : ¬ ((p0 &&& (1 : Int32)) = (0 : Int32))) (hn : (((p0.toUInt32 >>> ((1 : Int32) &&& 31).toUInt32).toInt32) &&& (3 : Int32)) = (3 : Int32)) (hne : ¬ (as_LAST_INDEX_FIRST = as_FIRST_INDEX_FIRST)) :
    MetFree l x (head1 (Jvm.Cond.code x code maxLocals ret :: ws) room_1) (fun a U => a = #[(.int p0), (.long p1), (.long p2), (.long p3), (.long p4)] ∧ Z.Warmed39 U.vm ∧ U.heap = h0) (fun _ _ _ _ _ => True) (fun _ U o U' => ∃ v L, o = .returned v ∧ Q0 Z  h0 n0 v U'.heap L ∧ FrameEnd U o U' L 16 128) := by
  refine MetFree.of_bodySF (plainFor_of_name pn_1) hisR ?_
  intro p e s m args below meth c s₁ Bd hml0 hP hK
  obtain ⟨rfl, hZ, hh⟩ := hP
  have hx := Bd.exec
  have hby := Bd.bytes
  have hml : c.maxLocals = 24 := hml0
  have hown : s.vm.findClass "com/example/halyard/halyard/east/ArrayStorageStridesPinLaw" = some m.cls := findClass_of_methodNamed Bd.named
  have hnm := (name_of_methodNamed Bd.named Bd.method).1
  have X0 : Stand p l e room_1 s m #[(.int p0), (.long p1), (.long p2), (.long p3), (.long p4)] below meth c s₁ [] 0 0 := Stand.of_body Bd
  have e0 : s₁.heap = h0 := by rw [← hh, Bd.state]; rfl
  have N0 := Fr.nil n0
  refine own_go (own_lift (fun t k => castTop (ef_rm0_3F m p0 p1 p2 p3 p4) k) ?_)
  show own_Go p.tables e below (s₁.setTop (mkF m 0 #[iv p0, jv p1, .second, jv p2, .second, jv p3, .second, jv p4, .second, .unset, .unset, .unset, .unset, .unset, .unset, .unset, .unset, .unset, .unset, .unset, .unset, .unset, .unset, .unset] [])) _
  have sg1 : ∀ t, Steps p.tables e below (s₁.setTop (mkF m 18 #[iv p0, jv p1, .second, jv p2, .second, jv p3, .second, jv p4, .second, iv 1, .unset, .unset, .unset, .unset, .unset, .unset, .unset, .unset, .unset, .unset, .unset, .unset, .unset, .unset] [(.int (((p0.toUInt32 >>> ((1 : Int32) &&& 31).toUInt32).toInt32) &&& (3 : Int32)))])) t → Steps p.tables e below (s₁.setTop (mkF m 0 #[iv p0, jv p1, .second, jv p2, .second, jv p3, .second, jv p4, .second, .unset, .unset, .unset, .unset, .unset, .unset, .unset, .unset, .unset, .unset, .unset, .unset, .unset, .unset, .unset] [])) t := by
    intro t k
    refine XS.iloadN X0.here hx rfl (hb hby at_0) rfl ?_
    show Steps p.tables e below (s₁.setTop (mkF m 1 #[iv p0, jv p1, .second, jv p2, .second, jv p3, .second, jv p4, .second, .unset, .unset, .unset, .unset, .unset, .unset, .unset, .unset, .unset, .unset, .unset, .unset, .unset, .unset, .unset] [(.int p0)])) _
    refine XS.iconst X0.here hx rfl (hb hby at_1) ?_
    refine XS.iand X0.here hx rfl (hb hby at_2) rfl ?_
    show Steps p.tables e below (s₁.setTop (mkF m 3 #[iv p0, jv p1, .second, jv p2, .second, jv p3, .second, jv p4, .second, .unset, .unset, .unset, .unset, .unset, .unset, .unset, .unset, .unset, .unset, .unset, .unset, .unset, .unset, .unset] [(.int (p0 &&& (1 : Int32)))])) _
    refine XS.ifNo X0.here hx rfl (hb hby at_3) rfl ((if0 _ _).trans (feq b1).1) ?_
    refine XS.iconst X0.here hx rfl (hb hby at_6) ?_
    show Steps p.tables e below (s₁.setTop (mkF m 7 #[iv p0, jv p1, .second, jv p2, .second, jv p3, .second, jv p4, .second, .unset, .unset, .unset, .unset, .unset, .unset, .unset, .unset, .unset, .unset, .unset, .unset, .unset, .unset, .unset] [(.int 1)])) _
    refine XS.goto X0.here hx rfl (pc0 := 7) (pc' := 11) rfl (hb hby at_7) (by decide) (by decide) ?_
    refine XS.istore X0.here hx rfl (hb hby at_11) rfl (l' := #[iv p0, jv p1, .second, jv p2, .second, jv p3, .second, jv p4, .second, iv 1, .unset, .unset, .unset, .unset, .unset, .unset, .unset, .unset, .unset, .unset, .unset, .unset, .unset, .unset]) rfl ?_
    show Steps p.tables e below (s₁.setTop (mkF m 13 #[iv p0, jv p1, .second, jv p2, .second, jv p3, .second, jv p4, .second, iv 1, .unset, .unset, .unset, .unset, .unset, .unset, .unset, .unset, .unset, .unset, .unset, .unset, .unset, .unset] [])) _
    refine XS.iloadN X0.here hx rfl (hb hby at_13) rfl ?_
    refine XS.iconst X0.here hx rfl (hb hby at_14) ?_
    show Steps p.tables e below (s₁.setTop (mkF m 15 #[iv p0, jv p1, .second, jv p2, .second, jv p3, .second, jv p4, .second, iv 1, .unset, .unset, .unset, .unset, .unset, .unset, .unset, .unset, .unset, .unset, .unset, .unset, .unset, .unset] [(.int 1), (.int p0)])) _
    refine XS.iushr X0.here hx rfl (hb hby at_15) rfl ?_
    refine XS.iconst X0.here hx rfl (hb hby at_16) ?_
    show Steps p.tables e below (s₁.setTop (mkF m 17 #[iv p0, jv p1, .second, jv p2, .second, jv p3, .second, jv p4, .second, iv 1, .unset, .unset, .unset, .unset, .unset, .unset, .unset, .unset, .unset, .unset, .unset, .unset, .unset, .unset] [(.int 3), (.int ((p0.toUInt32 >>> ((1 : Int32) &&& 31).toUInt32).toInt32))])) _
    refine XS.iand X0.here hx rfl (hb hby at_17) rfl ?_
    show Steps p.tables e below (s₁.setTop (mkF m 18 #[iv p0, jv p1, .second, jv p2, .second, jv p3, .second, jv p4, .second, iv 1, .unset, .unset, .unset, .unset, .unset, .unset, .unset, .unset, .unset, .unset, .unset, .unset, .unset, .unset] [(.int (((p0.toUInt32 >>> ((1 : Int32) &&& 31).toUInt32).toInt32) &&& (3 : Int32)))])) _
    exact k
  refine own_lift sg1 ?_
  show own_Go p.tables e below (s₁.setTop (mkF m 18 #[iv p0, jv p1, .second, jv p2, .second, jv p3, .second, jv p4, .second, iv 1, .unset, .unset, .unset, .unset, .unset, .unset, .unset, .unset, .unset, .unset, .unset, .unset, .unset, .unset] [(.int (((p0.toUInt32 >>> ((1 : Int32) &&& 31).toUInt32).toInt32) &&& (3 : Int32)))])) _
  rw [hn]
  show own_Go p.tables e below (s₁.setTop (mkF m 18 #[iv p0, jv p1, .second, jv p2, .second, jv p3, .second, jv p4, .second, iv 1, .unset, .unset, .unset, .unset, .unset, .unset, .unset, .unset, .unset, .unset, .unset, .unset, .unset, .unset] [(.int 3)])) _
  have sg2 : ∀ t, Steps p.tables e below (s₁.setTop (mkF m 25 #[iv p0, jv p1, .second, jv p2, .second, jv p3, .second, jv p4, .second, iv 1, iv 3, .unset, .unset, .unset, .unset, .unset, .unset, .unset, .unset, .unset, .unset, .unset, .unset, .unset] [(.long (p1 &&& (65535 : Int64)))])) t → Steps p.tables e below (s₁.setTop (mkF m 18 #[iv p0, jv p1, .second, jv p2, .second, jv p3, .second, jv p4, .second, iv 1, .unset, .unset, .unset, .unset, .unset, .unset, .unset, .unset, .unset, .unset, .unset, .unset, .unset, .unset] [(.int 3)])) t := by
    intro t k
    refine XS.istore X0.here hx rfl (hb hby at_18) rfl (l' := #[iv p0, jv p1, .second, jv p2, .second, jv p3, .second, jv p4, .second, iv 1, iv 3, .unset, .unset, .unset, .unset, .unset, .unset, .unset, .unset, .unset, .unset, .unset, .unset, .unset]) rfl ?_
    show Steps p.tables e below (s₁.setTop (mkF m 20 #[iv p0, jv p1, .second, jv p2, .second, jv p3, .second, jv p4, .second, iv 1, iv 3, .unset, .unset, .unset, .unset, .unset, .unset, .unset, .unset, .unset, .unset, .unset, .unset, .unset] [])) _
    refine XS.lloadN X0.here hx rfl (hb hby at_20) rfl ?_
    refine X0.ldc2Long hx hown (mvT hZ (wd hw 0 rfl)) (g := (mkF m 21 #[iv p0, jv p1, .second, jv p2, .second, jv p3, .second, jv p4, .second, iv 1, iv 3, .unset, .unset, .unset, .unset, .unset, .unset, .unset, .unset, .unset, .unset, .unset, .unset, .unset] [(.long p1)])) rfl (hb hby at_21) _ ?_
    show Steps p.tables e below (s₁.setTop (mkF m 24 #[iv p0, jv p1, .second, jv p2, .second, jv p3, .second, jv p4, .second, iv 1, iv 3, .unset, .unset, .unset, .unset, .unset, .unset, .unset, .unset, .unset, .unset, .unset, .unset, .unset] [(.long 65535), (.long p1)])) _
    refine XS.land X0.here hx rfl (hb hby at_24) rfl ?_
    show Steps p.tables e below (s₁.setTop (mkF m 25 #[iv p0, jv p1, .second, jv p2, .second, jv p3, .second, jv p4, .second, iv 1, iv 3, .unset, .unset, .unset, .unset, .unset, .unset, .unset, .unset, .unset, .unset, .unset, .unset, .unset] [(.long (p1 &&& (65535 : Int64)))])) _
    exact k
  refine own_lift sg2 ?_
  show own_Go p.tables e below (s₁.setTop (mkF m 25 #[iv p0, jv p1, .second, jv p2, .second, jv p3, .second, jv p4, .second, iv 1, iv 3, .unset, .unset, .unset, .unset, .unset, .unset, .unset, .unset, .unset, .unset, .unset, .unset, .unset] [(.long (p1 &&& (65535 : Int64)))])) _
  rw [hx0]
  show own_Go p.tables e below (s₁.setTop (mkF m 25 #[iv p0, jv p1, .second, jv p2, .second, jv p3, .second, jv p4, .second, iv 1, iv 3, .unset, .unset, .unset, .unset, .unset, .unset, .unset, .unset, .unset, .unset, .unset, .unset, .unset] [(.long x0)])) _
  have sg3 : ∀ t, Steps p.tables e below (s₁.setTop (mkF m 32 #[iv p0, jv p1, .second, jv p2, .second, jv p3, .second, jv p4, .second, iv 1, iv 3, jv x0, .second, .unset, .unset, .unset, .unset, .unset, .unset, .unset, .unset, .unset, .unset, .unset] [(.long (p2 &&& (65535 : Int64)))])) t → Steps p.tables e below (s₁.setTop (mkF m 25 #[iv p0, jv p1, .second, jv p2, .second, jv p3, .second, jv p4, .second, iv 1, iv 3, .unset, .unset, .unset, .unset, .unset, .unset, .unset, .unset, .unset, .unset, .unset, .unset, .unset] [(.long x0)])) t := by
    intro t k
    refine XS.lstore X0.here hx rfl (hb hby at_25) rfl (l' := #[iv p0, jv p1, .second, jv p2, .second, jv p3, .second, jv p4, .second, iv 1, iv 3, jv x0, .second, .unset, .unset, .unset, .unset, .unset, .unset, .unset, .unset, .unset, .unset, .unset]) rfl ?_
    show Steps p.tables e below (s₁.setTop (mkF m 27 #[iv p0, jv p1, .second, jv p2, .second, jv p3, .second, jv p4, .second, iv 1, iv 3, jv x0, .second, .unset, .unset, .unset, .unset, .unset, .unset, .unset, .unset, .unset, .unset, .unset] [])) _
    refine XS.lloadN X0.here hx rfl (hb hby at_27) rfl ?_
    refine X0.ldc2Long hx hown (mvT hZ (wd hw 0 rfl)) (g := (mkF m 28 #[iv p0, jv p1, .second, jv p2, .second, jv p3, .second, jv p4, .second, iv 1, iv 3, jv x0, .second, .unset, .unset, .unset, .unset, .unset, .unset, .unset, .unset, .unset, .unset, .unset] [(.long p2)])) rfl (hb hby at_28) _ ?_
    show Steps p.tables e below (s₁.setTop (mkF m 31 #[iv p0, jv p1, .second, jv p2, .second, jv p3, .second, jv p4, .second, iv 1, iv 3, jv x0, .second, .unset, .unset, .unset, .unset, .unset, .unset, .unset, .unset, .unset, .unset, .unset] [(.long 65535), (.long p2)])) _
    refine XS.land X0.here hx rfl (hb hby at_31) rfl ?_
    show Steps p.tables e below (s₁.setTop (mkF m 32 #[iv p0, jv p1, .second, jv p2, .second, jv p3, .second, jv p4, .second, iv 1, iv 3, jv x0, .second, .unset, .unset, .unset, .unset, .unset, .unset, .unset, .unset, .unset, .unset, .unset] [(.long (p2 &&& (65535 : Int64)))])) _
    exact k
  refine own_lift sg3 ?_
  show own_Go p.tables e below (s₁.setTop (mkF m 32 #[iv p0, jv p1, .second, jv p2, .second, jv p3, .second, jv p4, .second, iv 1, iv 3, jv x0, .second, .unset, .unset, .unset, .unset, .unset, .unset, .unset, .unset, .unset, .unset, .unset] [(.long (p2 &&& (65535 : Int64)))])) _
  rw [hx1]
  show own_Go p.tables e below (s₁.setTop (mkF m 32 #[iv p0, jv p1, .second, jv p2, .second, jv p3, .second, jv p4, .second, iv 1, iv 3, jv x0, .second, .unset, .unset, .unset, .unset, .unset, .unset, .unset, .unset, .unset, .unset, .unset] [(.long x1)])) _
  have sg4 : ∀ t, Steps p.tables e below (s₁.setTop (mkF m 40 #[iv p0, jv p1, .second, jv p2, .second, jv p3, .second, jv p4, .second, iv 1, iv 3, jv x0, .second, jv x1, .second, .unset, .unset, .unset, .unset, .unset, .unset, .unset, .unset, .unset] [(.long (p3 &&& (65535 : Int64)))])) t → Steps p.tables e below (s₁.setTop (mkF m 32 #[iv p0, jv p1, .second, jv p2, .second, jv p3, .second, jv p4, .second, iv 1, iv 3, jv x0, .second, .unset, .unset, .unset, .unset, .unset, .unset, .unset, .unset, .unset, .unset, .unset] [(.long x1)])) t := by
    intro t k
    refine XS.lstore X0.here hx rfl (hb hby at_32) rfl (l' := #[iv p0, jv p1, .second, jv p2, .second, jv p3, .second, jv p4, .second, iv 1, iv 3, jv x0, .second, jv x1, .second, .unset, .unset, .unset, .unset, .unset, .unset, .unset, .unset, .unset]) rfl ?_
    show Steps p.tables e below (s₁.setTop (mkF m 34 #[iv p0, jv p1, .second, jv p2, .second, jv p3, .second, jv p4, .second, iv 1, iv 3, jv x0, .second, jv x1, .second, .unset, .unset, .unset, .unset, .unset, .unset, .unset, .unset, .unset] [])) _
    refine XS.lload X0.here hx rfl (hb hby at_34) rfl ?_
    refine X0.ldc2Long hx hown (mvT hZ (wd hw 0 rfl)) (g := (mkF m 36 #[iv p0, jv p1, .second, jv p2, .second, jv p3, .second, jv p4, .second, iv 1, iv 3, jv x0, .second, jv x1, .second, .unset, .unset, .unset, .unset, .unset, .unset, .unset, .unset, .unset] [(.long p3)])) rfl (hb hby at_36) _ ?_
    show Steps p.tables e below (s₁.setTop (mkF m 39 #[iv p0, jv p1, .second, jv p2, .second, jv p3, .second, jv p4, .second, iv 1, iv 3, jv x0, .second, jv x1, .second, .unset, .unset, .unset, .unset, .unset, .unset, .unset, .unset, .unset] [(.long 65535), (.long p3)])) _
    refine XS.land X0.here hx rfl (hb hby at_39) rfl ?_
    show Steps p.tables e below (s₁.setTop (mkF m 40 #[iv p0, jv p1, .second, jv p2, .second, jv p3, .second, jv p4, .second, iv 1, iv 3, jv x0, .second, jv x1, .second, .unset, .unset, .unset, .unset, .unset, .unset, .unset, .unset, .unset] [(.long (p3 &&& (65535 : Int64)))])) _
    exact k
  refine own_lift sg4 ?_
  show own_Go p.tables e below (s₁.setTop (mkF m 40 #[iv p0, jv p1, .second, jv p2, .second, jv p3, .second, jv p4, .second, iv 1, iv 3, jv x0, .second, jv x1, .second, .unset, .unset, .unset, .unset, .unset, .unset, .unset, .unset, .unset] [(.long (p3 &&& (65535 : Int64)))])) _
  rw [hx2]
  show own_Go p.tables e below (s₁.setTop (mkF m 40 #[iv p0, jv p1, .second, jv p2, .second, jv p3, .second, jv p4, .second, iv 1, iv 3, jv x0, .second, jv x1, .second, .unset, .unset, .unset, .unset, .unset, .unset, .unset, .unset, .unset] [(.long x2)])) _
  have sg5 : ∀ t, Steps p.tables e below (s₁.setTop (mkF m 48 #[iv p0, jv p1, .second, jv p2, .second, jv p3, .second, jv p4, .second, iv 1, iv 3, jv x0, .second, jv x1, .second, jv x2, .second, .unset, .unset, .unset, .unset, .unset, .unset, .unset] [(.long (p4 &&& (32767 : Int64)))])) t → Steps p.tables e below (s₁.setTop (mkF m 40 #[iv p0, jv p1, .second, jv p2, .second, jv p3, .second, jv p4, .second, iv 1, iv 3, jv x0, .second, jv x1, .second, .unset, .unset, .unset, .unset, .unset, .unset, .unset, .unset, .unset] [(.long x2)])) t := by
    intro t k
    refine XS.lstore X0.here hx rfl (hb hby at_40) rfl (l' := #[iv p0, jv p1, .second, jv p2, .second, jv p3, .second, jv p4, .second, iv 1, iv 3, jv x0, .second, jv x1, .second, jv x2, .second, .unset, .unset, .unset, .unset, .unset, .unset, .unset]) rfl ?_
    show Steps p.tables e below (s₁.setTop (mkF m 42 #[iv p0, jv p1, .second, jv p2, .second, jv p3, .second, jv p4, .second, iv 1, iv 3, jv x0, .second, jv x1, .second, jv x2, .second, .unset, .unset, .unset, .unset, .unset, .unset, .unset] [])) _
    refine XS.lload X0.here hx rfl (hb hby at_42) rfl ?_
    refine X0.ldc2Long hx hown (mvT hZ (wd hw 1 rfl)) (g := (mkF m 44 #[iv p0, jv p1, .second, jv p2, .second, jv p3, .second, jv p4, .second, iv 1, iv 3, jv x0, .second, jv x1, .second, jv x2, .second, .unset, .unset, .unset, .unset, .unset, .unset, .unset] [(.long p4)])) rfl (hb hby at_44) _ ?_
    show Steps p.tables e below (s₁.setTop (mkF m 47 #[iv p0, jv p1, .second, jv p2, .second, jv p3, .second, jv p4, .second, iv 1, iv 3, jv x0, .second, jv x1, .second, jv x2, .second, .unset, .unset, .unset, .unset, .unset, .unset, .unset] [(.long 32767), (.long p4)])) _
    refine XS.land X0.here hx rfl (hb hby at_47) rfl ?_
    show Steps p.tables e below (s₁.setTop (mkF m 48 #[iv p0, jv p1, .second, jv p2, .second, jv p3, .second, jv p4, .second, iv 1, iv 3, jv x0, .second, jv x1, .second, jv x2, .second, .unset, .unset, .unset, .unset, .unset, .unset, .unset] [(.long (p4 &&& (32767 : Int64)))])) _
    exact k
  refine own_lift sg5 ?_
  show own_Go p.tables e below (s₁.setTop (mkF m 48 #[iv p0, jv p1, .second, jv p2, .second, jv p3, .second, jv p4, .second, iv 1, iv 3, jv x0, .second, jv x1, .second, jv x2, .second, .unset, .unset, .unset, .unset, .unset, .unset, .unset] [(.long (p4 &&& (32767 : Int64)))])) _
  rw [hxe]
  show own_Go p.tables e below (s₁.setTop (mkF m 48 #[iv p0, jv p1, .second, jv p2, .second, jv p3, .second, jv p4, .second, iv 1, iv 3, jv x0, .second, jv x1, .second, jv x2, .second, .unset, .unset, .unset, .unset, .unset, .unset, .unset] [(.long xe)])) _
  have sg6 : ∀ t, Steps p.tables e below (s₁.setTop (mkF m 52 #[iv p0, jv p1, .second, jv p2, .second, jv p3, .second, jv p4, .second, iv 1, iv 3, jv x0, .second, jv x1, .second, jv x2, .second, jv xe, .second, .unset, .unset, .unset, .unset, .unset] [(.int 3)])) t → Steps p.tables e below (s₁.setTop (mkF m 48 #[iv p0, jv p1, .second, jv p2, .second, jv p3, .second, jv p4, .second, iv 1, iv 3, jv x0, .second, jv x1, .second, jv x2, .second, .unset, .unset, .unset, .unset, .unset, .unset, .unset] [(.long xe)])) t := by
    intro t k
    refine XS.lstore X0.here hx rfl (hb hby at_48) rfl (l' := #[iv p0, jv p1, .second, jv p2, .second, jv p3, .second, jv p4, .second, iv 1, iv 3, jv x0, .second, jv x1, .second, jv x2, .second, jv xe, .second, .unset, .unset, .unset, .unset, .unset]) rfl ?_
    show Steps p.tables e below (s₁.setTop (mkF m 50 #[iv p0, jv p1, .second, jv p2, .second, jv p3, .second, jv p4, .second, iv 1, iv 3, jv x0, .second, jv x1, .second, jv x2, .second, jv xe, .second, .unset, .unset, .unset, .unset, .unset] [])) _
    refine XS.iload X0.here hx rfl (hb hby at_50) rfl ?_
    show Steps p.tables e below (s₁.setTop (mkF m 52 #[iv p0, jv p1, .second, jv p2, .second, jv p3, .second, jv p4, .second, iv 1, iv 3, jv x0, .second, jv x1, .second, jv x2, .second, jv xe, .second, .unset, .unset, .unset, .unset, .unset] [(.int 3)])) _
    exact k
  refine own_lift sg6 ?_
  show own_Go p.tables e below (s₁.setTop (mkF m 52 #[iv p0, jv p1, .second, jv p2, .second, jv p3, .second, jv p4, .second, iv 1, iv 3, jv x0, .second, jv x1, .second, jv x2, .second, jv xe, .second, .unset, .unset, .unset, .unset, .unset] [(.int 3)])) _
  obtain ⟨T7, h7, ka7, X7, e7, Ex7, Ax7, st7⟩ := newP X0 hx hZ (wd hw 2 rfl) e0 (g := (mkF m 52 #[iv p0, jv p1, .second, jv p2, .second, jv p3, .second, jv p4, .second, iv 1, iv 3, jv x0, .second, jv x1, .second, jv x2, .second, jv xe, .second, .unset, .unset, .unset, .unset, .unset] [(.int 3)])) rfl (hb hby at_52) rfl (by decide) (cap := 3) (by decide) (by decide) (by decide) (by decide)
  obtain ⟨ob7, g7⟩ : ∃ z, z = h0.size := ⟨_, rfl⟩
  rw [← g7] at Ax7 st7
  have ne8 : as_LAST_INDEX_FIRST ≠ ob7 := Nat.ne_of_lt (Nat.lt_of_lt_of_le E_LAST_INDEX_FIRST.lt (Nat.le_of_eq g7.symm))
  have ne9 : as_FIRST_INDEX_FIRST ≠ ob7 := Nat.ne_of_lt (Nat.lt_of_lt_of_le E_FIRST_INDEX_FIRST.lt (Nat.le_of_eq g7.symm))
  have Z7 : n0 ≤ h7.size := Nat.le_trans Z0 Ex7.1
  have ge7 : n0 ≤ ob7 := Nat.le_trans Z0 (Nat.le_of_eq g7.symm)
  have Vn7 : Arv Z h7 ob7 ka7 .long (3 : Int32) [(.long 0), (.long 0), (.long 0)] (.long 0) := (Arv.new Ax7 (by decide)).pad (pad_rep [] (.long 0) 3)
  refine own_lift st7 ?_
  show own_Go p.tables e below (T7.setTop (mkF m 54 #[iv p0, jv p1, .second, jv p2, .second, jv p3, .second, jv p4, .second, iv 1, iv 3, jv x0, .second, jv x1, .second, jv x2, .second, jv xe, .second, .unset, .unset, .unset, .unset, .unset] [(.ref ob7)])) _
  have sg10 : ∀ t, Steps p.tables e below (T7.setTop (mkF m 66 #[iv p0, jv p1, .second, jv p2, .second, jv p3, .second, jv p4, .second, iv 1, iv 3, jv x0, .second, jv x1, .second, jv x2, .second, jv xe, .second, rv ob7, .unset, .unset, .unset, .unset] [(.long x0), (.int 0), (.ref ob7)])) t → Steps p.tables e below (T7.setTop (mkF m 54 #[iv p0, jv p1, .second, jv p2, .second, jv p3, .second, jv p4, .second, iv 1, iv 3, jv x0, .second, jv x1, .second, jv x2, .second, jv xe, .second, .unset, .unset, .unset, .unset, .unset] [(.ref ob7)])) t := by
    intro t k
    refine XS.astore X7.here hx rfl (hb hby at_54) rfl rfl (l' := #[iv p0, jv p1, .second, jv p2, .second, jv p3, .second, jv p4, .second, iv 1, iv 3, jv x0, .second, jv x1, .second, jv x2, .second, jv xe, .second, rv ob7, .unset, .unset, .unset, .unset]) rfl ?_
    show Steps p.tables e below (T7.setTop (mkF m 56 #[iv p0, jv p1, .second, jv p2, .second, jv p3, .second, jv p4, .second, iv 1, iv 3, jv x0, .second, jv x1, .second, jv x2, .second, jv xe, .second, rv ob7, .unset, .unset, .unset, .unset] [])) _
    refine XS.iload X7.here hx rfl (hb hby at_56) rfl ?_
    refine XS.ifNo X7.here hx rfl (hb hby at_58) rfl ((if0 _ _).trans (tlt (by decide : (0 : Int32) < (3 : Int32))).2.2.2) ?_
    show Steps p.tables e below (T7.setTop (mkF m 61 #[iv p0, jv p1, .second, jv p2, .second, jv p3, .second, jv p4, .second, iv 1, iv 3, jv x0, .second, jv x1, .second, jv x2, .second, jv xe, .second, rv ob7, .unset, .unset, .unset, .unset] [])) _
    refine XS.aload X7.here hx rfl (hb hby at_61) rfl rfl ?_
    refine XS.iconst X7.here hx rfl (hb hby at_63) ?_
    show Steps p.tables e below (T7.setTop (mkF m 64 #[iv p0, jv p1, .second, jv p2, .second, jv p3, .second, jv p4, .second, iv 1, iv 3, jv x0, .second, jv x1, .second, jv x2, .second, jv xe, .second, rv ob7, .unset, .unset, .unset, .unset] [(.int 0), (.ref ob7)])) _
    refine XS.lload X7.here hx rfl (hb hby at_64) rfl ?_
    show Steps p.tables e below (T7.setTop (mkF m 66 #[iv p0, jv p1, .second, jv p2, .second, jv p3, .second, jv p4, .second, iv 1, iv 3, jv x0, .second, jv x1, .second, jv x2, .second, jv xe, .second, rv ob7, .unset, .unset, .unset, .unset] [(.long x0), (.int 0), (.ref ob7)])) _
    exact k
  refine own_lift sg10 ?_
  show own_Go p.tables e below (T7.setTop (mkF m 66 #[iv p0, jv p1, .second, jv p2, .second, jv p3, .second, jv p4, .second, iv 1, iv 3, jv x0, .second, jv x1, .second, jv x2, .second, jv xe, .second, rv ob7, .unset, .unset, .unset, .unset] [(.long x0), (.int 0), (.ref ob7)])) _
  obtain ⟨cl11, Ar11, qx11, Sx11, N11', H11', G11'⟩ := id (Vn7)
  have hin11 : ¬ ((0 : Int32) < 0 ∨ cl11.slots.size ≤ ((0 : Int32)).toNatClampNeg) := inb_of Sx11 ⟨(by decide : ¬ ((0 : Int32) < (0 : Int32))), (by decide : (0 : Int32) < (3 : Int32))⟩
  obtain ⟨T12, h12, X12, e12, W12, st12⟩ := stJ X7 hx hZ e7 Ar11 (j := (0 : Int32)) hin11 (g := (mkF m 66 #[iv p0, jv p1, .second, jv p2, .second, jv p3, .second, jv p4, .second, iv 1, iv 3, jv x0, .second, jv x1, .second, jv x2, .second, jv xe, .second, rv ob7, .unset, .unset, .unset, .unset] [(.long x0), (.int 0), (.ref ob7)])) rfl rfl (hb hby at_66)
  have N12 := Fr.snoc X12 N0 ge7
  have Z12 : n0 ≤ h12.size := Nat.le_trans Z7 (Nat.le_of_eq W12.size.symm)
  have Vn12 : Arv Z h12 ob7 ka7 .long (3 : Int32) [(.long x0), (.long 0), (.long 0)] (.long 0) := Arv.set Ar11 qx11 Sx11 N11' H11' G11' rfl W12 0 rfl (Nat.le_of_ble_eq_true rfl)
  refine own_lift st12 ?_
  show own_Go p.tables e below (T12.setTop (mkF m 67 #[iv p0, jv p1, .second, jv p2, .second, jv p3, .second, jv p4, .second, iv 1, iv 3, jv x0, .second, jv x1, .second, jv x2, .second, jv xe, .second, rv ob7, .unset, .unset, .unset, .unset] [])) _
  have sg13 : ∀ t, Steps p.tables e below (T12.setTop (mkF m 78 #[iv p0, jv p1, .second, jv p2, .second, jv p3, .second, jv p4, .second, iv 1, iv 3, jv x0, .second, jv x1, .second, jv x2, .second, jv xe, .second, rv ob7, .unset, .unset, .unset, .unset] [(.long x1), (.int 1), (.ref ob7)])) t → Steps p.tables e below (T12.setTop (mkF m 67 #[iv p0, jv p1, .second, jv p2, .second, jv p3, .second, jv p4, .second, iv 1, iv 3, jv x0, .second, jv x1, .second, jv x2, .second, jv xe, .second, rv ob7, .unset, .unset, .unset, .unset] [])) t := by
    intro t k
    refine XS.iload X12.here hx rfl (hb hby at_67) rfl ?_
    show Steps p.tables e below (T12.setTop (mkF m 69 #[iv p0, jv p1, .second, jv p2, .second, jv p3, .second, jv p4, .second, iv 1, iv 3, jv x0, .second, jv x1, .second, jv x2, .second, jv xe, .second, rv ob7, .unset, .unset, .unset, .unset] [(.int 3)])) _
    refine XS.iconst X12.here hx rfl (hb hby at_69) ?_
    refine XS.icmpNo X12.here hx rfl (hb hby at_70) rfl (tlt (by decide : (1 : Int32) < (3 : Int32))).2.2.2 ?_
    show Steps p.tables e below (T12.setTop (mkF m 73 #[iv p0, jv p1, .second, jv p2, .second, jv p3, .second, jv p4, .second, iv 1, iv 3, jv x0, .second, jv x1, .second, jv x2, .second, jv xe, .second, rv ob7, .unset, .unset, .unset, .unset] [])) _
    refine XS.aload X12.here hx rfl (hb hby at_73) rfl rfl ?_
    refine XS.iconst X12.here hx rfl (hb hby at_75) ?_
    show Steps p.tables e below (T12.setTop (mkF m 76 #[iv p0, jv p1, .second, jv p2, .second, jv p3, .second, jv p4, .second, iv 1, iv 3, jv x0, .second, jv x1, .second, jv x2, .second, jv xe, .second, rv ob7, .unset, .unset, .unset, .unset] [(.int 1), (.ref ob7)])) _
    refine XS.lload X12.here hx rfl (hb hby at_76) rfl ?_
    show Steps p.tables e below (T12.setTop (mkF m 78 #[iv p0, jv p1, .second, jv p2, .second, jv p3, .second, jv p4, .second, iv 1, iv 3, jv x0, .second, jv x1, .second, jv x2, .second, jv xe, .second, rv ob7, .unset, .unset, .unset, .unset] [(.long x1), (.int 1), (.ref ob7)])) _
    exact k
  refine own_lift sg13 ?_
  show own_Go p.tables e below (T12.setTop (mkF m 78 #[iv p0, jv p1, .second, jv p2, .second, jv p3, .second, jv p4, .second, iv 1, iv 3, jv x0, .second, jv x1, .second, jv x2, .second, jv xe, .second, rv ob7, .unset, .unset, .unset, .unset] [(.long x1), (.int 1), (.ref ob7)])) _
  obtain ⟨cl14, Ar14, qx14, Sx14, N14', H14', G14'⟩ := id (Vn12)
  have hin14 : ¬ ((1 : Int32) < 0 ∨ cl14.slots.size ≤ ((1 : Int32)).toNatClampNeg) := inb_of Sx14 ⟨(by decide : ¬ ((1 : Int32) < (0 : Int32))), (by decide : (1 : Int32) < (3 : Int32))⟩
  obtain ⟨T15, h15, X15, e15, W15, st15⟩ := stJ X12 hx hZ e12 Ar14 (j := (1 : Int32)) hin14 (g := (mkF m 78 #[iv p0, jv p1, .second, jv p2, .second, jv p3, .second, jv p4, .second, iv 1, iv 3, jv x0, .second, jv x1, .second, jv x2, .second, jv xe, .second, rv ob7, .unset, .unset, .unset, .unset] [(.long x1), (.int 1), (.ref ob7)])) rfl rfl (hb hby at_78)
  have N15 := Fr.snoc X15 N12 ge7
  have Z15 : n0 ≤ h15.size := Nat.le_trans Z12 (Nat.le_of_eq W15.size.symm)
  have Vn15 : Arv Z h15 ob7 ka7 .long (3 : Int32) [(.long x0), (.long x1), (.long 0)] (.long 0) := Arv.set Ar14 qx14 Sx14 N14' H14' G14' rfl W15 1 rfl (Nat.le_of_ble_eq_true rfl)
  refine own_lift st15 ?_
  show own_Go p.tables e below (T15.setTop (mkF m 79 #[iv p0, jv p1, .second, jv p2, .second, jv p3, .second, jv p4, .second, iv 1, iv 3, jv x0, .second, jv x1, .second, jv x2, .second, jv xe, .second, rv ob7, .unset, .unset, .unset, .unset] [])) _
  have sg16 : ∀ t, Steps p.tables e below (T15.setTop (mkF m 90 #[iv p0, jv p1, .second, jv p2, .second, jv p3, .second, jv p4, .second, iv 1, iv 3, jv x0, .second, jv x1, .second, jv x2, .second, jv xe, .second, rv ob7, .unset, .unset, .unset, .unset] [(.long x2), (.int 2), (.ref ob7)])) t → Steps p.tables e below (T15.setTop (mkF m 79 #[iv p0, jv p1, .second, jv p2, .second, jv p3, .second, jv p4, .second, iv 1, iv 3, jv x0, .second, jv x1, .second, jv x2, .second, jv xe, .second, rv ob7, .unset, .unset, .unset, .unset] [])) t := by
    intro t k
    refine XS.iload X15.here hx rfl (hb hby at_79) rfl ?_
    show Steps p.tables e below (T15.setTop (mkF m 81 #[iv p0, jv p1, .second, jv p2, .second, jv p3, .second, jv p4, .second, iv 1, iv 3, jv x0, .second, jv x1, .second, jv x2, .second, jv xe, .second, rv ob7, .unset, .unset, .unset, .unset] [(.int 3)])) _
    refine XS.iconst X15.here hx rfl (hb hby at_81) ?_
    refine XS.icmpNo X15.here hx rfl (hb hby at_82) rfl (tlt (by decide : (2 : Int32) < (3 : Int32))).2.2.2 ?_
    show Steps p.tables e below (T15.setTop (mkF m 85 #[iv p0, jv p1, .second, jv p2, .second, jv p3, .second, jv p4, .second, iv 1, iv 3, jv x0, .second, jv x1, .second, jv x2, .second, jv xe, .second, rv ob7, .unset, .unset, .unset, .unset] [])) _
    refine XS.aload X15.here hx rfl (hb hby at_85) rfl rfl ?_
    refine XS.iconst X15.here hx rfl (hb hby at_87) ?_
    show Steps p.tables e below (T15.setTop (mkF m 88 #[iv p0, jv p1, .second, jv p2, .second, jv p3, .second, jv p4, .second, iv 1, iv 3, jv x0, .second, jv x1, .second, jv x2, .second, jv xe, .second, rv ob7, .unset, .unset, .unset, .unset] [(.int 2), (.ref ob7)])) _
    refine XS.lload X15.here hx rfl (hb hby at_88) rfl ?_
    show Steps p.tables e below (T15.setTop (mkF m 90 #[iv p0, jv p1, .second, jv p2, .second, jv p3, .second, jv p4, .second, iv 1, iv 3, jv x0, .second, jv x1, .second, jv x2, .second, jv xe, .second, rv ob7, .unset, .unset, .unset, .unset] [(.long x2), (.int 2), (.ref ob7)])) _
    exact k
  refine own_lift sg16 ?_
  show own_Go p.tables e below (T15.setTop (mkF m 90 #[iv p0, jv p1, .second, jv p2, .second, jv p3, .second, jv p4, .second, iv 1, iv 3, jv x0, .second, jv x1, .second, jv x2, .second, jv xe, .second, rv ob7, .unset, .unset, .unset, .unset] [(.long x2), (.int 2), (.ref ob7)])) _
  obtain ⟨cl17, Ar17, qx17, Sx17, N17', H17', G17'⟩ := id (Vn15)
  have hin17 : ¬ ((2 : Int32) < 0 ∨ cl17.slots.size ≤ ((2 : Int32)).toNatClampNeg) := inb_of Sx17 ⟨(by decide : ¬ ((2 : Int32) < (0 : Int32))), (by decide : (2 : Int32) < (3 : Int32))⟩
  obtain ⟨T18, h18, X18, e18, W18, st18⟩ := stJ X15 hx hZ e15 Ar17 (j := (2 : Int32)) hin17 (g := (mkF m 90 #[iv p0, jv p1, .second, jv p2, .second, jv p3, .second, jv p4, .second, iv 1, iv 3, jv x0, .second, jv x1, .second, jv x2, .second, jv xe, .second, rv ob7, .unset, .unset, .unset, .unset] [(.long x2), (.int 2), (.ref ob7)])) rfl rfl (hb hby at_90)
  have N18 := Fr.snoc X18 N15 ge7
  have Z18 : n0 ≤ h18.size := Nat.le_trans Z15 (Nat.le_of_eq W18.size.symm)
  have Vn18 : Arv Z h18 ob7 ka7 .long (3 : Int32) [(.long x0), (.long x1), (.long x2)] (.long 0) := Arv.set Ar17 qx17 Sx17 N17' H17' G17' rfl W18 2 rfl (Nat.le_of_ble_eq_true rfl)
  refine own_lift st18 ?_
  show own_Go p.tables e below (T18.setTop (mkF m 91 #[iv p0, jv p1, .second, jv p2, .second, jv p3, .second, jv p4, .second, iv 1, iv 3, jv x0, .second, jv x1, .second, jv x2, .second, jv xe, .second, rv ob7, .unset, .unset, .unset, .unset] [])) _
  have sg19 : ∀ t, Steps p.tables e below (T18.setTop (mkF m 96 #[iv p0, jv p1, .second, jv p2, .second, jv p3, .second, jv p4, .second, iv 1, iv 3, jv x0, .second, jv x1, .second, jv x2, .second, jv xe, .second, rv ob7, .unset, .unset, .unset, .unset] [])) t → Steps p.tables e below (T18.setTop (mkF m 91 #[iv p0, jv p1, .second, jv p2, .second, jv p3, .second, jv p4, .second, iv 1, iv 3, jv x0, .second, jv x1, .second, jv x2, .second, jv xe, .second, rv ob7, .unset, .unset, .unset, .unset] [])) t := by
    intro t k
    refine XS.iload X18.here hx rfl (hb hby at_91) rfl ?_
    show Steps p.tables e below (T18.setTop (mkF m 93 #[iv p0, jv p1, .second, jv p2, .second, jv p3, .second, jv p4, .second, iv 1, iv 3, jv x0, .second, jv x1, .second, jv x2, .second, jv xe, .second, rv ob7, .unset, .unset, .unset, .unset] [(.int 1)])) _
    refine XS.ifNo X18.here hx rfl (hb hby at_93) rfl ((if0 _ _).trans (feq (by decide : ¬ ((1 : Int32) = (0 : Int32)))).1) ?_
    show Steps p.tables e below (T18.setTop (mkF m 96 #[iv p0, jv p1, .second, jv p2, .second, jv p3, .second, jv p4, .second, iv 1, iv 3, jv x0, .second, jv x1, .second, jv x2, .second, jv xe, .second, rv ob7, .unset, .unset, .unset, .unset] [])) _
    exact k
  refine own_lift sg19 ?_
  show own_Go p.tables e below (T18.setTop (mkF m 96 #[iv p0, jv p1, .second, jv p2, .second, jv p3, .second, jv p4, .second, iv 1, iv 3, jv x0, .second, jv x1, .second, jv x2, .second, jv xe, .second, rv ob7, .unset, .unset, .unset, .unset] [])) _
  have Fc20 : Sta Z h18 "com/example/halyard/halyard/east/ArrayStorage" "FIRST_INDEX_FIRST" "Lcom/example/halyard/halyard/east/ArrayStorage;" (.ref as_FIRST_INDEX_FIRST) := ((((S_FIRST_INDEX_FIRST.ext Ex7).wr W12).wr W15).wr W18)
  obtain ⟨T21, X21, e21, st21⟩ := getS X18 hx hZ hown (host := "") (wd hw 11 rfl) Via.refl e18 Fc20 (g := (mkF m 96 #[iv p0, jv p1, .second, jv p2, .second, jv p3, .second, jv p4, .second, iv 1, iv 3, jv x0, .second, jv x1, .second, jv x2, .second, jv xe, .second, rv ob7, .unset, .unset, .unset, .unset] [])) rfl (hb hby at_96)
  refine own_lift st21 ?_
  show own_Go p.tables e below (T21.setTop (mkF m 99 #[iv p0, jv p1, .second, jv p2, .second, jv p3, .second, jv p4, .second, iv 1, iv 3, jv x0, .second, jv x1, .second, jv x2, .second, jv xe, .second, rv ob7, .unset, .unset, .unset, .unset] [(.ref as_FIRST_INDEX_FIRST)])) _
  have sg22 : ∀ t, Steps p.tables e below (T21.setTop (mkF m 113 #[iv p0, jv p1, .second, jv p2, .second, jv p3, .second, jv p4, .second, iv 1, iv 3, jv x0, .second, jv x1, .second, jv x2, .second, jv xe, .second, rv ob7, rv as_FIRST_INDEX_FIRST, .unset, .unset, .unset] [(.long xe), (.ref ob7), (.ref as_FIRST_INDEX_FIRST)])) t → Steps p.tables e below (T21.setTop (mkF m 99 #[iv p0, jv p1, .second, jv p2, .second, jv p3, .second, jv p4, .second, iv 1, iv 3, jv x0, .second, jv x1, .second, jv x2, .second, jv xe, .second, rv ob7, .unset, .unset, .unset, .unset] [(.ref as_FIRST_INDEX_FIRST)])) t := by
    intro t k
    refine XS.goto X21.here hx rfl (pc0 := 99) (pc' := 105) rfl (hb hby at_99) (by decide) (by decide) ?_
    show Steps p.tables e below (T21.setTop (mkF m 105 #[iv p0, jv p1, .second, jv p2, .second, jv p3, .second, jv p4, .second, iv 1, iv 3, jv x0, .second, jv x1, .second, jv x2, .second, jv xe, .second, rv ob7, .unset, .unset, .unset, .unset] [(.ref as_FIRST_INDEX_FIRST)])) _
    refine XS.astore X21.here hx rfl (hb hby at_105) rfl rfl (l' := #[iv p0, jv p1, .second, jv p2, .second, jv p3, .second, jv p4, .second, iv 1, iv 3, jv x0, .second, jv x1, .second, jv x2, .second, jv xe, .second, rv ob7, rv as_FIRST_INDEX_FIRST, .unset, .unset, .unset]) rfl ?_
    refine XS.aload X21.here hx rfl (hb hby at_107) rfl rfl ?_
    show Steps p.tables e below (T21.setTop (mkF m 109 #[iv p0, jv p1, .second, jv p2, .second, jv p3, .second, jv p4, .second, iv 1, iv 3, jv x0, .second, jv x1, .second, jv x2, .second, jv xe, .second, rv ob7, rv as_FIRST_INDEX_FIRST, .unset, .unset, .unset] [(.ref as_FIRST_INDEX_FIRST)])) _
    refine XS.aload X21.here hx rfl (hb hby at_109) rfl rfl ?_
    refine XS.lload X21.here hx rfl (hb hby at_111) rfl ?_
    show Steps p.tables e below (T21.setTop (mkF m 113 #[iv p0, jv p1, .second, jv p2, .second, jv p3, .second, jv p4, .second, iv 1, iv 3, jv x0, .second, jv x1, .second, jv x2, .second, jv xe, .second, rv ob7, rv as_FIRST_INDEX_FIRST, .unset, .unset, .unset] [(.long xe), (.ref ob7), (.ref as_FIRST_INDEX_FIRST)])) _
    exact k
  refine own_lift sg22 ?_
  show own_Go p.tables e below (T21.setTop (mkF m 113 #[iv p0, jv p1, .second, jv p2, .second, jv p3, .second, jv p4, .second, iv 1, iv 3, jv x0, .second, jv x1, .second, jv x2, .second, jv xe, .second, rv ob7, rv as_FIRST_INDEX_FIRST, .unset, .unset, .unset] [(.long xe), (.ref ob7), (.ref as_FIRST_INDEX_FIRST)])) _
  have Fc24 : Exa Z h18 as_FIRST_INDEX_FIRST "com/example/halyard/halyard/east/ArrayStorage" := ((((E_FIRST_INDEX_FIRST.ext Ex7).wr W12).wr W15).wr W18)
  obtain ⟨cq23, kq23, q23a, q23b, q23c⟩ := isOf hZ e21 Fc24
  obtain ⟨_, _, ⟨T23, Lx23, kx23, nx23⟩, -, X23, ⟨Lc23, hQ23, lx23, yx23, zx23⟩, st23⟩ := X21.virtualBack hx (y := (⟨"com/example/halyard/halyard/east/ArrayStorage", "strides", "([JJ)[J"⟩ : MethodName)) (z := (⟨"com/example/halyard/halyard/east/ArrayStorage", "strides", "([JJ)[J"⟩ : MethodName)) hown (mvT hZ (wd hw 6 rfl)) (mvT hZ (wd hw 7 rfl)) (notFace_of_selects (args := #[]) (mvT hZ (wd hw 9 rfl))) (mvT hZ (wd hw 9 rfl)) (mvT hZ (wd hw 8 rfl)) (by decide) (backOf (W := 0) (rmStr3F l Z a0 hw [] as_FIRST_INDEX_FIRST ob7 xe ka7 x0 x1 x2 h18 n0 Z18 Vn18 Fc20) hZ (wd hw 10 rfl) (wd hw 4 rfl) (by decide) (by decide)) q23a q23c (g := (mkF m 113 #[iv p0, jv p1, .second, jv p2, .second, jv p3, .second, jv p4, .second, iv 1, iv 3, jv x0, .second, jv x1, .second, jv x2, .second, jv xe, .second, rv ob7, rv as_FIRST_INDEX_FIRST, .unset, .unset, .unset] [(.long xe), (.ref ob7), (.ref as_FIRST_INDEX_FIRST)])) rfl (by rw [hml]; rfl) (Steps.refl _) (argsL := [(.ref ob7), (.long xe)]) (rest := []) (lenOf pd_0 rfl) rfl (by show 2 * 0 + _ ≤ _; exact Nat.le_of_eq rfl) (hb hby at_113) (fun _ _ => ⟨rfl, e21, (by decide : 1 + 1 ≤ _), (by decide : 3 + 3 ≤ _)⟩)
  dsimp only [Pt.U, Pt.locs, Pt.cells, Pt.slots] at X23 lx23 yx23 zx23 st23 hQ23
  subst lx23 yx23 zx23
  obtain ⟨xb_23, xkb_23, rfl, N23q, p23_0, p23_1, p23_2⟩ := hQ23
  have N23 := Fr.app N18 N23q
  have Fc25 : Exa Z h18 as_LAST_INDEX_FIRST "com/example/halyard/halyard/east/ArrayStorage" := ((((E_LAST_INDEX_FIRST.ext Ex7).wr W12).wr W15).wr W18)
  have ne26 : as_LAST_INDEX_FIRST ≠ xb_23 := Nat.ne_of_lt (Nat.lt_of_lt_of_le Fc25.lt p23_1)
  have ne27 : as_FIRST_INDEX_FIRST ≠ xb_23 := Nat.ne_of_lt (Nat.lt_of_lt_of_le Fc24.lt p23_1)
  have ne28 : ob7 ≠ xb_23 := Nat.ne_of_lt (Nat.lt_of_lt_of_le Vn18.lt p23_1)
  have Z23 : n0 ≤ T23.heap.size := Nat.le_trans Z18 p23_0.1
  have ge23_1 : n0 ≤ xb_23 := Nat.le_trans Z18 p23_1
  refine own_lift (fun t k => st23.trans k) ?_
  show own_Go p.tables e below (T23.setTop (mkF m 116 #[iv p0, jv p1, .second, jv p2, .second, jv p3, .second, jv p4, .second, iv 1, iv 3, jv x0, .second, jv x1, .second, jv x2, .second, jv xe, .second, rv ob7, rv as_FIRST_INDEX_FIRST, .unset, .unset, .unset] [(.ref xb_23)])) _
  have sg29 : ∀ t, Steps p.tables e below (T23.setTop (mkF m 125 #[iv p0, jv p1, .second, jv p2, .second, jv p3, .second, jv p4, .second, iv 1, iv 3, jv x0, .second, jv x1, .second, jv x2, .second, jv xe, .second, rv ob7, rv as_FIRST_INDEX_FIRST, rv xb_23, .unset, .unset] [(.ref xb_23)])) t → Steps p.tables e below (T23.setTop (mkF m 116 #[iv p0, jv p1, .second, jv p2, .second, jv p3, .second, jv p4, .second, iv 1, iv 3, jv x0, .second, jv x1, .second, jv x2, .second, jv xe, .second, rv ob7, rv as_FIRST_INDEX_FIRST, .unset, .unset, .unset] [(.ref xb_23)])) t := by
    intro t k
    refine XS.astore X23.here hx rfl (hb hby at_116) rfl rfl (l' := #[iv p0, jv p1, .second, jv p2, .second, jv p3, .second, jv p4, .second, iv 1, iv 3, jv x0, .second, jv x1, .second, jv x2, .second, jv xe, .second, rv ob7, rv as_FIRST_INDEX_FIRST, rv xb_23, .unset, .unset]) rfl ?_
    show Steps p.tables e below (T23.setTop (mkF m 118 #[iv p0, jv p1, .second, jv p2, .second, jv p3, .second, jv p4, .second, iv 1, iv 3, jv x0, .second, jv x1, .second, jv x2, .second, jv xe, .second, rv ob7, rv as_FIRST_INDEX_FIRST, rv xb_23, .unset, .unset] [])) _
    refine XS.aload X23.here hx rfl (hb hby at_118) rfl rfl ?_
    refine XS.ifnullNo X23.here hx rfl (hb hby at_120) rfl ?_
    show Steps p.tables e below (T23.setTop (mkF m 123 #[iv p0, jv p1, .second, jv p2, .second, jv p3, .second, jv p4, .second, iv 1, iv 3, jv x0, .second, jv x1, .second, jv x2, .second, jv xe, .second, rv ob7, rv as_FIRST_INDEX_FIRST, rv xb_23, .unset, .unset] [])) _
    refine XS.aload X23.here hx rfl (hb hby at_123) rfl rfl ?_
    show Steps p.tables e below (T23.setTop (mkF m 125 #[iv p0, jv p1, .second, jv p2, .second, jv p3, .second, jv p4, .second, iv 1, iv 3, jv x0, .second, jv x1, .second, jv x2, .second, jv xe, .second, rv ob7, rv as_FIRST_INDEX_FIRST, rv xb_23, .unset, .unset] [(.ref xb_23)])) _
    exact k
  refine own_lift sg29 ?_
  show own_Go p.tables e below (T23.setTop (mkF m 125 #[iv p0, jv p1, .second, jv p2, .second, jv p3, .second, jv p4, .second, iv 1, iv 3, jv x0, .second, jv x1, .second, jv x2, .second, jv xe, .second, rv ob7, rv as_FIRST_INDEX_FIRST, rv xb_23, .unset, .unset] [(.ref xb_23)])) _
  obtain ⟨cl30, Ar30, -, Sx30, N30', -, -⟩ := id (p23_2)
  have st30 : ∀ t, Steps p.tables e below (T23.setTop (mkF m 126 #[iv p0, jv p1, .second, jv p2, .second, jv p3, .second, jv p4, .second, iv 1, iv 3, jv x0, .second, jv x1, .second, jv x2, .second, jv xe, .second, rv ob7, rv as_FIRST_INDEX_FIRST, rv xb_23, .unset, .unset] [(.int 3)])) t → Steps p.tables e below (T23.setTop (mkF m 125 #[iv p0, jv p1, .second, jv p2, .second, jv p3, .second, jv p4, .second, iv 1, iv 3, jv x0, .second, jv x1, .second, jv x2, .second, jv xe, .second, rv ob7, rv as_FIRST_INDEX_FIRST, rv xb_23, .unset, .unset] [(.ref xb_23)])) t := by
    intro t k
    refine X23.arraylength hx (by exact Ar30.1) (State.isArrayOf_alike hZ.alike Ar30.2.1) (g := (mkF m 125 #[iv p0, jv p1, .second, jv p2, .second, jv p3, .second, jv p4, .second, iv 1, iv 3, jv x0, .second, jv x1, .second, jv x2, .second, jv xe, .second, rv ob7, rv as_FIRST_INDEX_FIRST, rv xb_23, .unset, .unset] [(.ref xb_23)])) rfl rfl (hb hby at_125) _ ?_
    rw [len_of Sx30 N30']
    exact k
  refine own_lift st30 ?_
  show own_Go p.tables e below (T23.setTop (mkF m 126 #[iv p0, jv p1, .second, jv p2, .second, jv p3, .second, jv p4, .second, iv 1, iv 3, jv x0, .second, jv x1, .second, jv x2, .second, jv xe, .second, rv ob7, rv as_FIRST_INDEX_FIRST, rv xb_23, .unset, .unset] [(.int 3)])) _
  have sg31 : ∀ t, Steps p.tables e below (T23.setTop (mkF m 134 #[iv p0, jv p1, .second, jv p2, .second, jv p3, .second, jv p4, .second, iv 1, iv 3, jv x0, .second, jv x1, .second, jv x2, .second, jv xe, .second, rv ob7, rv as_FIRST_INDEX_FIRST, rv xb_23, .unset, .unset] [(.int 3)])) t → Steps p.tables e below (T23.setTop (mkF m 126 #[iv p0, jv p1, .second, jv p2, .second, jv p3, .second, jv p4, .second, iv 1, iv 3, jv x0, .second, jv x1, .second, jv x2, .second, jv xe, .second, rv ob7, rv as_FIRST_INDEX_FIRST, rv xb_23, .unset, .unset] [(.int 3)])) t := by
    intro t k
    refine XS.iload X23.here hx rfl (hb hby at_126) rfl ?_
    show Steps p.tables e below (T23.setTop (mkF m 128 #[iv p0, jv p1, .second, jv p2, .second, jv p3, .second, jv p4, .second, iv 1, iv 3, jv x0, .second, jv x1, .second, jv x2, .second, jv xe, .second, rv ob7, rv as_FIRST_INDEX_FIRST, rv xb_23, .unset, .unset] [(.int 3), (.int 3)])) _
    refine XS.icmpYes X23.here hx rfl (pc0 := 128) (pc' := 133) rfl (hb hby at_128) rfl (teq (by decide : (3 : Int32) = (3 : Int32))).1 (by decide) (by decide) ?_
    refine XS.iconst X23.here hx rfl (hb hby at_133) ?_
    show Steps p.tables e below (T23.setTop (mkF m 134 #[iv p0, jv p1, .second, jv p2, .second, jv p3, .second, jv p4, .second, iv 1, iv 3, jv x0, .second, jv x1, .second, jv x2, .second, jv xe, .second, rv ob7, rv as_FIRST_INDEX_FIRST, rv xb_23, .unset, .unset] [(.int 3)])) _
    exact k
  refine own_lift sg31 ?_
  show own_Go p.tables e below (T23.setTop (mkF m 134 #[iv p0, jv p1, .second, jv p2, .second, jv p3, .second, jv p4, .second, iv 1, iv 3, jv x0, .second, jv x1, .second, jv x2, .second, jv xe, .second, rv ob7, rv as_FIRST_INDEX_FIRST, rv xb_23, .unset, .unset] [(.int 3)])) _
  obtain ⟨T32, h32, ka32, X32, e32, Ex32, Ax32, st32⟩ := newP X23 hx hZ (wd hw 2 rfl) rfl (g := (mkF m 134 #[iv p0, jv p1, .second, jv p2, .second, jv p3, .second, jv p4, .second, iv 1, iv 3, jv x0, .second, jv x1, .second, jv x2, .second, jv xe, .second, rv ob7, rv as_FIRST_INDEX_FIRST, rv xb_23, .unset, .unset] [(.int 3)])) rfl (hb hby at_134) rfl (by decide) (cap := 3) (by decide) (by decide) (by decide) (by decide)
  obtain ⟨ob32, g32⟩ : ∃ z, z = T23.heap.size := ⟨_, rfl⟩
  rw [← g32] at Ax32 st32
  have Fc33 : Exa Z T23.heap as_LAST_INDEX_FIRST "com/example/halyard/halyard/east/ArrayStorage" := (Fc25.keep p23_0)
  have ne34 : as_LAST_INDEX_FIRST ≠ ob32 := Nat.ne_of_lt (Nat.lt_of_lt_of_le Fc33.lt (Nat.le_of_eq g32.symm))
  have Fc35 : Exa Z T23.heap as_FIRST_INDEX_FIRST "com/example/halyard/halyard/east/ArrayStorage" := (Fc24.keep p23_0)
  have ne36 : as_FIRST_INDEX_FIRST ≠ ob32 := Nat.ne_of_lt (Nat.lt_of_lt_of_le Fc35.lt (Nat.le_of_eq g32.symm))
  have Fc37 : Arv Z T23.heap ob7 ka7 .long (3 : Int32) [(.long x0), (.long x1), (.long x2)] (.long 0) := (Vn18.keep p23_0 nin0)
  have ne38 : ob7 ≠ ob32 := Nat.ne_of_lt (Nat.lt_of_lt_of_le Fc37.lt (Nat.le_of_eq g32.symm))
  have ne39 : xb_23 ≠ ob32 := Nat.ne_of_lt (Nat.lt_of_lt_of_le p23_2.lt (Nat.le_of_eq g32.symm))
  have Z32 : n0 ≤ h32.size := Nat.le_trans Z23 Ex32.1
  have ge32 : n0 ≤ ob32 := Nat.le_trans Z23 (Nat.le_of_eq g32.symm)
  have Vn32 : Arv Z h32 ob32 ka32 .long (3 : Int32) [(.long 0), (.long 0), (.long 0)] (.long 0) := (Arv.new Ax32 (by decide)).pad (pad_rep [] (.long 0) 3)
  refine own_lift st32 ?_
  show own_Go p.tables e below (T32.setTop (mkF m 136 #[iv p0, jv p1, .second, jv p2, .second, jv p3, .second, jv p4, .second, iv 1, iv 3, jv x0, .second, jv x1, .second, jv x2, .second, jv xe, .second, rv ob7, rv as_FIRST_INDEX_FIRST, rv xb_23, .unset, .unset] [(.ref ob32)])) _
  have sg40 : ∀ t, Steps p.tables e below (T32.setTop (mkF m 222 #[iv p0, jv p1, .second, jv p2, .second, jv p3, .second, jv p4, .second, iv 1, iv 3, jv x0, .second, jv x1, .second, jv x2, .second, jv xe, .second, rv ob7, rv as_FIRST_INDEX_FIRST, rv xb_23, rv ob32, .unset] [(.long ((xe * x1) * x2)), (.int 0), (.ref ob32)])) t → Steps p.tables e below (T32.setTop (mkF m 136 #[iv p0, jv p1, .second, jv p2, .second, jv p3, .second, jv p4, .second, iv 1, iv 3, jv x0, .second, jv x1, .second, jv x2, .second, jv xe, .second, rv ob7, rv as_FIRST_INDEX_FIRST, rv xb_23, .unset, .unset] [(.ref ob32)])) t := by
    intro t k
    refine XS.astore X32.here hx rfl (hb hby at_136) rfl rfl (l' := #[iv p0, jv p1, .second, jv p2, .second, jv p3, .second, jv p4, .second, iv 1, iv 3, jv x0, .second, jv x1, .second, jv x2, .second, jv xe, .second, rv ob7, rv as_FIRST_INDEX_FIRST, rv xb_23, rv ob32, .unset]) rfl ?_
    show Steps p.tables e below (T32.setTop (mkF m 138 #[iv p0, jv p1, .second, jv p2, .second, jv p3, .second, jv p4, .second, iv 1, iv 3, jv x0, .second, jv x1, .second, jv x2, .second, jv xe, .second, rv ob7, rv as_FIRST_INDEX_FIRST, rv xb_23, rv ob32, .unset] [])) _
    refine XS.iload X32.here hx rfl (hb hby at_138) rfl ?_
    refine XS.iconst X32.here hx rfl (hb hby at_140) ?_
    show Steps p.tables e below (T32.setTop (mkF m 141 #[iv p0, jv p1, .second, jv p2, .second, jv p3, .second, jv p4, .second, iv 1, iv 3, jv x0, .second, jv x1, .second, jv x2, .second, jv xe, .second, rv ob7, rv as_FIRST_INDEX_FIRST, rv xb_23, rv ob32, .unset] [(.int 1), (.int 3)])) _
    refine XS.icmpYes X32.here hx rfl (pc0 := 141) (pc' := 153) rfl (hb hby at_141) rfl (feq (by decide : ¬ ((3 : Int32) = (1 : Int32)))).2 (by decide) (by decide) ?_
    refine XS.iload X32.here hx rfl (hb hby at_153) rfl ?_
    show Steps p.tables e below (T32.setTop (mkF m 155 #[iv p0, jv p1, .second, jv p2, .second, jv p3, .second, jv p4, .second, iv 1, iv 3, jv x0, .second, jv x1, .second, jv x2, .second, jv xe, .second, rv ob7, rv as_FIRST_INDEX_FIRST, rv xb_23, rv ob32, .unset] [(.int 3)])) _
    refine XS.iconst X32.here hx rfl (hb hby at_155) ?_
    refine XS.icmpYes X32.here hx rfl (pc0 := 156) (pc' := 200) rfl (hb hby at_156) rfl (feq (by decide : ¬ ((3 : Int32) = (2 : Int32)))).2 (by decide) (by decide) ?_
    show Steps p.tables e below (T32.setTop (mkF m 200 #[iv p0, jv p1, .second, jv p2, .second, jv p3, .second, jv p4, .second, iv 1, iv 3, jv x0, .second, jv x1, .second, jv x2, .second, jv xe, .second, rv ob7, rv as_FIRST_INDEX_FIRST, rv xb_23, rv ob32, .unset] [])) _
    refine XS.iload X32.here hx rfl (hb hby at_200) rfl ?_
    refine XS.iconst X32.here hx rfl (hb hby at_202) ?_
    show Steps p.tables e below (T32.setTop (mkF m 203 #[iv p0, jv p1, .second, jv p2, .second, jv p3, .second, jv p4, .second, iv 1, iv 3, jv x0, .second, jv x1, .second, jv x2, .second, jv xe, .second, rv ob7, rv as_FIRST_INDEX_FIRST, rv xb_23, rv ob32, .unset] [(.int 3), (.int 3)])) _
    refine XS.icmpNo X32.here hx rfl (hb hby at_203) rfl (teq (by decide : (3 : Int32) = (3 : Int32))).2 ?_
    refine XS.iload X32.here hx rfl (hb hby at_206) rfl ?_
    show Steps p.tables e below (T32.setTop (mkF m 208 #[iv p0, jv p1, .second, jv p2, .second, jv p3, .second, jv p4, .second, iv 1, iv 3, jv x0, .second, jv x1, .second, jv x2, .second, jv xe, .second, rv ob7, rv as_FIRST_INDEX_FIRST, rv xb_23, rv ob32, .unset] [(.int 1)])) _
    refine XS.ifNo X32.here hx rfl (hb hby at_208) rfl ((if0 _ _).trans (feq (by decide : ¬ ((1 : Int32) = (0 : Int32)))).1) ?_
    refine XS.aload X32.here hx rfl (hb hby at_211) rfl rfl ?_
    show Steps p.tables e below (T32.setTop (mkF m 213 #[iv p0, jv p1, .second, jv p2, .second, jv p3, .second, jv p4, .second, iv 1, iv 3, jv x0, .second, jv x1, .second, jv x2, .second, jv xe, .second, rv ob7, rv as_FIRST_INDEX_FIRST, rv xb_23, rv ob32, .unset] [(.ref ob32)])) _
    refine XS.iconst X32.here hx rfl (hb hby at_213) ?_
    refine XS.lload X32.here hx rfl (hb hby at_214) rfl ?_
    show Steps p.tables e below (T32.setTop (mkF m 216 #[iv p0, jv p1, .second, jv p2, .second, jv p3, .second, jv p4, .second, iv 1, iv 3, jv x0, .second, jv x1, .second, jv x2, .second, jv xe, .second, rv ob7, rv as_FIRST_INDEX_FIRST, rv xb_23, rv ob32, .unset] [(.long xe), (.int 0), (.ref ob32)])) _
    refine XS.lload X32.here hx rfl (hb hby at_216) rfl ?_
    refine XS.lmul X32.here hx rfl (hb hby at_218) rfl ?_
    show Steps p.tables e below (T32.setTop (mkF m 219 #[iv p0, jv p1, .second, jv p2, .second, jv p3, .second, jv p4, .second, iv 1, iv 3, jv x0, .second, jv x1, .second, jv x2, .second, jv xe, .second, rv ob7, rv as_FIRST_INDEX_FIRST, rv xb_23, rv ob32, .unset] [(.long (xe * x1)), (.int 0), (.ref ob32)])) _
    refine XS.lload X32.here hx rfl (hb hby at_219) rfl ?_
    refine XS.lmul X32.here hx rfl (hb hby at_221) rfl ?_
    show Steps p.tables e below (T32.setTop (mkF m 222 #[iv p0, jv p1, .second, jv p2, .second, jv p3, .second, jv p4, .second, iv 1, iv 3, jv x0, .second, jv x1, .second, jv x2, .second, jv xe, .second, rv ob7, rv as_FIRST_INDEX_FIRST, rv xb_23, rv ob32, .unset] [(.long ((xe * x1) * x2)), (.int 0), (.ref ob32)])) _
    exact k
  refine own_lift sg40 ?_
  show own_Go p.tables e below (T32.setTop (mkF m 222 #[iv p0, jv p1, .second, jv p2, .second, jv p3, .second, jv p4, .second, iv 1, iv 3, jv x0, .second, jv x1, .second, jv x2, .second, jv xe, .second, rv ob7, rv as_FIRST_INDEX_FIRST, rv xb_23, rv ob32, .unset] [(.long ((xe * x1) * x2)), (.int 0), (.ref ob32)])) _
  obtain ⟨cl41, Ar41, qx41, Sx41, N41', H41', G41'⟩ := id (Vn32)
  have hin41 : ¬ ((0 : Int32) < 0 ∨ cl41.slots.size ≤ ((0 : Int32)).toNatClampNeg) := inb_of Sx41 ⟨(by decide : ¬ ((0 : Int32) < (0 : Int32))), (by decide : (0 : Int32) < (3 : Int32))⟩
  obtain ⟨T42, h42, X42, e42, W42, st42⟩ := stJ X32 hx hZ e32 Ar41 (j := (0 : Int32)) hin41 (g := (mkF m 222 #[iv p0, jv p1, .second, jv p2, .second, jv p3, .second, jv p4, .second, iv 1, iv 3, jv x0, .second, jv x1, .second, jv x2, .second, jv xe, .second, rv ob7, rv as_FIRST_INDEX_FIRST, rv xb_23, rv ob32, .unset] [(.long ((xe * x1) * x2)), (.int 0), (.ref ob32)])) rfl rfl (hb hby at_222)
  have N42 := Fr.snoc X42 N23 ge32
  have Z42 : n0 ≤ h42.size := Nat.le_trans Z32 (Nat.le_of_eq W42.size.symm)
  have Vn42 : Arv Z h42 ob32 ka32 .long (3 : Int32) [(.long ((xe * x1) * x2)), (.long 0), (.long 0)] (.long 0) := Arv.set Ar41 qx41 Sx41 N41' H41' G41' rfl W42 0 rfl (Nat.le_of_ble_eq_true rfl)
  refine own_lift st42 ?_
  show own_Go p.tables e below (T42.setTop (mkF m 223 #[iv p0, jv p1, .second, jv p2, .second, jv p3, .second, jv p4, .second, iv 1, iv 3, jv x0, .second, jv x1, .second, jv x2, .second, jv xe, .second, rv ob7, rv as_FIRST_INDEX_FIRST, rv xb_23, rv ob32, .unset] [])) _
  have sg43 : ∀ t, Steps p.tables e below (T42.setTop (mkF m 231 #[iv p0, jv p1, .second, jv p2, .second, jv p3, .second, jv p4, .second, iv 1, iv 3, jv x0, .second, jv x1, .second, jv x2, .second, jv xe, .second, rv ob7, rv as_FIRST_INDEX_FIRST, rv xb_23, rv ob32, .unset] [(.long (xe * x2)), (.int 1), (.ref ob32)])) t → Steps p.tables e below (T42.setTop (mkF m 223 #[iv p0, jv p1, .second, jv p2, .second, jv p3, .second, jv p4, .second, iv 1, iv 3, jv x0, .second, jv x1, .second, jv x2, .second, jv xe, .second, rv ob7, rv as_FIRST_INDEX_FIRST, rv xb_23, rv ob32, .unset] [])) t := by
    intro t k
    refine XS.aload X42.here hx rfl (hb hby at_223) rfl rfl ?_
    show Steps p.tables e below (T42.setTop (mkF m 225 #[iv p0, jv p1, .second, jv p2, .second, jv p3, .second, jv p4, .second, iv 1, iv 3, jv x0, .second, jv x1, .second, jv x2, .second, jv xe, .second, rv ob7, rv as_FIRST_INDEX_FIRST, rv xb_23, rv ob32, .unset] [(.ref ob32)])) _
    refine XS.iconst X42.here hx rfl (hb hby at_225) ?_
    refine XS.lload X42.here hx rfl (hb hby at_226) rfl ?_
    show Steps p.tables e below (T42.setTop (mkF m 228 #[iv p0, jv p1, .second, jv p2, .second, jv p3, .second, jv p4, .second, iv 1, iv 3, jv x0, .second, jv x1, .second, jv x2, .second, jv xe, .second, rv ob7, rv as_FIRST_INDEX_FIRST, rv xb_23, rv ob32, .unset] [(.long xe), (.int 1), (.ref ob32)])) _
    refine XS.lload X42.here hx rfl (hb hby at_228) rfl ?_
    refine XS.lmul X42.here hx rfl (hb hby at_230) rfl ?_
    show Steps p.tables e below (T42.setTop (mkF m 231 #[iv p0, jv p1, .second, jv p2, .second, jv p3, .second, jv p4, .second, iv 1, iv 3, jv x0, .second, jv x1, .second, jv x2, .second, jv xe, .second, rv ob7, rv as_FIRST_INDEX_FIRST, rv xb_23, rv ob32, .unset] [(.long (xe * x2)), (.int 1), (.ref ob32)])) _
    exact k
  refine own_lift sg43 ?_
  show own_Go p.tables e below (T42.setTop (mkF m 231 #[iv p0, jv p1, .second, jv p2, .second, jv p3, .second, jv p4, .second, iv 1, iv 3, jv x0, .second, jv x1, .second, jv x2, .second, jv xe, .second, rv ob7, rv as_FIRST_INDEX_FIRST, rv xb_23, rv ob32, .unset] [(.long (xe * x2)), (.int 1), (.ref ob32)])) _
  obtain ⟨cl44, Ar44, qx44, Sx44, N44', H44', G44'⟩ := id (Vn42)
  have hin44 : ¬ ((1 : Int32) < 0 ∨ cl44.slots.size ≤ ((1 : Int32)).toNatClampNeg) := inb_of Sx44 ⟨(by decide : ¬ ((1 : Int32) < (0 : Int32))), (by decide : (1 : Int32) < (3 : Int32))⟩
  obtain ⟨T45, h45, X45, e45, W45, st45⟩ := stJ X42 hx hZ e42 Ar44 (j := (1 : Int32)) hin44 (g := (mkF m 231 #[iv p0, jv p1, .second, jv p2, .second, jv p3, .second, jv p4, .second, iv 1, iv 3, jv x0, .second, jv x1, .second, jv x2, .second, jv xe, .second, rv ob7, rv as_FIRST_INDEX_FIRST, rv xb_23, rv ob32, .unset] [(.long (xe * x2)), (.int 1), (.ref ob32)])) rfl rfl (hb hby at_231)
  have N45 := Fr.snoc X45 N42 ge32
  have Z45 : n0 ≤ h45.size := Nat.le_trans Z42 (Nat.le_of_eq W45.size.symm)
  have Vn45 : Arv Z h45 ob32 ka32 .long (3 : Int32) [(.long ((xe * x1) * x2)), (.long (xe * x2)), (.long 0)] (.long 0) := Arv.set Ar44 qx44 Sx44 N44' H44' G44' rfl W45 1 rfl (Nat.le_of_ble_eq_true rfl)
  refine own_lift st45 ?_
  show own_Go p.tables e below (T45.setTop (mkF m 232 #[iv p0, jv p1, .second, jv p2, .second, jv p3, .second, jv p4, .second, iv 1, iv 3, jv x0, .second, jv x1, .second, jv x2, .second, jv xe, .second, rv ob7, rv as_FIRST_INDEX_FIRST, rv xb_23, rv ob32, .unset] [])) _
  have sg46 : ∀ t, Steps p.tables e below (T45.setTop (mkF m 237 #[iv p0, jv p1, .second, jv p2, .second, jv p3, .second, jv p4, .second, iv 1, iv 3, jv x0, .second, jv x1, .second, jv x2, .second, jv xe, .second, rv ob7, rv as_FIRST_INDEX_FIRST, rv xb_23, rv ob32, .unset] [(.long xe), (.int 2), (.ref ob32)])) t → Steps p.tables e below (T45.setTop (mkF m 232 #[iv p0, jv p1, .second, jv p2, .second, jv p3, .second, jv p4, .second, iv 1, iv 3, jv x0, .second, jv x1, .second, jv x2, .second, jv xe, .second, rv ob7, rv as_FIRST_INDEX_FIRST, rv xb_23, rv ob32, .unset] [])) t := by
    intro t k
    refine XS.aload X45.here hx rfl (hb hby at_232) rfl rfl ?_
    show Steps p.tables e below (T45.setTop (mkF m 234 #[iv p0, jv p1, .second, jv p2, .second, jv p3, .second, jv p4, .second, iv 1, iv 3, jv x0, .second, jv x1, .second, jv x2, .second, jv xe, .second, rv ob7, rv as_FIRST_INDEX_FIRST, rv xb_23, rv ob32, .unset] [(.ref ob32)])) _
    refine XS.iconst X45.here hx rfl (hb hby at_234) ?_
    refine XS.lload X45.here hx rfl (hb hby at_235) rfl ?_
    show Steps p.tables e below (T45.setTop (mkF m 237 #[iv p0, jv p1, .second, jv p2, .second, jv p3, .second, jv p4, .second, iv 1, iv 3, jv x0, .second, jv x1, .second, jv x2, .second, jv xe, .second, rv ob7, rv as_FIRST_INDEX_FIRST, rv xb_23, rv ob32, .unset] [(.long xe), (.int 2), (.ref ob32)])) _
    exact k
  refine own_lift sg46 ?_
  show own_Go p.tables e below (T45.setTop (mkF m 237 #[iv p0, jv p1, .second, jv p2, .second, jv p3, .second, jv p4, .second, iv 1, iv 3, jv x0, .second, jv x1, .second, jv x2, .second, jv xe, .second, rv ob7, rv as_FIRST_INDEX_FIRST, rv xb_23, rv ob32, .unset] [(.long xe), (.int 2), (.ref ob32)])) _
  obtain ⟨cl47, Ar47, qx47, Sx47, N47', H47', G47'⟩ := id (Vn45)
  have hin47 : ¬ ((2 : Int32) < 0 ∨ cl47.slots.size ≤ ((2 : Int32)).toNatClampNeg) := inb_of Sx47 ⟨(by decide : ¬ ((2 : Int32) < (0 : Int32))), (by decide : (2 : Int32) < (3 : Int32))⟩
  obtain ⟨T48, h48, X48, e48, W48, st48⟩ := stJ X45 hx hZ e45 Ar47 (j := (2 : Int32)) hin47 (g := (mkF m 237 #[iv p0, jv p1, .second, jv p2, .second, jv p3, .second, jv p4, .second, iv 1, iv 3, jv x0, .second, jv x1, .second, jv x2, .second, jv xe, .second, rv ob7, rv as_FIRST_INDEX_FIRST, rv xb_23, rv ob32, .unset] [(.long xe), (.int 2), (.ref ob32)])) rfl rfl (hb hby at_237)
  have N48 := Fr.snoc X48 N45 ge32
  have Z48 : n0 ≤ h48.size := Nat.le_trans Z45 (Nat.le_of_eq W48.size.symm)
  have Vn48 : Arv Z h48 ob32 ka32 .long (3 : Int32) [(.long ((xe * x1) * x2)), (.long (xe * x2)), (.long xe)] (.long 0) := Arv.set Ar47 qx47 Sx47 N47' H47' G47' rfl W48 2 rfl (Nat.le_of_ble_eq_true rfl)
  refine own_lift st48 ?_
  show own_Go p.tables e below (T48.setTop (mkF m 238 #[iv p0, jv p1, .second, jv p2, .second, jv p3, .second, jv p4, .second, iv 1, iv 3, jv x0, .second, jv x1, .second, jv x2, .second, jv xe, .second, rv ob7, rv as_FIRST_INDEX_FIRST, rv xb_23, rv ob32, .unset] [])) _
  have sg49 : ∀ t, Steps p.tables e below (T48.setTop (mkF m 284 #[iv p0, jv p1, .second, jv p2, .second, jv p3, .second, jv p4, .second, iv 1, iv 3, jv x0, .second, jv x1, .second, jv x2, .second, jv xe, .second, rv ob7, rv as_FIRST_INDEX_FIRST, rv xb_23, rv ob32, iv 1] [(.int 0), (.ref xb_23)])) t → Steps p.tables e below (T48.setTop (mkF m 238 #[iv p0, jv p1, .second, jv p2, .second, jv p3, .second, jv p4, .second, iv 1, iv 3, jv x0, .second, jv x1, .second, jv x2, .second, jv xe, .second, rv ob7, rv as_FIRST_INDEX_FIRST, rv xb_23, rv ob32, .unset] [])) t := by
    intro t k
    refine XS.goto X48.here hx rfl (pc0 := 238) (pc' := 268) rfl (hb hby at_238) (by decide) (by decide) ?_
    show Steps p.tables e below (T48.setTop (mkF m 268 #[iv p0, jv p1, .second, jv p2, .second, jv p3, .second, jv p4, .second, iv 1, iv 3, jv x0, .second, jv x1, .second, jv x2, .second, jv xe, .second, rv ob7, rv as_FIRST_INDEX_FIRST, rv xb_23, rv ob32, .unset] [])) _
    refine XS.iconst X48.here hx rfl (hb hby at_268) ?_
    refine XS.istore X48.here hx rfl (hb hby at_269) rfl (l' := #[iv p0, jv p1, .second, jv p2, .second, jv p3, .second, jv p4, .second, iv 1, iv 3, jv x0, .second, jv x1, .second, jv x2, .second, jv xe, .second, rv ob7, rv as_FIRST_INDEX_FIRST, rv xb_23, rv ob32, iv 1]) rfl ?_
    show Steps p.tables e below (T48.setTop (mkF m 271 #[iv p0, jv p1, .second, jv p2, .second, jv p3, .second, jv p4, .second, iv 1, iv 3, jv x0, .second, jv x1, .second, jv x2, .second, jv xe, .second, rv ob7, rv as_FIRST_INDEX_FIRST, rv xb_23, rv ob32, iv 1] [])) _
    refine XS.iload X48.here hx rfl (hb hby at_271) rfl ?_
    refine XS.ifNo X48.here hx rfl (hb hby at_273) rfl ((if0 _ _).trans (tlt (by decide : (0 : Int32) < (3 : Int32))).2.2.2) ?_
    show Steps p.tables e below (T48.setTop (mkF m 276 #[iv p0, jv p1, .second, jv p2, .second, jv p3, .second, jv p4, .second, iv 1, iv 3, jv x0, .second, jv x1, .second, jv x2, .second, jv xe, .second, rv ob7, rv as_FIRST_INDEX_FIRST, rv xb_23, rv ob32, iv 1] [])) _
    refine XS.iload X48.here hx rfl (hb hby at_276) rfl ?_
    refine XS.ifNo X48.here hx rfl (hb hby at_278) rfl ((if0 _ _).trans (feq (by decide : ¬ ((1 : Int32) = (0 : Int32)))).1) ?_
    show Steps p.tables e below (T48.setTop (mkF m 281 #[iv p0, jv p1, .second, jv p2, .second, jv p3, .second, jv p4, .second, iv 1, iv 3, jv x0, .second, jv x1, .second, jv x2, .second, jv xe, .second, rv ob7, rv as_FIRST_INDEX_FIRST, rv xb_23, rv ob32, iv 1] [])) _
    refine XS.aload X48.here hx rfl (hb hby at_281) rfl rfl ?_
    refine XS.iconst X48.here hx rfl (hb hby at_283) ?_
    show Steps p.tables e below (T48.setTop (mkF m 284 #[iv p0, jv p1, .second, jv p2, .second, jv p3, .second, jv p4, .second, iv 1, iv 3, jv x0, .second, jv x1, .second, jv x2, .second, jv xe, .second, rv ob7, rv as_FIRST_INDEX_FIRST, rv xb_23, rv ob32, iv 1] [(.int 0), (.ref xb_23)])) _
    exact k
  refine own_lift sg49 ?_
  show own_Go p.tables e below (T48.setTop (mkF m 284 #[iv p0, jv p1, .second, jv p2, .second, jv p3, .second, jv p4, .second, iv 1, iv 3, jv x0, .second, jv x1, .second, jv x2, .second, jv xe, .second, rv ob7, rv as_FIRST_INDEX_FIRST, rv xb_23, rv ob32, iv 1] [(.int 0), (.ref xb_23)])) _
  have Fc50 : Arv Z h48 xb_23 xkb_23 .long (3 : Int32) [(.long ((xe * x2) * x1)), (.long (xe * x2)), (.long xe)] (.long (0 : Int64)) := ((((p23_2.ext Ex32).other W42 ne39).other W45 ne39).other W48 ne39)
  obtain ⟨cl51, Ar51, qx51, Sx51, N51', H51', G51'⟩ := id (Fc50)
  have hin51 : ¬ ((0 : Int32) < 0 ∨ cl51.slots.size ≤ ((0 : Int32)).toNatClampNeg) := inb_of Sx51 ⟨(by decide : ¬ ((0 : Int32) < (0 : Int32))), (by decide : (0 : Int32) < (3 : Int32))⟩
  have hat51 : cl51.slots[((0 : Int32)).toNatClampNeg]? = some (.long ((xe * x2) * x1)) := Has.at H51' hin51 rfl
  have sg52 : ∀ t, Steps p.tables e below (T48.setTop (mkF m 288 #[iv p0, jv p1, .second, jv p2, .second, jv p3, .second, jv p4, .second, iv 1, iv 3, jv x0, .second, jv x1, .second, jv x2, .second, jv xe, .second, rv ob7, rv as_FIRST_INDEX_FIRST, rv xb_23, rv ob32, iv 1] [(.int 0), (.ref ob32), (.long ((xe * x2) * x1))])) t → Steps p.tables e below (T48.setTop (mkF m 284 #[iv p0, jv p1, .second, jv p2, .second, jv p3, .second, jv p4, .second, iv 1, iv 3, jv x0, .second, jv x1, .second, jv x2, .second, jv xe, .second, rv ob7, rv as_FIRST_INDEX_FIRST, rv xb_23, rv ob32, iv 1] [(.int 0), (.ref xb_23)])) t := by
    intro t k
    refine X48.laload hx (j := (0 : Int32)) (v := (.long ((xe * x2) * x1))) (by rw [e48]; exact Ar51.1) (State.isArrayOf_alike hZ.alike Ar51.2.1) Ar51.2.2 hin51 hat51 (g := (mkF m 284 #[iv p0, jv p1, .second, jv p2, .second, jv p3, .second, jv p4, .second, iv 1, iv 3, jv x0, .second, jv x1, .second, jv x2, .second, jv xe, .second, rv ob7, rv as_FIRST_INDEX_FIRST, rv xb_23, rv ob32, iv 1] [(.int 0), (.ref xb_23)])) rfl rfl (hb hby at_284) _ ?_
    show Steps p.tables e below (T48.setTop (mkF m 285 #[iv p0, jv p1, .second, jv p2, .second, jv p3, .second, jv p4, .second, iv 1, iv 3, jv x0, .second, jv x1, .second, jv x2, .second, jv xe, .second, rv ob7, rv as_FIRST_INDEX_FIRST, rv xb_23, rv ob32, iv 1] [(.long ((xe * x2) * x1))])) _
    refine XS.aload X48.here hx rfl (hb hby at_285) rfl rfl ?_
    refine XS.iconst X48.here hx rfl (hb hby at_287) ?_
    show Steps p.tables e below (T48.setTop (mkF m 288 #[iv p0, jv p1, .second, jv p2, .second, jv p3, .second, jv p4, .second, iv 1, iv 3, jv x0, .second, jv x1, .second, jv x2, .second, jv xe, .second, rv ob7, rv as_FIRST_INDEX_FIRST, rv xb_23, rv ob32, iv 1] [(.int 0), (.ref ob32), (.long ((xe * x2) * x1))])) _
    exact k
  refine own_lift sg52 ?_
  show own_Go p.tables e below (T48.setTop (mkF m 288 #[iv p0, jv p1, .second, jv p2, .second, jv p3, .second, jv p4, .second, iv 1, iv 3, jv x0, .second, jv x1, .second, jv x2, .second, jv xe, .second, rv ob7, rv as_FIRST_INDEX_FIRST, rv xb_23, rv ob32, iv 1] [(.int 0), (.ref ob32), (.long ((xe * x2) * x1))])) _
  obtain ⟨cl53, Ar53, qx53, Sx53, N53', H53', G53'⟩ := id (Vn48)
  have hin53 : ¬ ((0 : Int32) < 0 ∨ cl53.slots.size ≤ ((0 : Int32)).toNatClampNeg) := inb_of Sx53 ⟨(by decide : ¬ ((0 : Int32) < (0 : Int32))), (by decide : (0 : Int32) < (3 : Int32))⟩
  have hat53 : cl53.slots[((0 : Int32)).toNatClampNeg]? = some (.long ((xe * x1) * x2)) := Has.at H53' hin53 rfl
  have sg54 : ∀ t, Steps p.tables e below (T48.setTop (mkF m 296 #[iv p0, jv p1, .second, jv p2, .second, jv p3, .second, jv p4, .second, iv 1, iv 3, jv x0, .second, jv x1, .second, jv x2, .second, jv xe, .second, rv ob7, rv as_FIRST_INDEX_FIRST, rv xb_23, rv ob32, iv 1] [(.int 0), (.ref ob7)])) t → Steps p.tables e below (T48.setTop (mkF m 288 #[iv p0, jv p1, .second, jv p2, .second, jv p3, .second, jv p4, .second, iv 1, iv 3, jv x0, .second, jv x1, .second, jv x2, .second, jv xe, .second, rv ob7, rv as_FIRST_INDEX_FIRST, rv xb_23, rv ob32, iv 1] [(.int 0), (.ref ob32), (.long ((xe * x2) * x1))])) t := by
    intro t k
    refine X48.laload hx (j := (0 : Int32)) (v := (.long ((xe * x1) * x2))) (by rw [e48]; exact Ar53.1) (State.isArrayOf_alike hZ.alike Ar53.2.1) Ar53.2.2 hin53 hat53 (g := (mkF m 288 #[iv p0, jv p1, .second, jv p2, .second, jv p3, .second, jv p4, .second, iv 1, iv 3, jv x0, .second, jv x1, .second, jv x2, .second, jv xe, .second, rv ob7, rv as_FIRST_INDEX_FIRST, rv xb_23, rv ob32, iv 1] [(.int 0), (.ref ob32), (.long ((xe * x2) * x1))])) rfl rfl (hb hby at_288) _ ?_
    show Steps p.tables e below (T48.setTop (mkF m 289 #[iv p0, jv p1, .second, jv p2, .second, jv p3, .second, jv p4, .second, iv 1, iv 3, jv x0, .second, jv x1, .second, jv x2, .second, jv xe, .second, rv ob7, rv as_FIRST_INDEX_FIRST, rv xb_23, rv ob32, iv 1] [(.long ((xe * x1) * x2)), (.long ((xe * x2) * x1))])) _
    refine XS.lcmp X48.here hx rfl (hb hby at_289) rfl ?_
    refine XS.ifNo X48.here hx rfl (hb hby at_290) rfl ((if0 _ _).trans (teq ((lw_eq ((xe * x2) * x1) ((xe * x1) * x2)).2 (own_mul3 _ _ _))).2) ?_
    show Steps p.tables e below (T48.setTop (mkF m 293 #[iv p0, jv p1, .second, jv p2, .second, jv p3, .second, jv p4, .second, iv 1, iv 3, jv x0, .second, jv x1, .second, jv x2, .second, jv xe, .second, rv ob7, rv as_FIRST_INDEX_FIRST, rv xb_23, rv ob32, iv 1] [])) _
    refine XS.aload X48.here hx rfl (hb hby at_293) rfl rfl ?_
    refine XS.iconst X48.here hx rfl (hb hby at_295) ?_
    show Steps p.tables e below (T48.setTop (mkF m 296 #[iv p0, jv p1, .second, jv p2, .second, jv p3, .second, jv p4, .second, iv 1, iv 3, jv x0, .second, jv x1, .second, jv x2, .second, jv xe, .second, rv ob7, rv as_FIRST_INDEX_FIRST, rv xb_23, rv ob32, iv 1] [(.int 0), (.ref ob7)])) _
    exact k
  refine own_lift sg54 ?_
  show own_Go p.tables e below (T48.setTop (mkF m 296 #[iv p0, jv p1, .second, jv p2, .second, jv p3, .second, jv p4, .second, iv 1, iv 3, jv x0, .second, jv x1, .second, jv x2, .second, jv xe, .second, rv ob7, rv as_FIRST_INDEX_FIRST, rv xb_23, rv ob32, iv 1] [(.int 0), (.ref ob7)])) _
  have Fc55 : Arv Z h48 ob7 ka7 .long (3 : Int32) [(.long x0), (.long x1), (.long x2)] (.long 0) := ((((Fc37.ext Ex32).other W42 ne38).other W45 ne38).other W48 ne38)
  obtain ⟨cl56, Ar56, qx56, Sx56, N56', H56', G56'⟩ := id (Fc55)
  have hin56 : ¬ ((0 : Int32) < 0 ∨ cl56.slots.size ≤ ((0 : Int32)).toNatClampNeg) := inb_of Sx56 ⟨(by decide : ¬ ((0 : Int32) < (0 : Int32))), (by decide : (0 : Int32) < (3 : Int32))⟩
  have hat56 : cl56.slots[((0 : Int32)).toNatClampNeg]? = some (.long x0) := Has.at H56' hin56 rfl
  have sg57 : ∀ t, Steps p.tables e below (T48.setTop (mkF m 324 #[iv p0, jv p1, .second, jv p2, .second, jv p3, .second, jv p4, .second, iv 1, iv 3, jv x0, .second, jv x1, .second, jv x2, .second, jv xe, .second, rv ob7, rv as_FIRST_INDEX_FIRST, rv xb_23, rv ob32, iv 1] [(.int 1), (.ref xb_23)])) t → Steps p.tables e below (T48.setTop (mkF m 296 #[iv p0, jv p1, .second, jv p2, .second, jv p3, .second, jv p4, .second, iv 1, iv 3, jv x0, .second, jv x1, .second, jv x2, .second, jv xe, .second, rv ob7, rv as_FIRST_INDEX_FIRST, rv xb_23, rv ob32, iv 1] [(.int 0), (.ref ob7)])) t := by
    intro t k
    refine X48.laload hx (j := (0 : Int32)) (v := (.long x0)) (by rw [e48]; exact Ar56.1) (State.isArrayOf_alike hZ.alike Ar56.2.1) Ar56.2.2 hin56 hat56 (g := (mkF m 296 #[iv p0, jv p1, .second, jv p2, .second, jv p3, .second, jv p4, .second, iv 1, iv 3, jv x0, .second, jv x1, .second, jv x2, .second, jv xe, .second, rv ob7, rv as_FIRST_INDEX_FIRST, rv xb_23, rv ob32, iv 1] [(.int 0), (.ref ob7)])) rfl rfl (hb hby at_296) _ ?_
    show Steps p.tables e below (T48.setTop (mkF m 297 #[iv p0, jv p1, .second, jv p2, .second, jv p3, .second, jv p4, .second, iv 1, iv 3, jv x0, .second, jv x1, .second, jv x2, .second, jv xe, .second, rv ob7, rv as_FIRST_INDEX_FIRST, rv xb_23, rv ob32, iv 1] [(.long x0)])) _
    refine XS.lload X48.here hx rfl (hb hby at_297) rfl ?_
    refine XS.lcmp X48.here hx rfl (hb hby at_299) rfl ?_
    show Steps p.tables e below (T48.setTop (mkF m 300 #[iv p0, jv p1, .second, jv p2, .second, jv p3, .second, jv p4, .second, iv 1, iv 3, jv x0, .second, jv x1, .second, jv x2, .second, jv xe, .second, rv ob7, rv as_FIRST_INDEX_FIRST, rv xb_23, rv ob32, iv 1] [(.int (lcmpW x0 x0))])) _
    refine XS.ifNo X48.here hx rfl (hb hby at_300) rfl ((if0 _ _).trans (teq ((lw_eq x0 x0).2 (rfl : x0 = x0))).2) ?_
    refine XS.iconst X48.here hx rfl (hb hby at_303) ?_
    show Steps p.tables e below (T48.setTop (mkF m 304 #[iv p0, jv p1, .second, jv p2, .second, jv p3, .second, jv p4, .second, iv 1, iv 3, jv x0, .second, jv x1, .second, jv x2, .second, jv xe, .second, rv ob7, rv as_FIRST_INDEX_FIRST, rv xb_23, rv ob32, iv 1] [(.int 1)])) _
    refine XS.goto X48.here hx rfl (pc0 := 304) (pc' := 308) rfl (hb hby at_304) (by decide) (by decide) ?_
    refine XS.istore X48.here hx rfl (hb hby at_308) rfl (l' := #[iv p0, jv p1, .second, jv p2, .second, jv p3, .second, jv p4, .second, iv 1, iv 3, jv x0, .second, jv x1, .second, jv x2, .second, jv xe, .second, rv ob7, rv as_FIRST_INDEX_FIRST, rv xb_23, rv ob32, iv 1]) rfl ?_
    show Steps p.tables e below (T48.setTop (mkF m 310 #[iv p0, jv p1, .second, jv p2, .second, jv p3, .second, jv p4, .second, iv 1, iv 3, jv x0, .second, jv x1, .second, jv x2, .second, jv xe, .second, rv ob7, rv as_FIRST_INDEX_FIRST, rv xb_23, rv ob32, iv 1] [])) _
    refine XS.iload X48.here hx rfl (hb hby at_310) rfl ?_
    refine XS.iconst X48.here hx rfl (hb hby at_312) ?_
    show Steps p.tables e below (T48.setTop (mkF m 313 #[iv p0, jv p1, .second, jv p2, .second, jv p3, .second, jv p4, .second, iv 1, iv 3, jv x0, .second, jv x1, .second, jv x2, .second, jv xe, .second, rv ob7, rv as_FIRST_INDEX_FIRST, rv xb_23, rv ob32, iv 1] [(.int 1), (.int 3)])) _
    refine XS.icmpNo X48.here hx rfl (hb hby at_313) rfl (tlt (by decide : (1 : Int32) < (3 : Int32))).2.2.2 ?_
    refine XS.iload X48.here hx rfl (hb hby at_316) rfl ?_
    show Steps p.tables e below (T48.setTop (mkF m 318 #[iv p0, jv p1, .second, jv p2, .second, jv p3, .second, jv p4, .second, iv 1, iv 3, jv x0, .second, jv x1, .second, jv x2, .second, jv xe, .second, rv ob7, rv as_FIRST_INDEX_FIRST, rv xb_23, rv ob32, iv 1] [(.int 1)])) _
    refine XS.ifNo X48.here hx rfl (hb hby at_318) rfl ((if0 _ _).trans (feq (by decide : ¬ ((1 : Int32) = (0 : Int32)))).1) ?_
    refine XS.aload X48.here hx rfl (hb hby at_321) rfl rfl ?_
    show Steps p.tables e below (T48.setTop (mkF m 323 #[iv p0, jv p1, .second, jv p2, .second, jv p3, .second, jv p4, .second, iv 1, iv 3, jv x0, .second, jv x1, .second, jv x2, .second, jv xe, .second, rv ob7, rv as_FIRST_INDEX_FIRST, rv xb_23, rv ob32, iv 1] [(.ref xb_23)])) _
    refine XS.iconst X48.here hx rfl (hb hby at_323) ?_
    show Steps p.tables e below (T48.setTop (mkF m 324 #[iv p0, jv p1, .second, jv p2, .second, jv p3, .second, jv p4, .second, iv 1, iv 3, jv x0, .second, jv x1, .second, jv x2, .second, jv xe, .second, rv ob7, rv as_FIRST_INDEX_FIRST, rv xb_23, rv ob32, iv 1] [(.int 1), (.ref xb_23)])) _
    exact k
  refine own_lift sg57 ?_
  show own_Go p.tables e below (T48.setTop (mkF m 324 #[iv p0, jv p1, .second, jv p2, .second, jv p3, .second, jv p4, .second, iv 1, iv 3, jv x0, .second, jv x1, .second, jv x2, .second, jv xe, .second, rv ob7, rv as_FIRST_INDEX_FIRST, rv xb_23, rv ob32, iv 1] [(.int 1), (.ref xb_23)])) _
  obtain ⟨cl58, Ar58, qx58, Sx58, N58', H58', G58'⟩ := id (Fc50)
  have hin58 : ¬ ((1 : Int32) < 0 ∨ cl58.slots.size ≤ ((1 : Int32)).toNatClampNeg) := inb_of Sx58 ⟨(by decide : ¬ ((1 : Int32) < (0 : Int32))), (by decide : (1 : Int32) < (3 : Int32))⟩
  have hat58 : cl58.slots[((1 : Int32)).toNatClampNeg]? = some (.long (xe * x2)) := Has.at H58' hin58 rfl
  have sg59 : ∀ t, Steps p.tables e below (T48.setTop (mkF m 328 #[iv p0, jv p1, .second, jv p2, .second, jv p3, .second, jv p4, .second, iv 1, iv 3, jv x0, .second, jv x1, .second, jv x2, .second, jv xe, .second, rv ob7, rv as_FIRST_INDEX_FIRST, rv xb_23, rv ob32, iv 1] [(.int 1), (.ref ob32), (.long (xe * x2))])) t → Steps p.tables e below (T48.setTop (mkF m 324 #[iv p0, jv p1, .second, jv p2, .second, jv p3, .second, jv p4, .second, iv 1, iv 3, jv x0, .second, jv x1, .second, jv x2, .second, jv xe, .second, rv ob7, rv as_FIRST_INDEX_FIRST, rv xb_23, rv ob32, iv 1] [(.int 1), (.ref xb_23)])) t := by
    intro t k
    refine X48.laload hx (j := (1 : Int32)) (v := (.long (xe * x2))) (by rw [e48]; exact Ar58.1) (State.isArrayOf_alike hZ.alike Ar58.2.1) Ar58.2.2 hin58 hat58 (g := (mkF m 324 #[iv p0, jv p1, .second, jv p2, .second, jv p3, .second, jv p4, .second, iv 1, iv 3, jv x0, .second, jv x1, .second, jv x2, .second, jv xe, .second, rv ob7, rv as_FIRST_INDEX_FIRST, rv xb_23, rv ob32, iv 1] [(.int 1), (.ref xb_23)])) rfl rfl (hb hby at_324) _ ?_
    show Steps p.tables e below (T48.setTop (mkF m 325 #[iv p0, jv p1, .second, jv p2, .second, jv p3, .second, jv p4, .second, iv 1, iv 3, jv x0, .second, jv x1, .second, jv x2, .second, jv xe, .second, rv ob7, rv as_FIRST_INDEX_FIRST, rv xb_23, rv ob32, iv 1] [(.long (xe * x2))])) _
    refine XS.aload X48.here hx rfl (hb hby at_325) rfl rfl ?_
    refine XS.iconst X48.here hx rfl (hb hby at_327) ?_
    show Steps p.tables e below (T48.setTop (mkF m 328 #[iv p0, jv p1, .second, jv p2, .second, jv p3, .second, jv p4, .second, iv 1, iv 3, jv x0, .second, jv x1, .second, jv x2, .second, jv xe, .second, rv ob7, rv as_FIRST_INDEX_FIRST, rv xb_23, rv ob32, iv 1] [(.int 1), (.ref ob32), (.long (xe * x2))])) _
    exact k
  refine own_lift sg59 ?_
  show own_Go p.tables e below (T48.setTop (mkF m 328 #[iv p0, jv p1, .second, jv p2, .second, jv p3, .second, jv p4, .second, iv 1, iv 3, jv x0, .second, jv x1, .second, jv x2, .second, jv xe, .second, rv ob7, rv as_FIRST_INDEX_FIRST, rv xb_23, rv ob32, iv 1] [(.int 1), (.ref ob32), (.long (xe * x2))])) _
  obtain ⟨cl60, Ar60, qx60, Sx60, N60', H60', G60'⟩ := id (Vn48)
  have hin60 : ¬ ((1 : Int32) < 0 ∨ cl60.slots.size ≤ ((1 : Int32)).toNatClampNeg) := inb_of Sx60 ⟨(by decide : ¬ ((1 : Int32) < (0 : Int32))), (by decide : (1 : Int32) < (3 : Int32))⟩
  have hat60 : cl60.slots[((1 : Int32)).toNatClampNeg]? = some (.long (xe * x2)) := Has.at H60' hin60 rfl
  have sg61 : ∀ t, Steps p.tables e below (T48.setTop (mkF m 336 #[iv p0, jv p1, .second, jv p2, .second, jv p3, .second, jv p4, .second, iv 1, iv 3, jv x0, .second, jv x1, .second, jv x2, .second, jv xe, .second, rv ob7, rv as_FIRST_INDEX_FIRST, rv xb_23, rv ob32, iv 1] [(.int 1), (.ref ob7)])) t → Steps p.tables e below (T48.setTop (mkF m 328 #[iv p0, jv p1, .second, jv p2, .second, jv p3, .second, jv p4, .second, iv 1, iv 3, jv x0, .second, jv x1, .second, jv x2, .second, jv xe, .second, rv ob7, rv as_FIRST_INDEX_FIRST, rv xb_23, rv ob32, iv 1] [(.int 1), (.ref ob32), (.long (xe * x2))])) t := by
    intro t k
    refine X48.laload hx (j := (1 : Int32)) (v := (.long (xe * x2))) (by rw [e48]; exact Ar60.1) (State.isArrayOf_alike hZ.alike Ar60.2.1) Ar60.2.2 hin60 hat60 (g := (mkF m 328 #[iv p0, jv p1, .second, jv p2, .second, jv p3, .second, jv p4, .second, iv 1, iv 3, jv x0, .second, jv x1, .second, jv x2, .second, jv xe, .second, rv ob7, rv as_FIRST_INDEX_FIRST, rv xb_23, rv ob32, iv 1] [(.int 1), (.ref ob32), (.long (xe * x2))])) rfl rfl (hb hby at_328) _ ?_
    show Steps p.tables e below (T48.setTop (mkF m 329 #[iv p0, jv p1, .second, jv p2, .second, jv p3, .second, jv p4, .second, iv 1, iv 3, jv x0, .second, jv x1, .second, jv x2, .second, jv xe, .second, rv ob7, rv as_FIRST_INDEX_FIRST, rv xb_23, rv ob32, iv 1] [(.long (xe * x2)), (.long (xe * x2))])) _
    refine XS.lcmp X48.here hx rfl (hb hby at_329) rfl ?_
    refine XS.ifNo X48.here hx rfl (hb hby at_330) rfl ((if0 _ _).trans (teq ((lw_eq (xe * x2) (xe * x2)).2 (rfl : (xe * x2) = (xe * x2)))).2) ?_
    show Steps p.tables e below (T48.setTop (mkF m 333 #[iv p0, jv p1, .second, jv p2, .second, jv p3, .second, jv p4, .second, iv 1, iv 3, jv x0, .second, jv x1, .second, jv x2, .second, jv xe, .second, rv ob7, rv as_FIRST_INDEX_FIRST, rv xb_23, rv ob32, iv 1] [])) _
    refine XS.aload X48.here hx rfl (hb hby at_333) rfl rfl ?_
    refine XS.iconst X48.here hx rfl (hb hby at_335) ?_
    show Steps p.tables e below (T48.setTop (mkF m 336 #[iv p0, jv p1, .second, jv p2, .second, jv p3, .second, jv p4, .second, iv 1, iv 3, jv x0, .second, jv x1, .second, jv x2, .second, jv xe, .second, rv ob7, rv as_FIRST_INDEX_FIRST, rv xb_23, rv ob32, iv 1] [(.int 1), (.ref ob7)])) _
    exact k
  refine own_lift sg61 ?_
  show own_Go p.tables e below (T48.setTop (mkF m 336 #[iv p0, jv p1, .second, jv p2, .second, jv p3, .second, jv p4, .second, iv 1, iv 3, jv x0, .second, jv x1, .second, jv x2, .second, jv xe, .second, rv ob7, rv as_FIRST_INDEX_FIRST, rv xb_23, rv ob32, iv 1] [(.int 1), (.ref ob7)])) _
  obtain ⟨cl62, Ar62, qx62, Sx62, N62', H62', G62'⟩ := id (Fc55)
  have hin62 : ¬ ((1 : Int32) < 0 ∨ cl62.slots.size ≤ ((1 : Int32)).toNatClampNeg) := inb_of Sx62 ⟨(by decide : ¬ ((1 : Int32) < (0 : Int32))), (by decide : (1 : Int32) < (3 : Int32))⟩
  have hat62 : cl62.slots[((1 : Int32)).toNatClampNeg]? = some (.long x1) := Has.at H62' hin62 rfl
  have sg63 : ∀ t, Steps p.tables e below (T48.setTop (mkF m 364 #[iv p0, jv p1, .second, jv p2, .second, jv p3, .second, jv p4, .second, iv 1, iv 3, jv x0, .second, jv x1, .second, jv x2, .second, jv xe, .second, rv ob7, rv as_FIRST_INDEX_FIRST, rv xb_23, rv ob32, iv 1] [(.int 2), (.ref xb_23)])) t → Steps p.tables e below (T48.setTop (mkF m 336 #[iv p0, jv p1, .second, jv p2, .second, jv p3, .second, jv p4, .second, iv 1, iv 3, jv x0, .second, jv x1, .second, jv x2, .second, jv xe, .second, rv ob7, rv as_FIRST_INDEX_FIRST, rv xb_23, rv ob32, iv 1] [(.int 1), (.ref ob7)])) t := by
    intro t k
    refine X48.laload hx (j := (1 : Int32)) (v := (.long x1)) (by rw [e48]; exact Ar62.1) (State.isArrayOf_alike hZ.alike Ar62.2.1) Ar62.2.2 hin62 hat62 (g := (mkF m 336 #[iv p0, jv p1, .second, jv p2, .second, jv p3, .second, jv p4, .second, iv 1, iv 3, jv x0, .second, jv x1, .second, jv x2, .second, jv xe, .second, rv ob7, rv as_FIRST_INDEX_FIRST, rv xb_23, rv ob32, iv 1] [(.int 1), (.ref ob7)])) rfl rfl (hb hby at_336) _ ?_
    show Steps p.tables e below (T48.setTop (mkF m 337 #[iv p0, jv p1, .second, jv p2, .second, jv p3, .second, jv p4, .second, iv 1, iv 3, jv x0, .second, jv x1, .second, jv x2, .second, jv xe, .second, rv ob7, rv as_FIRST_INDEX_FIRST, rv xb_23, rv ob32, iv 1] [(.long x1)])) _
    refine XS.lload X48.here hx rfl (hb hby at_337) rfl ?_
    refine XS.lcmp X48.here hx rfl (hb hby at_339) rfl ?_
    show Steps p.tables e below (T48.setTop (mkF m 340 #[iv p0, jv p1, .second, jv p2, .second, jv p3, .second, jv p4, .second, iv 1, iv 3, jv x0, .second, jv x1, .second, jv x2, .second, jv xe, .second, rv ob7, rv as_FIRST_INDEX_FIRST, rv xb_23, rv ob32, iv 1] [(.int (lcmpW x1 x1))])) _
    refine XS.ifNo X48.here hx rfl (hb hby at_340) rfl ((if0 _ _).trans (teq ((lw_eq x1 x1).2 (rfl : x1 = x1))).2) ?_
    refine XS.iconst X48.here hx rfl (hb hby at_343) ?_
    show Steps p.tables e below (T48.setTop (mkF m 344 #[iv p0, jv p1, .second, jv p2, .second, jv p3, .second, jv p4, .second, iv 1, iv 3, jv x0, .second, jv x1, .second, jv x2, .second, jv xe, .second, rv ob7, rv as_FIRST_INDEX_FIRST, rv xb_23, rv ob32, iv 1] [(.int 1)])) _
    refine XS.goto X48.here hx rfl (pc0 := 344) (pc' := 348) rfl (hb hby at_344) (by decide) (by decide) ?_
    refine XS.istore X48.here hx rfl (hb hby at_348) rfl (l' := #[iv p0, jv p1, .second, jv p2, .second, jv p3, .second, jv p4, .second, iv 1, iv 3, jv x0, .second, jv x1, .second, jv x2, .second, jv xe, .second, rv ob7, rv as_FIRST_INDEX_FIRST, rv xb_23, rv ob32, iv 1]) rfl ?_
    show Steps p.tables e below (T48.setTop (mkF m 350 #[iv p0, jv p1, .second, jv p2, .second, jv p3, .second, jv p4, .second, iv 1, iv 3, jv x0, .second, jv x1, .second, jv x2, .second, jv xe, .second, rv ob7, rv as_FIRST_INDEX_FIRST, rv xb_23, rv ob32, iv 1] [])) _
    refine XS.iload X48.here hx rfl (hb hby at_350) rfl ?_
    refine XS.iconst X48.here hx rfl (hb hby at_352) ?_
    show Steps p.tables e below (T48.setTop (mkF m 353 #[iv p0, jv p1, .second, jv p2, .second, jv p3, .second, jv p4, .second, iv 1, iv 3, jv x0, .second, jv x1, .second, jv x2, .second, jv xe, .second, rv ob7, rv as_FIRST_INDEX_FIRST, rv xb_23, rv ob32, iv 1] [(.int 2), (.int 3)])) _
    refine XS.icmpNo X48.here hx rfl (hb hby at_353) rfl (tlt (by decide : (2 : Int32) < (3 : Int32))).2.2.2 ?_
    refine XS.iload X48.here hx rfl (hb hby at_356) rfl ?_
    show Steps p.tables e below (T48.setTop (mkF m 358 #[iv p0, jv p1, .second, jv p2, .second, jv p3, .second, jv p4, .second, iv 1, iv 3, jv x0, .second, jv x1, .second, jv x2, .second, jv xe, .second, rv ob7, rv as_FIRST_INDEX_FIRST, rv xb_23, rv ob32, iv 1] [(.int 1)])) _
    refine XS.ifNo X48.here hx rfl (hb hby at_358) rfl ((if0 _ _).trans (feq (by decide : ¬ ((1 : Int32) = (0 : Int32)))).1) ?_
    refine XS.aload X48.here hx rfl (hb hby at_361) rfl rfl ?_
    show Steps p.tables e below (T48.setTop (mkF m 363 #[iv p0, jv p1, .second, jv p2, .second, jv p3, .second, jv p4, .second, iv 1, iv 3, jv x0, .second, jv x1, .second, jv x2, .second, jv xe, .second, rv ob7, rv as_FIRST_INDEX_FIRST, rv xb_23, rv ob32, iv 1] [(.ref xb_23)])) _
    refine XS.iconst X48.here hx rfl (hb hby at_363) ?_
    show Steps p.tables e below (T48.setTop (mkF m 364 #[iv p0, jv p1, .second, jv p2, .second, jv p3, .second, jv p4, .second, iv 1, iv 3, jv x0, .second, jv x1, .second, jv x2, .second, jv xe, .second, rv ob7, rv as_FIRST_INDEX_FIRST, rv xb_23, rv ob32, iv 1] [(.int 2), (.ref xb_23)])) _
    exact k
  refine own_lift sg63 ?_
  show own_Go p.tables e below (T48.setTop (mkF m 364 #[iv p0, jv p1, .second, jv p2, .second, jv p3, .second, jv p4, .second, iv 1, iv 3, jv x0, .second, jv x1, .second, jv x2, .second, jv xe, .second, rv ob7, rv as_FIRST_INDEX_FIRST, rv xb_23, rv ob32, iv 1] [(.int 2), (.ref xb_23)])) _
  obtain ⟨cl64, Ar64, qx64, Sx64, N64', H64', G64'⟩ := id (Fc50)
  have hin64 : ¬ ((2 : Int32) < 0 ∨ cl64.slots.size ≤ ((2 : Int32)).toNatClampNeg) := inb_of Sx64 ⟨(by decide : ¬ ((2 : Int32) < (0 : Int32))), (by decide : (2 : Int32) < (3 : Int32))⟩
  have hat64 : cl64.slots[((2 : Int32)).toNatClampNeg]? = some (.long xe) := Has.at H64' hin64 rfl
  have sg65 : ∀ t, Steps p.tables e below (T48.setTop (mkF m 368 #[iv p0, jv p1, .second, jv p2, .second, jv p3, .second, jv p4, .second, iv 1, iv 3, jv x0, .second, jv x1, .second, jv x2, .second, jv xe, .second, rv ob7, rv as_FIRST_INDEX_FIRST, rv xb_23, rv ob32, iv 1] [(.int 2), (.ref ob32), (.long xe)])) t → Steps p.tables e below (T48.setTop (mkF m 364 #[iv p0, jv p1, .second, jv p2, .second, jv p3, .second, jv p4, .second, iv 1, iv 3, jv x0, .second, jv x1, .second, jv x2, .second, jv xe, .second, rv ob7, rv as_FIRST_INDEX_FIRST, rv xb_23, rv ob32, iv 1] [(.int 2), (.ref xb_23)])) t := by
    intro t k
    refine X48.laload hx (j := (2 : Int32)) (v := (.long xe)) (by rw [e48]; exact Ar64.1) (State.isArrayOf_alike hZ.alike Ar64.2.1) Ar64.2.2 hin64 hat64 (g := (mkF m 364 #[iv p0, jv p1, .second, jv p2, .second, jv p3, .second, jv p4, .second, iv 1, iv 3, jv x0, .second, jv x1, .second, jv x2, .second, jv xe, .second, rv ob7, rv as_FIRST_INDEX_FIRST, rv xb_23, rv ob32, iv 1] [(.int 2), (.ref xb_23)])) rfl rfl (hb hby at_364) _ ?_
    show Steps p.tables e below (T48.setTop (mkF m 365 #[iv p0, jv p1, .second, jv p2, .second, jv p3, .second, jv p4, .second, iv 1, iv 3, jv x0, .second, jv x1, .second, jv x2, .second, jv xe, .second, rv ob7, rv as_FIRST_INDEX_FIRST, rv xb_23, rv ob32, iv 1] [(.long xe)])) _
    refine XS.aload X48.here hx rfl (hb hby at_365) rfl rfl ?_
    refine XS.iconst X48.here hx rfl (hb hby at_367) ?_
    show Steps p.tables e below (T48.setTop (mkF m 368 #[iv p0, jv p1, .second, jv p2, .second, jv p3, .second, jv p4, .second, iv 1, iv 3, jv x0, .second, jv x1, .second, jv x2, .second, jv xe, .second, rv ob7, rv as_FIRST_INDEX_FIRST, rv xb_23, rv ob32, iv 1] [(.int 2), (.ref ob32), (.long xe)])) _
    exact k
  refine own_lift sg65 ?_
  show own_Go p.tables e below (T48.setTop (mkF m 368 #[iv p0, jv p1, .second, jv p2, .second, jv p3, .second, jv p4, .second, iv 1, iv 3, jv x0, .second, jv x1, .second, jv x2, .second, jv xe, .second, rv ob7, rv as_FIRST_INDEX_FIRST, rv xb_23, rv ob32, iv 1] [(.int 2), (.ref ob32), (.long xe)])) _
  obtain ⟨cl66, Ar66, qx66, Sx66, N66', H66', G66'⟩ := id (Vn48)
  have hin66 : ¬ ((2 : Int32) < 0 ∨ cl66.slots.size ≤ ((2 : Int32)).toNatClampNeg) := inb_of Sx66 ⟨(by decide : ¬ ((2 : Int32) < (0 : Int32))), (by decide : (2 : Int32) < (3 : Int32))⟩
  have hat66 : cl66.slots[((2 : Int32)).toNatClampNeg]? = some (.long xe) := Has.at H66' hin66 rfl
  have sg67 : ∀ t, Steps p.tables e below (T48.setTop (mkF m 376 #[iv p0, jv p1, .second, jv p2, .second, jv p3, .second, jv p4, .second, iv 1, iv 3, jv x0, .second, jv x1, .second, jv x2, .second, jv xe, .second, rv ob7, rv as_FIRST_INDEX_FIRST, rv xb_23, rv ob32, iv 1] [(.int 2), (.ref ob7)])) t → Steps p.tables e below (T48.setTop (mkF m 368 #[iv p0, jv p1, .second, jv p2, .second, jv p3, .second, jv p4, .second, iv 1, iv 3, jv x0, .second, jv x1, .second, jv x2, .second, jv xe, .second, rv ob7, rv as_FIRST_INDEX_FIRST, rv xb_23, rv ob32, iv 1] [(.int 2), (.ref ob32), (.long xe)])) t := by
    intro t k
    refine X48.laload hx (j := (2 : Int32)) (v := (.long xe)) (by rw [e48]; exact Ar66.1) (State.isArrayOf_alike hZ.alike Ar66.2.1) Ar66.2.2 hin66 hat66 (g := (mkF m 368 #[iv p0, jv p1, .second, jv p2, .second, jv p3, .second, jv p4, .second, iv 1, iv 3, jv x0, .second, jv x1, .second, jv x2, .second, jv xe, .second, rv ob7, rv as_FIRST_INDEX_FIRST, rv xb_23, rv ob32, iv 1] [(.int 2), (.ref ob32), (.long xe)])) rfl rfl (hb hby at_368) _ ?_
    show Steps p.tables e below (T48.setTop (mkF m 369 #[iv p0, jv p1, .second, jv p2, .second, jv p3, .second, jv p4, .second, iv 1, iv 3, jv x0, .second, jv x1, .second, jv x2, .second, jv xe, .second, rv ob7, rv as_FIRST_INDEX_FIRST, rv xb_23, rv ob32, iv 1] [(.long xe), (.long xe)])) _
    refine XS.lcmp X48.here hx rfl (hb hby at_369) rfl ?_
    refine XS.ifNo X48.here hx rfl (hb hby at_370) rfl ((if0 _ _).trans (teq ((lw_eq xe xe).2 (rfl : xe = xe))).2) ?_
    show Steps p.tables e below (T48.setTop (mkF m 373 #[iv p0, jv p1, .second, jv p2, .second, jv p3, .second, jv p4, .second, iv 1, iv 3, jv x0, .second, jv x1, .second, jv x2, .second, jv xe, .second, rv ob7, rv as_FIRST_INDEX_FIRST, rv xb_23, rv ob32, iv 1] [])) _
    refine XS.aload X48.here hx rfl (hb hby at_373) rfl rfl ?_
    refine XS.iconst X48.here hx rfl (hb hby at_375) ?_
    show Steps p.tables e below (T48.setTop (mkF m 376 #[iv p0, jv p1, .second, jv p2, .second, jv p3, .second, jv p4, .second, iv 1, iv 3, jv x0, .second, jv x1, .second, jv x2, .second, jv xe, .second, rv ob7, rv as_FIRST_INDEX_FIRST, rv xb_23, rv ob32, iv 1] [(.int 2), (.ref ob7)])) _
    exact k
  refine own_lift sg67 ?_
  show own_Go p.tables e below (T48.setTop (mkF m 376 #[iv p0, jv p1, .second, jv p2, .second, jv p3, .second, jv p4, .second, iv 1, iv 3, jv x0, .second, jv x1, .second, jv x2, .second, jv xe, .second, rv ob7, rv as_FIRST_INDEX_FIRST, rv xb_23, rv ob32, iv 1] [(.int 2), (.ref ob7)])) _
  obtain ⟨cl68, Ar68, qx68, Sx68, N68', H68', G68'⟩ := id (Fc55)
  have hin68 : ¬ ((2 : Int32) < 0 ∨ cl68.slots.size ≤ ((2 : Int32)).toNatClampNeg) := inb_of Sx68 ⟨(by decide : ¬ ((2 : Int32) < (0 : Int32))), (by decide : (2 : Int32) < (3 : Int32))⟩
  have hat68 : cl68.slots[((2 : Int32)).toNatClampNeg]? = some (.long x2) := Has.at H68' hin68 rfl
  have sg69 : ∀ t, Steps p.tables e below (T48.setTop (mkF m 392 #[iv p0, jv p1, .second, jv p2, .second, jv p3, .second, jv p4, .second, iv 1, iv 3, jv x0, .second, jv x1, .second, jv x2, .second, jv xe, .second, rv ob7, rv as_FIRST_INDEX_FIRST, rv xb_23, rv ob32, iv 1] [(.int 1)])) t → Steps p.tables e below (T48.setTop (mkF m 376 #[iv p0, jv p1, .second, jv p2, .second, jv p3, .second, jv p4, .second, iv 1, iv 3, jv x0, .second, jv x1, .second, jv x2, .second, jv xe, .second, rv ob7, rv as_FIRST_INDEX_FIRST, rv xb_23, rv ob32, iv 1] [(.int 2), (.ref ob7)])) t := by
    intro t k
    refine X48.laload hx (j := (2 : Int32)) (v := (.long x2)) (by rw [e48]; exact Ar68.1) (State.isArrayOf_alike hZ.alike Ar68.2.1) Ar68.2.2 hin68 hat68 (g := (mkF m 376 #[iv p0, jv p1, .second, jv p2, .second, jv p3, .second, jv p4, .second, iv 1, iv 3, jv x0, .second, jv x1, .second, jv x2, .second, jv xe, .second, rv ob7, rv as_FIRST_INDEX_FIRST, rv xb_23, rv ob32, iv 1] [(.int 2), (.ref ob7)])) rfl rfl (hb hby at_376) _ ?_
    show Steps p.tables e below (T48.setTop (mkF m 377 #[iv p0, jv p1, .second, jv p2, .second, jv p3, .second, jv p4, .second, iv 1, iv 3, jv x0, .second, jv x1, .second, jv x2, .second, jv xe, .second, rv ob7, rv as_FIRST_INDEX_FIRST, rv xb_23, rv ob32, iv 1] [(.long x2)])) _
    refine XS.lload X48.here hx rfl (hb hby at_377) rfl ?_
    refine XS.lcmp X48.here hx rfl (hb hby at_379) rfl ?_
    show Steps p.tables e below (T48.setTop (mkF m 380 #[iv p0, jv p1, .second, jv p2, .second, jv p3, .second, jv p4, .second, iv 1, iv 3, jv x0, .second, jv x1, .second, jv x2, .second, jv xe, .second, rv ob7, rv as_FIRST_INDEX_FIRST, rv xb_23, rv ob32, iv 1] [(.int (lcmpW x2 x2))])) _
    refine XS.ifNo X48.here hx rfl (hb hby at_380) rfl ((if0 _ _).trans (teq ((lw_eq x2 x2).2 (rfl : x2 = x2))).2) ?_
    refine XS.iconst X48.here hx rfl (hb hby at_383) ?_
    show Steps p.tables e below (T48.setTop (mkF m 384 #[iv p0, jv p1, .second, jv p2, .second, jv p3, .second, jv p4, .second, iv 1, iv 3, jv x0, .second, jv x1, .second, jv x2, .second, jv xe, .second, rv ob7, rv as_FIRST_INDEX_FIRST, rv xb_23, rv ob32, iv 1] [(.int 1)])) _
    refine XS.goto X48.here hx rfl (pc0 := 384) (pc' := 388) rfl (hb hby at_384) (by decide) (by decide) ?_
    refine XS.istore X48.here hx rfl (hb hby at_388) rfl (l' := #[iv p0, jv p1, .second, jv p2, .second, jv p3, .second, jv p4, .second, iv 1, iv 3, jv x0, .second, jv x1, .second, jv x2, .second, jv xe, .second, rv ob7, rv as_FIRST_INDEX_FIRST, rv xb_23, rv ob32, iv 1]) rfl ?_
    show Steps p.tables e below (T48.setTop (mkF m 390 #[iv p0, jv p1, .second, jv p2, .second, jv p3, .second, jv p4, .second, iv 1, iv 3, jv x0, .second, jv x1, .second, jv x2, .second, jv xe, .second, rv ob7, rv as_FIRST_INDEX_FIRST, rv xb_23, rv ob32, iv 1] [])) _
    refine XS.iload X48.here hx rfl (hb hby at_390) rfl ?_
    show Steps p.tables e below (T48.setTop (mkF m 392 #[iv p0, jv p1, .second, jv p2, .second, jv p3, .second, jv p4, .second, iv 1, iv 3, jv x0, .second, jv x1, .second, jv x2, .second, jv xe, .second, rv ob7, rv as_FIRST_INDEX_FIRST, rv xb_23, rv ob32, iv 1] [(.int 1)])) _
    exact k
  refine own_lift sg69 ?_
  show own_Go p.tables e below (T48.setTop (mkF m 392 #[iv p0, jv p1, .second, jv p2, .second, jv p3, .second, jv p4, .second, iv 1, iv 3, jv x0, .second, jv x1, .second, jv x2, .second, jv xe, .second, rv ob7, rv as_FIRST_INDEX_FIRST, rv xb_23, rv ob32, iv 1] [(.int 1)])) _
  obtain ⟨fs, hr, hrun, hended, hW, hsame⟩ := X48.leave (v := some (.int 1)) (fun h => by rw [Bd.returns] at h; cases h)
  refine ⟨_, _, ?_, hrun, hended, _, _, rfl, ?_, ⟨_, rfl⟩, hW, hsame.mono (by decide) (by decide)⟩
  · exact retN X48 hx (t := .boolean) Bd.returns (by simp) (hb hby at_392) hr
  · show Q0 Z  h0 n0 _ T48.heap _
    rw [e48]
    exact ⟨rfl, N48⟩
set_option maxRecDepth 65536 in
theorem rm0 (l : Launch) (Z : State) (a0 : Array Value) (hw : ∀ d ∈ tables_1, d.before a0 Z = true) (ws : List Jvm.Cond) (p0 : Int32) (p1 : Int64) (p2 : Int64) (p3 : Int64) (p4 : Int64) (as_LAST_INDEX_FIRST : Addr) (as_FIRST_INDEX_FIRST : Addr) (h0 : Heap) (n0 : Nat) (Z0 : n0 ≤ h0.size) (S_LAST_INDEX_FIRST : Sta Z h0 "com/example/halyard/halyard/east/ArrayStorage" "LAST_INDEX_FIRST" "Lcom/example/halyard/halyard/east/ArrayStorage;" (.ref as_LAST_INDEX_FIRST)) (E_LAST_INDEX_FIRST : Exa Z h0 as_LAST_INDEX_FIRST "com/example/halyard/halyard/east/ArrayStorage") (O_LAST_INDEX_FIRST : Fld Z h0 as_LAST_INDEX_FIRST "java/lang/Enum" "ordinal" "I" (.int 1)) (S_FIRST_INDEX_FIRST : Sta Z h0 "com/example/halyard/halyard/east/ArrayStorage" "FIRST_INDEX_FIRST" "Lcom/example/halyard/halyard/east/ArrayStorage;" (.ref as_FIRST_INDEX_FIRST)) (E_FIRST_INDEX_FIRST : Exa Z h0 as_FIRST_INDEX_FIRST "com/example/halyard/halyard/east/ArrayStorage") (O_FIRST_INDEX_FIRST : Fld Z h0 as_FIRST_INDEX_FIRST "java/lang/Enum" "ordinal" "I" (.int 0))  :
    MetFree l x (head1 (Jvm.Cond.code x code maxLocals ret :: ws) room_1) (fun a U => a = #[(.int p0), (.long p1), (.long p2), (.long p3), (.long p4)] ∧ Z.Warmed39 U.vm ∧ U.heap = h0) (fun _ _ _ _ _ => True) (fun _ U o U' => ∃ v L, o = .returned v ∧ Q0 Z h0 n0 v U'.heap L ∧ FrameEnd U o U' L 16 128) := by
  have hne : ¬ (as_LAST_INDEX_FIRST = as_FIRST_INDEX_FIRST) := Fld.ne O_LAST_INDEX_FIRST O_FIRST_INDEX_FIRST (by decide)
  by_cases b1 : (p0 &&& (1 : Int32)) = (0 : Int32)
  · rcases own_cases p0 with hn | hn | hn | hn
    · exact rm0_0L l Z a0 hw ws p0 p1 p2 p3 p4 as_LAST_INDEX_FIRST as_FIRST_INDEX_FIRST _ _ _ _ h0 n0 Z0 S_LAST_INDEX_FIRST E_LAST_INDEX_FIRST O_LAST_INDEX_FIRST S_FIRST_INDEX_FIRST E_FIRST_INDEX_FIRST O_FIRST_INDEX_FIRST rfl rfl rfl rfl b1 hn hne
    · exact rm0_1L l Z a0 hw ws p0 p1 p2 p3 p4 as_LAST_INDEX_FIRST as_FIRST_INDEX_FIRST _ _ _ _ h0 n0 Z0 S_LAST_INDEX_FIRST E_LAST_INDEX_FIRST O_LAST_INDEX_FIRST S_FIRST_INDEX_FIRST E_FIRST_INDEX_FIRST O_FIRST_INDEX_FIRST rfl rfl rfl rfl b1 hn hne
    · exact rm0_2L l Z a0 hw ws p0 p1 p2 p3 p4 as_LAST_INDEX_FIRST as_FIRST_INDEX_FIRST _ _ _ _ h0 n0 Z0 S_LAST_INDEX_FIRST E_LAST_INDEX_FIRST O_LAST_INDEX_FIRST S_FIRST_INDEX_FIRST E_FIRST_INDEX_FIRST O_FIRST_INDEX_FIRST rfl rfl rfl rfl b1 hn hne
    · exact rm0_3L l Z a0 hw ws p0 p1 p2 p3 p4 as_LAST_INDEX_FIRST as_FIRST_INDEX_FIRST _ _ _ _ h0 n0 Z0 S_LAST_INDEX_FIRST E_LAST_INDEX_FIRST O_LAST_INDEX_FIRST S_FIRST_INDEX_FIRST E_FIRST_INDEX_FIRST O_FIRST_INDEX_FIRST rfl rfl rfl rfl b1 hn hne
  · rcases own_cases p0 with hn | hn | hn | hn
    · exact rm0_0F l Z a0 hw ws p0 p1 p2 p3 p4 as_LAST_INDEX_FIRST as_FIRST_INDEX_FIRST _ _ _ _ h0 n0 Z0 S_LAST_INDEX_FIRST E_LAST_INDEX_FIRST O_LAST_INDEX_FIRST S_FIRST_INDEX_FIRST E_FIRST_INDEX_FIRST O_FIRST_INDEX_FIRST rfl rfl rfl rfl b1 hn hne
    · exact rm0_1F l Z a0 hw ws p0 p1 p2 p3 p4 as_LAST_INDEX_FIRST as_FIRST_INDEX_FIRST _ _ _ _ h0 n0 Z0 S_LAST_INDEX_FIRST E_LAST_INDEX_FIRST O_LAST_INDEX_FIRST S_FIRST_INDEX_FIRST E_FIRST_INDEX_FIRST O_FIRST_INDEX_FIRST rfl rfl rfl rfl b1 hn hne
    · exact rm0_2F l Z a0 hw ws p0 p1 p2 p3 p4 as_LAST_INDEX_FIRST as_FIRST_INDEX_FIRST _ _ _ _ h0 n0 Z0 S_LAST_INDEX_FIRST E_LAST_INDEX_FIRST O_LAST_INDEX_FIRST S_FIRST_INDEX_FIRST E_FIRST_INDEX_FIRST O_FIRST_INDEX_FIRST rfl rfl rfl rfl b1 hn hne
    · exact rm0_3F l Z a0 hw ws p0 p1 p2 p3 p4 as_LAST_INDEX_FIRST as_FIRST_INDEX_FIRST _ _ _ _ h0 n0 Z0 S_LAST_INDEX_FIRST E_LAST_INDEX_FIRST O_LAST_INDEX_FIRST S_FIRST_INDEX_FIRST E_FIRST_INDEX_FIRST O_FIRST_INDEX_FIRST rfl rfl rfl rfl b1 hn hne
set_option maxRecDepth 65536 in
set_option maxHeartbeats 40000000 in
theorem comes_1 {Post : Tables → Env → Array Value → State → Outcome → State → Prop} (hpost : ∀ tb e args s v u, (limb_1_1.after args s (.returned v) u = true ∧ limb_1_2.after args s (.returned v) u = true ∧ True) → FrameEnd s (.returned v) u (Jvm.fieldLocs frame_1_writes args s ++ Jvm.arrayLocs frame_1_arrays args s ++ Jvm.staticLocs frame_1_statics s) 16 128 → Post tb e args s (.returned v) u) :
    ArmFor flags0 classFile x code maxLocals ret World_1 tables_1 room_1 Calls_1 rest_1 Pre_1 Post := by
  intro l hfl _ _ p e ha hc hk s m args below hf hA hF happ hP
  obtain ⟨hcalls, hrest, hpre⟩ := hP
  obtain ⟨-, -, -, hnamed, -, -, -, hat⟩ := (Spec.applies_iff hf).mp happ
  obtain ⟨hg, hn⟩ := and_e (Cond.before_iff.mp (show (Jvm.Cond.and given_1 narrow_1).before args s = true from hpre))
  obtain ⟨gv0, gr0⟩ := and_e hg
  obtain ⟨gv1, gr1⟩ := and_e gr0
  obtain ⟨gv2, gr2⟩ := and_e gr1
  obtain ⟨gv3, gr3⟩ := and_e gr2
  obtain ⟨gv4, gr4⟩ := and_e gr3
  obtain ⟨w0, w1, w2, w3, w4, rfl⟩ : ∃ w0 w1 w2 w3 w4 : Value, args = #[w0, w1, w2, w3, w4] := by
    have hs : args.size = 5 := by simpa [Cond.value, given_1] using gv0
    obtain ⟨L⟩ := args
    match L, hs with
    | [w0, w1, w2, w3, w4], _ => exact ⟨w0, w1, w2, w3, w4, rfl⟩
  have hw := fun d (hd : d ∈ tables_1) => atoms_spec (ws := Jvm.Cond.code x code maxLocals ret :: tables_1) hat d (List.mem_cons_of_mem _ hd)
  have hfit : Fit s := fun {y c} hc i hi => by
    obtain ⟨ha, rfl⟩ := Array.getElem?_eq_some_iff.mp hc
    have q := List.all_eq_true.mp ((Array.all_eq_true_iff_forall_mem.mp hF) _ (Array.getElem_mem ha)) i (List.mem_range.mpr hi)
    simpa [Array.getElem?_eq_getElem hi] using q
  obtain ⟨i0, ei0⟩ := is_v gv1
  obtain rfl : w0 = (.int i0) := Option.some.inj ei0
  obtain ⟨i1, ei1⟩ := isL_v gv2
  obtain rfl : w1 = (.long i1) := Option.some.inj ei1
  obtain ⟨i2, ei2⟩ := isL_v gv3
  obtain rfl : w2 = (.long i2) := Option.some.inj ei2
  obtain ⟨i3, ei3⟩ := isL_v gv4
  obtain rfl : w3 = (.long i3) := Option.some.inj ei3
  obtain ⟨i4, ei4⟩ := isL_v gr4
  obtain rfl : w4 = (.long i4) := Option.some.inj ei4
  obtain ⟨nw0, nr0⟩ := and_e hn
  obtain ⟨nw1, nr1⟩ := and_e nr0
  obtain ⟨nw2, nr2⟩ := and_e nr1
  obtain ⟨as_LAST_INDEX_FIRST, ev_LAST_INDEX_FIRST⟩ := exa_v nw0
  have S_LAST_INDEX_FIRST := Sta.start ev_LAST_INDEX_FIRST (Or.inr ⟨(wd hw 4 rfl), (wd hw 5 rfl)⟩)
  have E_LAST_INDEX_FIRST := Exa.start ev_LAST_INDEX_FIRST nw0
  have O_LAST_INDEX_FIRST := own_fld ev_LAST_INDEX_FIRST nw2
  obtain ⟨as_FIRST_INDEX_FIRST, ev_FIRST_INDEX_FIRST⟩ := exa_v nw1
  have S_FIRST_INDEX_FIRST := Sta.start ev_FIRST_INDEX_FIRST (Or.inr ⟨(wd hw 4 rfl), (wd hw 12 rfl)⟩)
  have E_FIRST_INDEX_FIRST := Exa.start ev_FIRST_INDEX_FIRST nw1
  have O_FIRST_INDEX_FIRST := own_fld ev_FIRST_INDEX_FIRST nr2
  obtain ⟨n, o, h1, h2, h3, _, L, rfl, ⟨rfl, N⟩, hq⟩ := rm0 l s _ hw tables_1 i0 i1 i2 i3 i4 as_LAST_INDEX_FIRST as_FIRST_INDEX_FIRST s.heap s.heap.size (Nat.le_refl _) S_LAST_INDEX_FIRST E_LAST_INDEX_FIRST O_LAST_INDEX_FIRST S_FIRST_INDEX_FIRST E_FIRST_INDEX_FIRST O_FIRST_INDEX_FIRST p e ha hc hk s m _ below hf ((Spec.applies_iff_loose hf).mp happ).1 ⟨rfl, State.Warmed39.refl s, rfl⟩ trivial
  refine ⟨n, _, h1, h2, h3, hpost _ _ _ _ _ _ ⟨Cond.after_iff.mpr rfl, Cond.after_iff.mpr (eq_i res_at (Term.int_eval (1)) rfl), trivial⟩ ⟨hq.1, hq.2.1, (hq.2.2.sift fun y hy => Or.inr (N y hy)).mono (by decide) (by decide)⟩⟩
theorem main_1_1 : Claimed_1_1 := comes_1 fun _ _ _ _ _ _ h hF => ⟨h.1, hF⟩
theorem main_1_2 : Claimed_1_2 := comes_1 fun _ _ _ _ _ _ h hF => ⟨h.2.1, hF⟩
end Jvm.Pilot.@@N@@
namespace Jvm.Pilot.@@N@@
open Jvm Jvm.ClassFile Sem Op Lib Jvm.Free Jvm.Stand Jvm.Pilot.@@N@@.Jvm.D
/-! MADE BY PROGRAM (witnessworld.py) out of the Statement's table words and the real class files: 14 classes; the members and pool entries that the words name. The judged class is class 1, her method 1. -/
namespace start1
open Jvm.ClassFile
def u (s : String) : CpInfo := .utf8 (stringToUtf16 s)
/-- a pool by its gaps: so many unusable entries, then the entry; so many at the end -/
def gap : Nat → List CpInfo → List CpInfo
  | 0, r => r
  | n + 1, r => .unusable :: gap n r
def poolList (es : List (Nat × CpInfo)) (last : Nat) : List CpInfo := es.foldr (fun e r => gap e.1 (e.2 :: r)) (gap last [])
def pool (es : List (Nat × CpInfo)) (last : Nat) : Array CpInfo := ⟨poolList es last⟩
def fileOf (pool : Array CpInfo) (this : Nat) (attrs : Array Attribute := #[]) (ms : Array MethodInfo := #[]) (fl : Nat := 33) (sup : Nat := 0) (ifs : Array Nat := #[]) (fds : Array FieldInfo := #[]) : ClassFile where
  minorVersion := 0
  majorVersion := 65
  constantPool := pool
  accessFlags := fl
  thisClass := this
  superClass := sup
  interfaces := ifs
  fields := fds
  methods := ms
  attributes := attrs
def plain (name : String) (sup : Option ClassId) : Class where
  name := name
  kind := .ordinary
  loader := none
  accessFlags := 33
  super := sup
  interfaces := #[]
  cf := none
  fields := #[]
  methods := #[]
  instanceTypes := #[]
  staticTypes := #[]
  resolved := #[]
  callSites := []
  init := .initialized
  statics := none
  mirror := none

def pool0 : Array CpInfo := pool [(5, u "<init>"), (0, u "()V"), (1, .class_ 10), (1, u "java/lang/Object")] 113

def k0m0 : Method := { name := "<init>", desc := "()V", sig := { parameters := [], returnType := none }, accessFlags := 1, code := none }
/-- java/lang/Object -/
def k0 : Class := { plain "java/lang/Object" none with
  accessFlags := 33
  interfaces := #[]
  cf := some (fileOf pool0 8 #[] #[{ accessFlags := 1, nameIndex := 5, descriptorIndex := 6, attributes := #[] }] 33 0 #[] #[])
  fields := #[]
  methods := #[k0m0]
  instanceTypes := #[]
  staticTypes := #[]
  resolved := Array.replicate 124 none
  statics := none }

def pool1 : Array CpInfo := pool [(2, .class_ 4), (1, u "java/lang/Object"), (0, u "<init>"), (0, u "()V"), (0, .long 65535), (1, .long 32767), (1, .fieldref 12 13), (0, .class_ 14), (0, .nameAndType 15 16), (0, u "com/example/halyard/halyard/east/ArrayStorage"), (0, u "FIRST_INDEX_FIRST"), (0, u "Lcom/example/halyard/halyard/east/ArrayStorage;"), (0, .fieldref 12 18), (0, .nameAndType 19 16), (0, u "LAST_INDEX_FIRST"), (0, .methodref 12 21), (0, .nameAndType 22 23), (0, u "strides"), (0, u "([JJ)[J"), (0, .class_ 25), (0, u "com/example/halyard/halyard/east/ArrayStorageStridesPinLaw"), (2, u "law"), (0, u "(IJJJJ)Z")] 5

def k1m0 : Method := { name := "<init>", desc := "()V", sig := { parameters := [], returnType := none }, accessFlags := 1, code := none }
def k1c1 : Code := { maxStack := 6, maxLocals := 24, code := code, exceptionTable := #[], attributes := #[] }
def k1m1 : Method := { name := "law", desc := "(IJJJJ)Z", sig := { parameters := [.int, .long, .long, .long, .long], returnType := some .boolean }, accessFlags := 9, code := some k1c1 }
/-- com/example/halyard/halyard/east/ArrayStorageStridesPinLaw -/
def k1 : Class := { plain "com/example/halyard/halyard/east/ArrayStorageStridesPinLaw" (some 0) with
  accessFlags := 49
  interfaces := #[]
  cf := some (fileOf pool1 24 #[] #[{ accessFlags := 1, nameIndex := 5, descriptorIndex := 6, attributes := #[] }, { accessFlags := 9, nameIndex := 28, descriptorIndex := 29, attributes := #[] }] 49 2 #[] #[])
  fields := #[]
  methods := #[k1m0, k1m1]
  instanceTypes := #[]
  staticTypes := #[]
  resolved := Array.replicate 35 none
  statics := none }

def pool2 : Array CpInfo := pool [(1, .class_ 2), (0, u "java/lang/constant/Constable"), (0, .class_ 4), (0, u "java/lang/Object")] 6

/-- java/lang/constant/Constable -/
def k2 : Class := { plain "java/lang/constant/Constable" (some 0) with
  accessFlags := 1537
  interfaces := #[]
  cf := some (fileOf pool2 1 #[] #[] 1537 3 #[] #[])
  fields := #[]
  methods := #[]
  instanceTypes := #[]
  staticTypes := #[]
  resolved := Array.replicate 11 none
  statics := none }

def pool3 : Array CpInfo := pool [(1, .class_ 2), (0, u "java/lang/Comparable"), (0, .class_ 4), (0, u "java/lang/Object")] 7

/-- java/lang/Comparable -/
def k3 : Class := { plain "java/lang/Comparable" (some 0) with
  accessFlags := 1537
  interfaces := #[]
  cf := some (fileOf pool3 1 #[] #[] 1537 3 #[] #[])
  fields := #[]
  methods := #[]
  instanceTypes := #[]
  staticTypes := #[]
  resolved := Array.replicate 12 none
  statics := none }

def pool4 : Array CpInfo := pool [(1, .class_ 2), (0, u "java/io/Serializable"), (0, .class_ 4), (0, u "java/lang/Object")] 2

/-- java/io/Serializable -/
def k4 : Class := { plain "java/io/Serializable" (some 0) with
  accessFlags := 1537
  interfaces := #[]
  cf := some (fileOf pool4 1 #[] #[] 1537 3 #[] #[])
  fields := #[]
  methods := #[]
  instanceTypes := #[]
  staticTypes := #[]
  resolved := Array.replicate 7 none
  statics := none }

def pool5 : Array CpInfo := pool [(2, .class_ 4), (1, u "java/lang/Enum"), (0, u "name"), (0, u "Ljava/lang/String;"), (2, u "ordinal"), (0, u "I"), (1, .class_ 14), (1, u "java/lang/Object"), (4, u "hash"), (86, .class_ 108), (1, u "java/lang/Enum$EnumDesc"), (2, .class_ 112), (0, u "java/lang/constant/Constable"), (0, .class_ 114), (0, u "java/lang/Comparable"), (0, .class_ 116), (0, u "java/io/Serializable")] 87

/-- java/lang/Enum -/
def k5 : Class := { plain "java/lang/Enum" (some 0) with
  accessFlags := 1057
  interfaces := #[2, 3, 4]
  cf := some (fileOf pool5 2 #[.nestMembers #[106]] #[] 1057 12 #[111, 113, 115] #[{ accessFlags := 18, nameIndex := 5, descriptorIndex := 6, attributes := #[] }, { accessFlags := 18, nameIndex := 9, descriptorIndex := 10, attributes := #[] }, { accessFlags := 2, nameIndex := 19, descriptorIndex := 10, attributes := #[] }])
  fields := #[{ name := "name", type := (.object "java/lang/String"), accessFlags := 18, slot := 0, constantValue := 0 }, { name := "ordinal", type := .int, accessFlags := 18, slot := 1, constantValue := 0 }, { name := "hash", type := .int, accessFlags := 2, slot := 2, constantValue := 0 }]
  methods := #[]
  instanceTypes := #[(.object "java/lang/String"), .int, .int]
  staticTypes := #[]
  resolved := Array.replicate 204 none
  statics := none }

def pool6 : Array CpInfo := pool [(1, .class_ 2), (0, u "com/example/halyard/halyard/east/ArrayStorage"), (0, .fieldref 1 4), (0, .nameAndType 5 6), (0, u "FIRST_INDEX_FIRST"), (0, u "Lcom/example/halyard/halyard/east/ArrayStorage;"), (2, u "LAST_INDEX_FIRST"), (2, u "$VALUES"), (0, u "[Lcom/example/halyard/halyard/east/ArrayStorage;"), (6, .class_ 22), (1, u "java/lang/Enum"), (20, u "strides"), (0, u "([JJ)[J")] 7

def k6c0 : Code := { maxStack := 4, maxLocals := 9, code := prog_65_method_4_code, exceptionTable := #[], attributes := #[] }
def k6m0 : Method := { name := "strides", desc := "([JJ)[J", sig := { parameters := [(.array .long), .long], returnType := some (.array .long) }, accessFlags := 0, code := some k6c0 }
/-- com/example/halyard/halyard/east/ArrayStorage -/
def k6 : Class := { plain "com/example/halyard/halyard/east/ArrayStorage" (some 5) with
  accessFlags := 16432
  interfaces := #[]
  cf := some (fileOf pool6 1 #[] #[{ accessFlags := 0, nameIndex := 43, descriptorIndex := 44, attributes := #[] }] 16432 20 #[] #[{ accessFlags := 16409, nameIndex := 5, descriptorIndex := 6, attributes := #[] }, { accessFlags := 16409, nameIndex := 9, descriptorIndex := 6, attributes := #[] }, { accessFlags := 4122, nameIndex := 12, descriptorIndex := 13, attributes := #[] }])
  fields := #[{ name := "FIRST_INDEX_FIRST", type := (.object "com/example/halyard/halyard/east/ArrayStorage"), accessFlags := 16409, slot := 0, constantValue := 0 }, { name := "LAST_INDEX_FIRST", type := (.object "com/example/halyard/halyard/east/ArrayStorage"), accessFlags := 16409, slot := 1, constantValue := 0 }, { name := "$VALUES", type := (.array (.object "com/example/halyard/halyard/east/ArrayStorage")), accessFlags := 4122, slot := 2, constantValue := 0 }]
  methods := #[k6m0]
  instanceTypes := #[(.object "java/lang/String"), .int, .int]
  staticTypes := #[(.object "com/example/halyard/halyard/east/ArrayStorage"), (.object "com/example/halyard/halyard/east/ArrayStorage"), (.array (.object "com/example/halyard/halyard/east/ArrayStorage"))]
  resolved := Array.replicate 52 none
  statics := some 0 }

def pool7 : Array CpInfo := pool [(1, u "java/lang/Cloneable"), (0, .class_ 1), (0, u "java/lang/Object"), (0, .class_ 3)] 3

/-- java/lang/Cloneable -/
def k7 : Class := { plain "java/lang/Cloneable" (some 0) with
  accessFlags := 1537
  interfaces := #[]
  cf := some (fileOf pool7 2 #[] #[] 1537 4 #[] #[])
  fields := #[]
  methods := #[]
  instanceTypes := #[]
  staticTypes := #[]
  resolved := Array.replicate 8 none
  statics := none }

/-- the primitive byte -/
def k8 : Class := { plain "byte" none with kind := .primitive 'B', accessFlags := 0x411 }
/-- [B -/
def k9 : Class := { plain "[B" (some 0) with kind := .array 8 .byte, interfaces := #[7, 4], accessFlags := 1041 }

/-- the primitive int -/
def k10 : Class := { plain "int" none with kind := .primitive 'I', accessFlags := 0x411 }
/-- [I -/
def k11 : Class := { plain "[I" (some 0) with kind := .array 10 .int, interfaces := #[7, 4], accessFlags := 1041 }

/-- the primitive long -/
def k12 : Class := { plain "long" none with kind := .primitive 'J', accessFlags := 0x411 }
/-- [J -/
def k13 : Class := { plain "[J" (some 0) with kind := .array 12 .long, interfaces := #[7, 4], accessFlags := 1041 }

def heap : Heap := #[{ cls := 6, slots := #[.ref 1, .ref 2, .null], vm := .statics 6 },
  { cls := 6, slots := #[.null, .int 0, .int 0], vm := .none },
  { cls := 6, slots := #[.null, .int 1, .int 0], vm := .none }]
def classes : Array Class := #[k0, k1, k2, k3, k4, k5, k6, k7, k8, k9, k10, k11, k12, k13]
def interned : List (Array UInt16 × Addr) := []
def slotsUsed : Nat := 9
def theMethod : MethodId := ⟨1, 1⟩
def args0 : Array Value := #[.int 5, .long 5, .long 5, .long 5, .long 5]
def aboutOver (below : List Frame) : State where
  vm := { classes := classes, interned := interned.toArray }
  heap := heap
  slotsUsed := slotsUsed
  threads := #[{ frames := .invoking theMethod args0 :: below }]
def below0 : List Frame := [.native { method := ⟨0, 0⟩, args := #[] }]
def about1 : State := aboutOver below0
def p0 : Program := .bare "" "" ""
def e0 : Env := launch0.env 0 0 0
theorem w_frames : about1.frames = Frame.invoking theMethod args0 :: below0 := rfl
set_option maxRecDepth 65536 in
theorem w_args : argsFit about1.vm theMethod args0 = true := by decide +kernel
set_option maxRecDepth 65536 in
theorem w_heap : heapFits about1 = true := by decide +kernel
set_option maxRecDepth 65536 in
theorem w_runnable : about1.curStatus? = some .runnable := by decide +kernel
set_option maxRecDepth 65536 in
theorem w_alone : about1.alone = true := by decide +kernel
set_option maxRecDepth 65536 in
theorem w_named : about1.methodNamed? x = some theMethod := by decide +kernel
set_option maxRecDepth 65536 in
theorem w_hears : about1.hears theMethod below0 = true := by decide +kernel
set_option maxRecDepth 65536 in
theorem w_ripe : about1.ripe theMethod args0 below0 = true := by decide +kernel
theorem w_running : about1.status = .running := rfl
set_option maxRecDepth 65536 in
theorem w_room : about1.hasRoom e0.platform room_1 = true :=
  launch0.hasRoom_least _ room_1 (by decide +kernel) (by decide +kernel) (by decide +kernel) (by decide +kernel) (by decide +kernel) (by decide +kernel)
theorem allAtoms_all (ts : List Jvm.Cond) (a : Array Jvm.Value) (st : Jvm.State) : (allAtoms ts).before a st = ts.all (fun c => c.before a st) := by
  induction ts with
  | nil => rfl
  | cons c t ih =>
    show (Jvm.Cond.and c (allAtoms t)).before a st = _
    rw [Jvm.Cond.before_and, ih, List.all_cons]
def words1 : List Jvm.Cond := Jvm.Cond.code x code maxLocals ret :: tables_1
/-- a 'code' word, met by the world's own term for the bytes: nothing is compared byte by byte -/
theorem code_word {y : MethodName} {bytes : ByteArray} {mx : Nat} {rt : Option FieldType} {a : Array Value} {s : State} {m : MethodId} {meth : Method} {c : Code} (h1 : s.methodNamed? y = some m) (h2 : s.vm.method? m = some meth) (h3 : meth.code = some c) (h4 : c.code = bytes)
    (h5 : (c.maxLocals == mx && c.exceptionTable.isEmpty && decide (c.maxStack ≤ mostOperands) && decide (meth.sig.returnType = rt) && !meth.locks && decide (parseMethodDescriptor y.desc = some meth.sig)) = true) : (Jvm.Cond.code y bytes mx rt).before a s = true := by
  simp only [Bool.and_eq_true, beq_iff_eq, Bool.not_eq_true', decide_eq_true_eq] at h5
  obtain ⟨⟨⟨⟨⟨g1, g2⟩, g3⟩, g4⟩, g5⟩, g6⟩ := h5
  simp [Cond.before, Cond.holds, Cond.value, h1, h2, h3, h4, g1, g2, g3, g4, g5, g6]
def isCode : Jvm.Cond → Bool
  | .code _ _ _ _ => true
  | _ => false
theorem all_split {L : List Jvm.Cond} {P : Jvm.Cond → Bool} (h1 : L.all (fun c => isCode c || P c) = true) (h2 : ∀ c ∈ L.filter isCode, P c = true) : L.all P = true := by
  refine List.all_eq_true.mpr fun c hc => ?_
  have h := List.all_eq_true.mp h1 c hc
  rcases Bool.eq_false_or_eq_true (isCode c) with hi | hi
  · exact h2 c (List.mem_filter.mpr ⟨hc, hi⟩)
  · simpa [hi] using h
set_option maxRecDepth 65536 in
theorem w_c0 : (Jvm.Cond.code x code maxLocals ret).before args0 about1 = true := code_word (m := ⟨1, 1⟩) (meth := k1m1) (c := k1c1) (by decide +kernel) rfl rfl rfl (by decide +kernel)
set_option maxRecDepth 65536 in
theorem w_c1 : (Jvm.Cond.code ({ cls := "com/example/halyard/halyard/east/ArrayStorage", name := "strides", desc := "([JJ)[J" } : Jvm.MethodName) prog_65_method_4_code (9 : Nat) (Option.some (Jvm.ClassFile.FieldType.array Jvm.ClassFile.FieldType.long))).before args0 about1 = true := code_word (m := ⟨6, 0⟩) (meth := k6m0) (c := k6c0) (by decide +kernel) rfl rfl rfl (by decide +kernel)
def codes1 : List Jvm.Cond := [Jvm.Cond.code x code maxLocals ret, Jvm.Cond.code ({ cls := "com/example/halyard/halyard/east/ArrayStorage", name := "strides", desc := "([JJ)[J" } : Jvm.MethodName) prog_65_method_4_code (9 : Nat) (Option.some (Jvm.ClassFile.FieldType.array Jvm.ClassFile.FieldType.long))]
set_option maxRecDepth 65536 in
theorem codes_eq : words1.filter isCode = codes1 := rfl
theorem w_codes : ∀ c ∈ words1.filter isCode, c.before args0 about1 = true := by
  rw [codes_eq]
  intro c hc
  simp only [codes1, List.mem_cons, List.not_mem_nil, or_false] at hc
  rcases hc with rfl | rfl
  · exact w_c0
  · exact w_c1
set_option maxRecDepth 65536 in
theorem w_t1 : words1.all (fun c => isCode c || c.before args0 about1) = true := by decide +kernel
theorem w_tables : (allAtoms (Jvm.Cond.code x code maxLocals ret :: tables_1)).before args0 about1 = true := by
  rw [allAtoms_all]
  show words1.all (fun c => c.before args0 about1) = true
  refine all_split ?_ w_codes
  rw [w_t1]
set_option maxRecDepth 65536 in
theorem w_case : (Jvm.Cond.and given_1 narrow_1).before args0 about1 = true := by decide +kernel
theorem w_applies : (headSpec (Jvm.Cond.code x code maxLocals ret :: tables_1) room_1).applies x e0.platform about1 = true :=
  (Spec.applies_iff w_frames).mpr ⟨w_running, w_runnable, w_alone, w_named, w_hears, w_ripe, w_room, w_tables⟩
theorem atStart : AtStart classFile x code maxLocals ret World_1 tables_1 room_1 Calls_1 rest_1 Pre_1 launch0 p0 e0 about1 theMethod args0 below0 :=
  ⟨lists_1, trivial, launch0.admits_env _ _ _, launch0.least_env, fairChoices_fair.cas, fairChoices_fair.clock, w_frames, w_args, w_heap, w_applies, trivial, trivial, w_case⟩
end start1
theorem witness_1 : WitnessClaimed_1 := ⟨start1.p0, start1.e0, start1.about1, start1.theMethod, start1.args0, start1.below0, start1.atStart⟩
end Jvm.Pilot.@@N@@
